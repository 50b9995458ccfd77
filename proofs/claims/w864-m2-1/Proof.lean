import JvmDerived
import JvmDerived.Pilot.@@N@@Statement
import JvmDerived.Pilot.@@N@@Code
set_option linter.unusedVariables false
set_option linter.unusedSimpArgs false

namespace Jvm.Pilot.@@N@@
open Jvm Jvm.ClassFile Sem Op Lib Jvm.Free Jvm.Stand Jvm.LawKit Jvm.RoadKit Bundle Jvm.Pilot.@@N@@.Jvm.D
abbrev vi (x : Int32) : Slot := .val (.int x)
abbrev vr (a : Addr) : Slot := .val (.ref a)
abbrev uu : Slot := .unset
/-- the goal of a walk: from S the run ends, and G holds there -/
def Go (p : Program) (e : Env) (below : List Frame) (G : State → Outcome → Prop) (S : State) : Prop :=
  ∃ s₂ o, Steps p.tables e below S s₂ ∧ s₂.status = .running ∧ Ended s₂ below o ∧ G s₂ o
theorem Go.by {p : Program} {e : Env} {below : List Frame} {G : State → Outcome → Prop} {S S' : State} (h : ∀ t, Steps p.tables e below S' t → Steps p.tables e below S t) (k : Go p e below G S') : Go p e below G S := by
  obtain ⟨s₂, o, h1, h2⟩ := k
  exact ⟨s₂, o, h _ h1, h2⟩
/-- a contract: the body called with A at the heap h0 returns, Q holds then -/
abbrev CT (l : Launch) (x : MethodName) (code : ByteArray) (ml : Nat) (ret : Option FieldType) (ws : List Cond) (R : Room) (A : Array Value) (Z : State) (h0 : Heap) (Q : Option Value → Heap → List Loc → Prop) : Prop :=
  MetFree l x (head1 (Cond.code x code ml ret :: ws) R) (fun a U => a = A ∧ Z.Warmed39 U.vm ∧ U.heap = h0) (fun _ _ _ _ _ => True) (fun _ U o U' => ∃ v L, o = .returned v ∧ Q v U'.heap L ∧ FrameEnd U o U' L R.cells R.slots)
/-- what a body's end says -/
def End (Q : Option Value → Heap → List Loc → Prop) (s : State) (cells slots : Nat) (s₂ : State) (o : Outcome) : Prop := ∃ v L, o = .returned v ∧ Q v s₂.heap L ∧ FrameEnd s o s₂ L cells slots
section
variable {p : Program} {l : Launch} {e : Env} {R : Room} {s : State} {m : MethodId} {args : Array Value} {below : List Frame} {meth : Method} {c : Code} {T : State} {locs : List Loc} {cells slots C S : Nat} {Q : Option Value → Heap → List Loc → Prop}
theorem Go.ret1 (X : Stand p l e R s m args below meth c T locs cells slots) (hx : p.tables.exec = Jvm.exec) {pc : Nat} {Ls : Array Slot} {w : Value} {t : FieldType} {i : Instr} {rest : List Value} (hret : meth.sig.returnType = some t) (hlk : meth.locks = false) (hn : narrow t w = w)
    (hi : (i = .ireturn ∧ (t = .int ∨ t = .boolean ∨ t = .byte ∨ t = .char ∨ t = .short) ∧ ∃ z, w = .int z) ∨ (i = .lreturn ∧ t = .long ∧ ∃ z, w = .long z) ∨ (i = .dreturn ∧ t = .double ∧ ∃ z, w = .double z) ∨ (i = .freturn ∧ t = .float ∧ ∃ z, w = .float z) ∨ (i = .areturn ∧ t.isReference = true ∧ w.isRef = true))
    (hd : decode c.code pc = .ok (i, 1)) (hc : cells ≤ C) (hs : slots ≤ S) (hQ : Q (some w) T.heap locs) : Go p e below (End Q s C S) (T.setTop (mkF m pc Ls (w :: rest))) := by
  obtain ⟨fs, hr, hrun, hended, hW, hsame⟩ := X.leave (v := some w) (fun h => by rw [hret] at h; cases h) hlk
  exact ⟨_, _, retOut X hx hret hn hi hd hr, hrun, hended, _, _, rfl, hQ, ⟨_, rfl⟩, hW, hsame.mono hc hs⟩
theorem Go.ret0 (X : Stand p l e R s m args below meth c T locs cells slots) (hx : p.tables.exec = Jvm.exec) {pc : Nat} {Ls : Array Slot} (hret : meth.sig.returnType = none) (hlk : meth.locks = false)
    (hd : decode c.code pc = .ok (.return_, 1)) (hc : cells ≤ C) (hs : slots ≤ S) (hQ : Q none T.heap locs) : Go p e below (End Q s C S) (T.setTop (mkF m pc Ls [])) := by
  obtain ⟨fs, hr, hrun, hended, hW, hsame⟩ := X.leave (v := none) (fun _ => rfl) hlk
  exact ⟨_, _, X.returnOut hx hret hd hr, hrun, hended, _, _, rfl, hQ, ⟨_, rfl⟩, hW, hsame.mono hc hs⟩
theorem Go.start {cn nm ds : String} {ws : List Cond} {code : ByteArray} {ml : Nat} {ret : Option FieldType} {A : Array Value} {Z : State} {h0 : Heap} (pf : plainFor ⟨cn, nm, ds⟩ = true) (Ls : Array Slot) (n0 : Nat) (hL : argsToLocals A ml = Ls)
    (body : ∀ p e s m below meth c s₁, BodyLoose p l ⟨cn, nm, ds⟩ (head1 (Cond.code ⟨cn, nm, ds⟩ code ml ret :: ws) R) code ml ret e s m A below meth c s₁ → p.tables.exec = Jvm.exec → c.code = code → c.maxLocals = ml → Z.Warmed39 s.vm → s.vm.findClass cn = some m.cls → Stand p l e R s m A below meth c s₁ [] 0 0 → s₁.heap = h0 → Fr n0 [] → Go p e below (End Q s R.cells R.slots) (s₁.setTop (mkF m 0 Ls []))) :
    CT l ⟨cn, nm, ds⟩ code ml ret ws R A Z h0 Q := by
  refine MetFree.of_bodySF pf hisR ?_
  intro p e s m args below meth c s₁ Bd hml hP hK
  obtain ⟨rfl, hZ, hh⟩ := hP
  subst hL
  exact body p e s m below meth c s₁ Bd Bd.exec Bd.bytes hml hZ (findClass_of_methodNamed Bd.named) (Stand.of_body Bd) (by rw [← hh, Bd.state]; rfl) (Fr.nil n0)
theorem Stand.num (X : Stand p l e R s m args below meth c T locs cells slots) (hc : cells = C) (hs : slots = S) : Stand p l e R s m args below meth c T locs C S := by subst hc hs; exact X
theorem Stand.more (X : Stand p l e R s m args below meth c T locs cells slots) (hc : cells ≤ C) (hs : slots ≤ S) : Stand p l e R s m args below meth c T locs C S :=
  { X with same := X.same.mono hc hs }
theorem arv_neT {Z : State} {h : Heap} {a b : Addr} {k1 k2 : ClassId} {t1 t2 : FieldType} {z1 z2 : Int32} {v1 v2 : List Value} {d1 d2 : Value} (A : Arv Z h a k1 t1 z1 v1 d1) (B : Arv Z h b k2 t2 z2 v2 d2) (hne : t1 ≠ t2) : a ≠ b := fun e => by
  subst e
  obtain ⟨c1, ⟨p1, ⟨-, q1, r1, u1, w1⟩, -⟩, -⟩ := A
  obtain ⟨c2, ⟨p2, ⟨-, q2, r2, u2, w2⟩, -⟩, -⟩ := B
  cases p1.symm.trans p2
  cases r1.symm.trans r2
  have := w1.symm.trans w2
  injection this with _ e
  exact hne e
theorem selSelf {s : State} {a1 : Array Value} {y : MethodName} {K : String} (hsel : (Cond.selects K y y).before a1 s = true) (hpriv : s.PrivateAt y) (hinst : (Cond.instanceMethod y).before a1 s = true) (hy : y.cls ≠ "java/lang/invoke/MethodHandle" ∧ y.cls ≠ "java/lang/invoke/VarHandle") : (Cond.selects y.cls y y).before a1 s = true := by
  obtain ⟨c2, r2, m2, -, -, q3, -, kP, hkP, hkPi⟩ := Cond.selects_spec hsel
  exact selects_self_of_private (findClass_of_methodNamed q3) hkP hkPi hpriv hinst hy
theorem faceOf {s : State} {a1 : Array Value} {y z z' : MethodName} {K : String} (hsel : (Cond.selects K z z').before a1 s = true) (hz : z'.cls = y.cls) : NotFace s y := fun r0 h0 => by
  obtain ⟨c2, r2, m2, -, -, q3, -, kP, hkP, hkPi⟩ := Cond.selects_spec hsel
  have h1 := findClass_of_methodNamed h0
  have h2 := findClass_of_methodNamed q3
  rw [hz] at h2
  have e : r0.cls = m2.cls := Option.some.inj (h1.symm.trans h2)
  exact ⟨kP, by rw [e]; exact hkP, hkPi⟩
theorem sameSelf {s : State} {a1 : Array Value} {y z z' : MethodName} {K : String} (hinst : (Cond.instanceMethod y).before a1 s = true) (hsel : (Cond.selects K z z').before a1 s = true) (hz : z'.cls = y.cls) (hy : y.cls ≠ "java/lang/invoke/MethodHandle" ∧ y.cls ≠ "java/lang/invoke/VarHandle") : (Cond.sameMethod y.cls y.cls y.name y.desc).before a1 s = true := by
  obtain ⟨mk, methM, hnamed, hmethM, -, -⟩ := Cond.instanceMethod_spec hinst
  have hfound : s.methodFound? y.cls y.name y.desc = some mk := State.methodFound?_of_named hnamed hy
  obtain ⟨c2, r2, m2, -, -, q3, -, kP, hkP, hkPi⟩ := Cond.selects_spec hsel
  have hc := findClass_of_methodNamed q3
  rw [hz] at hc
  have hn : s.methodNamed? { cls := y.cls, name := y.name, desc := y.desc } = some mk := hnamed
  simp only [Cond.before, Cond.holds, Cond.value, hfound, hn, hc, hkP]
  simp [hkPi]
def DecAll (c : ByteArray) (l : List (Nat × Instr × Nat)) : Prop := ∀ x ∈ l, decode c x.1 = .ok (x.2.1, x.2.2)
theorem dB {c : Code} {b : ByteArray} (h : c.code = b) {l : List (Nat × Instr × Nat)} (H : DecAll b l) (i : Nat) {pc : Nat} {j : Instr} {k : Nat} (hi : l[i]? = some (pc, j, k)) : decode c.code pc = .ok (j, k) := by
  rw [h]; exact H (pc, j, k) (List.mem_of_getElem? hi)
theorem wd {a0 : Array Value} {Z : State} (hw : ∀ d ∈ tables_1, d.before a0 Z = true) (i : Nat) {d : Cond} (h : tables_1[i]? = some d) : d.before a0 Z = true := hw _ (List.mem_of_getElem? h)
abbrev HW (a0 : Array Value) (Z : State) : Prop := ∀ d ∈ tables_1, d.before a0 Z = true
theorem cat_ref {r : Value} (h : r.isRef = true) : r.category = 1 := by rcases ref_cases h with rfl | ⟨_, rfl⟩ <;> rfl
theorem fit_ref {C : String} {r : Value} (h : r.isRef = true) : fits (.object C) r = true := by rcases ref_cases h with rfl | ⟨_, rfl⟩ <;> rfl
theorem nar_ref {t : FieldType} {r : Value} (h : r.isRef = true) : narrow t r = r := by cases r <;> cases t <;> simp_all [Value.isRef, narrow]
end
section
variable {p : Program} {l : Launch} {e : Env} {R : Room} {s Z T : State} {m : MethodId} {args a0 : Array Value} {below : List Frame} {meth : Method} {c : Code} {locs : List Loc} {cells slots pc q C S : Nat} {G : State → Outcome → Prop} {Ls L' : Array Slot} {st st' rest argsL : List Value} {h : Heap} {v w : Value} {x y z : Int32} {a b : Addr} {own : String} {index : Nat} {t : FieldType} {n : Int32} {vs : List Value} {dv : Value} {kk : ClassId} {ret : Option FieldType} {maxL ml W : Nat} {bytes : ByteArray} {rm : Room} {Q : Option Value → Heap → List Loc → Prop} {ps : List FieldType} {rt : Option FieldType} {yy zz : MethodName} {j : Int32} {i : Nat} {i₀ o : Int} {cd : ClassFile.Cond} {k : Fin 4} {k₀ : Nat} {C0 : String}
theorem gi (X : Stand p l e R s m args below meth c T locs cells slots) (hx : p.tables.exec = Jvm.exec) (hd : decode c.code pc = .ok (.iload_n k, 1)) (hl : Ls[k.val]? = some (.val (.int x))) (K : Go p e below G (T.setTop (mkF m (pc + 1) Ls (.int x :: st)))) : Go p e below G (T.setTop (mkF m pc Ls st)) := Go.by (fun _ => XS.iloadN X.here hx rfl hd hl) K
theorem gI (X : Stand p l e R s m args below meth c T locs cells slots) (hx : p.tables.exec = Jvm.exec) (hd : decode c.code pc = .ok (.iload k₀, 2)) (hl : Ls[k₀]? = some (.val (.int x))) (K : Go p e below G (T.setTop (mkF m (pc + 2) Ls (.int x :: st)))) : Go p e below G (T.setTop (mkF m pc Ls st)) := Go.by (fun _ => XS.iload X.here hx rfl hd hl) K
theorem ga (X : Stand p l e R s m args below meth c T locs cells slots) (hx : p.tables.exec = Jvm.exec) (hd : decode c.code pc = .ok (.aload_n k, 1)) (hl : Ls[k.val]? = some (.val v)) (hv : v.isRef = true) (K : Go p e below G (T.setTop (mkF m (pc + 1) Ls (v :: st)))) : Go p e below G (T.setTop (mkF m pc Ls st)) := Go.by (fun _ => XS.aloadN X.here hx rfl hd hl hv) K
theorem gA (X : Stand p l e R s m args below meth c T locs cells slots) (hx : p.tables.exec = Jvm.exec) (hd : decode c.code pc = .ok (.aload k₀, 2)) (hl : Ls[k₀]? = some (.val v)) (hv : v.isRef = true) (K : Go p e below G (T.setTop (mkF m (pc + 2) Ls (v :: st)))) : Go p e below G (T.setTop (mkF m pc Ls st)) := Go.by (fun _ => XS.aload X.here hx rfl hd hl hv) K
theorem gk (X : Stand p l e R s m args below meth c T locs cells slots) (hx : p.tables.exec = Jvm.exec) (x : Int32) (hd : decode c.code pc = .ok (.iconst i₀, 1)) (hv : Int32.ofInt i₀ = x) (K : Go p e below G (T.setTop (mkF m (pc + 1) Ls (.int x :: st)))) : Go p e below G (T.setTop (mkF m pc Ls st)) := by subst hv; exact Go.by (fun _ => XS.iconst X.here hx rfl hd) K
theorem gs (X : Stand p l e R s m args below meth c T locs cells slots) (hx : p.tables.exec = Jvm.exec) (x : Int32) (hd : decode c.code pc = .ok (.sipush i₀, 3)) (hv : (Int16.ofInt i₀).toInt32 = x) (K : Go p e below G (T.setTop (mkF m (pc + 3) Ls (.int x :: st)))) : Go p e below G (T.setTop (mkF m pc Ls st)) := by subst hv; exact Go.by (fun _ => XS.sipush X.here hx rfl hd) K
theorem gb (X : Stand p l e R s m args below meth c T locs cells slots) (hx : p.tables.exec = Jvm.exec) (x : Int32) (hd : decode c.code pc = .ok (.bipush i₀, 2)) (hv : (Int8.ofInt i₀).toInt32 = x) (K : Go p e below G (T.setTop (mkF m (pc + 2) Ls (.int x :: st)))) : Go p e below G (T.setTop (mkF m pc Ls st)) := by subst hv; exact Go.by (fun _ => XS.bipush X.here hx rfl hd) K
theorem gt (X : Stand p l e R s m args below meth c T locs cells slots) (hx : p.tables.exec = Jvm.exec) (L' : Array Slot) (hd : decode c.code pc = .ok (.istore_n k, 1)) (hl : storeLocals Ls k.val (.int x) = some L') (K : Go p e below G (T.setTop (mkF m (pc + 1) L' st))) : Go p e below G (T.setTop (mkF m pc Ls (.int x :: st))) := Go.by (fun _ => XS.istoreN X.here hx rfl hd rfl hl) K
theorem gT (X : Stand p l e R s m args below meth c T locs cells slots) (hx : p.tables.exec = Jvm.exec) (L' : Array Slot) (hd : decode c.code pc = .ok (.istore k₀, 2)) (hl : storeLocals Ls k₀ (.int x) = some L') (K : Go p e below G (T.setTop (mkF m (pc + 2) L' st))) : Go p e below G (T.setTop (mkF m pc Ls (.int x :: st))) := Go.by (fun _ => XS.istore X.here hx rfl hd rfl hl) K
theorem gu (X : Stand p l e R s m args below meth c T locs cells slots) (hx : p.tables.exec = Jvm.exec) (L' : Array Slot) (hd : decode c.code pc = .ok (.astore_n k, 1)) (hv : v.isRef = true) (hl : storeLocals Ls k.val (v) = some L') (K : Go p e below G (T.setTop (mkF m (pc + 1) L' st))) : Go p e below G (T.setTop (mkF m pc Ls (v :: st))) := Go.by (fun _ => XS.astoreN X.here hx rfl hd rfl hv hl) K
theorem gU (X : Stand p l e R s m args below meth c T locs cells slots) (hx : p.tables.exec = Jvm.exec) (L' : Array Slot) (hd : decode c.code pc = .ok (.astore k₀, 2)) (hv : v.isRef = true) (hl : storeLocals Ls k₀ (v) = some L') (K : Go p e below G (T.setTop (mkF m (pc + 2) L' st))) : Go p e below G (T.setTop (mkF m pc Ls (v :: st))) := Go.by (fun _ => XS.astore X.here hx rfl hd rfl hv hl) K
theorem gn (X : Stand p l e R s m args below meth c T locs cells slots) (hx : p.tables.exec = Jvm.exec) (L' : Array Slot) (hd : decode c.code pc = .ok (.iinc k₀ i₀, 3)) (hl : Ls[k₀]? = some (.val (.int x))) (hl' : storeLocals Ls k₀ (.int (x + Int32.ofInt i₀)) = some L') (K : Go p e below G (T.setTop (mkF m (pc + 3) L' st))) : Go p e below G (T.setTop (mkF m pc Ls st)) := Go.by (fun _ => XS.iinc X.here hx rfl hd hl hl') K
theorem gg (X : Stand p l e R s m args below meth c T locs cells slots) (hx : p.tables.exec = Jvm.exec) (q : Nat) (hd : decode c.code pc = .ok (.goto i₀, 3)) (ho : (pc : Int) + i₀ = (q : Int)) (K : Go p e below G (T.setTop (mkF m q Ls st))) : Go p e below G (T.setTop (mkF m pc Ls st)) := Go.by (fun _ => XS.goto X.here hx rfl (pc0 := pc) rfl hd (by omega) (by omega)) K
theorem zY (X : Stand p l e R s m args below meth c T locs cells slots) (hx : p.tables.exec = Jvm.exec) (q : Nat) (hd : decode c.code pc = .ok (.ifCond cd i₀, 3)) (hc : ifCond.holds cd x = true) (ho : (pc : Int) + i₀ = (q : Int)) (K : Go p e below G (T.setTop (mkF m q Ls st))) : Go p e below G (T.setTop (mkF m pc Ls (.int x :: st))) := Go.by (fun _ => XS.ifYes X.here hx rfl (pc0 := pc) rfl hd rfl hc (by omega) (by omega)) K
theorem zN (X : Stand p l e R s m args below meth c T locs cells slots) (hx : p.tables.exec = Jvm.exec) (hd : decode c.code pc = .ok (.ifCond cd i₀, 3)) (hc : ifCond.holds cd x = false) (K : Go p e below G (T.setTop (mkF m (pc + 3) Ls st))) : Go p e below G (T.setTop (mkF m pc Ls (.int x :: st))) := Go.by (fun _ => XS.ifNo X.here hx rfl hd rfl hc) K
theorem cY (X : Stand p l e R s m args below meth c T locs cells slots) (hx : p.tables.exec = Jvm.exec) (q : Nat) (hd : decode c.code pc = .ok (.if_icmp cd i₀, 3)) (hc : if_icmp.holds cd x y = true) (ho : (pc : Int) + i₀ = (q : Int)) (K : Go p e below G (T.setTop (mkF m q Ls st))) : Go p e below G (T.setTop (mkF m pc Ls (.int y :: .int x :: st))) := Go.by (fun _ => XS.icmpYes X.here hx rfl (pc0 := pc) rfl hd rfl hc (by omega) (by omega)) K
theorem cN (X : Stand p l e R s m args below meth c T locs cells slots) (hx : p.tables.exec = Jvm.exec) (hd : decode c.code pc = .ok (.if_icmp cd i₀, 3)) (hc : if_icmp.holds cd x y = false) (K : Go p e below G (T.setTop (mkF m (pc + 3) Ls st))) : Go p e below G (T.setTop (mkF m pc Ls (.int y :: .int x :: st))) := Go.by (fun _ => XS.icmpNo X.here hx rfl hd rfl hc) K
theorem gq {S' : State} (hh : ∀ {u}, Steps p.tables e below S' u → Steps p.tables e below (T.setTop (mkF m pc Ls st)) u) (eS : S' = T.setTop (mkF m (pc + 1) Ls st')) (K : Go p e below G (T.setTop (mkF m (pc + 1) Ls st'))) : Go p e below G (T.setTop (mkF m pc Ls st)) := Go.by (fun _ => hh) (eS ▸ K)
theorem gF (X : Stand p l e R s m args below meth c T locs cells slots) (hx : p.tables.exec = Jvm.exec) (hZ : Z.Warmed39 s.vm) (hown : s.vm.findClass own = some m.cls) {R0 O nm d : String} (w1 : (Cond.fieldLink own index R0 nm d).before a0 Z = true) (via : Via Z R0 O nm d) (eT : T.heap = h) (F : Fld Z h a O nm d v) (hd : decode c.code pc = .ok (.getfield index, 3)) (K : ∀ T', Stand p l e R s m args below meth c T' locs cells slots → T'.heap = h → Go p e below G (T'.setTop (mkF m (pc + 3) Ls (v :: st)))) : Go p e below G (T.setTop (mkF m pc Ls (.ref a :: st))) := by
  obtain ⟨T', X', e', k⟩ := getF X hx hZ hown (host := "") (Or.inl w1) via eT F (g := mkF m pc Ls (.ref a :: st)) rfl rfl hd
  exact Go.by k (K T' X' e')
theorem gS (X : Stand p l e R s m args below meth c T locs cells slots) (hx : p.tables.exec = Jvm.exec) (hZ : Z.Warmed39 s.vm) (hown : s.vm.findClass own = some m.cls) {O nm d : String} (w1 : (Cond.fieldLink own index O nm d).before a0 Z = true) (eT : T.heap = h) (F : Sta Z h O nm d v) (hd : decode c.code pc = .ok (.getstatic index, 3)) (K : ∀ T', Stand p l e R s m args below meth c T' locs cells slots → T'.heap = h → Go p e below G (T'.setTop (mkF m (pc + 3) Ls (v :: st)))) : Go p e below G (T.setTop (mkF m pc Ls st)) := by
  obtain ⟨T', X', e', k⟩ := getS2 X hx hZ hown (host := "") (Or.inl w1) Via.refl eT F (g := mkF m pc Ls st) rfl hd
  exact Go.by k (K T' X' e')
theorem gB (X : Stand p l e R s m args below meth c T locs cells slots) (hx : p.tables.exec = Jvm.exec) (hZ : Z.Warmed39 s.vm) (eT : T.heap = h) (V : Arv Z h a kk .byte n vs dv) (inb : ¬ j < 0 ∧ j < n) (v : Value) (hat : vs.getD j.toNatClampNeg dv = v) (hd : decode c.code pc = .ok (.baload, 1)) (K : Go p e below G (T.setTop (mkF m (pc + 1) Ls (v :: st)))) : Go p e below G (T.setTop (mkF m pc Ls (.int j :: .ref a :: st))) := by
  obtain ⟨cl, A, q', S', M, H, G'⟩ := id V
  have in' := inb_of S' inb
  subst eT
  exact Go.by (fun t => X.baloadBytes hx (j := j) (v := v) A.1 (State.isArrayOf_alike hZ.alike A.2.1) A.2.2 in' (H.at in' hat) (g := mkF m pc Ls (.int j :: .ref a :: st)) rfl rfl hd t) K
theorem gC (X : Stand p l e R s m args below meth c T locs cells slots) (hx : p.tables.exec = Jvm.exec) (hZ : Z.Warmed39 s.vm) (eT : T.heap = h) (V : Arv Z h a kk .char n vs dv) (inb : ¬ j < 0 ∧ j < n) (v : Value) (hat : vs.getD j.toNatClampNeg dv = v) (hd : decode c.code pc = .ok (.caload, 1)) (K : Go p e below G (T.setTop (mkF m (pc + 1) Ls (v :: st)))) : Go p e below G (T.setTop (mkF m pc Ls (.int j :: .ref a :: st))) := by
  obtain ⟨cl, A, q', S', M, H, G'⟩ := id V
  have in' := inb_of S' inb
  subst eT
  exact Go.by (fun t => X.caload hx (j := j) (v := v) A.1 (State.isArrayOf_alike hZ.alike A.2.1) A.2.2 in' (H.at in' hat) (g := mkF m pc Ls (.int j :: .ref a :: st)) rfl rfl hd t) K
theorem gN (X : Stand p l e R s m args below meth c T locs cells slots) (hx : p.tables.exec = Jvm.exec) (hZ : Z.Warmed39 s.vm) (eT : T.heap = h) (V : Arv Z h a kk t n vs dv) (hd : decode c.code pc = .ok (.arraylength, 1)) (K : Go p e below G (T.setTop (mkF m (pc + 1) Ls (.int n :: st)))) : Go p e below G (T.setTop (mkF m pc Ls (.ref a :: st))) := by
  obtain ⟨cl, A, q', S', M, H, G'⟩ := id V
  subst eT
  refine Go.by (fun t' => X.arraylength hx A.1 (State.isArrayOf_alike hZ.alike A.2.1) (g := mkF m pc Ls (.ref a :: st)) rfl rfl hd t') ?_
  rw [len_of S' M]
  exact K
theorem sC (X : Stand p l e R s m args below meth c T locs cells slots) (hx : p.tables.exec = Jvm.exec) (hZ : Z.Warmed39 s.vm) (eT : T.heap = h) (V : Arv Z h a kk .char n vs dv) (inb : ¬ j < 0 ∧ j < n) (i : Nat) (hi : j.toNatClampNeg = i) (hl : i < vs.length) (y : Int32) (hv : nar .char x = y) (hd : decode c.code pc = .ok (.castore, 1)) (K : ∀ T' h', Stand p l e R s m args below meth c T' (locs ++ [⟨a, j.toNatClampNeg⟩]) cells slots → T'.heap = h' → Wr h h' a j.toNatClampNeg (.int y) → Arv Z h' a kk .char n (vs.set i (.int y)) dv → Go p e below G (T'.setTop (mkF m (pc + 1) Ls st))) : Go p e below G (T.setTop (mkF m pc Ls (.int x :: .int j :: .ref a :: st))) := by
  subst hv
  obtain ⟨cl, A, q', S', M, H, G'⟩ := id V
  obtain ⟨T', h', X', e', W, k⟩ := stC X hx hZ eT A (j := j) (inb_of S' inb) (g := mkF m pc Ls (.int x :: .int j :: .ref a :: st)) rfl rfl hd
  have V' := Arv.set A q' S' M H G' (fits_nar_char _) W i hi hl
  exact Go.by k (K T' h' X' e' W V')
theorem sB (X : Stand p l e R s m args below meth c T locs cells slots) (hx : p.tables.exec = Jvm.exec) (hZ : Z.Warmed39 s.vm) (eT : T.heap = h) (V : Arv Z h a kk .byte n vs dv) (inb : ¬ j < 0 ∧ j < n) (i : Nat) (hi : j.toNatClampNeg = i) (hl : i < vs.length) (y : Int32) (hv : nar .byte x = y) (hd : decode c.code pc = .ok (.bastore, 1)) (K : ∀ T' h', Stand p l e R s m args below meth c T' (locs ++ [⟨a, j.toNatClampNeg⟩]) cells slots → T'.heap = h' → Wr h h' a j.toNatClampNeg (.int y) → Arv Z h' a kk .byte n (vs.set i (.int y)) dv → Go p e below G (T'.setTop (mkF m (pc + 1) Ls st))) : Go p e below G (T.setTop (mkF m pc Ls (.int x :: .int j :: .ref a :: st))) := by
  subst hv
  obtain ⟨cl, A, q', S', M, H, G'⟩ := id V
  obtain ⟨T', h', X', e', W, k⟩ := stB X hx hZ eT A (j := j) (inb_of S' inb) (g := mkF m pc Ls (.int x :: .int j :: .ref a :: st)) rfl rfl hd
  have V' := Arv.set A q' S' M H G' (fits_nar_byte _) W i hi hl
  exact Go.by k (K T' h' X' e' W V')
theorem kS (X : Stand p l e R s m args below meth c T locs cells slots) (hx : p.tables.exec = Jvm.exec) (hZ : Z.Warmed39 s.vm) (hown : s.vm.findClass own = some m.cls) (w1 : (Cond.methodLink own index yy).before a0 Z = true) (w2 : (Cond.static yy).before a0 Z = true) (w3 : (Cond.initialized yy.cls).before a0 Z = true) (w4 : (Cond.code yy bytes maxL ret).before a0 Z = true) (M : CT l yy bytes maxL ret [] rm argsL.toArray Z h Q) (pd : parseMethodDescriptor yy.desc = some ⟨ps, rt⟩) (hd : decode c.code pc = .ok (.invokestatic index, 3)) (eT : T.heap = h) (hml : c.maxLocals = ml) (hs : st = argsL.reverse ++ rest ∧ Ls.size = ml ∧ argsL.length = ps.length ∧ (rest.map fun v => v.category).sum = W) (hr : rm.frames + 1 ≤ R.frames ∧ W + (maxL + 11) + rm.locals ≤ R.locals ∧ (cells + rm.cells = C ∧ C ≤ R.cells) ∧ (slots + rm.slots = S ∧ S ≤ R.slots) ∧ (yy.cls ≠ "java/lang/invoke/MethodHandle" ∧ yy.cls ≠ "java/lang/invoke/VarHandle")) (K : ∀ v T' L' Lc, Stand p l e R s m args below meth c T' L' C S → Q v T'.heap Lc → (∀ {n0}, Fr n0 locs → Fr n0 Lc → Fr n0 L') → Go p e below G (T'.setTop (mkF m (pc + 3) Ls (v.toList ++ rest)))) : Go p e below G (T.setTop (mkF m pc Ls st)) := by
  obtain ⟨r1, r2, r3, r4, r5⟩ := hr
  obtain ⟨hst, hz, hn, hW⟩ := hs
  obtain ⟨v, _, ⟨T', L', k', n'⟩, -, X', ⟨Lc, hQ, q1, q2, q3⟩, k⟩ := Jvm.LawKit.callS X hx hown (mvT hZ w1) (mvT hZ w2) (mvT hZ w3) (mvT hZ w4) r5 (backOf (W := W) M hZ w4 w3 r1 r2) (g := mkF m pc Ls st) rfl (by rw [hml]; exact hz) (lenOf pd hn) hst (by show 2 * 0 + _ ≤ W; omega) hd (fun _ _ => ⟨rfl, eT, by show cells + _ ≤ _; rw [r3.1]; exact r3.2, by show slots + _ ≤ _; rw [r4.1]; exact r4.2⟩)
  dsimp only [Pt.U, Pt.locs, Pt.cells, Pt.slots] at X' q1 q2 q3 k hQ
  exact Go.by (fun t => k t) (K v T' L' Lc (Stand.num X' (q2.trans r3.1) (q3.trans r4.1)) hQ (fun f1 f2 => q1 ▸ Fr.app f1 f2))
theorem kI (X : Stand p l e R s m args below meth c T locs cells slots) (hx : p.tables.exec = Jvm.exec) (hZ : Z.Warmed39 s.vm) (hown : s.vm.findClass own = some m.cls) (w1 : (Cond.methodLink own index yy).before a0 Z = true) (w2 : (Cond.instanceMethod yy).before a0 Z = true) (w3 : (Cond.initialized yy.cls).before a0 Z = true) (w4 : (Cond.code yy bytes maxL none).before a0 Z = true) (M : CT l yy bytes maxL none [] rm (.ref b :: argsL).toArray Z h Q) (pd : parseMethodDescriptor yy.desc = some ⟨ps, rt⟩) (hd : decode c.code pc = .ok (.invokespecial index, 3)) (eT : T.heap = h) (hml : c.maxLocals = ml) (hs : st = argsL.reverse ++ .ref b :: rest ∧ Ls.size = ml ∧ argsL.length = ps.length ∧ (rest.map fun v => v.category).sum = W) (hr : rm.frames + 1 ≤ R.frames ∧ W + (maxL + 11) + rm.locals ≤ R.locals ∧ (cells + rm.cells = C ∧ C ≤ R.cells) ∧ (slots + rm.slots = S ∧ S ≤ R.slots) ∧ (yy.cls ≠ "java/lang/invoke/MethodHandle" ∧ yy.cls ≠ "java/lang/invoke/VarHandle") ∧ yy.name = "<init>") (K : ∀ v T' L' Lc, Stand p l e R s m args below meth c T' L' C S → Q v T'.heap Lc → (∀ {n0}, Fr n0 locs → Fr n0 Lc → Fr n0 L') → Go p e below G (T'.setTop (mkF m (pc + 3) Ls (v.toList ++ rest)))) : Go p e below G (T.setTop (mkF m pc Ls st)) := by
  obtain ⟨r1, r2, r3, r4, r5, r6⟩ := hr
  obtain ⟨hst, hz, hn, hW⟩ := hs
  obtain ⟨v, _, ⟨T', L', k', n'⟩, -, X', ⟨Lc, hQ, q1, q2, q3⟩, k⟩ := X.specialBack hx r6 hown (mvT hZ w1) (mvT hZ w2) (mvT hZ w4) r5 (backOf (W := W) M hZ w4 w3 r1 r2) (g := mkF m pc Ls st) rfl (by rw [hml]; exact hz) (Steps.refl _) (a := b) (lenOf pd hn) hst (by show 2 * 0 + _ ≤ W; omega) hd (fun _ _ => ⟨rfl, eT, by show cells + _ ≤ _; rw [r3.1]; exact r3.2, by show slots + _ ≤ _; rw [r4.1]; exact r4.2⟩)
  dsimp only [Pt.U, Pt.locs, Pt.cells, Pt.slots] at X' q1 q2 q3 k hQ
  exact Go.by (fun t => k.trans) (K v T' L' Lc (Stand.num X' (q2.trans r3.1) (q3.trans r4.1)) hQ (fun f1 f2 => q1 ▸ Fr.app f1 f2))
theorem kV (X : Stand p l e R s m args below meth c T locs cells slots) (hx : p.tables.exec = Jvm.exec) (hZ : Z.Warmed39 s.vm) (hown : s.vm.findClass own = some m.cls) (w1 : (Cond.methodLink own index yy).before a0 Z = true) (w2 : (Cond.declares yy).before a0 Z = true) (w3 : (Cond.selects C0 yy zz).before a0 Z = true) (w4 : (Cond.instanceMethod zz).before a0 Z = true) (w5 : (Cond.initialized zz.cls).before a0 Z = true) (w6 : (Cond.code zz bytes maxL ret).before a0 Z = true) (nf : NotFace s yy) (E : Exa Z h b C0) (M : CT l zz bytes maxL ret [] rm (.ref b :: argsL).toArray Z h Q) (pd : parseMethodDescriptor yy.desc = some ⟨ps, rt⟩) (hd : decode c.code pc = .ok (.invokevirtual index, 3)) (eT : T.heap = h) (hml : c.maxLocals = ml) (hs : st = argsL.reverse ++ .ref b :: rest ∧ Ls.size = ml ∧ argsL.length = ps.length ∧ (rest.map fun v => v.category).sum = W) (hr : rm.frames + 1 ≤ R.frames ∧ W + (maxL + 11) + rm.locals ≤ R.locals ∧ (cells + rm.cells = C ∧ C ≤ R.cells) ∧ (slots + rm.slots = S ∧ S ≤ R.slots) ∧ (yy.cls ≠ "java/lang/invoke/MethodHandle" ∧ yy.cls ≠ "java/lang/invoke/VarHandle")) (K : ∀ v T' L' Lc, Stand p l e R s m args below meth c T' L' C S → Q v T'.heap Lc → (∀ {n0}, Fr n0 locs → Fr n0 Lc → Fr n0 L') → Go p e below G (T'.setTop (mkF m (pc + 3) Ls (v.toList ++ rest)))) : Go p e below G (T.setTop (mkF m pc Ls st)) := by
  obtain ⟨cq, kq, qa, qb, qc⟩ := isOf hZ eT E
  obtain ⟨r1, r2, r3, r4, r5⟩ := hr
  obtain ⟨hst, hz, hn, hW⟩ := hs
  obtain ⟨v, _, ⟨T', L', k', n'⟩, -, X', ⟨Lc, hQ, q1, q2, q3⟩, k⟩ := X.virtualBack hx hown (mvT hZ w1) (mvT hZ w2) nf (mvT hZ w3) (mvT hZ w4) r5 (backOf (W := W) M hZ w6 w5 r1 r2) qa qc (g := mkF m pc Ls st) rfl (by rw [hml]; exact hz) (Steps.refl _) (lenOf pd hn) hst (by show 2 * 0 + _ ≤ W; omega) hd (fun _ _ => ⟨rfl, eT, by show cells + _ ≤ _; rw [r3.1]; exact r3.2, by show slots + _ ≤ _; rw [r4.1]; exact r4.2⟩)
  dsimp only [Pt.U, Pt.locs, Pt.cells, Pt.slots] at X' q1 q2 q3 k hQ
  exact Go.by (fun t => k.trans) (K v T' L' Lc (Stand.num X' (q2.trans r3.1) (q3.trans r4.1)) hQ (fun f1 f2 => q1 ▸ Fr.app f1 f2))
theorem kP (X : Stand p l e R s m args below meth c T locs cells slots) (hx : p.tables.exec = Jvm.exec) (hZ : Z.Warmed39 s.vm) (hown : s.vm.findClass own = some m.cls) (w1 : (Cond.methodLink own index yy).before a0 Z = true) (w2 : (Cond.instanceMethod yy).before a0 Z = true) (w3 : (Cond.selects yy.cls yy yy).before a0 Z = true) (w4 : (Cond.privateMethod yy).before a0 Z = true) (w5 : (Cond.initialized yy.cls).before a0 Z = true) (w6 : (Cond.code yy bytes maxL ret).before a0 Z = true) (E : Exa Z h b C0) (M : CT l yy bytes maxL ret [] rm (.ref b :: argsL).toArray Z h Q) (pd : parseMethodDescriptor yy.desc = some ⟨ps, rt⟩) (hd : decode c.code pc = .ok (.invokevirtual index, 3)) (eT : T.heap = h) (hml : c.maxLocals = ml) (hs : st = argsL.reverse ++ .ref b :: rest ∧ Ls.size = ml ∧ argsL.length = ps.length ∧ (rest.map fun v => v.category).sum = W) (hr : rm.frames + 1 ≤ R.frames ∧ W + (maxL + 11) + rm.locals ≤ R.locals ∧ (cells + rm.cells = C ∧ C ≤ R.cells) ∧ (slots + rm.slots = S ∧ S ≤ R.slots) ∧ (yy.cls ≠ "java/lang/invoke/MethodHandle" ∧ yy.cls ≠ "java/lang/invoke/VarHandle")) (K : ∀ v T' L' Lc, Stand p l e R s m args below meth c T' L' C S → Q v T'.heap Lc → (∀ {n0}, Fr n0 locs → Fr n0 Lc → Fr n0 L') → Go p e below G (T'.setTop (mkF m (pc + 3) Ls (v.toList ++ rest)))) : Go p e below G (T.setTop (mkF m pc Ls st)) := by
  obtain ⟨cq, qb, qc⟩ := E.cell
  obtain ⟨r1, r2, r3, r4, r5⟩ := hr
  obtain ⟨hst, hz, hn, hW⟩ := hs
  obtain ⟨v, _, ⟨T', L', k', n'⟩, -, X', ⟨Lc, hQ, q1, q2, q3⟩, k⟩ := X.privateBack hx hown (mvT hZ w1) (mvT hZ w2) (mvT hZ w3) (Cond.privateMethod_at (mvP hZ w4 (args := #[]))) (mvT hZ w6) r5 (backOf (W := W) M hZ w6 w5 r1 r2) (g := mkF m pc Ls st) rfl (by rw [hml]; exact hz) (Steps.refl _) (a := b) (by rw [eT]; exact qb) qc (lenOf pd hn) hst (by show 2 * 0 + _ ≤ W; omega) hd (fun _ _ => ⟨rfl, eT, by show cells + _ ≤ _; rw [r3.1]; exact r3.2, by show slots + _ ≤ _; rw [r4.1]; exact r4.2⟩)
  dsimp only [Pt.U, Pt.locs, Pt.cells, Pt.slots] at X' q1 q2 q3 k hQ
  exact Go.by (fun t => k.trans) (K v T' L' Lc (Stand.num X' (q2.trans r3.1) (q3.trans r4.1)) hQ (fun f1 f2 => q1 ▸ Fr.app f1 f2))
end
section
variable {p : Program} {l : Launch} {e : Env} {R : Room} {s Z T : State} {m : MethodId} {args a0 : Array Value} {below : List Frame} {meth : Method} {c : Code} {locs : List Loc} {cells slots pc q C S : Nat} {G : State → Outcome → Prop} {Ls L' : Array Slot} {st st' rest argsL : List Value} {h : Heap} {v w : Value} {x y z : Int32} {a b : Addr} {own : String} {index : Nat} {t : FieldType} {n : Int32} {vs : List Value} {dv : Value} {kk : ClassId} {ret : Option FieldType} {maxL ml W : Nat} {bytes : ByteArray} {rm : Room} {Q : Option Value → Heap → List Loc → Prop} {ps : List FieldType} {rt : Option FieldType} {yy zz : MethodName} {j : Int32} {i : Nat} {i₀ o : Int} {cd : ClassFile.Cond} {k : Fin 4} {k₀ : Nat} {xl : Int64} {xd : UInt64}
theorem gl (X : Stand p l e R s m args below meth c T locs cells slots) (hx : p.tables.exec = Jvm.exec) (hd : decode c.code pc = .ok (.lload_n k, 1)) (hl : Ls[k.val]? = some (.val (.long xl))) (K : Go p e below G (T.setTop (mkF m (pc + 1) Ls (.long xl :: st)))) : Go p e below G (T.setTop (mkF m pc Ls st)) := Go.by (fun _ => XS.lloadN X.here hx rfl hd hl) K
theorem gL (X : Stand p l e R s m args below meth c T locs cells slots) (hx : p.tables.exec = Jvm.exec) (hd : decode c.code pc = .ok (.lload k₀, 2)) (hl : Ls[k₀]? = some (.val (.long xl))) (K : Go p e below G (T.setTop (mkF m (pc + 2) Ls (.long xl :: st)))) : Go p e below G (T.setTop (mkF m pc Ls st)) := Go.by (fun _ => XS.lload X.here hx rfl hd hl) K
theorem gd (X : Stand p l e R s m args below meth c T locs cells slots) (hx : p.tables.exec = Jvm.exec) (hd : decode c.code pc = .ok (.dload_n k, 1)) (hl : Ls[k.val]? = some (.val (.double xd))) (K : Go p e below G (T.setTop (mkF m (pc + 1) Ls (.double xd :: st)))) : Go p e below G (T.setTop (mkF m pc Ls st)) := Go.by (fun _ => XS.dloadN X.here hx rfl hd hl) K
theorem gD (X : Stand p l e R s m args below meth c T locs cells slots) (hx : p.tables.exec = Jvm.exec) (hd : decode c.code pc = .ok (.dload k₀, 2)) (hl : Ls[k₀]? = some (.val (.double xd))) (K : Go p e below G (T.setTop (mkF m (pc + 2) Ls (.double xd :: st)))) : Go p e below G (T.setTop (mkF m pc Ls st)) := Go.by (fun _ => XS.dload X.here hx rfl hd hl) K
theorem gm (X : Stand p l e R s m args below meth c T locs cells slots) (hx : p.tables.exec = Jvm.exec) (L' : Array Slot) (hd : decode c.code pc = .ok (.lstore_n k, 1)) (hl : storeLocals Ls k.val (.long xl) = some L') (K : Go p e below G (T.setTop (mkF m (pc + 1) L' st))) : Go p e below G (T.setTop (mkF m pc Ls (.long xl :: st))) := Go.by (fun _ => XS.lstoreN X.here hx rfl hd rfl hl) K
theorem gM (X : Stand p l e R s m args below meth c T locs cells slots) (hx : p.tables.exec = Jvm.exec) (L' : Array Slot) (hd : decode c.code pc = .ok (.lstore k₀, 2)) (hl : storeLocals Ls k₀ (.long xl) = some L') (K : Go p e below G (T.setTop (mkF m (pc + 2) L' st))) : Go p e below G (T.setTop (mkF m pc Ls (.long xl :: st))) := Go.by (fun _ => XS.lstore X.here hx rfl hd rfl hl) K
theorem ge (X : Stand p l e R s m args below meth c T locs cells slots) (hx : p.tables.exec = Jvm.exec) (L' : Array Slot) (hd : decode c.code pc = .ok (.dstore_n k, 1)) (hl : storeLocals Ls k.val (.double xd) = some L') (K : Go p e below G (T.setTop (mkF m (pc + 1) L' st))) : Go p e below G (T.setTop (mkF m pc Ls (.double xd :: st))) := Go.by (fun _ => XS.dstoreN X.here hx rfl hd rfl hl) K
theorem gE (X : Stand p l e R s m args below meth c T locs cells slots) (hx : p.tables.exec = Jvm.exec) (L' : Array Slot) (hd : decode c.code pc = .ok (.dstore k₀, 2)) (hl : storeLocals Ls k₀ (.double xd) = some L') (K : Go p e below G (T.setTop (mkF m (pc + 2) L' st))) : Go p e below G (T.setTop (mkF m pc Ls (.double xd :: st))) := Go.by (fun _ => XS.dstore X.here hx rfl hd rfl hl) K
theorem gDA (X : Stand p l e R s m args below meth c T locs cells slots) (hx : p.tables.exec = Jvm.exec) (hZ : Z.Warmed39 s.vm) (eT : T.heap = h) (V : Arv Z h a kk .double n vs dv) (inb : ¬ j < 0 ∧ j < n) (v : Value) (hat : vs.getD j.toNatClampNeg dv = v) (hd : decode c.code pc = .ok (.daload, 1)) (K : Go p e below G (T.setTop (mkF m (pc + 1) Ls (v :: st)))) : Go p e below G (T.setTop (mkF m pc Ls (.int j :: .ref a :: st))) := by
  obtain ⟨cl, A, q', S', M, H, G'⟩ := id V
  have in' := inb_of S' inb
  subst eT
  exact Go.by (fun t => X.daload hx (j := j) (v := v) A.1 (State.isArrayOf_alike hZ.alike A.2.1) A.2.2 in' (H.at in' hat) (g := mkF m pc Ls (.int j :: .ref a :: st)) rfl rfl hd t) K
theorem gLA (X : Stand p l e R s m args below meth c T locs cells slots) (hx : p.tables.exec = Jvm.exec) (hZ : Z.Warmed39 s.vm) (eT : T.heap = h) (V : Arv Z h a kk .long n vs dv) (inb : ¬ j < 0 ∧ j < n) (v : Value) (hat : vs.getD j.toNatClampNeg dv = v) (hd : decode c.code pc = .ok (.laload, 1)) (K : Go p e below G (T.setTop (mkF m (pc + 1) Ls (v :: st)))) : Go p e below G (T.setTop (mkF m pc Ls (.int j :: .ref a :: st))) := by
  obtain ⟨cl, A, q', S', M, H, G'⟩ := id V
  have in' := inb_of S' inb
  subst eT
  exact Go.by (fun t => X.laload hx (j := j) (v := v) A.1 (State.isArrayOf_alike hZ.alike A.2.1) A.2.2 in' (H.at in' hat) (g := mkF m pc Ls (.int j :: .ref a :: st)) rfl rfl hd t) K
theorem sD (X : Stand p l e R s m args below meth c T locs cells slots) (hx : p.tables.exec = Jvm.exec) (hZ : Z.Warmed39 s.vm) (eT : T.heap = h) (V : Arv Z h a kk .double n vs dv) (inb : ¬ j < 0 ∧ j < n) (i : Nat) (hi : j.toNatClampNeg = i) (hl : i < vs.length) (hd : decode c.code pc = .ok (.dastore, 1)) (K : ∀ T' h', Stand p l e R s m args below meth c T' (locs ++ [⟨a, j.toNatClampNeg⟩]) cells slots → T'.heap = h' → Wr h h' a j.toNatClampNeg (.double xd) → Arv Z h' a kk .double n (vs.set i (.double xd)) dv → Go p e below G (T'.setTop (mkF m (pc + 1) Ls st))) : Go p e below G (T.setTop (mkF m pc Ls (.double xd :: .int j :: .ref a :: st))) := by
  obtain ⟨cl, A, q', S', M, H, G'⟩ := id V
  obtain ⟨T', h', X', e', W, k⟩ := stD X hx hZ eT A (j := j) (inb_of S' inb) (g := mkF m pc Ls (.double xd :: .int j :: .ref a :: st)) rfl rfl hd
  exact Go.by k (K T' h' X' e' W (Arv.set A q' S' M H G' rfl W i hi hl))
theorem sL (X : Stand p l e R s m args below meth c T locs cells slots) (hx : p.tables.exec = Jvm.exec) (hZ : Z.Warmed39 s.vm) (eT : T.heap = h) (V : Arv Z h a kk .long n vs dv) (inb : ¬ j < 0 ∧ j < n) (i : Nat) (hi : j.toNatClampNeg = i) (hl : i < vs.length) (hd : decode c.code pc = .ok (.lastore, 1)) (K : ∀ T' h', Stand p l e R s m args below meth c T' (locs ++ [⟨a, j.toNatClampNeg⟩]) cells slots → T'.heap = h' → Wr h h' a j.toNatClampNeg (.long xl) → Arv Z h' a kk .long n (vs.set i (.long xl)) dv → Go p e below G (T'.setTop (mkF m (pc + 1) Ls st))) : Go p e below G (T.setTop (mkF m pc Ls (.long xl :: .int j :: .ref a :: st))) := by
  obtain ⟨cl, A, q', S', M, H, G'⟩ := id V
  obtain ⟨T', h', X', e', W, k⟩ := stJ X hx hZ eT A (j := j) (inb_of S' inb) (g := mkF m pc Ls (.long xl :: .int j :: .ref a :: st)) rfl rfl hd
  exact Go.by k (K T' h' X' e' W (Arv.set A q' S' M H G' rfl W i hi hl))
end
theorem and255_chars (x : Int32) : ¬ nar .char ((x &&& (255 : Int32)).toUInt32.toUInt16.toUInt32.toInt32) < 0 ∧ ¬ (255 : Int32) < nar .char ((x &&& (255 : Int32)).toUInt32.toUInt16.toUInt32.toInt32) := by
  have t : ∀ k : Fin 256, ¬ nar .char ((Int32.ofNat k.val).toUInt32.toUInt16.toUInt32.toInt32) < 0 ∧ ¬ (255 : Int32) < nar .char ((Int32.ofNat k.val).toUInt32.toUInt16.toUInt32.toInt32) := by decide +kernel
  have h : (x &&& 255).toBitVec.toNat < 256 := by
    simp only [Int32.toBitVec_and, BitVec.toNat_and]
    exact Nat.lt_succ_of_le Nat.and_le_right
  have e : (x &&& 255) = Int32.ofNat (x &&& 255).toBitVec.toNat := by
    apply Int32.toBitVec_inj.mp
    show _ = BitVec.ofNat 32 _
    rw [BitVec.ofNat_toNat]; simp
  rw [e]
  exact t ⟨_, h⟩
theorem up (cs : List Int32) (h : ∀ c ∈ cs, ¬ c < 0 ∧ ¬ (255 : Int32) < c) : ∀ c ∈ cs, ¬ c < 0 ∧ ¬ (65535 : Int32) < c := fun c hc => ⟨(h c hc).1, fun q => (h c hc).2 (by rw [Int32.lt_iff_toInt_lt] at q ⊢; have e1 : (65535 : Int32).toInt = 65535 := rfl; have e2 : (255 : Int32).toInt = 255 := rfl; omega)⟩
theorem all1 {P : Int32 → Prop} {x : Int32} (h : P x) : ∀ c ∈ [x], P c := fun c hc => by cases List.mem_singleton.mp hc; exact h
theorem allC {P : Int32 → Prop} {x : Int32} {L : List Int32} (h : P x) (r : ∀ c ∈ L, P c) : ∀ c ∈ x :: L, P c := fun c hc => (List.mem_cons.mp hc).elim (fun u => u ▸ h) (r c)
theorem allN {P : Int32 → Prop} : ∀ c ∈ ([] : List Int32), P c := fun _ q => nomatch q
theorem pn_0 : plainName "com/example/oneiros/oneiros/SlidingMedianGetPinLaw" = true := by first | (simp [plainName, overriddenIn]; done) | decide +kernel
theorem pd_0 : parseMethodDescriptor "(ZI)J" = some ⟨[.boolean, .int], some .long⟩ := by decide +kernel
theorem pd_1 : parseMethodDescriptor "(I)V" = some ⟨[.int], none⟩ := by decide +kernel
theorem pd_2 : parseMethodDescriptor "(D)V" = some ⟨[.double], none⟩ := by decide +kernel
theorem pd_3 : parseMethodDescriptor "()D" = some ⟨[], some .double⟩ := by decide +kernel
theorem pd_4 : parseMethodDescriptor "(II)I" = some ⟨[.int, .int], some .int⟩ := by decide +kernel
theorem pd_5 : parseMethodDescriptor "(JJ)J" = some ⟨[.long, .long], some .long⟩ := by decide +kernel
def LI1 : List (Nat × Instr × Nat) := [(0, .iload_n 0, 1), (1, .ifCond .eq 12, 3), (4, .iload_n 1, 1), (5, .iconst 3, 1), (6, .iand, 1), (7, .iconst 1, 1), (8, .isub, 1), (9, .i2l, 1), (10, .goto 5, 3), (13, .iload_n 1, 1), (14, .i2l, 1), (15, .lreturn, 1)]
theorem D1 : DecAll method_3_code LI1 := by unfold DecAll; decide +kernel
def LI2 : List (Nat × Instr × Nat) := [(0, .aload_n 0, 1), (1, .invokespecial 1, 3), (4, .aload_n 0, 1), (5, .iload_n 1, 1), (6, .newarray .double, 2), (8, .putfield 7, 3), (11, .aload_n 0, 1), (12, .iload_n 1, 1), (13, .newarray .double, 2), (15, .putfield 13, 3), (18, .return_, 1)]
theorem D2 : DecAll prog_27_method_1_code LI2 := by unfold DecAll; decide +kernel
theorem pn_1 : plainName "com/example/oneiros/oneiros/SlidingMedian" = true := by first | (simp [plainName, overriddenIn]; done) | decide +kernel
def LI4 : List (Nat × Instr × Nat) := [(0, .dconst 0, 1), (1, .dstore_n 1, 1), (2, .aload_n 0, 1), (3, .getfield 16, 3), (6, .iconst 2, 1), (7, .irem, 1), (8, .iconst 1, 1), (9, .if_icmp .ne 18, 3), (12, .aload_n 0, 1), (13, .getfield 13, 3), (16, .aload_n 0, 1), (17, .getfield 16, 3), (20, .iconst 2, 1), (21, .idiv, 1), (22, .daload, 1), (23, .dstore_n 1, 1), (24, .goto 40, 3), (27, .aload_n 0, 1), (28, .getfield 16, 3), (31, .ifCond .le 33, 3), (34, .aload_n 0, 1), (35, .getfield 13, 3), (38, .aload_n 0, 1), (39, .getfield 16, 3), (42, .iconst 2, 1), (43, .idiv, 1), (44, .iconst 1, 1), (45, .isub, 1), (46, .daload, 1), (47, .aload_n 0, 1), (48, .getfield 13, 3), (51, .aload_n 0, 1), (52, .getfield 16, 3), (55, .iconst 2, 1), (56, .idiv, 1), (57, .daload, 1), (58, .dadd, 1), (59, .ldc2_w 20, 3), (62, .ddiv, 1), (63, .dstore_n 1, 1), (64, .dload_n 1, 1), (65, .dreturn, 1)]
theorem D4 : DecAll prog_27_method_2_code LI4 := by unfold DecAll; decide +kernel
def LI5 : List (Nat × Instr × Nat) := [(0, .iload_n 0, 1), (1, .iload_n 1, 1), (2, .if_icmp .gt 7, 3), (5, .iload_n 0, 1), (6, .goto 4, 3), (9, .iload_n 1, 1), (10, .ireturn, 1)]
theorem D5 : DecAll jdk_29_method_69_code LI5 := by unfold DecAll; decide +kernel
def LI6 : List (Nat × Instr × Nat) := [(0, .aload_n 0, 1), (1, .getfield 16, 3), (4, .istore_n 3, 1), (5, .iload_n 3, 1), (6, .aload_n 0, 1), (7, .getfield 7, 3), (10, .arraylength, 1), (11, .if_icmp .ne 58, 3), (14, .iconst 0, 1), (15, .istore 4, 2), (17, .aload_n 0, 1), (18, .getfield 13, 3), (21, .iload 4, 2), (23, .daload, 1), (24, .aload_n 0, 1), (25, .getfield 7, 3), (28, .aload_n 0, 1), (29, .getfield 22, 3), (32, .daload, 1), (33, .dcmp .l, 1), (34, .ifCond .eq 9, 3), (37, .iinc 4 1, 3), (40, .goto (-23), 3), (43, .aload_n 0, 1), (44, .getfield 13, 3), (47, .iload 4, 2), (49, .iconst 1, 1), (50, .iadd, 1), (51, .aload_n 0, 1), (52, .getfield 13, 3), (55, .iload 4, 2), (57, .iload_n 3, 1), (58, .iload 4, 2), (60, .isub, 1), (61, .iconst 1, 1), (62, .isub, 1), (63, .invokestatic 25, 3), (66, .iinc 3 (-1), 3), (69, .aload_n 0, 1), (70, .getfield 7, 3), (73, .aload_n 0, 1), (74, .getfield 22, 3), (77, .dload_n 1, 1), (78, .dastore, 1), (79, .aload_n 0, 1), (80, .aload_n 0, 1), (81, .getfield 22, 3), (84, .iconst 1, 1), (85, .iadd, 1), (86, .aload_n 0, 1), (87, .getfield 7, 3), (90, .arraylength, 1), (91, .irem, 1), (92, .putfield 22, 3), (95, .iload_n 3, 1), (96, .istore 4, 2), (98, .iload 4, 2), (100, .ifCond .le 39, 3), (103, .aload_n 0, 1), (104, .getfield 13, 3), (107, .iload 4, 2), (109, .iconst 1, 1), (110, .isub, 1), (111, .daload, 1), (112, .dload_n 1, 1), (113, .dcmp .l, 1), (114, .ifCond .le 25, 3), (117, .aload_n 0, 1), (118, .getfield 13, 3), (121, .iload 4, 2), (123, .aload_n 0, 1), (124, .getfield 13, 3), (127, .iload 4, 2), (129, .iconst 1, 1), (130, .isub, 1), (131, .daload, 1), (132, .dastore, 1), (133, .iinc 4 (-1), 3), (136, .goto (-38), 3), (139, .aload_n 0, 1), (140, .getfield 13, 3), (143, .iload 4, 2), (145, .dload_n 1, 1), (146, .dastore, 1), (147, .aload_n 0, 1), (148, .iload_n 3, 1), (149, .iconst 1, 1), (150, .iadd, 1), (151, .putfield 16, 3), (154, .return_, 1)]
theorem D6 : DecAll prog_27_method_3_code LI6 := by unfold DecAll; decide +kernel
def LI7 : List (Nat × Instr × Nat) := [(0, .lload_n 0, 1), (1, .lload_n 2, 1), (2, .lcmp, 1), (3, .ifCond .gt 7, 3), (6, .lload_n 0, 1), (7, .goto 4, 3), (10, .lload_n 2, 1), (11, .lreturn, 1)]
theorem D7 : DecAll jdk_29_method_70_code LI7 := by unfold DecAll; decide +kernel
def LI8 : List (Nat × Instr × Nat) := [(0, .lload_n 0, 1), (1, .lload_n 2, 1), (2, .lcmp, 1), (3, .ifCond .lt 7, 3), (6, .lload_n 0, 1), (7, .goto 4, 3), (10, .lload_n 2, 1), (11, .lreturn, 1)]
theorem D8 : DecAll jdk_29_method_66_code LI8 := by unfold DecAll; decide +kernel
open Jvm.FP Jvm.Free.Fl
theorem set_mid {α : Type} (us ws : List α) (x v : α) {n : Nat} (h : n = us.length) : (us ++ x :: ws).set n v = us ++ v :: ws := by
  subst h; simp
theorem get_mid {α : Type} (us ws : List α) (x d : α) {n : Nat} (h : n = us.length) : (us ++ x :: ws).getD n d = x := by
  subst h; simp
theorem o_int {n : Nat} (h : n < 2147483648) : (Int32.ofNat n).toInt = n := Int32.toInt_ofNat_of_lt h
theorem o_nat {n : Nat} (h : n < 2147483648) : (Int32.ofNat n).toNatClampNeg = n := by
  have := o_int h; simp only [Int32.toNatClampNeg, this]; omega
theorem o_nn {n : Nat} (h : n < 2147483648) : ¬ Int32.ofNat n < 0 := by
  rw [Int32.lt_iff_toInt_lt, o_int h]; have : (0 : Int32).toInt = 0 := rfl; omega
theorem o_lt {a b : Nat} (ha : a < 2147483648) (hb : b < 2147483648) : Int32.ofNat a < Int32.ofNat b ↔ a < b := by
  rw [Int32.lt_iff_toInt_lt, o_int ha, o_int hb]; omega
theorem o_in {a b : Nat} (h : a < b) (hb : b < 2147483648) : ¬ Int32.ofNat a < 0 ∧ Int32.ofNat a < Int32.ofNat b := ⟨o_nn (by omega), (o_lt (by omega) hb).2 h⟩
theorem o_ne {a b : Nat} (h : a < b) (hb : b < 2147483648) : ¬ Int32.ofNat a = Int32.ofNat b := fun e => by
  have := congrArg Int32.toInt e; rw [o_int (by omega), o_int hb] at this; omega
theorem o_add (a b : Nat) : Int32.ofNat a + Int32.ofNat b = Int32.ofNat (a + b) := (Int32.ofNat_add a b).symm
theorem o_one (a : Nat) : Int32.ofNat a + (1 : Int32) = Int32.ofNat (a + 1) := o_add a 1
theorem o_sub {a b : Nat} (h : b ≤ a) (ha : a < 2147483648) : Int32.ofNat a - Int32.ofNat b = Int32.ofNat (a - b) := by
  have e : a = (a - b) + b := by omega
  rw [show Int32.ofNat a = Int32.ofNat (a - b) + Int32.ofNat b by rw [o_add, ← e]]
  simp
theorem arv_eq {Z : State} {h : Heap} {a : Addr} {k : ClassId} {ty : FieldType} {n : Int32} {vs vs' : List Value} {d : Value} (A : Arv Z h a k ty n vs d) (e : vs = vs') : Arv Z h a k ty n vs' d := e ▸ A
theorem o_pred {a : Nat} (h : 1 ≤ a) : Int32.ofNat a + (-1 : Int32) = Int32.ofNat (a - 1) := by
  have e : a = (a - 1) + 1 := by omega
  rw [show Int32.ofNat a = Int32.ofNat (a - 1) + Int32.ofNat 1 by rw [← Int32.ofNat_add, ← e], Int32.add_assoc]
  show Int32.ofNat (a - 1) + 0 = _
  rw [Int32.add_zero]
abbrev Dv (x : Int64) : Value := .double (FP.l2d x)
/-- a long of an int's range -/
def BdI (x : Int64) : Prop := -2147483649 < x.toInt ∧ x.toInt < 2147483648
theorem BdI.b53 {x : Int64} (h : BdI x) : B53 x := by unfold B53; unfold BdI at h; omega
def Srt (l : List Int64) : Prop := l.Pairwise fun a b => ¬ b < a
theorem dv_at (us ws : List Int64) (a : Int64) (d : Value) (h : us.length < 2147483648) : ((us ++ a :: ws).map Dv).getD (Int32.ofNat us.length).toNatClampNeg d = .double (FP.l2d a) := by
  rw [o_nat h, List.map_append, List.map_cons]; exact get_mid _ _ _ _ (by simp)
theorem dv_set (us ws : List Int64) (a b : Int64) : ((us ++ a :: ws).map Dv).set us.length (Dv b) = (us ++ b :: ws).map Dv := by
  rw [List.map_append, List.map_cons, set_mid _ _ _ _ (by simp), List.map_append]; rfl
theorem dc {a b : Int64} (ha : BdI a) (hb : BdI b) : cmpValue (FP.dcmp (FP.l2d a) (FP.l2d b)) .l = lcmpW a b := dcmpV_w ha.b53 hb.b53 .l
theorem srt_ins {as bs : List Int64} {x : Int64} (h : Srt (as ++ bs)) (ha : ∀ z ∈ as, ¬ x < z) (hb : ∀ z ∈ bs, ¬ z < x) : Srt (as ++ x :: bs) := by
  unfold Srt at h ⊢
  rw [List.pairwise_append] at h ⊢
  refine ⟨h.1, List.pairwise_cons.2 ⟨hb, h.2.1⟩, fun a q b r => ?_⟩
  rcases List.mem_cons.1 r with rfl | r
  · exact ha a q
  · exact h.2.2 a q b r
theorem le_tr {a b c : Int64} (h1 : ¬ b < a) (h2 : ¬ c < b) : ¬ c < a := by
  rw [Int64.lt_iff_toInt_lt] at *; omega
theorem lt_asym {a b : Int64} (h : a < b) : ¬ b < a := by
  rw [Int64.lt_iff_toInt_lt] at *; omega
theorem srt_last {as bs : List Int64} {a x : Int64} (h : Srt ((as ++ [a]) ++ bs)) (ha : ¬ x < a) : ∀ z ∈ as ++ [a], ¬ x < z := by
  unfold Srt at h
  rw [List.pairwise_append] at h
  have h1 := h.1
  rw [List.pairwise_append] at h1
  intro z hz
  rcases List.mem_append.1 hz with q | q
  · exact le_tr (h1.2.2 z q a (List.mem_singleton.2 rfl)) ha
  · rw [List.mem_singleton.1 q]; exact ha
theorem srt_del {us ws : List Int64} {t : Int64} (h : Srt (us ++ t :: ws)) : Srt (us ++ ws) := by
  unfold Srt at h ⊢
  rw [List.pairwise_append] at h ⊢
  exact ⟨h.1, (List.pairwise_cons.1 h.2.1).2, fun a q b r => h.2.2 a q b (List.mem_cons_of_mem _ r)⟩
theorem perm_mid {us ws : List Int64} {t : Int64} : (us ++ t :: ws).Perm (t :: (us ++ ws)) := List.perm_middle
theorem perm_ins {as bs zs : List Int64} {x : Int64} (h : (as ++ bs).Perm zs) : (as ++ x :: bs).Perm (x :: zs) := perm_mid.trans (h.cons x)
/-- what arraycopy leaves: the place o taken out, the last value twice -/
theorem cp_del (us ws : List Int64) (t z : Int64) : (us ++ t :: (ws ++ [z])).map Dv = ((us ++ t :: (ws ++ [z])).map Dv).take us.length ++ ((us ++ t :: (ws ++ [z])).map Dv).drop us.length := (List.take_append_drop _ _).symm
theorem rot1 (ws : List Int64) (t : Int64) : ∃ vs z, t :: ws = vs ++ [z] ∧ vs.length = ws.length := by
  induction ws generalizing t with
  | nil => exact ⟨[], t, rfl, rfl⟩
  | cons a r ih => obtain ⟨vs, z, h, q⟩ := ih a; exact ⟨t :: vs, z, by rw [h]; rfl, by simp [q]⟩
theorem rng_tail {α : Type} (us : List α) (t : α) (ws : List α) (d : α) : ws = (List.range ws.length).map fun i => (us ++ t :: ws).getD (us.length + 1 + i) d := by
  apply List.ext_getElem
  · simp
  · intro i h1 h2
    simp only [List.getElem_map, List.getElem_range, List.getD_eq_getElem?_getD]
    rw [List.getElem?_append_right (by omega), show us.length + 1 + i - us.length = i + 1 by omega, List.getElem?_cons_succ]
    simp [h1]
theorem del_eq {α : Type} (us ws : List α) (t : α) {vs : List α} {z : α} (h : t :: ws = vs ++ [z]) (hl : vs.length = ws.length) : (us ++ t :: ws).take us.length ++ ws ++ (us ++ t :: ws).drop (us.length + ws.length) = (us ++ ws) ++ [z] := by
  rw [List.take_left, h, List.drop_append, List.drop_eq_nil_of_le (by omega), ← hl, show us.length + vs.length - us.length = vs.length by omega, List.drop_left]
  simp
section
variable {x0 x1 x2 x3 : Int64}
def mxL (a b : Int64) : Int64 := if a < b then b else a
def mnL (a b : Int64) : Int64 := if b < a then b else a
theorem mx_int (a b : Int64) : (mxL a b).toInt = if a.toInt < b.toInt then b.toInt else a.toInt := by
  unfold mxL; simp only [Int64.lt_iff_toInt_lt]; split <;> rfl
theorem mn_int (a b : Int64) : (mnL a b).toInt = if b.toInt < a.toInt then b.toInt else a.toInt := by
  unfold mnL; simp only [Int64.lt_iff_toInt_lt]; split <;> rfl
theorem add_int {a b : Int64} (ha : -4611686018427387904 ≤ a.toInt ∧ a.toInt ≤ 4611686018427387903) (hb : -4611686018427387904 ≤ b.toInt ∧ b.toInt ≤ 4611686018427387903) : (a + b).toInt = a.toInt + b.toInt := by
  rw [Int64.toInt_add, Int.bmod_def]; split <;> omega
theorem sub_int {a b : Int64} (ha : -4611686018427387904 ≤ a.toInt ∧ a.toInt ≤ 4611686018427387903) (hb : -4611686018427387904 ≤ b.toInt ∧ b.toInt ≤ 4611686018427387903) : (a - b).toInt = a.toInt - b.toInt := by
  rw [Int64.toInt_sub, Int.bmod_def]; split <;> omega
theorem int_eq {a b : Int64} (h : a.toInt = b.toInt) : a = b := Int64.toInt_inj.mp h
theorem sum_perm {l r : List Int64} (h : l.Perm r) : (l.map Int64.toInt).sum = (r.map Int64.toInt).sum := by
  induction h with
  | nil => rfl
  | cons _ _ ih => simp only [List.map_cons, List.sum_cons, ih]
  | swap _ _ _ => simp only [List.map_cons, List.sum_cons]; omega
  | trans _ _ h1 h2 => exact h1.trans h2
theorem lt_i {a b : Int64} : a < b ↔ a.toInt < b.toInt := Int64.lt_iff_toInt_lt
theorem med1 {xs : List Int64} (h : xs.Perm [x0]) : xs = [x0] := List.perm_singleton.mp h
theorem med2 {a b : Int64} (h : [a, b].Perm [x0, x1]) (q0 : BdI x0) (q1 : BdI x1) (qa : BdI a) (qb : BdI b) : a + b = x0 + x1 := by
  have := sum_perm h
  unfold BdI at *
  apply int_eq
  rw [add_int (by omega) (by omega), add_int (by omega) (by omega)]
  simpa using this
theorem med3 {a b d : Int64} (h : [a, b, d].Perm [x0, x1, x2]) (so : Srt [a, b, d]) : b = mxL (mnL x0 x1) (mnL (mxL x0 x1) x2) := by
  have h1 := sum_perm h
  simp only [List.map_cons, List.map_nil, List.sum_cons, List.sum_nil] at h1
  have ma : a ∈ [x0, x1, x2] := h.mem_iff.1 (by simp)
  have mb : b ∈ [x0, x1, x2] := h.mem_iff.1 (by simp)
  have md : d ∈ [x0, x1, x2] := h.mem_iff.1 (by simp)
  have m0 : x0 ∈ [a, b, d] := h.mem_iff.2 (by simp)
  have m1 : x1 ∈ [a, b, d] := h.mem_iff.2 (by simp)
  have m2 : x2 ∈ [a, b, d] := h.mem_iff.2 (by simp)
  have e : ∀ {u v : Int64}, u = v ↔ u.toInt = v.toInt := fun {u v} => Int64.toInt_inj.symm
  simp only [List.mem_cons, List.not_mem_nil, or_false, e] at ma mb md m0 m1 m2
  unfold Srt at so
  simp only [List.pairwise_cons, List.mem_cons, List.not_mem_nil, or_false, forall_eq_or_imp, forall_eq, lt_i] at so
  apply int_eq
  simp only [mx_int, mn_int]
  have s1 := so.1.1
  have s2 := so.1.2
  have s3 := so.2.1
  split <;> split <;> split <;> (try split) <;> omega
theorem med4 {a b d f : Int64} (h : [a, b, d, f].Perm [x0, x1, x2, x3]) (so : Srt [a, b, d, f]) (qa : BdI a) (qb : BdI b) (qd : BdI d) (qf : BdI f) (q0 : BdI x0) (q1 : BdI x1) (q2 : BdI x2) (q3 : BdI x3) : b + d = x0 + x1 + x2 + x3 - mxL (mxL x0 x1) (mxL x2 x3) - mnL (mnL x0 x1) (mnL x2 x3) := by
  have h1 := sum_perm h
  simp only [List.map_cons, List.map_nil, List.sum_cons, List.sum_nil] at h1
  have ma : a ∈ [x0, x1, x2, x3] := h.mem_iff.1 (by simp)
  have mf : f ∈ [x0, x1, x2, x3] := h.mem_iff.1 (by simp)
  have m0 : x0 ∈ [a, b, d, f] := h.mem_iff.2 (by simp)
  have m1 : x1 ∈ [a, b, d, f] := h.mem_iff.2 (by simp)
  have m2 : x2 ∈ [a, b, d, f] := h.mem_iff.2 (by simp)
  have m3 : x3 ∈ [a, b, d, f] := h.mem_iff.2 (by simp)
  have e : ∀ {u v : Int64}, u = v ↔ u.toInt = v.toInt := fun {u v} => Int64.toInt_inj.symm
  simp only [List.mem_cons, List.not_mem_nil, or_false, e] at ma mf m0 m1 m2 m3
  unfold Srt at so
  simp only [List.pairwise_cons, List.mem_cons, List.not_mem_nil, or_false, forall_eq_or_imp, forall_eq, lt_i] at so
  obtain ⟨⟨s1, s2, s3⟩, ⟨s4, s5⟩, s6, -⟩ := so
  have hM : (mxL (mxL x0 x1) (mxL x2 x3)).toInt = f.toInt := by
    simp only [mx_int]
    have u0 : x0.toInt ≤ f.toInt := by omega
    have u1 : x1.toInt ≤ f.toInt := by omega
    have u2 : x2.toInt ≤ f.toInt := by omega
    have u3 : x3.toInt ≤ f.toInt := by omega
    clear m0 m1 m2 m3 ma h1
    split <;> split <;> split <;> omega
  have hm : (mnL (mnL x0 x1) (mnL x2 x3)).toInt = a.toInt := by
    simp only [mn_int]
    have u0 : a.toInt ≤ x0.toInt := by omega
    have u1 : a.toInt ≤ x1.toInt := by omega
    have u2 : a.toInt ≤ x2.toInt := by omega
    have u3 : a.toInt ≤ x3.toInt := by omega
    clear m0 m1 m2 m3 mf h1
    split <;> split <;> split <;> omega
  unfold BdI at *
  apply int_eq
  have t1 := add_int (a := x0) (b := x1) (by omega) (by omega)
  have t2 := add_int (a := x0 + x1) (b := x2) (by omega) (by omega)
  have t3 := add_int (a := x0 + x1 + x2) (b := x3) (by omega) (by omega)
  have t4 := sub_int (a := x0 + x1 + x2 + x3) (b := mxL (mxL x0 x1) (mxL x2 x3)) (by omega) (by omega)
  have t5 := sub_int (a := x0 + x1 + x2 + x3 - mxL (mxL x0 x1) (mxL x2 x3)) (b := mnL (mnL x0 x1) (mnL x2 x3)) (by omega) (by omega)
  rw [t5, t4, t3, t2, t1, add_int (by omega) (by omega)]
  omega
end
theorem bd_i2l (z : Int32) : BdI z.toInt64 := by
  unfold BdI
  rw [Int32.toInt_toInt64]
  have h1 := z.toInt_lt
  have h2 := z.le_toInt
  omega
theorem nn_div {a : Int64} : NoNaN64 (FP.ddiv (FP.l2d a) 4611686018427387904) := ddiv_out (l2d_fin a).noNaN (by unfold Fin64; decide) (by unfold Nz64; decide)
theorem add_dv {a b : Int64} (ha : BdI a) (hb : BdI b) : FP.dadd (FP.l2d a) (FP.l2d b) = FP.l2d (a + b) := dadd_w ha.b53 hb.b53
theorem dv_get {xs : List Int64} {i : Nat} {a : Int64} {d : Value} (h : xs[i]? = some a) : (xs.map Dv).getD i d = .double (FP.l2d a) := by
  rw [List.getD_eq_getElem?_getD, List.getElem?_map, h]; rfl
theorem Go.two {p : Program} {e : Env} {below : List Frame} {G : State → Outcome → Prop} {A B : State} (h : Go p e below G B) (f : Go p e below G B → Go p e below G A) : Go p e below G A := f h
theorem Go.twoP {p : Program} {e : Env} {below : List Frame} {G : State → Outcome → Prop} {A : State} {P : Int32 → Prop} {B : Int32 → State} (h : ∀ i, P i → Go p e below G (B i)) (f : (∀ i, P i → Go p e below G (B i)) → Go p e below G A) : Go p e below G A := f h
theorem allZ0 {P : Int64 → Prop} : ∀ z ∈ ([] : List Int64), P z := fun _ h => nomatch h
theorem allI {P : Int64 → Prop} {a : Int64} {r : List Int64} (h : P a) (g : ∀ z ∈ r, P z) : ∀ z ∈ a :: r, P z := fun z hz => (List.mem_cons.1 hz).elim (fun q => q ▸ h) (g z)
theorem perm_new {xs xs' W : List Int64} {x : Int64} (h : xs'.Perm (x :: xs)) (g : xs.Perm W) : xs'.Perm (W ++ [x]) := h.trans ((g.cons x).trans (List.perm_append_singleton x W).symm)
theorem perm_old {xs xs' zs W : List Int64} {x t : Int64} (h : xs'.Perm (x :: zs)) (h2 : xs.Perm (t :: zs)) (g : xs.Perm (t :: W)) : xs'.Perm (W ++ [x]) := perm_new h (List.Perm.cons_inv (h2.symm.trans g))
theorem len0 {l : List Int64} (h : l.length = 0) : l = [] := List.eq_nil_of_length_eq_zero h
theorem lenS {l : List Int64} {n : Nat} (h : l.length = n + 1) : ∃ a r, l = a :: r ∧ r.length = n := by
  cases l with
  | nil => cases h
  | cons a r => exact ⟨a, r, rfl, Nat.succ.inj h⟩
theorem and_nat (z : Int32) (M : Nat) (hM : M < 2147483648) : ∃ j, j ≤ M ∧ z &&& Int32.ofNat M = Int32.ofNat j := by
  refine ⟨(z &&& Int32.ofNat M).toBitVec.toNat, ?_, ?_⟩
  · rw [Int32.toBitVec_and, BitVec.toNat_and]
    refine Nat.le_trans Nat.and_le_right ?_
    show M % 2 ^ 32 ≤ M
    exact Nat.mod_le _ _
  · apply Int32.toBitVec_inj.mp
    apply BitVec.eq_of_toNat_eq
    show _ = _ % 2 ^ 32
    rw [Nat.mod_eq_of_lt (BitVec.isLt _)]
theorem cap_ex (z : Int32) : ∃ ca, (ca = 1 ∨ ca = 2 ∨ ca = 3 ∨ ca = 4) ∧ (z &&& (3 : Int32)) + (1 : Int32) = Int32.ofNat ca := by
  obtain ⟨j, hj, e⟩ := and_nat z 3 (by decide)
  exact ⟨j + 1, by omega, by rw [show z &&& (3 : Int32) = Int32.ofNat j from e]; exact o_one j⟩
theorem cnt_ex (z : Int32) : ∃ nn, nn ≤ 5 ∧ (z &&& (7 : Int32)) % (6 : Int32) = Int32.ofNat nn := by
  obtain ⟨j, hj, e⟩ := and_nat z 7 (by decide)
  rw [show z &&& (7 : Int32) = Int32.ofNat j from e]
  have : j = 0 ∨ j = 1 ∨ j = 2 ∨ j = 3 ∨ j = 4 ∨ j = 5 ∨ j = 6 ∨ j = 7 := by omega
  rcases this with rfl | rfl | rfl | rfl | rfl | rfl | rfl | rfl
  · exact ⟨0, by decide, by decide⟩
  · exact ⟨1, by decide, by decide⟩
  · exact ⟨2, by decide, by decide⟩
  · exact ⟨3, by decide, by decide⟩
  · exact ⟨4, by decide, by decide⟩
  · exact ⟨5, by decide, by decide⟩
  · exact ⟨0, by decide, by decide⟩
  · exact ⟨1, by decide, by decide⟩
theorem eq0 {g r : UInt64} (h : g = r) (n : NoNaN64 g) : cmpValue (FP.dcmp g r) .l = 0 := dcmpV_eq h n .l
def Q_rmMI (Z : State) (ja jb : Nat) (h0 : Heap) (n0 : Nat) : Option Value → Heap → List Loc → Prop := fun v h L => v = some (.int (Int32.ofNat (min ja jb))) ∧ Fr n0 L ∧ h = h0
set_option maxRecDepth 65536 in
set_option maxHeartbeats 40000000 in
theorem rmMI (l : Launch) (Z : State) (a0 : Array Value) (hw : HW a0 Z) (ws : List Jvm.Cond) (ja jb : Nat) (h0 : Heap) (n0 : Nat) (hj : ja ≤ 10 ∧ jb ≤ 10) :
    CT l (⟨"java/lang/Math", "min", "(II)I"⟩ : MethodName) jdk_29_method_69_code 2 (some .int) ws (⟨0, 0, 0, 0⟩ : Jvm.Room) #[(.int (Int32.ofNat ja)), (.int (Int32.ofNat jb))] Z h0 (Q_rmMI Z ja jb h0 n0) := by
  refine Go.start (Jvm.Free.JP.mathPlain rfl (by decide +kernel)) #[vi (Int32.ofNat ja), vi (Int32.ofNat jb)] n0 (by first | (simp [argsToLocals, Value.category, maxLocals]; done) | rfl) ?_
  intro p e s m below meth c s₁ Bd hx hby hml hZ hown X0 e0 N0
  have D := @dB _ _ hby _ D5
  refine gi X0 hx (D 0 rfl) rfl ?_
  refine gi X0 hx (D 1 rfl) rfl ?_
  by_cases hc : jb < ja
  ·
    refine cY X0 hx 9 (D 2 rfl) (tlt ((o_lt (by omega) (by omega)).2 hc : (Int32.ofNat jb) < (Int32.ofNat ja))).2.2.1 (by decide) ?_
    refine gi X0 hx (D 5 rfl) rfl ?_
    exact Go.ret1 X0 hx Bd.returns Bd.notSynchronized rfl (Or.inl ⟨rfl, by simp, _, rfl⟩) (D 6 rfl) (by decide) (by decide) (by first | (rw [e0]; exact ⟨by rw [show min ja jb = jb by omega], N0, rfl⟩) | exact ⟨by rw [show min ja jb = jb by omega], N0, rfl⟩)
  ·
    refine cN X0 hx (D 2 rfl) (flt (fun q => hc ((o_lt (by omega) (by omega)).1 q) : ¬ ((Int32.ofNat jb) < (Int32.ofNat ja)))).2.2.1 ?_
    refine gi X0 hx (D 3 rfl) rfl ?_
    refine gg X0 hx 10 (D 4 rfl) (by decide) ?_
    exact Go.ret1 X0 hx Bd.returns Bd.notSynchronized rfl (Or.inl ⟨rfl, by simp, _, rfl⟩) (D 6 rfl) (by decide) (by decide) (by first | (rw [e0]; exact ⟨by rw [show min ja jb = ja by omega], N0, rfl⟩) | exact ⟨by rw [show min ja jb = ja by omega], N0, rfl⟩)
def Q_rmMN (Z : State) (xa xb : Int64) (h0 : Heap) (n0 : Nat) : Option Value → Heap → List Loc → Prop := fun v h L => v = some (.long (mnL xa xb)) ∧ Fr n0 L ∧ h = h0
set_option maxRecDepth 65536 in
set_option maxHeartbeats 40000000 in
theorem rmMN (l : Launch) (Z : State) (a0 : Array Value) (hw : HW a0 Z) (ws : List Jvm.Cond) (xa xb : Int64) (h0 : Heap) (n0 : Nat)  :
    CT l (⟨"java/lang/Math", "min", "(JJ)J"⟩ : MethodName) jdk_29_method_70_code 4 (some .long) ws (⟨0, 0, 0, 0⟩ : Jvm.Room) #[(.long xa), (.long xb)] Z h0 (Q_rmMN Z xa xb h0 n0) := by
  refine Go.start (Jvm.Free.JP.mathPlain rfl (by decide +kernel)) #[.val (.long xa), .second, .val (.long xb), .second] n0 (by first | (simp [argsToLocals, Value.category, maxLocals]; done) | rfl) ?_
  intro p e s m below meth c s₁ Bd hx hby hml hZ hown X0 e0 N0
  have D := @dB _ _ hby _ D7
  refine gl X0 hx (D 0 rfl) rfl ?_
  refine gl X0 hx (D 1 rfl) rfl ?_
  refine gq (XS.lcmp X0.here hx rfl (D 2 rfl) rfl) rfl ?_
  by_cases hc : xb < xa
  ·
    refine zY X0 hx 10 (D 3 rfl) ((if0 _ _).trans (tlt ((lw_gt _ _).2 hc : (0 : Int32) < (lcmpW xa xb))).2.2.1) (by decide) ?_
    refine gl X0 hx (D 6 rfl) rfl ?_
    exact Go.ret1 X0 hx Bd.returns Bd.notSynchronized rfl (Or.inr (Or.inl ⟨rfl, rfl, _, rfl⟩)) (D 7 rfl) (by decide) (by decide) (by first | (rw [e0]; exact ⟨by rw [show mnL xa xb = xb from if_pos hc], N0, rfl⟩) | exact ⟨by rw [show mnL xa xb = xb from if_pos hc], N0, rfl⟩)
  ·
    refine zN X0 hx (D 3 rfl) ((if0 _ _).trans (flt (fun q => hc ((lw_gt _ _).1 q) : ¬ ((0 : Int32) < (lcmpW xa xb)))).2.2.1) ?_
    refine gl X0 hx (D 4 rfl) rfl ?_
    refine gg X0 hx 11 (D 5 rfl) (by decide) ?_
    exact Go.ret1 X0 hx Bd.returns Bd.notSynchronized rfl (Or.inr (Or.inl ⟨rfl, rfl, _, rfl⟩)) (D 7 rfl) (by decide) (by decide) (by first | (rw [e0]; exact ⟨by rw [show mnL xa xb = xa from if_neg hc], N0, rfl⟩) | exact ⟨by rw [show mnL xa xb = xa from if_neg hc], N0, rfl⟩)
def Q_rmMX (Z : State) (xa xb : Int64) (h0 : Heap) (n0 : Nat) : Option Value → Heap → List Loc → Prop := fun v h L => v = some (.long (mxL xa xb)) ∧ Fr n0 L ∧ h = h0
set_option maxRecDepth 65536 in
set_option maxHeartbeats 40000000 in
theorem rmMX (l : Launch) (Z : State) (a0 : Array Value) (hw : HW a0 Z) (ws : List Jvm.Cond) (xa xb : Int64) (h0 : Heap) (n0 : Nat)  :
    CT l (⟨"java/lang/Math", "max", "(JJ)J"⟩ : MethodName) jdk_29_method_66_code 4 (some .long) ws (⟨0, 0, 0, 0⟩ : Jvm.Room) #[(.long xa), (.long xb)] Z h0 (Q_rmMX Z xa xb h0 n0) := by
  refine Go.start (Jvm.Free.JP.mathPlain rfl (by decide +kernel)) #[.val (.long xa), .second, .val (.long xb), .second] n0 (by first | (simp [argsToLocals, Value.category, maxLocals]; done) | rfl) ?_
  intro p e s m below meth c s₁ Bd hx hby hml hZ hown X0 e0 N0
  have D := @dB _ _ hby _ D8
  refine gl X0 hx (D 0 rfl) rfl ?_
  refine gl X0 hx (D 1 rfl) rfl ?_
  refine gq (XS.lcmp X0.here hx rfl (D 2 rfl) rfl) rfl ?_
  by_cases hc : xa < xb
  ·
    refine zY X0 hx 10 (D 3 rfl) ((if0 _ _).trans (tlt ((lw_lt _ _).2 hc : (lcmpW xa xb) < (0 : Int32))).1) (by decide) ?_
    refine gl X0 hx (D 6 rfl) rfl ?_
    exact Go.ret1 X0 hx Bd.returns Bd.notSynchronized rfl (Or.inr (Or.inl ⟨rfl, rfl, _, rfl⟩)) (D 7 rfl) (by decide) (by decide) (by first | (rw [e0]; exact ⟨by rw [show mxL xa xb = xb from if_pos hc], N0, rfl⟩) | exact ⟨by rw [show mxL xa xb = xb from if_pos hc], N0, rfl⟩)
  ·
    refine zN X0 hx (D 3 rfl) ((if0 _ _).trans (flt (fun q => hc ((lw_lt _ _).1 q) : ¬ ((lcmpW xa xb) < (0 : Int32)))).1) ?_
    refine gl X0 hx (D 4 rfl) rfl ?_
    refine gg X0 hx 11 (D 5 rfl) (by decide) ?_
    exact Go.ret1 X0 hx Bd.returns Bd.notSynchronized rfl (Or.inr (Or.inl ⟨rfl, rfl, _, rfl⟩)) (D 7 rfl) (by decide) (by decide) (by first | (rw [e0]; exact ⟨by rw [show mxL xa xb = xa from if_neg hc], N0, rfl⟩) | exact ⟨by rw [show mxL xa xb = xa from if_neg hc], N0, rfl⟩)
def Q_rmPK (Z : State) (b1 i1 : Int32) (h0 : Heap) (n0 : Nat) : Option Value → Heap → List Loc → Prop := fun v h L => ∃ y : Int64, v = some (.long y) ∧ Fr n0 L ∧ h = h0 ∧ BdI y
set_option maxRecDepth 65536 in
set_option maxHeartbeats 40000000 in
theorem rmPK (l : Launch) (Z : State) (a0 : Array Value) (hw : HW a0 Z) (ws : List Jvm.Cond) (b1 i1 : Int32) (h0 : Heap) (n0 : Nat)  :
    CT l (⟨"com/example/oneiros/oneiros/SlidingMedianGetPinLaw", "pick", "(ZI)J"⟩ : MethodName) method_3_code 2 (some .long) ws (⟨0, 0, 0, 0⟩ : Jvm.Room) #[(.int b1), (.int i1)] Z h0 (Q_rmPK Z b1 i1 h0 n0) := by
  refine Go.start (plainFor_of_name pn_0) #[vi b1, vi i1] n0 (by first | (simp [argsToLocals, Value.category, maxLocals]; done) | rfl) ?_
  intro p e s m below meth c s₁ Bd hx hby hml hZ hown X0 e0 N0
  have D := @dB _ _ hby _ D1
  refine gi X0 hx (D 0 rfl) rfl ?_
  by_cases hc : b1 = 0
  ·
    refine zY X0 hx 13 (D 1 rfl) ((if0 _ _).trans (teq hc).1) (by decide) ?_
    refine gi X0 hx (D 9 rfl) rfl ?_
    refine gq (XS.i2l X0.here hx rfl (D 10 rfl) rfl) rfl ?_
    exact Go.ret1 X0 hx Bd.returns Bd.notSynchronized rfl (Or.inr (Or.inl ⟨rfl, rfl, _, rfl⟩)) (D 11 rfl) (by decide) (by decide) (by first | (rw [e0]; exact ⟨_, rfl, N0, rfl, bd_i2l _⟩) | exact ⟨_, rfl, N0, rfl, bd_i2l _⟩)
  ·
    refine zN X0 hx (D 1 rfl) ((if0 _ _).trans (feq hc).1) ?_
    refine gi X0 hx (D 2 rfl) rfl ?_
    refine gk X0 hx 3 (D 3 rfl) rfl ?_
    refine gq (XS.iand X0.here hx rfl (D 4 rfl) rfl) rfl ?_
    refine gk X0 hx 1 (D 5 rfl) rfl ?_
    refine gq (XS.isub X0.here hx rfl (D 6 rfl) rfl) rfl ?_
    refine gq (XS.i2l X0.here hx rfl (D 7 rfl) rfl) rfl ?_
    refine gg X0 hx 15 (D 8 rfl) (by decide) ?_
    exact Go.ret1 X0 hx Bd.returns Bd.notSynchronized rfl (Or.inr (Or.inl ⟨rfl, rfl, _, rfl⟩)) (D 11 rfl) (by decide) (by decide) (by first | (rw [e0]; exact ⟨_, rfl, N0, rfl, bd_i2l _⟩) | exact ⟨_, rfl, N0, rfl, bd_i2l _⟩)
def Q_rmIN (Z : State) (m1 : Addr) (ca : Nat) (h0 : Heap) (n0 : Nat) : Option Value → Heap → List Loc → Prop := fun v h L => ∃ (aA aS : Addr) (cA cS : ClassId), v = none ∧ Fr n0 L ∧ Keep h0 h [m1] ∧ h0.size ≤ aA ∧ h0.size ≤ aS ∧ aA ≠ aS ∧ Fld Z h m1 "com/example/oneiros/oneiros/SlidingMedian" "arrived" "[D" (.ref aA) ∧ Fld Z h m1 "com/example/oneiros/oneiros/SlidingMedian" "sorted" "[D" (.ref aS) ∧ Fld Z h m1 "com/example/oneiros/oneiros/SlidingMedian" "held" "I" (.int 0) ∧ Fld Z h m1 "com/example/oneiros/oneiros/SlidingMedian" "next" "I" (.int 0) ∧ Arv Z h aA cA .double (Int32.ofNat ca) ((List.replicate ca (0 : Int64)).map Dv) (.double 0) ∧ Arv Z h aS cS .double (Int32.ofNat ca) ((List.replicate ca (0 : Int64)).map Dv) (.double 0)
set_option maxRecDepth 65536 in
set_option maxHeartbeats 40000000 in
theorem rmIN (l : Launch) (Z : State) (a0 : Array Value) (hw : HW a0 Z) (ws : List Jvm.Cond) (m1 : Addr) (ca : Nat) (h0 : Heap) (n0 : Nat) (Z0 : n0 ≤ h0.size) (E_m1 : Exa Z h0 m1 "com/example/oneiros/oneiros/SlidingMedian") (F_arrived_m1 : Fld Z h0 m1 "com/example/oneiros/oneiros/SlidingMedian" "arrived" "[D" .null) (F_sorted_m1 : Fld Z h0 m1 "com/example/oneiros/oneiros/SlidingMedian" "sorted" "[D" .null) (F_held_m1 : Fld Z h0 m1 "com/example/oneiros/oneiros/SlidingMedian" "held" "I" (.int 0)) (F_next_m1 : Fld Z h0 m1 "com/example/oneiros/oneiros/SlidingMedian" "next" "I" (.int 0)) (g_m1 : n0 ≤ m1) (hca : ca ≤ 4) :
    CT l (⟨"com/example/oneiros/oneiros/SlidingMedian", "<init>", "(I)V"⟩ : MethodName) prog_27_method_1_code 2 none ws (⟨1, 2, 8, 12⟩ : Jvm.Room) #[(.ref m1), (.int (Int32.ofNat ca))] Z h0 (Q_rmIN Z m1 ca h0 n0) := by
  refine Go.start (plainFor_of_name pn_1) #[vr m1, vi (Int32.ofNat ca)] n0 (by first | (simp [argsToLocals, Value.category, maxLocals]; done) | rfl) ?_
  intro p e s m below meth c s₁ Bd hx hby hml hZ hown X0 e0 N0
  have hnm := (name_of_methodNamed Bd.named Bd.method).1
  have D := @dB _ _ hby _ D2
  have K0 : Keep h0 h0 [m1] := Keep.refl _ _
  refine ga X0 hx (D 0 rfl) rfl rfl ?_
  obtain ⟨T101, X101, e101, st101⟩ := initO X0 hx hZ hown (wd hw 11 rfl) (wd hw 12 rfl) (wd hw 13 rfl) e0 (g := (mkF m 1 #[vr m1, vi (Int32.ofNat ca)] [(.ref m1)])) rfl (by rw [hml]; rfl) rfl (D 1 rfl) (by decide) (W := 0) (by show 2 * 0 + _ ≤ _; exact Nat.le_of_eq rfl) (by decide)
  refine Go.by (fun t => st101 t) ?_
  show Go p e below _ (T101.setTop (mkF m 4 #[vr m1, vi (Int32.ofNat ca)] []))
  refine ga X101 hx (D 2 rfl) rfl rfl ?_
  refine gi X101 hx (D 3 rfl) rfl ?_
  obtain ⟨T102, h102, k102, X102, e102, E102, A102, st102⟩ := newP X101 hx hZ (wd hw 14 rfl) e101 (g := (mkF m 6 #[vr m1, vi (Int32.ofNat ca)] [(.int (Int32.ofNat ca)), (.ref m1)])) rfl (D 4 rfl) rfl (o_nn (by omega)) (cap := 4) (by rw [o_nat (by omega)]; omega) (by decide) (by decide) (by decide)
  obtain ⟨aA, g102⟩ : ∃ z, z = h0.size := ⟨_, rfl⟩
  rw [← g102] at A102 st102
  refine Go.by (fun t => st102 t) ?_
  have g_aA : n0 ≤ aA := Nat.le_trans Z0 (Nat.le_of_eq g102.symm)
  have sz_aA : h0.size ≤ aA := Nat.le_trans K0.1 (Nat.le_of_eq g102.symm)
  have ne_m1_aA : m1 ≠ aA := Nat.ne_of_lt (Nat.lt_of_lt_of_le E_m1.lt (Nat.le_of_eq g102.symm))
  replace E_m1 := E_m1.ext E102
  replace F_arrived_m1 := F_arrived_m1.ext E102
  replace F_sorted_m1 := F_sorted_m1.ext E102
  replace F_held_m1 := F_held_m1.ext E102
  replace F_next_m1 := F_next_m1.ext E102
  replace Z0 := Nat.le_trans Z0 E102.1
  replace K0 := K0.ext E102
  have V_aA := Arv.new A102 (o_nn (by omega))
  replace X102 := Stand.num (C := 1) (S := 4) X102 rfl rfl
  show Go p e below _ (T102.setTop (mkF m 8 #[vr m1, vi (Int32.ofNat ca)] [(.ref aA), (.ref m1)]))
  replace V_aA : Arv Z h102 aA k102 .double (Int32.ofNat ca) ((List.replicate ca (0 : Int64)).map Dv) (.double 0) := by rw [List.map_replicate, show Dv 0 = .double 0 from congrArg Value.double l2d_zero]; exact V_aA.pad (pad_rep [] _ ca)
  obtain ⟨T103, h103, X103, e103, W103, st103⟩ := putF X102 hx hZ hown (host := "") (Or.inl (wd hw 15 rfl)) Via.refl e102 F_arrived_m1 E_m1 (Or.inr ⟨(wd hw 16 rfl), rfl, hnm⟩) (wd hw 6 rfl) (ty := (.array .double)) (by decide) rfl rfl (g := (mkF m 8 #[vr m1, vi (Int32.ofNat ca)] [(.ref aA), (.ref m1)])) rfl rfl (D 5 rfl)
  refine Go.by (fun t => st103 t) ?_
  replace F_arrived_m1 := F_arrived_m1.same W103
  replace E_m1 := E_m1.wr W103
  replace F_sorted_m1 := F_sorted_m1.other W103 (Or.inr (slot_ne (Or.inr (wd hw 18 rfl)) (Or.inr (wd hw 16 rfl)) (by decide) (t := (.array .double)) (t' := (.array .double)) (by decide) (by decide)))
  replace F_held_m1 := F_held_m1.other W103 (Or.inr (slot_ne (Or.inl (wd hw 25 rfl)) (Or.inr (wd hw 16 rfl)) (by decide) (t := .int) (t' := (.array .double)) (by decide) (by decide)))
  replace F_next_m1 := F_next_m1.other W103 (Or.inr (slot_ne (Or.inl (wd hw 36 rfl)) (Or.inr (wd hw 16 rfl)) (by decide) (t := .int) (t' := (.array .double)) (by decide) (by decide)))
  replace V_aA := V_aA.other W103 (Ne.symm ne_m1_aA)
  replace Z0 := Nat.le_trans Z0 (Keep.of_wr W103).1
  replace K0 := K0.wr W103 (Or.inl (List.mem_of_getElem? (i := 0) rfl))
  have N103 := Fr.snoc X103 N0 g_m1
  show Go p e below _ (T103.setTop (mkF m 11 #[vr m1, vi (Int32.ofNat ca)] []))
  refine ga X103 hx (D 6 rfl) rfl rfl ?_
  refine gi X103 hx (D 7 rfl) rfl ?_
  obtain ⟨T104, h104, k104, X104, e104, E104, A104, st104⟩ := newP X103 hx hZ (wd hw 14 rfl) e103 (g := (mkF m 13 #[vr m1, vi (Int32.ofNat ca)] [(.int (Int32.ofNat ca)), (.ref m1)])) rfl (D 8 rfl) rfl (o_nn (by omega)) (cap := 4) (by rw [o_nat (by omega)]; omega) (by decide) (by decide) (by decide)
  obtain ⟨aS, g104⟩ : ∃ z, z = h103.size := ⟨_, rfl⟩
  rw [← g104] at A104 st104
  refine Go.by (fun t => st104 t) ?_
  have g_aS : n0 ≤ aS := Nat.le_trans Z0 (Nat.le_of_eq g104.symm)
  have sz_aS : h0.size ≤ aS := Nat.le_trans K0.1 (Nat.le_of_eq g104.symm)
  have ne_aA_aS : aA ≠ aS := Nat.ne_of_lt (Nat.lt_of_lt_of_le V_aA.lt (Nat.le_of_eq g104.symm))
  have ne_m1_aS : m1 ≠ aS := Nat.ne_of_lt (Nat.lt_of_lt_of_le E_m1.lt (Nat.le_of_eq g104.symm))
  replace E_m1 := E_m1.ext E104
  replace F_arrived_m1 := F_arrived_m1.ext E104
  replace F_sorted_m1 := F_sorted_m1.ext E104
  replace F_held_m1 := F_held_m1.ext E104
  replace F_next_m1 := F_next_m1.ext E104
  replace V_aA := V_aA.ext E104
  replace Z0 := Nat.le_trans Z0 E104.1
  replace K0 := K0.ext E104
  have V_aS := Arv.new A104 (o_nn (by omega))
  replace X104 := Stand.num (C := 2) (S := 8) X104 rfl rfl
  show Go p e below _ (T104.setTop (mkF m 15 #[vr m1, vi (Int32.ofNat ca)] [(.ref aS), (.ref m1)]))
  replace V_aS : Arv Z h104 aS k104 .double (Int32.ofNat ca) ((List.replicate ca (0 : Int64)).map Dv) (.double 0) := by rw [List.map_replicate, show Dv 0 = .double 0 from congrArg Value.double l2d_zero]; exact V_aS.pad (pad_rep [] _ ca)
  obtain ⟨T105, h105, X105, e105, W105, st105⟩ := putF X104 hx hZ hown (host := "") (Or.inl (wd hw 17 rfl)) Via.refl e104 F_sorted_m1 E_m1 (Or.inr ⟨(wd hw 18 rfl), rfl, hnm⟩) (wd hw 6 rfl) (ty := (.array .double)) (by decide) rfl rfl (g := (mkF m 15 #[vr m1, vi (Int32.ofNat ca)] [(.ref aS), (.ref m1)])) rfl rfl (D 9 rfl)
  refine Go.by (fun t => st105 t) ?_
  replace F_sorted_m1 := F_sorted_m1.same W105
  replace E_m1 := E_m1.wr W105
  replace F_arrived_m1 := F_arrived_m1.other W105 (Or.inr (slot_ne (Or.inr (wd hw 16 rfl)) (Or.inr (wd hw 18 rfl)) (by decide) (t := (.array .double)) (t' := (.array .double)) (by decide) (by decide)))
  replace F_held_m1 := F_held_m1.other W105 (Or.inr (slot_ne (Or.inl (wd hw 25 rfl)) (Or.inr (wd hw 18 rfl)) (by decide) (t := .int) (t' := (.array .double)) (by decide) (by decide)))
  replace F_next_m1 := F_next_m1.other W105 (Or.inr (slot_ne (Or.inl (wd hw 36 rfl)) (Or.inr (wd hw 18 rfl)) (by decide) (t := .int) (t' := (.array .double)) (by decide) (by decide)))
  replace V_aA := V_aA.other W105 (Ne.symm ne_m1_aA)
  replace V_aS := V_aS.other W105 (Ne.symm ne_m1_aS)
  replace Z0 := Nat.le_trans Z0 (Keep.of_wr W105).1
  replace K0 := K0.wr W105 (Or.inl (List.mem_of_getElem? (i := 0) rfl))
  have N105 := Fr.snoc X105 N103 g_m1
  show Go p e below _ (T105.setTop (mkF m 18 #[vr m1, vi (Int32.ofNat ca)] []))
  exact Go.ret0 X105 hx Bd.returns Bd.notSynchronized (D 10 rfl) (by decide) (by decide) (by first | (rw [e105]; exact ⟨aA, aS, _, _, rfl, N105, K0, sz_aA, sz_aS, ne_aA_aS, F_arrived_m1, F_sorted_m1, F_held_m1, F_next_m1, V_aA, V_aS⟩) | exact ⟨aA, aS, _, _, rfl, N105, K0, sz_aA, sz_aS, ne_aA_aS, F_arrived_m1, F_sorted_m1, F_held_m1, F_next_m1, V_aA, V_aS⟩)
def Q_rmGT (Z : State) (m1 aS : Addr) (cS : ClassId) (ca k : Nat) (xs : List Int64) (g1 : UInt64) (h0 : Heap) (n0 : Nat) : Option Value → Heap → List Loc → Prop := fun v h L => v = some (.double g1) ∧ Fr n0 L ∧ h = h0
set_option maxRecDepth 65536 in
set_option maxHeartbeats 40000000 in
theorem rmGT (l : Launch) (Z : State) (a0 : Array Value) (hw : HW a0 Z) (ws : List Jvm.Cond) (m1 aS : Addr) (cS : ClassId) (ca k : Nat) (xs : List Int64) (g1 : UInt64) (h0 : Heap) (n0 : Nat) (F_sorted_m1 : Fld Z h0 m1 "com/example/oneiros/oneiros/SlidingMedian" "sorted" "[D" (.ref aS)) (F_held_m1 : Fld Z h0 m1 "com/example/oneiros/oneiros/SlidingMedian" "held" "I" (.int (Int32.ofNat k))) (V_aS : Arv Z h0 aS cS .double (Int32.ofNat ca) (xs.map Dv) (.double 0)) (hm : (k = 0 ∧ g1 = FP.dconst0) ∨ (k = 1 ∧ 1 ≤ ca ∧ xs.length = ca ∧ ∃ a, xs[0]? = some a ∧ g1 = FP.l2d a) ∨ (k = 2 ∧ 2 ≤ ca ∧ xs.length = ca ∧ ∃ a b, xs[0]? = some a ∧ xs[1]? = some b ∧ BdI a ∧ BdI b ∧ g1 = FP.ddiv (FP.l2d (a + b)) 4611686018427387904) ∨ (k = 3 ∧ 3 ≤ ca ∧ xs.length = ca ∧ ∃ a, xs[1]? = some a ∧ g1 = FP.l2d a) ∨ (k = 4 ∧ 4 ≤ ca ∧ xs.length = ca ∧ ∃ a b, xs[1]? = some a ∧ xs[2]? = some b ∧ BdI a ∧ BdI b ∧ g1 = FP.ddiv (FP.l2d (a + b)) 4611686018427387904)) (hca : ca ≤ 4) :
    CT l (⟨"com/example/oneiros/oneiros/SlidingMedian", "get", "()D"⟩ : MethodName) prog_27_method_2_code 3 (some .double) ws (⟨0, 0, 0, 0⟩ : Jvm.Room) #[(.ref m1)] Z h0 (Q_rmGT Z m1 aS cS ca k xs g1 h0 n0) := by
  refine Go.start (plainFor_of_name pn_1) #[vr m1, uu, uu] n0 (by first | (simp [argsToLocals, Value.category, maxLocals]; done) | rfl) ?_
  intro p e s m below meth c s₁ Bd hx hby hml hZ hown X0 e0 N0
  have D := @dB _ _ hby _ D4
  rcases hm with ⟨rfl, rfl⟩ | ⟨rfl, hk, hl, a, ha, rfl⟩ | ⟨rfl, hk, hl, a, b, ha, hb, qa, qb, rfl⟩ | ⟨rfl, hk, hl, a, ha, rfl⟩ | ⟨rfl, hk, hl, a, b, ha, hb, qa, qb, rfl⟩
  ·
    refine Go.by (fun t => XS.dconst0 X0.here hx rfl (D 0 rfl) rfl) ?_
    show Go p e below _ (s₁.setTop (mkF m 1 #[vr m1, uu, uu] [(.double FP.dconst0)]))
    refine ge X0 hx #[vr m1, .val (.double FP.dconst0), .second] (D 1 rfl) rfl ?_
    refine ga X0 hx (D 2 rfl) rfl rfl ?_
    refine gF X0 hx hZ hown (wd hw 24 rfl) Via.refl e0 F_held_m1 (D 3 rfl) fun T106 X106 e106 => ?_
    refine gk X106 hx 2 (D 4 rfl) rfl ?_
    refine gq (iremM X106 hx rfl (D 5 rfl) rfl (by first | assumption | decide)) rfl ?_
    refine gk X106 hx 1 (D 6 rfl) rfl ?_
    refine cY X106 hx 27 (D 7 rfl) (feq (by decide : ¬ (((Int32.ofNat 0) % (2 : Int32)) = (1 : Int32)))).2 (by decide) ?_
    refine ga X106 hx (D 17 rfl) rfl rfl ?_
    refine gF X106 hx hZ hown (wd hw 24 rfl) Via.refl e106 F_held_m1 (D 18 rfl) fun T107 X107 e107 => ?_
    refine zY X107 hx 64 (D 19 rfl) ((if0 _ _).trans (flt (by decide : ¬ ((0 : Int32) < (Int32.ofNat 0)))).2.2.2) (by decide) ?_
    refine gd X107 hx (D 40 rfl) rfl ?_
    exact Go.ret1 X107 hx Bd.returns Bd.notSynchronized rfl (Or.inr (Or.inr (Or.inl ⟨rfl, rfl, _, rfl⟩))) (D 41 rfl) (by decide) (by decide) (by first | (rw [e107]; exact ⟨rfl, N0, rfl⟩) | exact ⟨rfl, N0, rfl⟩)
  ·
    refine Go.by (fun t => XS.dconst0 X0.here hx rfl (D 0 rfl) rfl) ?_
    show Go p e below _ (s₁.setTop (mkF m 1 #[vr m1, uu, uu] [(.double FP.dconst0)]))
    refine ge X0 hx #[vr m1, .val (.double FP.dconst0), .second] (D 1 rfl) rfl ?_
    refine ga X0 hx (D 2 rfl) rfl rfl ?_
    refine gF X0 hx hZ hown (wd hw 24 rfl) Via.refl e0 F_held_m1 (D 3 rfl) fun T108 X108 e108 => ?_
    refine gk X108 hx 2 (D 4 rfl) rfl ?_
    refine gq (iremM X108 hx rfl (D 5 rfl) rfl (by first | assumption | decide)) rfl ?_
    refine gk X108 hx 1 (D 6 rfl) rfl ?_
    refine cN X108 hx (D 7 rfl) (teq (rfl : ((Int32.ofNat 1) % (2 : Int32)) = (1 : Int32))).2 ?_
    refine ga X108 hx (D 8 rfl) rfl rfl ?_
    refine gF X108 hx hZ hown (wd hw 17 rfl) Via.refl e108 F_sorted_m1 (D 9 rfl) fun T109 X109 e109 => ?_
    refine ga X109 hx (D 10 rfl) rfl rfl ?_
    refine gF X109 hx hZ hown (wd hw 24 rfl) Via.refl e109 F_held_m1 (D 11 rfl) fun T110 X110 e110 => ?_
    refine gk X110 hx 2 (D 12 rfl) rfl ?_
    refine gq (XS.idiv X110.here hx rfl (D 13 rfl) rfl (by first | assumption | decide)) rfl ?_
    show Go p e below _ (T110.setTop (mkF m 22 #[vr m1, .val (.double FP.dconst0), .second] [(.int ((Int32.ofNat 1) / (2 : Int32))), (.ref aS)]))
    rw [show ((Int32.ofNat 1) / (2 : Int32)) = Int32.ofNat 0 from rfl]
    refine gDA X110 hx hZ e110 V_aS (o_in (a := 0) (by omega) (by omega)) (.double (FP.l2d a)) (dv_get ha) (D 14 rfl) ?_
    refine ge X110 hx #[vr m1, .val (.double (FP.l2d a)), .second] (D 15 rfl) rfl ?_
    refine gg X110 hx 64 (D 16 rfl) (by decide) ?_
    refine gd X110 hx (D 40 rfl) rfl ?_
    exact Go.ret1 X110 hx Bd.returns Bd.notSynchronized rfl (Or.inr (Or.inr (Or.inl ⟨rfl, rfl, _, rfl⟩))) (D 41 rfl) (by decide) (by decide) (by first | (rw [e110]; exact ⟨rfl, N0, rfl⟩) | exact ⟨rfl, N0, rfl⟩)
  ·
    refine Go.by (fun t => XS.dconst0 X0.here hx rfl (D 0 rfl) rfl) ?_
    show Go p e below _ (s₁.setTop (mkF m 1 #[vr m1, uu, uu] [(.double FP.dconst0)]))
    refine ge X0 hx #[vr m1, .val (.double FP.dconst0), .second] (D 1 rfl) rfl ?_
    refine ga X0 hx (D 2 rfl) rfl rfl ?_
    refine gF X0 hx hZ hown (wd hw 24 rfl) Via.refl e0 F_held_m1 (D 3 rfl) fun T112 X112 e112 => ?_
    refine gk X112 hx 2 (D 4 rfl) rfl ?_
    refine gq (iremM X112 hx rfl (D 5 rfl) rfl (by first | assumption | decide)) rfl ?_
    refine gk X112 hx 1 (D 6 rfl) rfl ?_
    refine cY X112 hx 27 (D 7 rfl) (feq (by decide : ¬ (((Int32.ofNat 2) % (2 : Int32)) = (1 : Int32)))).2 (by decide) ?_
    refine ga X112 hx (D 17 rfl) rfl rfl ?_
    refine gF X112 hx hZ hown (wd hw 24 rfl) Via.refl e112 F_held_m1 (D 18 rfl) fun T113 X113 e113 => ?_
    refine zN X113 hx (D 19 rfl) ((if0 _ _).trans (tlt (by decide : (0 : Int32) < (Int32.ofNat 2))).2.2.2) ?_
    refine ga X113 hx (D 20 rfl) rfl rfl ?_
    refine gF X113 hx hZ hown (wd hw 17 rfl) Via.refl e113 F_sorted_m1 (D 21 rfl) fun T114 X114 e114 => ?_
    refine ga X114 hx (D 22 rfl) rfl rfl ?_
    refine gF X114 hx hZ hown (wd hw 24 rfl) Via.refl e114 F_held_m1 (D 23 rfl) fun T115 X115 e115 => ?_
    refine gk X115 hx 2 (D 24 rfl) rfl ?_
    refine gq (XS.idiv X115.here hx rfl (D 25 rfl) rfl (by first | assumption | decide)) rfl ?_
    refine gk X115 hx 1 (D 26 rfl) rfl ?_
    refine gq (XS.isub X115.here hx rfl (D 27 rfl) rfl) rfl ?_
    show Go p e below _ (T115.setTop (mkF m 46 #[vr m1, .val (.double FP.dconst0), .second] [(.int (((Int32.ofNat 2) / (2 : Int32)) - (1 : Int32))), (.ref aS)]))
    rw [show (((Int32.ofNat 2) / (2 : Int32)) - (1 : Int32)) = Int32.ofNat 0 from rfl]
    refine gDA X115 hx hZ e115 V_aS (o_in (a := 0) (by omega) (by omega)) (.double (FP.l2d a)) (dv_get ha) (D 28 rfl) ?_
    refine ga X115 hx (D 29 rfl) rfl rfl ?_
    refine gF X115 hx hZ hown (wd hw 17 rfl) Via.refl e115 F_sorted_m1 (D 30 rfl) fun T117 X117 e117 => ?_
    refine ga X117 hx (D 31 rfl) rfl rfl ?_
    refine gF X117 hx hZ hown (wd hw 24 rfl) Via.refl e117 F_held_m1 (D 32 rfl) fun T118 X118 e118 => ?_
    refine gk X118 hx 2 (D 33 rfl) rfl ?_
    refine gq (XS.idiv X118.here hx rfl (D 34 rfl) rfl (by first | assumption | decide)) rfl ?_
    show Go p e below _ (T118.setTop (mkF m 57 #[vr m1, .val (.double FP.dconst0), .second] [(.int ((Int32.ofNat 2) / (2 : Int32))), (.ref aS), (.double (FP.l2d a))]))
    rw [show ((Int32.ofNat 2) / (2 : Int32)) = Int32.ofNat 1 from rfl]
    refine gDA X118 hx hZ e118 V_aS (o_in (a := 1) (by omega) (by omega)) (.double (FP.l2d b)) (dv_get hb) (D 35 rfl) ?_
    refine gq (XS.daddS X118.here hx rfl (D 36 rfl) rfl (nn_w (add_dv qa qb)) (show FP.dadd (FP.l2d a) (FP.l2d b) = (FP.l2d (a + b)) from add_dv qa qb)) rfl ?_
    refine Go.by (fun t => X118.ldc2DoubleC hx hown (mvT hZ (wd hw 41 rfl)) (g := (mkF m 59 #[vr m1, .val (.double FP.dconst0), .second] [(.double (FP.l2d (a + b)))])) rfl (D 37 rfl) t) ?_
    show Go p e below _ (T118.setTop (mkF m 62 #[vr m1, .val (.double FP.dconst0), .second] [(.double (4611686018427387904 : UInt64)), (.double (FP.l2d (a + b)))]))
    refine gq (XS.ddivS X118.here hx rfl (D 38 rfl) rfl nn_div rfl) rfl ?_
    refine ge X118 hx #[vr m1, .val (.double (FP.ddiv (FP.l2d (a + b)) (4611686018427387904 : UInt64))), .second] (D 39 rfl) rfl ?_
    refine gd X118 hx (D 40 rfl) rfl ?_
    exact Go.ret1 X118 hx Bd.returns Bd.notSynchronized rfl (Or.inr (Or.inr (Or.inl ⟨rfl, rfl, _, rfl⟩))) (D 41 rfl) (by decide) (by decide) (by first | (rw [e118]; exact ⟨rfl, N0, rfl⟩) | exact ⟨rfl, N0, rfl⟩)
  ·
    refine Go.by (fun t => XS.dconst0 X0.here hx rfl (D 0 rfl) rfl) ?_
    show Go p e below _ (s₁.setTop (mkF m 1 #[vr m1, uu, uu] [(.double FP.dconst0)]))
    refine ge X0 hx #[vr m1, .val (.double FP.dconst0), .second] (D 1 rfl) rfl ?_
    refine ga X0 hx (D 2 rfl) rfl rfl ?_
    refine gF X0 hx hZ hown (wd hw 24 rfl) Via.refl e0 F_held_m1 (D 3 rfl) fun T120 X120 e120 => ?_
    refine gk X120 hx 2 (D 4 rfl) rfl ?_
    refine gq (iremM X120 hx rfl (D 5 rfl) rfl (by first | assumption | decide)) rfl ?_
    refine gk X120 hx 1 (D 6 rfl) rfl ?_
    refine cN X120 hx (D 7 rfl) (teq (rfl : ((Int32.ofNat 3) % (2 : Int32)) = (1 : Int32))).2 ?_
    refine ga X120 hx (D 8 rfl) rfl rfl ?_
    refine gF X120 hx hZ hown (wd hw 17 rfl) Via.refl e120 F_sorted_m1 (D 9 rfl) fun T121 X121 e121 => ?_
    refine ga X121 hx (D 10 rfl) rfl rfl ?_
    refine gF X121 hx hZ hown (wd hw 24 rfl) Via.refl e121 F_held_m1 (D 11 rfl) fun T122 X122 e122 => ?_
    refine gk X122 hx 2 (D 12 rfl) rfl ?_
    refine gq (XS.idiv X122.here hx rfl (D 13 rfl) rfl (by first | assumption | decide)) rfl ?_
    show Go p e below _ (T122.setTop (mkF m 22 #[vr m1, .val (.double FP.dconst0), .second] [(.int ((Int32.ofNat 3) / (2 : Int32))), (.ref aS)]))
    rw [show ((Int32.ofNat 3) / (2 : Int32)) = Int32.ofNat 1 from rfl]
    refine gDA X122 hx hZ e122 V_aS (o_in (a := 1) (by omega) (by omega)) (.double (FP.l2d a)) (dv_get ha) (D 14 rfl) ?_
    refine ge X122 hx #[vr m1, .val (.double (FP.l2d a)), .second] (D 15 rfl) rfl ?_
    refine gg X122 hx 64 (D 16 rfl) (by decide) ?_
    refine gd X122 hx (D 40 rfl) rfl ?_
    exact Go.ret1 X122 hx Bd.returns Bd.notSynchronized rfl (Or.inr (Or.inr (Or.inl ⟨rfl, rfl, _, rfl⟩))) (D 41 rfl) (by decide) (by decide) (by first | (rw [e122]; exact ⟨rfl, N0, rfl⟩) | exact ⟨rfl, N0, rfl⟩)
  ·
    refine Go.by (fun t => XS.dconst0 X0.here hx rfl (D 0 rfl) rfl) ?_
    show Go p e below _ (s₁.setTop (mkF m 1 #[vr m1, uu, uu] [(.double FP.dconst0)]))
    refine ge X0 hx #[vr m1, .val (.double FP.dconst0), .second] (D 1 rfl) rfl ?_
    refine ga X0 hx (D 2 rfl) rfl rfl ?_
    refine gF X0 hx hZ hown (wd hw 24 rfl) Via.refl e0 F_held_m1 (D 3 rfl) fun T124 X124 e124 => ?_
    refine gk X124 hx 2 (D 4 rfl) rfl ?_
    refine gq (iremM X124 hx rfl (D 5 rfl) rfl (by first | assumption | decide)) rfl ?_
    refine gk X124 hx 1 (D 6 rfl) rfl ?_
    refine cY X124 hx 27 (D 7 rfl) (feq (by decide : ¬ (((Int32.ofNat 4) % (2 : Int32)) = (1 : Int32)))).2 (by decide) ?_
    refine ga X124 hx (D 17 rfl) rfl rfl ?_
    refine gF X124 hx hZ hown (wd hw 24 rfl) Via.refl e124 F_held_m1 (D 18 rfl) fun T125 X125 e125 => ?_
    refine zN X125 hx (D 19 rfl) ((if0 _ _).trans (tlt (by decide : (0 : Int32) < (Int32.ofNat 4))).2.2.2) ?_
    refine ga X125 hx (D 20 rfl) rfl rfl ?_
    refine gF X125 hx hZ hown (wd hw 17 rfl) Via.refl e125 F_sorted_m1 (D 21 rfl) fun T126 X126 e126 => ?_
    refine ga X126 hx (D 22 rfl) rfl rfl ?_
    refine gF X126 hx hZ hown (wd hw 24 rfl) Via.refl e126 F_held_m1 (D 23 rfl) fun T127 X127 e127 => ?_
    refine gk X127 hx 2 (D 24 rfl) rfl ?_
    refine gq (XS.idiv X127.here hx rfl (D 25 rfl) rfl (by first | assumption | decide)) rfl ?_
    refine gk X127 hx 1 (D 26 rfl) rfl ?_
    refine gq (XS.isub X127.here hx rfl (D 27 rfl) rfl) rfl ?_
    show Go p e below _ (T127.setTop (mkF m 46 #[vr m1, .val (.double FP.dconst0), .second] [(.int (((Int32.ofNat 4) / (2 : Int32)) - (1 : Int32))), (.ref aS)]))
    rw [show (((Int32.ofNat 4) / (2 : Int32)) - (1 : Int32)) = Int32.ofNat 1 from rfl]
    refine gDA X127 hx hZ e127 V_aS (o_in (a := 1) (by omega) (by omega)) (.double (FP.l2d a)) (dv_get ha) (D 28 rfl) ?_
    refine ga X127 hx (D 29 rfl) rfl rfl ?_
    refine gF X127 hx hZ hown (wd hw 17 rfl) Via.refl e127 F_sorted_m1 (D 30 rfl) fun T129 X129 e129 => ?_
    refine ga X129 hx (D 31 rfl) rfl rfl ?_
    refine gF X129 hx hZ hown (wd hw 24 rfl) Via.refl e129 F_held_m1 (D 32 rfl) fun T130 X130 e130 => ?_
    refine gk X130 hx 2 (D 33 rfl) rfl ?_
    refine gq (XS.idiv X130.here hx rfl (D 34 rfl) rfl (by first | assumption | decide)) rfl ?_
    show Go p e below _ (T130.setTop (mkF m 57 #[vr m1, .val (.double FP.dconst0), .second] [(.int ((Int32.ofNat 4) / (2 : Int32))), (.ref aS), (.double (FP.l2d a))]))
    rw [show ((Int32.ofNat 4) / (2 : Int32)) = Int32.ofNat 2 from rfl]
    refine gDA X130 hx hZ e130 V_aS (o_in (a := 2) (by omega) (by omega)) (.double (FP.l2d b)) (dv_get hb) (D 35 rfl) ?_
    refine gq (XS.daddS X130.here hx rfl (D 36 rfl) rfl (nn_w (add_dv qa qb)) (show FP.dadd (FP.l2d a) (FP.l2d b) = (FP.l2d (a + b)) from add_dv qa qb)) rfl ?_
    refine Go.by (fun t => X130.ldc2DoubleC hx hown (mvT hZ (wd hw 41 rfl)) (g := (mkF m 59 #[vr m1, .val (.double FP.dconst0), .second] [(.double (FP.l2d (a + b)))])) rfl (D 37 rfl) t) ?_
    show Go p e below _ (T130.setTop (mkF m 62 #[vr m1, .val (.double FP.dconst0), .second] [(.double (4611686018427387904 : UInt64)), (.double (FP.l2d (a + b)))]))
    refine gq (XS.ddivS X130.here hx rfl (D 38 rfl) rfl nn_div rfl) rfl ?_
    refine ge X130 hx #[vr m1, .val (.double (FP.ddiv (FP.l2d (a + b)) (4611686018427387904 : UInt64))), .second] (D 39 rfl) rfl ?_
    refine gd X130 hx (D 40 rfl) rfl ?_
    exact Go.ret1 X130 hx Bd.returns Bd.notSynchronized rfl (Or.inr (Or.inr (Or.inl ⟨rfl, rfl, _, rfl⟩))) (D 41 rfl) (by decide) (by decide) (by first | (rw [e130]; exact ⟨rfl, N0, rfl⟩) | exact ⟨rfl, N0, rfl⟩)
def Q_rmAN (Z : State) (m1 aA aS : Addr) (cA cS : ClassId) (ca nx : Nat) (ar xs : List Int64) (x : Int64) (n2 : Int32) (y0 : Int64) (ys0 : List Int64) (h0 : Heap) (n0 : Nat) : Option Value → Heap → List Loc → Prop := fun v h L => ∃ xs' ys zs : List Int64, v = none ∧ Fr n0 L ∧ Keep h0 h [m1, aA, aS] ∧ Fld Z h m1 "com/example/oneiros/oneiros/SlidingMedian" "arrived" "[D" (.ref aA) ∧ Fld Z h m1 "com/example/oneiros/oneiros/SlidingMedian" "sorted" "[D" (.ref aS) ∧ Fld Z h m1 "com/example/oneiros/oneiros/SlidingMedian" "held" "I" (.int (Int32.ofNat (xs.length + 1))) ∧ Fld Z h m1 "com/example/oneiros/oneiros/SlidingMedian" "next" "I" (.int n2) ∧ Arv Z h aA cA .double (Int32.ofNat ca) ((ar.set nx x).map Dv) (.double 0) ∧ Arv Z h aS cS .double (Int32.ofNat ca) ((xs' ++ ys).map Dv) (.double 0) ∧ xs'.Perm (x :: zs) ∧ Srt xs' ∧ xs'.length + ys.length = ca ∧ zs = xs ∧ xs'.length = xs.length + 1
set_option maxRecDepth 65536 in
set_option maxHeartbeats 40000000 in
theorem rmAN (l : Launch) (Z : State) (a0 : Array Value) (hw : HW a0 Z) (ws : List Jvm.Cond) (m1 aA aS : Addr) (cA cS : ClassId) (ca nx : Nat) (ar xs : List Int64) (x : Int64) (n2 : Int32) (y0 : Int64) (ys0 : List Int64) (h0 : Heap) (n0 : Nat) (E_m1 : Exa Z h0 m1 "com/example/oneiros/oneiros/SlidingMedian") (F_arrived_m1 : Fld Z h0 m1 "com/example/oneiros/oneiros/SlidingMedian" "arrived" "[D" (.ref aA)) (F_sorted_m1 : Fld Z h0 m1 "com/example/oneiros/oneiros/SlidingMedian" "sorted" "[D" (.ref aS)) (F_held_m1 : Fld Z h0 m1 "com/example/oneiros/oneiros/SlidingMedian" "held" "I" (.int (Int32.ofNat xs.length))) (F_next_m1 : Fld Z h0 m1 "com/example/oneiros/oneiros/SlidingMedian" "next" "I" (.int (Int32.ofNat nx))) (V_aA : Arv Z h0 aA cA .double (Int32.ofNat ca) (ar.map Dv) (.double 0)) (V_aS : Arv Z h0 aS cS .double (Int32.ofNat ca) ((xs ++ y0 :: ys0).map Dv) (.double 0)) (ne_aA_aS : aA ≠ aS) (g_m1 : n0 ≤ m1) (g_aA : n0 ≤ aA) (g_aS : n0 ≤ aS) (hca : ca ≤ 4) (hal : ar.length = ca) (hnx : nx < ca) (hn2 : (Int32.ofNat nx + (1 : Int32)) % Int32.ofNat ca = n2) (bx : BdI x) (bxs : ∀ z ∈ xs, BdI z) (so : Srt xs) (hxl : xs.length + 1 + ys0.length = ca) :
    CT l (⟨"com/example/oneiros/oneiros/SlidingMedian", "add", "(D)V"⟩ : MethodName) prog_27_method_3_code 5 none ws (⟨0, 0, 0, 0⟩ : Jvm.Room) #[(.ref m1), (.double (FP.l2d x))] Z h0 (Q_rmAN Z m1 aA aS cA cS ca nx ar xs x n2 y0 ys0 h0 n0) := by
  refine Go.start (plainFor_of_name pn_1) #[vr m1, .val (.double (FP.l2d x)), .second, uu, uu] n0 (by first | (simp [argsToLocals, Value.category, maxLocals]; done) | rfl) ?_
  intro p e s m below meth c s₁ Bd hx hby hml hZ hown X0 e0 N0
  have D := @dB _ _ hby _ D6
  have K0 : Keep h0 h0 [m1, aA, aS] := Keep.refl _ _
  have hc0 : Int32.ofNat ca ≠ 0 := fun q => o_ne (a := 0) (b := ca) (by omega) (by omega) q.symm
  have hc1 : ¬ Int32.ofNat ca = 0 := hc0
  refine ga X0 hx (D 0 rfl) rfl rfl ?_
  refine gF X0 hx hZ hown (wd hw 24 rfl) Via.refl e0 F_held_m1 (D 1 rfl) fun T132 X132 e132 => ?_
  refine gt X132 hx #[vr m1, .val (.double (FP.l2d x)), .second, vi (Int32.ofNat xs.length), uu] (D 2 rfl) rfl ?_
  refine gi X132 hx (D 3 rfl) rfl ?_
  refine ga X132 hx (D 4 rfl) rfl rfl ?_
  refine gF X132 hx hZ hown (wd hw 15 rfl) Via.refl e132 F_arrived_m1 (D 5 rfl) fun T133 X133 e133 => ?_
  refine gN X133 hx hZ e133 V_aA (D 6 rfl) ?_
  refine cY X133 hx 69 (D 7 rfl) (feq (o_ne (by omega) (by omega) : ¬ ((Int32.ofNat xs.length) = (Int32.ofNat ca)))).2 (by decide) ?_
  obtain ⟨ct, hct⟩ : ∃ z, z = xs.length := ⟨_, rfl⟩
  obtain ⟨zs, hzs⟩ : ∃ z, z = xs := ⟨_, rfl⟩
  show Go p e below _ (T133.setTop (mkF m 69 #[vr m1, .val (.double (FP.l2d x)), .second, vi (Int32.ofNat xs.length), uu] []))
  rw [show Int32.ofNat xs.length = Int32.ofNat ct from by rw [hct]] at F_held_m1 ⊢
  rw [show Int32.ofNat ct = Int32.ofNat xs.length from by rw [hct]] at F_held_m1
  have tailE : ∀ (as bs ys : List Int64) (hole : Int64) (Tl : State) (Ll : List Loc) (hl : as.length + bs.length = ct) (hy : ct + 1 + ys.length = ca) (s1 : Srt (as ++ bs)) (pm : (as ++ bs).Perm zs) (s2 : ∀ z ∈ as, ¬ x < z) (s3 : ∀ z ∈ bs, ¬ z < x) (Xl : Stand p l e (⟨0, 0, 0, 0⟩ : Jvm.Room) s m #[(.ref m1), (.double (FP.l2d x))] below meth c Tl Ll 0 0) (Nl : Fr n0 Ll) (K0 : Keep h0 Tl.heap [m1, aA, aS]) (E_m1 : Exa Z Tl.heap m1 "com/example/oneiros/oneiros/SlidingMedian") (F_arrived_m1 : Fld Z Tl.heap m1 "com/example/oneiros/oneiros/SlidingMedian" "arrived" "[D" (.ref aA)) (F_sorted_m1 : Fld Z Tl.heap m1 "com/example/oneiros/oneiros/SlidingMedian" "sorted" "[D" (.ref aS)) (F_held_m1 : Fld Z Tl.heap m1 "com/example/oneiros/oneiros/SlidingMedian" "held" "I" (.int (Int32.ofNat xs.length))) (F_next_m1 : Fld Z Tl.heap m1 "com/example/oneiros/oneiros/SlidingMedian" "next" "I" (.int n2)) (V_aA : Arv Z Tl.heap aA cA .double (Int32.ofNat ca) ((ar.set nx x).map Dv) (.double 0)) (V_aS : Arv Z Tl.heap aS cS .double (Int32.ofNat ca) ((as ++ hole :: (bs ++ ys)).map Dv) (.double 0)), Go p e below (End (fun v h L => ∃ xs' ys zs : List Int64, v = none ∧ Fr n0 L ∧ Keep h0 h [m1, aA, aS] ∧ Fld Z h m1 "com/example/oneiros/oneiros/SlidingMedian" "arrived" "[D" (.ref aA) ∧ Fld Z h m1 "com/example/oneiros/oneiros/SlidingMedian" "sorted" "[D" (.ref aS) ∧ Fld Z h m1 "com/example/oneiros/oneiros/SlidingMedian" "held" "I" (.int (Int32.ofNat (xs.length + 1))) ∧ Fld Z h m1 "com/example/oneiros/oneiros/SlidingMedian" "next" "I" (.int n2) ∧ Arv Z h aA cA .double (Int32.ofNat ca) ((ar.set nx x).map Dv) (.double 0) ∧ Arv Z h aS cS .double (Int32.ofNat ca) ((xs' ++ ys).map Dv) (.double 0) ∧ xs'.Perm (x :: zs) ∧ Srt xs' ∧ xs'.length + ys.length = ca ∧ zs = xs ∧ xs'.length = xs.length + 1) s 0 0) (Tl.setTop (mkF m 139 #[vr m1, .val (.double (FP.l2d x)), .second, vi (Int32.ofNat ct), vi (Int32.ofNat as.length)] [])) := by
    intro as bs ys hole Tl Ll hl hy s1 pm s2 s3 Xl Nl K0 E_m1 F_arrived_m1 F_sorted_m1 F_held_m1 F_next_m1 V_aA V_aS
    refine ga Xl hx (D 79 rfl) rfl rfl ?_
    refine gF Xl hx hZ hown (wd hw 17 rfl) Via.refl rfl F_sorted_m1 (D 80 rfl) fun T134 X134 e134 => ?_
    refine gI X134 hx (D 81 rfl) rfl ?_
    refine gd X134 hx (D 82 rfl) rfl ?_
    refine sD X134 hx hZ e134 V_aS (o_in (a := as.length) (by omega) (by omega)) as.length (o_nat (by omega)) (by rw [List.length_map, List.length_append, List.length_cons]; omega) (D 83 rfl) fun T135 h135 X135 e135 W135 Vn135 => ?_
    have ne_m1_aS : m1 ≠ aS := Exa.neArv E_m1 V_aS (wd hw 6 rfl)
    replace V_aS := Vn135
    clear Vn135
    replace E_m1 := E_m1.wr W135
    replace F_arrived_m1 := F_arrived_m1.other W135 (Or.inl ne_m1_aS)
    replace F_sorted_m1 := F_sorted_m1.other W135 (Or.inl ne_m1_aS)
    replace F_held_m1 := F_held_m1.other W135 (Or.inl ne_m1_aS)
    replace F_next_m1 := F_next_m1.other W135 (Or.inl ne_m1_aS)
    replace V_aA := V_aA.other W135 ne_aA_aS
    replace K0 := K0.wr W135 (Or.inl (List.mem_of_getElem? (i := 2) rfl))
    have N135 := Fr.snoc X135 Nl g_aS
    replace V_aS := arv_eq V_aS (dv_set as (bs ++ ys) hole x)
    refine ga X135 hx (D 84 rfl) rfl rfl ?_
    refine gi X135 hx (D 85 rfl) rfl ?_
    refine gk X135 hx 1 (D 86 rfl) rfl ?_
    refine gq (XS.iadd X135.here hx rfl (D 87 rfl) rfl) rfl ?_
    show Go p e below _ (T135.setTop (mkF m 151 #[vr m1, .val (.double (FP.l2d x)), .second, vi (Int32.ofNat ct), vi (Int32.ofNat as.length)] [(.int ((Int32.ofNat ct) + (1 : Int32))), (.ref m1)]))
    rw [show Int32.ofNat ct + (1 : Int32) = Int32.ofNat (xs.length + 1) from by rw [o_one]; congr 1; omega]
    obtain ⟨T136, h136, X136, e136, W136, st136⟩ := putF X135 hx hZ hown (host := "") (Or.inl (wd hw 24 rfl)) Via.refl e135 F_held_m1 E_m1 (Or.inl (wd hw 25 rfl)) (wd hw 6 rfl) (ty := .int) (by decide) rfl rfl (g := (mkF m 151 #[vr m1, .val (.double (FP.l2d x)), .second, vi (Int32.ofNat ct), vi (Int32.ofNat as.length)] [(.int (Int32.ofNat (xs.length + 1))), (.ref m1)])) rfl rfl (D 88 rfl)
    refine Go.by (fun t => st136 t) ?_
    have ne_aA_m1 : aA ≠ m1 := Ne.symm (Exa.neArv E_m1 V_aA (wd hw 6 rfl))
    replace F_held_m1 := F_held_m1.same W136
    replace E_m1 := E_m1.wr W136
    replace F_arrived_m1 := F_arrived_m1.other W136 (Or.inr (slot_ne (Or.inr (wd hw 16 rfl)) (Or.inl (wd hw 25 rfl)) (by decide) (t := (.array .double)) (t' := .int) (by decide) (by decide)))
    replace F_sorted_m1 := F_sorted_m1.other W136 (Or.inr (slot_ne (Or.inr (wd hw 18 rfl)) (Or.inl (wd hw 25 rfl)) (by decide) (t := (.array .double)) (t' := .int) (by decide) (by decide)))
    replace F_next_m1 := F_next_m1.other W136 (Or.inr (slot_ne (Or.inl (wd hw 36 rfl)) (Or.inl (wd hw 25 rfl)) (by decide) (t := .int) (t' := .int) (by decide) (by decide)))
    replace V_aA := V_aA.other W136 ne_aA_m1
    replace V_aS := V_aS.other W136 (Ne.symm ne_m1_aS)
    replace K0 := K0.wr W136 (Or.inl (List.mem_of_getElem? (i := 0) rfl))
    have N136 := Fr.snoc X136 N135 g_m1
    show Go p e below _ (T136.setTop (mkF m 154 #[vr m1, .val (.double (FP.l2d x)), .second, vi (Int32.ofNat ct), vi (Int32.ofNat as.length)] []))
    exact Go.ret0 X136 hx Bd.returns Bd.notSynchronized (D 89 rfl) (by decide) (by decide) (by first | (rw [e136]; exact ⟨as ++ x :: bs, ys, zs, rfl, N136, K0, F_arrived_m1, F_sorted_m1, F_held_m1, F_next_m1, V_aA, arv_eq V_aS (by rw [List.append_assoc]; rfl), perm_ins pm, srt_ins s1 s2 s3, by rw [List.length_append, List.length_cons]; omega, hzs, by rw [List.length_append, List.length_cons]; omega⟩) | exact ⟨as ++ x :: bs, ys, zs, rfl, N136, K0, F_arrived_m1, F_sorted_m1, F_held_m1, F_next_m1, V_aA, arv_eq V_aS (by rw [List.append_assoc]; rfl), perm_ins pm, srt_ins s1 s2 s3, by rw [List.length_append, List.length_cons]; omega, hzs, by rw [List.length_append, List.length_cons]; omega⟩)
  have loopI : ∀ (rs bs ys : List Int64) (hole : Int64) (Tl : State) (Ll : List Loc) (hl : rs.length + bs.length = ct) (hy : ct + 1 + ys.length = ca) (s1 : Srt (rs.reverse ++ bs)) (pm : (rs.reverse ++ bs).Perm zs) (s3 : ∀ z ∈ bs, ¬ z < x) (bs2 : ∀ z ∈ rs, BdI z) (Xl : Stand p l e (⟨0, 0, 0, 0⟩ : Jvm.Room) s m #[(.ref m1), (.double (FP.l2d x))] below meth c Tl Ll 0 0) (Nl : Fr n0 Ll) (K0 : Keep h0 Tl.heap [m1, aA, aS]) (E_m1 : Exa Z Tl.heap m1 "com/example/oneiros/oneiros/SlidingMedian") (F_arrived_m1 : Fld Z Tl.heap m1 "com/example/oneiros/oneiros/SlidingMedian" "arrived" "[D" (.ref aA)) (F_sorted_m1 : Fld Z Tl.heap m1 "com/example/oneiros/oneiros/SlidingMedian" "sorted" "[D" (.ref aS)) (F_held_m1 : Fld Z Tl.heap m1 "com/example/oneiros/oneiros/SlidingMedian" "held" "I" (.int (Int32.ofNat xs.length))) (F_next_m1 : Fld Z Tl.heap m1 "com/example/oneiros/oneiros/SlidingMedian" "next" "I" (.int n2)) (V_aA : Arv Z Tl.heap aA cA .double (Int32.ofNat ca) ((ar.set nx x).map Dv) (.double 0)) (V_aS : Arv Z Tl.heap aS cS .double (Int32.ofNat ca) ((rs.reverse ++ hole :: (bs ++ ys)).map Dv) (.double 0)), Go p e below (End (fun v h L => ∃ xs' ys zs : List Int64, v = none ∧ Fr n0 L ∧ Keep h0 h [m1, aA, aS] ∧ Fld Z h m1 "com/example/oneiros/oneiros/SlidingMedian" "arrived" "[D" (.ref aA) ∧ Fld Z h m1 "com/example/oneiros/oneiros/SlidingMedian" "sorted" "[D" (.ref aS) ∧ Fld Z h m1 "com/example/oneiros/oneiros/SlidingMedian" "held" "I" (.int (Int32.ofNat (xs.length + 1))) ∧ Fld Z h m1 "com/example/oneiros/oneiros/SlidingMedian" "next" "I" (.int n2) ∧ Arv Z h aA cA .double (Int32.ofNat ca) ((ar.set nx x).map Dv) (.double 0) ∧ Arv Z h aS cS .double (Int32.ofNat ca) ((xs' ++ ys).map Dv) (.double 0) ∧ xs'.Perm (x :: zs) ∧ Srt xs' ∧ xs'.length + ys.length = ca ∧ zs = xs ∧ xs'.length = xs.length + 1) s 0 0) (Tl.setTop (mkF m 98 #[vr m1, .val (.double (FP.l2d x)), .second, vi (Int32.ofNat ct), vi (Int32.ofNat rs.length)] [])) := by
    intro rs
    induction rs with
    | nil =>
      intro bs ys hole Tl Ll hl hy s1 pm s3 bs2 Xl Nl K0 E_m1 F_arrived_m1 F_sorted_m1 F_held_m1 F_next_m1 V_aA V_aS
      show Go p e below _ (Tl.setTop (mkF m 98 #[vr m1, .val (.double (FP.l2d x)), .second, vi (Int32.ofNat ct), vi (0 : Int32)] []))
      refine gI Xl hx (D 56 rfl) rfl ?_
      refine zY Xl hx 139 (D 57 rfl) ((if0 _ _).trans (flt (by decide : ¬ ((0 : Int32) < (0 : Int32)))).2.2.2) (by decide) ?_
      exact tailE [] bs ys hole _ _ hl hy s1 pm (fun _ h => nomatch h) s3 Xl Nl K0 E_m1 F_arrived_m1 F_sorted_m1 F_held_m1 F_next_m1 V_aA V_aS
    | cons a rs ih =>
      intro bs ys hole Tl Ll hl hy s1 pm s3 bs2 Xl Nl K0 E_m1 F_arrived_m1 F_sorted_m1 F_held_m1 F_next_m1 V_aA V_aS
      have hl1 : rs.length + 1 + bs.length = ct := hl
      rw [List.reverse_cons] at s1 pm V_aS
      have hrl : rs.reverse.length = rs.length := List.length_reverse
      show Go p e below _ (Tl.setTop (mkF m 98 #[vr m1, .val (.double (FP.l2d x)), .second, vi (Int32.ofNat ct), vi (Int32.ofNat (rs.length + 1))] []))
      refine gI Xl hx (D 56 rfl) rfl ?_
      refine zN Xl hx (D 57 rfl) ((if0 _ _).trans (tlt ((o_lt (a := 0) (by decide) (by omega)).2 (by omega) : (0 : Int32) < (Int32.ofNat (rs.length + 1)))).2.2.2) ?_
      refine ga Xl hx (D 58 rfl) rfl rfl ?_
      refine gF Xl hx hZ hown (wd hw 17 rfl) Via.refl rfl F_sorted_m1 (D 59 rfl) fun T137 X137 e137 => ?_
      refine gI X137 hx (D 60 rfl) rfl ?_
      refine gk X137 hx 1 (D 61 rfl) rfl ?_
      refine gq (XS.isub X137.here hx rfl (D 62 rfl) rfl) rfl ?_
      show Go p e below _ (T137.setTop (mkF m 111 #[vr m1, .val (.double (FP.l2d x)), .second, vi (Int32.ofNat ct), vi (Int32.ofNat (rs.length + 1))] [(.int ((Int32.ofNat (rs.length + 1)) - (1 : Int32))), (.ref aS)]))
      rw [show Int32.ofNat (rs.length + 1) - (1 : Int32) = Int32.ofNat rs.reverse.length from by rw [hrl]; exact o_sub (b := 1) (by omega) (by omega)]
      have ba := bs2 a (List.mem_cons_self ..)
      replace V_aS := arv_eq V_aS (vs' := (rs.reverse ++ a :: (hole :: (bs ++ ys))).map Dv) (by rw [List.append_assoc]; rfl)
      refine gDA X137 hx hZ e137 V_aS (o_in (a := rs.reverse.length) (by omega) (by omega)) (.double (FP.l2d a)) (dv_at rs.reverse _ a _ (by omega)) (D 63 rfl) ?_
      refine gd X137 hx (D 64 rfl) rfl ?_
      refine gq (XS.dcmpS X137.here hx rfl (D 65 rfl) rfl rfl) rfl ?_
      show Go p e below _ (T137.setTop (mkF m 114 #[vr m1, .val (.double (FP.l2d x)), .second, vi (Int32.ofNat ct), vi (Int32.ofNat (rs.length + 1))] [(.int (cmpValue (FP.dcmp (FP.l2d a) (FP.l2d x)) .l))]))
      rw [dc ba bx]
      by_cases hgt : x < a
      ·
        refine zN X137 hx (D 66 rfl) ((if0 _ _).trans (tlt ((lw_gt _ _).2 hgt : (0 : Int32) < (lcmpW a x))).2.2.2) ?_
        refine ga X137 hx (D 67 rfl) rfl rfl ?_
        refine gF X137 hx hZ hown (wd hw 17 rfl) Via.refl e137 F_sorted_m1 (D 68 rfl) fun T139 X139 e139 => ?_
        refine gI X139 hx (D 69 rfl) rfl ?_
        refine ga X139 hx (D 70 rfl) rfl rfl ?_
        refine gF X139 hx hZ hown (wd hw 17 rfl) Via.refl e139 F_sorted_m1 (D 71 rfl) fun T140 X140 e140 => ?_
        refine gI X140 hx (D 72 rfl) rfl ?_
        refine gk X140 hx 1 (D 73 rfl) rfl ?_
        refine gq (XS.isub X140.here hx rfl (D 74 rfl) rfl) rfl ?_
        show Go p e below _ (T140.setTop (mkF m 131 #[vr m1, .val (.double (FP.l2d x)), .second, vi (Int32.ofNat ct), vi (Int32.ofNat (rs.length + 1))] [(.int ((Int32.ofNat (rs.length + 1)) - (1 : Int32))), (.ref aS), (.int (Int32.ofNat (rs.length + 1))), (.ref aS)]))
        rw [show Int32.ofNat (rs.length + 1) - (1 : Int32) = Int32.ofNat rs.reverse.length from by rw [hrl]; exact o_sub (b := 1) (by omega) (by omega)]
        refine gDA X140 hx hZ e140 V_aS (o_in (a := rs.reverse.length) (by omega) (by omega)) (.double (FP.l2d a)) (dv_at rs.reverse _ a _ (by omega)) (D 75 rfl) ?_
        refine sD X140 hx hZ e140 V_aS (by rw [show rs.length + 1 = (rs.reverse ++ [a]).length by rw [List.length_append, hrl]; rfl]; exact o_in (by rw [List.length_append, hrl]; show rs.length + 1 < ca; omega) (by omega)) (rs.reverse ++ [a]).length (by rw [show rs.length + 1 = (rs.reverse ++ [a]).length by rw [List.length_append, hrl]; rfl]; exact o_nat (by rw [List.length_append, hrl]; show rs.length + 1 < _; omega)) (by simp only [List.length_map, List.length_append, List.length_cons, List.length_nil]; omega) (D 76 rfl) fun T142 h142 X142 e142 W142 Vn142 => ?_
        have ne_m1_aS : m1 ≠ aS := Exa.neArv E_m1 V_aS (wd hw 6 rfl)
        replace V_aS := Vn142
        clear Vn142
        replace E_m1 := E_m1.wr W142
        replace F_arrived_m1 := F_arrived_m1.other W142 (Or.inl ne_m1_aS)
        replace F_sorted_m1 := F_sorted_m1.other W142 (Or.inl ne_m1_aS)
        replace F_held_m1 := F_held_m1.other W142 (Or.inl ne_m1_aS)
        replace F_next_m1 := F_next_m1.other W142 (Or.inl ne_m1_aS)
        replace V_aA := V_aA.other W142 ne_aA_aS
        replace K0 := K0.wr W142 (Or.inl (List.mem_of_getElem? (i := 2) rfl))
        have N142 := Fr.snoc X142 Nl g_aS
        replace V_aS := arv_eq V_aS (vs' := (rs.reverse ++ a :: ((a :: bs) ++ ys)).map Dv) (by have z := dv_set (rs.reverse ++ [a]) (bs ++ ys) hole a; rw [List.append_assoc] at z; exact z.trans (by rw [List.append_assoc]; rfl))
        show Go p e below _ (T142.setTop (mkF m 133 #[vr m1, .val (.double (FP.l2d x)), .second, vi (Int32.ofNat ct), vi (Int32.ofNat (rs.length + 1))] []))
        refine gn X142 hx #[vr m1, .val (.double (FP.l2d x)), .second, vi (Int32.ofNat ct), vi (Int32.ofNat rs.length)] (D 77 rfl) rfl (by rw [show Int32.ofNat (rs.length + 1) + Int32.ofInt (-1) = Int32.ofNat rs.length from o_pred (a := rs.length + 1) (by omega)]; rfl) ?_
        refine gg X142 hx 98 (D 78 rfl) (by decide) ?_
        subst e142
        exact ih (a :: bs) ys a _ _ (by rw [List.length_cons]; omega) hy (by rw [List.append_assoc] at s1; exact s1) (by rw [List.append_assoc] at pm; exact pm) (fun z hz => (List.mem_cons.1 hz).elim (fun q => by rw [q]; exact lt_asym hgt) (s3 z)) (fun z hz => bs2 z (List.mem_cons_of_mem _ hz)) X142 N142 K0 E_m1 F_arrived_m1 F_sorted_m1 F_held_m1 F_next_m1 V_aA V_aS
      ·
        refine zY X137 hx 139 (D 66 rfl) ((if0 _ _).trans (flt (fun q => hgt ((lw_gt _ _).1 q) : ¬ ((0 : Int32) < (lcmpW a x)))).2.2.2) (by decide) ?_
        rw [← e137] at K0 E_m1 F_arrived_m1 F_sorted_m1 F_held_m1 F_next_m1 V_aA V_aS
        have hl2 : (rs.reverse ++ [a]).length = rs.length + 1 := by rw [List.length_append, hrl]; rfl
        show Go p e below _ (T137.setTop (mkF m 139 #[vr m1, .val (.double (FP.l2d x)), .second, vi (Int32.ofNat ct), vi (Int32.ofNat (rs.length + 1))] []))
        rw [← hl2]
        exact tailE (rs.reverse ++ [a]) bs ys hole _ _ (by rw [hl2]; exact hl1) hy s1 pm (srt_last s1 hgt) s3 X137 Nl K0 E_m1 F_arrived_m1 F_sorted_m1 F_held_m1 F_next_m1 V_aA (arv_eq V_aS (by rw [List.append_assoc]; rfl))
  show Go p e below _ (T133.setTop (mkF m 69 #[vr m1, .val (.double (FP.l2d x)), .second, vi (Int32.ofNat ct), uu] []))
  refine ga X133 hx (D 38 rfl) rfl rfl ?_
  refine gF X133 hx hZ hown (wd hw 15 rfl) Via.refl e133 F_arrived_m1 (D 39 rfl) fun T143 X143 e143 => ?_
  refine ga X143 hx (D 40 rfl) rfl rfl ?_
  refine gF X143 hx hZ hown (wd hw 35 rfl) Via.refl e143 F_next_m1 (D 41 rfl) fun T144 X144 e144 => ?_
  refine gd X144 hx (D 42 rfl) rfl ?_
  refine sD X144 hx hZ e144 V_aA (o_in (a := nx) (by omega) (by omega)) nx (o_nat (by omega)) (by rw [List.length_map]; omega) (D 43 rfl) fun T145 h145 X145 e145 W145 Vn145 => ?_
  have ne_m1_aA : m1 ≠ aA := Exa.neArv E_m1 V_aA (wd hw 6 rfl)
  replace V_aA := Vn145
  clear Vn145
  replace E_m1 := E_m1.wr W145
  replace F_arrived_m1 := F_arrived_m1.other W145 (Or.inl ne_m1_aA)
  replace F_sorted_m1 := F_sorted_m1.other W145 (Or.inl ne_m1_aA)
  replace F_held_m1 := F_held_m1.other W145 (Or.inl ne_m1_aA)
  replace F_next_m1 := F_next_m1.other W145 (Or.inl ne_m1_aA)
  replace V_aS := V_aS.other W145 (Ne.symm ne_aA_aS)
  replace K0 := K0.wr W145 (Or.inl (List.mem_of_getElem? (i := 1) rfl))
  have N145 := Fr.snoc X145 N0 g_aA
  replace V_aA := arv_eq V_aA (vs' := (ar.set nx x).map Dv) (List.map_set ..).symm
  refine ga X145 hx (D 44 rfl) rfl rfl ?_
  refine ga X145 hx (D 45 rfl) rfl rfl ?_
  refine gF X145 hx hZ hown (wd hw 35 rfl) Via.refl e145 F_next_m1 (D 46 rfl) fun T146 X146 e146 => ?_
  refine gk X146 hx 1 (D 47 rfl) rfl ?_
  refine gq (XS.iadd X146.here hx rfl (D 48 rfl) rfl) rfl ?_
  refine ga X146 hx (D 49 rfl) rfl rfl ?_
  refine gF X146 hx hZ hown (wd hw 15 rfl) Via.refl e146 F_arrived_m1 (D 50 rfl) fun T147 X147 e147 => ?_
  refine gN X147 hx hZ e147 V_aA (D 51 rfl) ?_
  refine gq (iremM X147 hx rfl (D 52 rfl) rfl (by first | assumption | decide)) rfl ?_
  show Go p e below _ (T147.setTop (mkF m 92 #[vr m1, .val (.double (FP.l2d x)), .second, vi (Int32.ofNat ct), uu] [(.int (((Int32.ofNat nx) + (1 : Int32)) % (Int32.ofNat ca))), (.ref m1)]))
  rw [hn2]
  obtain ⟨T148, h148, X148, e148, W148, st148⟩ := putF X147 hx hZ hown (host := "") (Or.inl (wd hw 35 rfl)) Via.refl e147 F_next_m1 E_m1 (Or.inl (wd hw 36 rfl)) (wd hw 6 rfl) (ty := .int) (by decide) rfl rfl (g := (mkF m 92 #[vr m1, .val (.double (FP.l2d x)), .second, vi (Int32.ofNat ct), uu] [(.int n2), (.ref m1)])) rfl rfl (D 53 rfl)
  refine Go.by (fun t => st148 t) ?_
  have ne_aS_m1 : aS ≠ m1 := Ne.symm (Exa.neArv E_m1 V_aS (wd hw 6 rfl))
  replace F_next_m1 := F_next_m1.same W148
  replace E_m1 := E_m1.wr W148
  replace F_arrived_m1 := F_arrived_m1.other W148 (Or.inr (slot_ne (Or.inr (wd hw 16 rfl)) (Or.inl (wd hw 36 rfl)) (by decide) (t := (.array .double)) (t' := .int) (by decide) (by decide)))
  replace F_sorted_m1 := F_sorted_m1.other W148 (Or.inr (slot_ne (Or.inr (wd hw 18 rfl)) (Or.inl (wd hw 36 rfl)) (by decide) (t := (.array .double)) (t' := .int) (by decide) (by decide)))
  replace F_held_m1 := F_held_m1.other W148 (Or.inr (slot_ne (Or.inl (wd hw 25 rfl)) (Or.inl (wd hw 36 rfl)) (by decide) (t := .int) (t' := .int) (by decide) (by decide)))
  replace V_aS := V_aS.other W148 ne_aS_m1
  replace V_aA := V_aA.other W148 (Ne.symm ne_m1_aA)
  replace K0 := K0.wr W148 (Or.inl (List.mem_of_getElem? (i := 0) rfl))
  have N148 := Fr.snoc X148 N145 g_m1
  show Go p e below _ (T148.setTop (mkF m 95 #[vr m1, .val (.double (FP.l2d x)), .second, vi (Int32.ofNat ct), uu] []))
  refine gi X148 hx (D 54 rfl) rfl ?_
  refine gT X148 hx #[vr m1, .val (.double (FP.l2d x)), .second, vi (Int32.ofNat ct), vi (Int32.ofNat ct)] (D 55 rfl) rfl ?_
  subst e148
  show Go p e below _ (T148.setTop (mkF m 98 #[vr m1, .val (.double (FP.l2d x)), .second, vi (Int32.ofNat ct), vi (Int32.ofNat ct)] []))
  have hrv : xs.reverse.length = ct := by rw [List.length_reverse]; exact hct.symm
  show Go p e below _ (T148.setTop (mkF m 98 #[vr m1, .val (.double (FP.l2d x)), .second, vi (Int32.ofNat ct), vi (Int32.ofNat ct)] []))
  refine (show Go p e below _ (T148.setTop (mkF m 98 #[vr m1, .val (.double (FP.l2d x)), .second, vi (Int32.ofNat ct), vi (Int32.ofNat ct)] [])) from ?_)
  have zz := loopI xs.reverse [] ys0 y0 _ _ (by rw [hrv]; rfl) (by omega) (by rw [List.reverse_reverse, List.append_nil]; exact so) (by rw [List.reverse_reverse, List.append_nil, hzs]) (fun _ h => nomatch h) (fun z hz => bxs z (List.mem_reverse.1 hz)) X148 N148 K0 E_m1 F_arrived_m1 F_sorted_m1 F_held_m1 F_next_m1 V_aA (by rw [List.reverse_reverse]; exact V_aS)
  rw [hrv] at zz
  exact zz
def Q_rmAF (Z : State) (m1 aA aS : Addr) (cA cS : ClassId) (ca nx : Nat) (ar xs : List Int64) (x : Int64) (n2 : Int32) (t : Int64) (h0 : Heap) (n0 : Nat) : Option Value → Heap → List Loc → Prop := fun v h L => ∃ xs' ys zs : List Int64, v = none ∧ Fr n0 L ∧ Keep h0 h [m1, aA, aS] ∧ Fld Z h m1 "com/example/oneiros/oneiros/SlidingMedian" "arrived" "[D" (.ref aA) ∧ Fld Z h m1 "com/example/oneiros/oneiros/SlidingMedian" "sorted" "[D" (.ref aS) ∧ Fld Z h m1 "com/example/oneiros/oneiros/SlidingMedian" "held" "I" (.int (Int32.ofNat ca)) ∧ Fld Z h m1 "com/example/oneiros/oneiros/SlidingMedian" "next" "I" (.int n2) ∧ Arv Z h aA cA .double (Int32.ofNat ca) ((ar.set nx x).map Dv) (.double 0) ∧ Arv Z h aS cS .double (Int32.ofNat ca) ((xs' ++ ys).map Dv) (.double 0) ∧ xs'.Perm (x :: zs) ∧ Srt xs' ∧ xs'.length + ys.length = ca ∧ xs.Perm (t :: zs) ∧ xs'.length = ca
set_option maxRecDepth 65536 in
set_option maxHeartbeats 40000000 in
theorem rmAF (l : Launch) (Z : State) (a0 : Array Value) (hw : HW a0 Z) (ws : List Jvm.Cond) (m1 aA aS : Addr) (cA cS : ClassId) (ca nx : Nat) (ar xs : List Int64) (x : Int64) (n2 : Int32) (t : Int64) (h0 : Heap) (n0 : Nat) (E_m1 : Exa Z h0 m1 "com/example/oneiros/oneiros/SlidingMedian") (F_arrived_m1 : Fld Z h0 m1 "com/example/oneiros/oneiros/SlidingMedian" "arrived" "[D" (.ref aA)) (F_sorted_m1 : Fld Z h0 m1 "com/example/oneiros/oneiros/SlidingMedian" "sorted" "[D" (.ref aS)) (F_held_m1 : Fld Z h0 m1 "com/example/oneiros/oneiros/SlidingMedian" "held" "I" (.int (Int32.ofNat xs.length))) (F_next_m1 : Fld Z h0 m1 "com/example/oneiros/oneiros/SlidingMedian" "next" "I" (.int (Int32.ofNat nx))) (V_aA : Arv Z h0 aA cA .double (Int32.ofNat ca) (ar.map Dv) (.double 0)) (V_aS : Arv Z h0 aS cS .double (Int32.ofNat ca) ((xs).map Dv) (.double 0)) (ne_aA_aS : aA ≠ aS) (g_m1 : n0 ≤ m1) (g_aA : n0 ≤ aA) (g_aS : n0 ≤ aS) (hca : ca ≤ 4) (hal : ar.length = ca) (hnx : nx < ca) (hn2 : (Int32.ofNat nx + (1 : Int32)) % Int32.ofNat ca = n2) (bx : BdI x) (bxs : ∀ z ∈ xs, BdI z) (so : Srt xs) (hxl : xs.length = ca) (ht : ar[nx]? = some t) (mt : t ∈ xs) (bt : BdI t) :
    CT l (⟨"com/example/oneiros/oneiros/SlidingMedian", "add", "(D)V"⟩ : MethodName) prog_27_method_3_code 5 none ws (⟨1, 0, 0, 40⟩ : Jvm.Room) #[(.ref m1), (.double (FP.l2d x))] Z h0 (Q_rmAF Z m1 aA aS cA cS ca nx ar xs x n2 t h0 n0) := by
  refine Go.start (plainFor_of_name pn_1) #[vr m1, .val (.double (FP.l2d x)), .second, uu, uu] n0 (by first | (simp [argsToLocals, Value.category, maxLocals]; done) | rfl) ?_
  intro p e s m below meth c s₁ Bd hx hby hml hZ hown X0 e0 N0
  have D := @dB _ _ hby _ D6
  have K0 : Keep h0 h0 [m1, aA, aS] := Keep.refl _ _
  have hc0 : Int32.ofNat ca ≠ 0 := fun q => o_ne (a := 0) (b := ca) (by omega) (by omega) q.symm
  have hc1 : ¬ Int32.ofNat ca = 0 := hc0
  refine ga X0 hx (D 0 rfl) rfl rfl ?_
  refine gF X0 hx hZ hown (wd hw 24 rfl) Via.refl e0 F_held_m1 (D 1 rfl) fun T149 X149 e149 => ?_
  refine gt X149 hx #[vr m1, .val (.double (FP.l2d x)), .second, vi (Int32.ofNat xs.length), uu] (D 2 rfl) rfl ?_
  refine gi X149 hx (D 3 rfl) rfl ?_
  refine ga X149 hx (D 4 rfl) rfl rfl ?_
  refine gF X149 hx hZ hown (wd hw 15 rfl) Via.refl e149 F_arrived_m1 (D 5 rfl) fun T150 X150 e150 => ?_
  refine gN X150 hx hZ e150 V_aA (D 6 rfl) ?_
  have hxc : Int32.ofNat xs.length = Int32.ofNat ca := by rw [hxl]
  refine cN X150 hx (D 7 rfl) (teq hxc).2 ?_
  refine gk X150 hx 0 (D 8 rfl) rfl ?_
  refine gT X150 hx #[vr m1, .val (.double (FP.l2d x)), .second, vi (Int32.ofNat xs.length), vi (0 : Int32)] (D 9 rfl) rfl ?_
  obtain ⟨a1, a2, har, ha1⟩ : ∃ a1 a2, ar = a1 ++ t :: a2 ∧ a1.length = nx := ⟨ar.take nx, ar.drop (nx + 1), by obtain ⟨q1, q2⟩ := List.getElem?_eq_some_iff.1 ht; rw [← q2, List.getElem_cons_drop, List.take_append_drop], by rw [List.length_take]; omega⟩
  have hat : (ar.map Dv).getD (Int32.ofNat nx).toNatClampNeg (.double 0) = .double (FP.l2d t) := by rw [har, ← ha1]; exact dv_at a1 a2 t _ (by omega)
  have hub : ∀ (us ws : List Int64) (Tl : State) (Ll : List Loc) (q : Int64) (hcs : xs = us ++ q :: ws), us.length < ca := fun us ws _ _ q hcs => by rw [← hxl, hcs, List.length_append, List.length_cons]; omega
  have found : ∀ (us ws : List Int64) (Tl : State) (Ll : List Loc) (hcs : xs = us ++ t :: ws) (Xl : Stand p l e (⟨1, 0, 0, 40⟩ : Jvm.Room) s m #[(.ref m1), (.double (FP.l2d x))] below meth c Tl Ll 0 0) (Nl : Fr n0 Ll) (K0 : Keep h0 Tl.heap [m1, aA, aS]) (E_m1 : Exa Z Tl.heap m1 "com/example/oneiros/oneiros/SlidingMedian") (F_arrived_m1 : Fld Z Tl.heap m1 "com/example/oneiros/oneiros/SlidingMedian" "arrived" "[D" (.ref aA)) (F_sorted_m1 : Fld Z Tl.heap m1 "com/example/oneiros/oneiros/SlidingMedian" "sorted" "[D" (.ref aS)) (F_held_m1 : Fld Z Tl.heap m1 "com/example/oneiros/oneiros/SlidingMedian" "held" "I" (.int (Int32.ofNat xs.length))) (F_next_m1 : Fld Z Tl.heap m1 "com/example/oneiros/oneiros/SlidingMedian" "next" "I" (.int (Int32.ofNat nx))) (V_aA : Arv Z Tl.heap aA cA .double (Int32.ofNat ca) ((ar).map Dv) (.double 0)) (V_aS : Arv Z Tl.heap aS cS .double (Int32.ofNat ca) ((xs).map Dv) (.double 0)), Go p e below (End (fun v h L => ∃ xs' ys zs : List Int64, v = none ∧ Fr n0 L ∧ Keep h0 h [m1, aA, aS] ∧ Fld Z h m1 "com/example/oneiros/oneiros/SlidingMedian" "arrived" "[D" (.ref aA) ∧ Fld Z h m1 "com/example/oneiros/oneiros/SlidingMedian" "sorted" "[D" (.ref aS) ∧ Fld Z h m1 "com/example/oneiros/oneiros/SlidingMedian" "held" "I" (.int (Int32.ofNat ca)) ∧ Fld Z h m1 "com/example/oneiros/oneiros/SlidingMedian" "next" "I" (.int n2) ∧ Arv Z h aA cA .double (Int32.ofNat ca) ((ar.set nx x).map Dv) (.double 0) ∧ Arv Z h aS cS .double (Int32.ofNat ca) ((xs' ++ ys).map Dv) (.double 0) ∧ xs'.Perm (x :: zs) ∧ Srt xs' ∧ xs'.length + ys.length = ca ∧ xs.Perm (t :: zs) ∧ xs'.length = ca) s 0 0) (Tl.setTop (mkF m 43 #[vr m1, .val (.double (FP.l2d x)), .second, vi (Int32.ofNat xs.length), vi (Int32.ofNat us.length)] [])) := by
    intro us ws Tl Ll hcs Xl Nl K0 E_m1 F_arrived_m1 F_sorted_m1 F_held_m1 F_next_m1 V_aA V_aS
    have hul : us.length + 1 + ws.length = ca := by rw [← hxl, hcs, List.length_append, List.length_cons]; omega
    obtain ⟨ct, hct⟩ : ∃ z, z = us.length + ws.length := ⟨_, rfl⟩
    obtain ⟨zs, hzs'⟩ : ∃ z, z = us ++ ws := ⟨_, rfl⟩
    have hzs : xs.Perm (t :: zs) := by rw [hcs, hzs']; exact perm_mid
    obtain ⟨vs1, z1, hvz, hvl⟩ := rot1 ws t
    have tailE : ∀ (as bs ys : List Int64) (hole : Int64) (Tl : State) (Ll : List Loc) (hl : as.length + bs.length = ct) (hy : ct + 1 + ys.length = ca) (s1 : Srt (as ++ bs)) (pm : (as ++ bs).Perm zs) (s2 : ∀ z ∈ as, ¬ x < z) (s3 : ∀ z ∈ bs, ¬ z < x) (Xl : Stand p l e (⟨1, 0, 0, 40⟩ : Jvm.Room) s m #[(.ref m1), (.double (FP.l2d x))] below meth c Tl Ll 0 0) (Nl : Fr n0 Ll) (K0 : Keep h0 Tl.heap [m1, aA, aS]) (E_m1 : Exa Z Tl.heap m1 "com/example/oneiros/oneiros/SlidingMedian") (F_arrived_m1 : Fld Z Tl.heap m1 "com/example/oneiros/oneiros/SlidingMedian" "arrived" "[D" (.ref aA)) (F_sorted_m1 : Fld Z Tl.heap m1 "com/example/oneiros/oneiros/SlidingMedian" "sorted" "[D" (.ref aS)) (F_held_m1 : Fld Z Tl.heap m1 "com/example/oneiros/oneiros/SlidingMedian" "held" "I" (.int (Int32.ofNat xs.length))) (F_next_m1 : Fld Z Tl.heap m1 "com/example/oneiros/oneiros/SlidingMedian" "next" "I" (.int n2)) (V_aA : Arv Z Tl.heap aA cA .double (Int32.ofNat ca) ((ar.set nx x).map Dv) (.double 0)) (V_aS : Arv Z Tl.heap aS cS .double (Int32.ofNat ca) ((as ++ hole :: (bs ++ ys)).map Dv) (.double 0)), Go p e below (End (fun v h L => ∃ xs' ys zs : List Int64, v = none ∧ Fr n0 L ∧ Keep h0 h [m1, aA, aS] ∧ Fld Z h m1 "com/example/oneiros/oneiros/SlidingMedian" "arrived" "[D" (.ref aA) ∧ Fld Z h m1 "com/example/oneiros/oneiros/SlidingMedian" "sorted" "[D" (.ref aS) ∧ Fld Z h m1 "com/example/oneiros/oneiros/SlidingMedian" "held" "I" (.int (Int32.ofNat ca)) ∧ Fld Z h m1 "com/example/oneiros/oneiros/SlidingMedian" "next" "I" (.int n2) ∧ Arv Z h aA cA .double (Int32.ofNat ca) ((ar.set nx x).map Dv) (.double 0) ∧ Arv Z h aS cS .double (Int32.ofNat ca) ((xs' ++ ys).map Dv) (.double 0) ∧ xs'.Perm (x :: zs) ∧ Srt xs' ∧ xs'.length + ys.length = ca ∧ xs.Perm (t :: zs) ∧ xs'.length = ca) s 0 0) (Tl.setTop (mkF m 139 #[vr m1, .val (.double (FP.l2d x)), .second, vi (Int32.ofNat ct), vi (Int32.ofNat as.length)] [])) := by
      intro as bs ys hole Tl Ll hl hy s1 pm s2 s3 Xl Nl K0 E_m1 F_arrived_m1 F_sorted_m1 F_held_m1 F_next_m1 V_aA V_aS
      refine ga Xl hx (D 79 rfl) rfl rfl ?_
      refine gF Xl hx hZ hown (wd hw 17 rfl) Via.refl rfl F_sorted_m1 (D 80 rfl) fun T151 X151 e151 => ?_
      refine gI X151 hx (D 81 rfl) rfl ?_
      refine gd X151 hx (D 82 rfl) rfl ?_
      refine sD X151 hx hZ e151 V_aS (o_in (a := as.length) (by omega) (by omega)) as.length (o_nat (by omega)) (by rw [List.length_map, List.length_append, List.length_cons]; omega) (D 83 rfl) fun T152 h152 X152 e152 W152 Vn152 => ?_
      have ne_m1_aS : m1 ≠ aS := Exa.neArv E_m1 V_aS (wd hw 6 rfl)
      replace V_aS := Vn152
      clear Vn152
      replace E_m1 := E_m1.wr W152
      replace F_arrived_m1 := F_arrived_m1.other W152 (Or.inl ne_m1_aS)
      replace F_sorted_m1 := F_sorted_m1.other W152 (Or.inl ne_m1_aS)
      replace F_held_m1 := F_held_m1.other W152 (Or.inl ne_m1_aS)
      replace F_next_m1 := F_next_m1.other W152 (Or.inl ne_m1_aS)
      replace V_aA := V_aA.other W152 ne_aA_aS
      replace K0 := K0.wr W152 (Or.inl (List.mem_of_getElem? (i := 2) rfl))
      have N152 := Fr.snoc X152 Nl g_aS
      replace V_aS := arv_eq V_aS (dv_set as (bs ++ ys) hole x)
      refine ga X152 hx (D 84 rfl) rfl rfl ?_
      refine gi X152 hx (D 85 rfl) rfl ?_
      refine gk X152 hx 1 (D 86 rfl) rfl ?_
      refine gq (XS.iadd X152.here hx rfl (D 87 rfl) rfl) rfl ?_
      show Go p e below _ (T152.setTop (mkF m 151 #[vr m1, .val (.double (FP.l2d x)), .second, vi (Int32.ofNat ct), vi (Int32.ofNat as.length)] [(.int ((Int32.ofNat ct) + (1 : Int32))), (.ref m1)]))
      rw [show Int32.ofNat ct + (1 : Int32) = Int32.ofNat ca from by rw [o_one]; congr 1; omega]
      obtain ⟨T153, h153, X153, e153, W153, st153⟩ := putF X152 hx hZ hown (host := "") (Or.inl (wd hw 24 rfl)) Via.refl e152 F_held_m1 E_m1 (Or.inl (wd hw 25 rfl)) (wd hw 6 rfl) (ty := .int) (by decide) rfl rfl (g := (mkF m 151 #[vr m1, .val (.double (FP.l2d x)), .second, vi (Int32.ofNat ct), vi (Int32.ofNat as.length)] [(.int (Int32.ofNat ca)), (.ref m1)])) rfl rfl (D 88 rfl)
      refine Go.by (fun t => st153 t) ?_
      have ne_aA_m1 : aA ≠ m1 := Ne.symm (Exa.neArv E_m1 V_aA (wd hw 6 rfl))
      replace F_held_m1 := F_held_m1.same W153
      replace E_m1 := E_m1.wr W153
      replace F_arrived_m1 := F_arrived_m1.other W153 (Or.inr (slot_ne (Or.inr (wd hw 16 rfl)) (Or.inl (wd hw 25 rfl)) (by decide) (t := (.array .double)) (t' := .int) (by decide) (by decide)))
      replace F_sorted_m1 := F_sorted_m1.other W153 (Or.inr (slot_ne (Or.inr (wd hw 18 rfl)) (Or.inl (wd hw 25 rfl)) (by decide) (t := (.array .double)) (t' := .int) (by decide) (by decide)))
      replace F_next_m1 := F_next_m1.other W153 (Or.inr (slot_ne (Or.inl (wd hw 36 rfl)) (Or.inl (wd hw 25 rfl)) (by decide) (t := .int) (t' := .int) (by decide) (by decide)))
      replace V_aA := V_aA.other W153 ne_aA_m1
      replace V_aS := V_aS.other W153 (Ne.symm ne_m1_aS)
      replace K0 := K0.wr W153 (Or.inl (List.mem_of_getElem? (i := 0) rfl))
      have N153 := Fr.snoc X153 N152 g_m1
      show Go p e below _ (T153.setTop (mkF m 154 #[vr m1, .val (.double (FP.l2d x)), .second, vi (Int32.ofNat ct), vi (Int32.ofNat as.length)] []))
      exact Go.ret0 X153 hx Bd.returns Bd.notSynchronized (D 89 rfl) (by decide) (by decide) (by first | (rw [e153]; exact ⟨as ++ x :: bs, ys, zs, rfl, N153, K0, F_arrived_m1, F_sorted_m1, F_held_m1, F_next_m1, V_aA, arv_eq V_aS (by rw [List.append_assoc]; rfl), perm_ins pm, srt_ins s1 s2 s3, by rw [List.length_append, List.length_cons]; omega, hzs, by rw [List.length_append, List.length_cons]; omega⟩) | exact ⟨as ++ x :: bs, ys, zs, rfl, N153, K0, F_arrived_m1, F_sorted_m1, F_held_m1, F_next_m1, V_aA, arv_eq V_aS (by rw [List.append_assoc]; rfl), perm_ins pm, srt_ins s1 s2 s3, by rw [List.length_append, List.length_cons]; omega, hzs, by rw [List.length_append, List.length_cons]; omega⟩)
    have loopI : ∀ (rs bs ys : List Int64) (hole : Int64) (Tl : State) (Ll : List Loc) (hl : rs.length + bs.length = ct) (hy : ct + 1 + ys.length = ca) (s1 : Srt (rs.reverse ++ bs)) (pm : (rs.reverse ++ bs).Perm zs) (s3 : ∀ z ∈ bs, ¬ z < x) (bs2 : ∀ z ∈ rs, BdI z) (Xl : Stand p l e (⟨1, 0, 0, 40⟩ : Jvm.Room) s m #[(.ref m1), (.double (FP.l2d x))] below meth c Tl Ll 0 0) (Nl : Fr n0 Ll) (K0 : Keep h0 Tl.heap [m1, aA, aS]) (E_m1 : Exa Z Tl.heap m1 "com/example/oneiros/oneiros/SlidingMedian") (F_arrived_m1 : Fld Z Tl.heap m1 "com/example/oneiros/oneiros/SlidingMedian" "arrived" "[D" (.ref aA)) (F_sorted_m1 : Fld Z Tl.heap m1 "com/example/oneiros/oneiros/SlidingMedian" "sorted" "[D" (.ref aS)) (F_held_m1 : Fld Z Tl.heap m1 "com/example/oneiros/oneiros/SlidingMedian" "held" "I" (.int (Int32.ofNat xs.length))) (F_next_m1 : Fld Z Tl.heap m1 "com/example/oneiros/oneiros/SlidingMedian" "next" "I" (.int n2)) (V_aA : Arv Z Tl.heap aA cA .double (Int32.ofNat ca) ((ar.set nx x).map Dv) (.double 0)) (V_aS : Arv Z Tl.heap aS cS .double (Int32.ofNat ca) ((rs.reverse ++ hole :: (bs ++ ys)).map Dv) (.double 0)), Go p e below (End (fun v h L => ∃ xs' ys zs : List Int64, v = none ∧ Fr n0 L ∧ Keep h0 h [m1, aA, aS] ∧ Fld Z h m1 "com/example/oneiros/oneiros/SlidingMedian" "arrived" "[D" (.ref aA) ∧ Fld Z h m1 "com/example/oneiros/oneiros/SlidingMedian" "sorted" "[D" (.ref aS) ∧ Fld Z h m1 "com/example/oneiros/oneiros/SlidingMedian" "held" "I" (.int (Int32.ofNat ca)) ∧ Fld Z h m1 "com/example/oneiros/oneiros/SlidingMedian" "next" "I" (.int n2) ∧ Arv Z h aA cA .double (Int32.ofNat ca) ((ar.set nx x).map Dv) (.double 0) ∧ Arv Z h aS cS .double (Int32.ofNat ca) ((xs' ++ ys).map Dv) (.double 0) ∧ xs'.Perm (x :: zs) ∧ Srt xs' ∧ xs'.length + ys.length = ca ∧ xs.Perm (t :: zs) ∧ xs'.length = ca) s 0 0) (Tl.setTop (mkF m 98 #[vr m1, .val (.double (FP.l2d x)), .second, vi (Int32.ofNat ct), vi (Int32.ofNat rs.length)] [])) := by
      intro rs
      induction rs with
      | nil =>
        intro bs ys hole Tl Ll hl hy s1 pm s3 bs2 Xl Nl K0 E_m1 F_arrived_m1 F_sorted_m1 F_held_m1 F_next_m1 V_aA V_aS
        show Go p e below _ (Tl.setTop (mkF m 98 #[vr m1, .val (.double (FP.l2d x)), .second, vi (Int32.ofNat ct), vi (0 : Int32)] []))
        refine gI Xl hx (D 56 rfl) rfl ?_
        refine zY Xl hx 139 (D 57 rfl) ((if0 _ _).trans (flt (by decide : ¬ ((0 : Int32) < (0 : Int32)))).2.2.2) (by decide) ?_
        exact tailE [] bs ys hole _ _ hl hy s1 pm (fun _ h => nomatch h) s3 Xl Nl K0 E_m1 F_arrived_m1 F_sorted_m1 F_held_m1 F_next_m1 V_aA V_aS
      | cons a rs ih =>
        intro bs ys hole Tl Ll hl hy s1 pm s3 bs2 Xl Nl K0 E_m1 F_arrived_m1 F_sorted_m1 F_held_m1 F_next_m1 V_aA V_aS
        have hl1 : rs.length + 1 + bs.length = ct := hl
        rw [List.reverse_cons] at s1 pm V_aS
        have hrl : rs.reverse.length = rs.length := List.length_reverse
        show Go p e below _ (Tl.setTop (mkF m 98 #[vr m1, .val (.double (FP.l2d x)), .second, vi (Int32.ofNat ct), vi (Int32.ofNat (rs.length + 1))] []))
        refine gI Xl hx (D 56 rfl) rfl ?_
        refine zN Xl hx (D 57 rfl) ((if0 _ _).trans (tlt ((o_lt (a := 0) (by decide) (by omega)).2 (by omega) : (0 : Int32) < (Int32.ofNat (rs.length + 1)))).2.2.2) ?_
        refine ga Xl hx (D 58 rfl) rfl rfl ?_
        refine gF Xl hx hZ hown (wd hw 17 rfl) Via.refl rfl F_sorted_m1 (D 59 rfl) fun T154 X154 e154 => ?_
        refine gI X154 hx (D 60 rfl) rfl ?_
        refine gk X154 hx 1 (D 61 rfl) rfl ?_
        refine gq (XS.isub X154.here hx rfl (D 62 rfl) rfl) rfl ?_
        show Go p e below _ (T154.setTop (mkF m 111 #[vr m1, .val (.double (FP.l2d x)), .second, vi (Int32.ofNat ct), vi (Int32.ofNat (rs.length + 1))] [(.int ((Int32.ofNat (rs.length + 1)) - (1 : Int32))), (.ref aS)]))
        rw [show Int32.ofNat (rs.length + 1) - (1 : Int32) = Int32.ofNat rs.reverse.length from by rw [hrl]; exact o_sub (b := 1) (by omega) (by omega)]
        have ba := bs2 a (List.mem_cons_self ..)
        replace V_aS := arv_eq V_aS (vs' := (rs.reverse ++ a :: (hole :: (bs ++ ys))).map Dv) (by rw [List.append_assoc]; rfl)
        refine gDA X154 hx hZ e154 V_aS (o_in (a := rs.reverse.length) (by omega) (by omega)) (.double (FP.l2d a)) (dv_at rs.reverse _ a _ (by omega)) (D 63 rfl) ?_
        refine gd X154 hx (D 64 rfl) rfl ?_
        refine gq (XS.dcmpS X154.here hx rfl (D 65 rfl) rfl rfl) rfl ?_
        show Go p e below _ (T154.setTop (mkF m 114 #[vr m1, .val (.double (FP.l2d x)), .second, vi (Int32.ofNat ct), vi (Int32.ofNat (rs.length + 1))] [(.int (cmpValue (FP.dcmp (FP.l2d a) (FP.l2d x)) .l))]))
        rw [dc ba bx]
        by_cases hgt : x < a
        ·
          refine zN X154 hx (D 66 rfl) ((if0 _ _).trans (tlt ((lw_gt _ _).2 hgt : (0 : Int32) < (lcmpW a x))).2.2.2) ?_
          refine ga X154 hx (D 67 rfl) rfl rfl ?_
          refine gF X154 hx hZ hown (wd hw 17 rfl) Via.refl e154 F_sorted_m1 (D 68 rfl) fun T156 X156 e156 => ?_
          refine gI X156 hx (D 69 rfl) rfl ?_
          refine ga X156 hx (D 70 rfl) rfl rfl ?_
          refine gF X156 hx hZ hown (wd hw 17 rfl) Via.refl e156 F_sorted_m1 (D 71 rfl) fun T157 X157 e157 => ?_
          refine gI X157 hx (D 72 rfl) rfl ?_
          refine gk X157 hx 1 (D 73 rfl) rfl ?_
          refine gq (XS.isub X157.here hx rfl (D 74 rfl) rfl) rfl ?_
          show Go p e below _ (T157.setTop (mkF m 131 #[vr m1, .val (.double (FP.l2d x)), .second, vi (Int32.ofNat ct), vi (Int32.ofNat (rs.length + 1))] [(.int ((Int32.ofNat (rs.length + 1)) - (1 : Int32))), (.ref aS), (.int (Int32.ofNat (rs.length + 1))), (.ref aS)]))
          rw [show Int32.ofNat (rs.length + 1) - (1 : Int32) = Int32.ofNat rs.reverse.length from by rw [hrl]; exact o_sub (b := 1) (by omega) (by omega)]
          refine gDA X157 hx hZ e157 V_aS (o_in (a := rs.reverse.length) (by omega) (by omega)) (.double (FP.l2d a)) (dv_at rs.reverse _ a _ (by omega)) (D 75 rfl) ?_
          refine sD X157 hx hZ e157 V_aS (by rw [show rs.length + 1 = (rs.reverse ++ [a]).length by rw [List.length_append, hrl]; rfl]; exact o_in (by rw [List.length_append, hrl]; show rs.length + 1 < ca; omega) (by omega)) (rs.reverse ++ [a]).length (by rw [show rs.length + 1 = (rs.reverse ++ [a]).length by rw [List.length_append, hrl]; rfl]; exact o_nat (by rw [List.length_append, hrl]; show rs.length + 1 < _; omega)) (by simp only [List.length_map, List.length_append, List.length_cons, List.length_nil]; omega) (D 76 rfl) fun T159 h159 X159 e159 W159 Vn159 => ?_
          have ne_m1_aS : m1 ≠ aS := Exa.neArv E_m1 V_aS (wd hw 6 rfl)
          replace V_aS := Vn159
          clear Vn159
          replace E_m1 := E_m1.wr W159
          replace F_arrived_m1 := F_arrived_m1.other W159 (Or.inl ne_m1_aS)
          replace F_sorted_m1 := F_sorted_m1.other W159 (Or.inl ne_m1_aS)
          replace F_held_m1 := F_held_m1.other W159 (Or.inl ne_m1_aS)
          replace F_next_m1 := F_next_m1.other W159 (Or.inl ne_m1_aS)
          replace V_aA := V_aA.other W159 ne_aA_aS
          replace K0 := K0.wr W159 (Or.inl (List.mem_of_getElem? (i := 2) rfl))
          have N159 := Fr.snoc X159 Nl g_aS
          replace V_aS := arv_eq V_aS (vs' := (rs.reverse ++ a :: ((a :: bs) ++ ys)).map Dv) (by have z := dv_set (rs.reverse ++ [a]) (bs ++ ys) hole a; rw [List.append_assoc] at z; exact z.trans (by rw [List.append_assoc]; rfl))
          show Go p e below _ (T159.setTop (mkF m 133 #[vr m1, .val (.double (FP.l2d x)), .second, vi (Int32.ofNat ct), vi (Int32.ofNat (rs.length + 1))] []))
          refine gn X159 hx #[vr m1, .val (.double (FP.l2d x)), .second, vi (Int32.ofNat ct), vi (Int32.ofNat rs.length)] (D 77 rfl) rfl (by rw [show Int32.ofNat (rs.length + 1) + Int32.ofInt (-1) = Int32.ofNat rs.length from o_pred (a := rs.length + 1) (by omega)]; rfl) ?_
          refine gg X159 hx 98 (D 78 rfl) (by decide) ?_
          subst e159
          exact ih (a :: bs) ys a _ _ (by rw [List.length_cons]; omega) hy (by rw [List.append_assoc] at s1; exact s1) (by rw [List.append_assoc] at pm; exact pm) (fun z hz => (List.mem_cons.1 hz).elim (fun q => by rw [q]; exact lt_asym hgt) (s3 z)) (fun z hz => bs2 z (List.mem_cons_of_mem _ hz)) X159 N159 K0 E_m1 F_arrived_m1 F_sorted_m1 F_held_m1 F_next_m1 V_aA V_aS
        ·
          refine zY X154 hx 139 (D 66 rfl) ((if0 _ _).trans (flt (fun q => hgt ((lw_gt _ _).1 q) : ¬ ((0 : Int32) < (lcmpW a x)))).2.2.2) (by decide) ?_
          rw [← e154] at K0 E_m1 F_arrived_m1 F_sorted_m1 F_held_m1 F_next_m1 V_aA V_aS
          have hl2 : (rs.reverse ++ [a]).length = rs.length + 1 := by rw [List.length_append, hrl]; rfl
          show Go p e below _ (T154.setTop (mkF m 139 #[vr m1, .val (.double (FP.l2d x)), .second, vi (Int32.ofNat ct), vi (Int32.ofNat (rs.length + 1))] []))
          rw [← hl2]
          exact tailE (rs.reverse ++ [a]) bs ys hole _ _ (by rw [hl2]; exact hl1) hy s1 pm (srt_last s1 hgt) s3 X154 Nl K0 E_m1 F_arrived_m1 F_sorted_m1 F_held_m1 F_next_m1 V_aA (arv_eq V_aS (by rw [List.append_assoc]; rfl))
    refine ga Xl hx (D 23 rfl) rfl rfl ?_
    refine gF Xl hx hZ hown (wd hw 17 rfl) Via.refl rfl F_sorted_m1 (D 24 rfl) fun T160 X160 e160 => ?_
    refine gI X160 hx (D 25 rfl) rfl ?_
    refine gk X160 hx 1 (D 26 rfl) rfl ?_
    refine gq (XS.iadd X160.here hx rfl (D 27 rfl) rfl) rfl ?_
    refine ga X160 hx (D 28 rfl) rfl rfl ?_
    refine gF X160 hx hZ hown (wd hw 17 rfl) Via.refl e160 F_sorted_m1 (D 29 rfl) fun T161 X161 e161 => ?_
    refine gI X161 hx (D 30 rfl) rfl ?_
    refine gi X161 hx (D 31 rfl) rfl ?_
    refine gI X161 hx (D 32 rfl) rfl ?_
    refine gq (XS.isub X161.here hx rfl (D 33 rfl) rfl) rfl ?_
    refine gk X161 hx 1 (D 34 rfl) rfl ?_
    refine gq (XS.isub X161.here hx rfl (D 35 rfl) rfl) rfl ?_
    show Go p e below _ (T161.setTop (mkF m 63 #[vr m1, .val (.double (FP.l2d x)), .second, vi (Int32.ofNat xs.length), vi (Int32.ofNat us.length)] [(.int (((Int32.ofNat xs.length) - (Int32.ofNat us.length)) - (1 : Int32))), (.int (Int32.ofNat us.length)), (.ref aS), (.int ((Int32.ofNat us.length) + (1 : Int32))), (.ref aS)]))
    rw [show (((Int32.ofNat xs.length) - (Int32.ofNat us.length)) - (1 : Int32)) = Int32.ofNat ws.length from by rw [o_sub (by omega) (by omega)]; exact (o_sub (b := 1) (by omega) (by omega)).trans (by congr 1; omega)]
    rw [hcs] at V_aS
    obtain ⟨T162, h162, L162, X162, e162, N162, K162, Vn162, st162⟩ := cpA X161 hx hZ hown (wd hw 37 rfl) (wd hw 40 rfl) (wd hw 38 rfl) (wd hw 39 rfl) e161 V_aS V_aS (us := (ws.map Dv)) (Or.inl ⟨rfl, rfl⟩) (by rw [o_one]; exact o_nn (by omega)) (o_nn (by omega)) (o_nn (by omega)) (by rw [o_one, o_nat (by omega), o_nat (by omega), o_nat (by omega)]; omega) (by rw [o_nat (by omega), o_nat (by omega), o_nat (by omega)]; omega) (by rw [o_one, o_nat (by omega), o_nat (by omega), List.map_append, List.map_cons]; have z := rng_tail (us.map Dv) (Dv t) (ws.map Dv) (.double 0); rw [List.length_map, List.length_map] at z; exact z) (by rw [o_nat (by omega), o_nat (by omega), List.length_map, List.length_append, List.length_cons]; omega) Nl g_aS (g := (mkF m 63 #[vr m1, .val (.double (FP.l2d x)), .second, vi (Int32.ofNat xs.length), vi (Int32.ofNat us.length)] [(.int (Int32.ofNat ws.length)), (.int (Int32.ofNat us.length)), (.ref aS), (.int ((Int32.ofNat us.length) + (1 : Int32))), (.ref aS)])) rfl (by rw [hml]; rfl) rfl (D 36 rfl) (by decide) (W := 0) (by show 2 * 0 + _ ≤ _; exact Nat.le_of_eq rfl) (by decide)
    refine Go.by (fun t => st162 t) ?_
    have ne_m1_aS : m1 ≠ aS := Exa.neArv E_m1 V_aS (wd hw 6 rfl)
    replace E_m1 := E_m1.keep K162
    replace F_arrived_m1 := F_arrived_m1.keep K162 (ninS ne_m1_aS nin0)
    replace F_sorted_m1 := F_sorted_m1.keep K162 (ninS ne_m1_aS nin0)
    replace F_held_m1 := F_held_m1.keep K162 (ninS ne_m1_aS nin0)
    replace F_next_m1 := F_next_m1.keep K162 (ninS ne_m1_aS nin0)
    replace V_aA := V_aA.keep K162 (ninS ne_aA_aS nin0)
    replace K0 := K0.trans K162 (allS (P := fun x => x ∈ _ ∨ _ ≤ x) (Or.inl (List.mem_of_getElem? (i := 2) rfl)) all0)
    clear V_aS
    have V_aS := Vn162
    show Go p e below _ (T162.setTop (mkF m 66 #[vr m1, .val (.double (FP.l2d x)), .second, vi (Int32.ofNat xs.length), vi (Int32.ofNat us.length)] []))
    rw [o_nat (show us.length < 2147483648 by omega), o_nat (show ws.length < 2147483648 by omega), List.map_append, List.map_cons] at V_aS
    replace V_aS := arv_eq V_aS (vs' := (zs ++ z1 :: []).map Dv) (by have z := del_eq (us.map Dv) (ws.map Dv) (Dv t) (vs := vs1.map Dv) (z := Dv z1) (by rw [← List.map_cons, hvz, List.map_append]; rfl) (by rw [List.length_map, List.length_map]; exact hvl); rw [List.length_map, List.length_map] at z; rw [z, hzs', List.map_append, List.map_append]; rfl)
    show Go p e below _ (T162.setTop (mkF m 66 #[vr m1, .val (.double (FP.l2d x)), .second, vi (Int32.ofNat xs.length), vi (Int32.ofNat us.length)] []))
    refine gn X162 hx #[vr m1, .val (.double (FP.l2d x)), .second, vi (Int32.ofNat ct), vi (Int32.ofNat us.length)] (D 37 rfl) rfl (by rw [show Int32.ofNat xs.length + Int32.ofInt (-1) = Int32.ofNat ct from (o_pred (a := xs.length) (by omega)).trans (by congr 1; omega)]; rfl) ?_
    refine ga X162 hx (D 38 rfl) rfl rfl ?_
    refine gF X162 hx hZ hown (wd hw 15 rfl) Via.refl e162 F_arrived_m1 (D 39 rfl) fun T163 X163 e163 => ?_
    refine ga X163 hx (D 40 rfl) rfl rfl ?_
    refine gF X163 hx hZ hown (wd hw 35 rfl) Via.refl e163 F_next_m1 (D 41 rfl) fun T164 X164 e164 => ?_
    refine gd X164 hx (D 42 rfl) rfl ?_
    refine sD X164 hx hZ e164 V_aA (o_in (a := nx) (by omega) (by omega)) nx (o_nat (by omega)) (by rw [List.length_map]; omega) (D 43 rfl) fun T165 h165 X165 e165 W165 Vn165 => ?_
    have ne_m1_aA : m1 ≠ aA := Exa.neArv E_m1 V_aA (wd hw 6 rfl)
    replace V_aA := Vn165
    clear Vn165
    replace E_m1 := E_m1.wr W165
    replace F_arrived_m1 := F_arrived_m1.other W165 (Or.inl ne_m1_aA)
    replace F_sorted_m1 := F_sorted_m1.other W165 (Or.inl ne_m1_aA)
    replace F_held_m1 := F_held_m1.other W165 (Or.inl ne_m1_aA)
    replace F_next_m1 := F_next_m1.other W165 (Or.inl ne_m1_aA)
    replace V_aS := V_aS.other W165 (Ne.symm ne_aA_aS)
    replace K0 := K0.wr W165 (Or.inl (List.mem_of_getElem? (i := 1) rfl))
    have N165 := Fr.snoc X165 N162 g_aA
    replace V_aA := arv_eq V_aA (vs' := (ar.set nx x).map Dv) (List.map_set ..).symm
    refine ga X165 hx (D 44 rfl) rfl rfl ?_
    refine ga X165 hx (D 45 rfl) rfl rfl ?_
    refine gF X165 hx hZ hown (wd hw 35 rfl) Via.refl e165 F_next_m1 (D 46 rfl) fun T166 X166 e166 => ?_
    refine gk X166 hx 1 (D 47 rfl) rfl ?_
    refine gq (XS.iadd X166.here hx rfl (D 48 rfl) rfl) rfl ?_
    refine ga X166 hx (D 49 rfl) rfl rfl ?_
    refine gF X166 hx hZ hown (wd hw 15 rfl) Via.refl e166 F_arrived_m1 (D 50 rfl) fun T167 X167 e167 => ?_
    refine gN X167 hx hZ e167 V_aA (D 51 rfl) ?_
    refine gq (iremM X167 hx rfl (D 52 rfl) rfl (by first | assumption | decide)) rfl ?_
    show Go p e below _ (T167.setTop (mkF m 92 #[vr m1, .val (.double (FP.l2d x)), .second, vi (Int32.ofNat ct), vi (Int32.ofNat us.length)] [(.int (((Int32.ofNat nx) + (1 : Int32)) % (Int32.ofNat ca))), (.ref m1)]))
    rw [hn2]
    obtain ⟨T168, h168, X168, e168, W168, st168⟩ := putF X167 hx hZ hown (host := "") (Or.inl (wd hw 35 rfl)) Via.refl e167 F_next_m1 E_m1 (Or.inl (wd hw 36 rfl)) (wd hw 6 rfl) (ty := .int) (by decide) rfl rfl (g := (mkF m 92 #[vr m1, .val (.double (FP.l2d x)), .second, vi (Int32.ofNat ct), vi (Int32.ofNat us.length)] [(.int n2), (.ref m1)])) rfl rfl (D 53 rfl)
    refine Go.by (fun t => st168 t) ?_
    replace F_next_m1 := F_next_m1.same W168
    replace E_m1 := E_m1.wr W168
    replace F_arrived_m1 := F_arrived_m1.other W168 (Or.inr (slot_ne (Or.inr (wd hw 16 rfl)) (Or.inl (wd hw 36 rfl)) (by decide) (t := (.array .double)) (t' := .int) (by decide) (by decide)))
    replace F_sorted_m1 := F_sorted_m1.other W168 (Or.inr (slot_ne (Or.inr (wd hw 18 rfl)) (Or.inl (wd hw 36 rfl)) (by decide) (t := (.array .double)) (t' := .int) (by decide) (by decide)))
    replace F_held_m1 := F_held_m1.other W168 (Or.inr (slot_ne (Or.inl (wd hw 25 rfl)) (Or.inl (wd hw 36 rfl)) (by decide) (t := .int) (t' := .int) (by decide) (by decide)))
    replace V_aS := V_aS.other W168 (Ne.symm ne_m1_aS)
    replace V_aA := V_aA.other W168 (Ne.symm ne_m1_aA)
    replace K0 := K0.wr W168 (Or.inl (List.mem_of_getElem? (i := 0) rfl))
    have N168 := Fr.snoc X168 N165 g_m1
    show Go p e below _ (T168.setTop (mkF m 95 #[vr m1, .val (.double (FP.l2d x)), .second, vi (Int32.ofNat ct), vi (Int32.ofNat us.length)] []))
    refine gi X168 hx (D 54 rfl) rfl ?_
    refine gT X168 hx #[vr m1, .val (.double (FP.l2d x)), .second, vi (Int32.ofNat ct), vi (Int32.ofNat ct)] (D 55 rfl) rfl ?_
    subst e168
    show Go p e below _ (T168.setTop (mkF m 98 #[vr m1, .val (.double (FP.l2d x)), .second, vi (Int32.ofNat ct), vi (Int32.ofNat ct)] []))
    have hrv : zs.reverse.length = ct := by rw [List.length_reverse, hzs', List.length_append]; exact hct.symm
    show Go p e below _ (T168.setTop (mkF m 98 #[vr m1, .val (.double (FP.l2d x)), .second, vi (Int32.ofNat ct), vi (Int32.ofNat ct)] []))
    have zz := loopI zs.reverse [] [] z1 _ _ (by rw [hrv]; rfl) (by show ct + 1 + 0 = ca; omega) (by rw [List.reverse_reverse, List.append_nil, hzs']; rw [hcs] at so; exact srt_del so) (by rw [List.reverse_reverse, List.append_nil]) (fun _ h => nomatch h) (fun z hz => bxs z (by have q := List.mem_reverse.1 hz; rw [hzs'] at q; rw [hcs]; exact (List.mem_append.1 q).elim (fun h => List.mem_append_left _ h) (fun h => List.mem_append_right _ (List.mem_cons_of_mem _ h)))) X168 N168 K0 E_m1 F_arrived_m1 F_sorted_m1 F_held_m1 F_next_m1 V_aA (by rw [List.reverse_reverse]; exact V_aS)
    rw [hrv] at zz
    exact zz
  have loopF : ∀ (ws us : List Int64) (Tl : State) (Ll : List Loc) (hcs : xs = us ++ ws) (mt2 : t ∈ ws) (Xl : Stand p l e (⟨1, 0, 0, 40⟩ : Jvm.Room) s m #[(.ref m1), (.double (FP.l2d x))] below meth c Tl Ll 0 0) (Nl : Fr n0 Ll) (K0 : Keep h0 Tl.heap [m1, aA, aS]) (E_m1 : Exa Z Tl.heap m1 "com/example/oneiros/oneiros/SlidingMedian") (F_arrived_m1 : Fld Z Tl.heap m1 "com/example/oneiros/oneiros/SlidingMedian" "arrived" "[D" (.ref aA)) (F_sorted_m1 : Fld Z Tl.heap m1 "com/example/oneiros/oneiros/SlidingMedian" "sorted" "[D" (.ref aS)) (F_held_m1 : Fld Z Tl.heap m1 "com/example/oneiros/oneiros/SlidingMedian" "held" "I" (.int (Int32.ofNat xs.length))) (F_next_m1 : Fld Z Tl.heap m1 "com/example/oneiros/oneiros/SlidingMedian" "next" "I" (.int (Int32.ofNat nx))) (V_aA : Arv Z Tl.heap aA cA .double (Int32.ofNat ca) ((ar).map Dv) (.double 0)) (V_aS : Arv Z Tl.heap aS cS .double (Int32.ofNat ca) ((xs).map Dv) (.double 0)), Go p e below (End (fun v h L => ∃ xs' ys zs : List Int64, v = none ∧ Fr n0 L ∧ Keep h0 h [m1, aA, aS] ∧ Fld Z h m1 "com/example/oneiros/oneiros/SlidingMedian" "arrived" "[D" (.ref aA) ∧ Fld Z h m1 "com/example/oneiros/oneiros/SlidingMedian" "sorted" "[D" (.ref aS) ∧ Fld Z h m1 "com/example/oneiros/oneiros/SlidingMedian" "held" "I" (.int (Int32.ofNat ca)) ∧ Fld Z h m1 "com/example/oneiros/oneiros/SlidingMedian" "next" "I" (.int n2) ∧ Arv Z h aA cA .double (Int32.ofNat ca) ((ar.set nx x).map Dv) (.double 0) ∧ Arv Z h aS cS .double (Int32.ofNat ca) ((xs' ++ ys).map Dv) (.double 0) ∧ xs'.Perm (x :: zs) ∧ Srt xs' ∧ xs'.length + ys.length = ca ∧ xs.Perm (t :: zs) ∧ xs'.length = ca) s 0 0) (Tl.setTop (mkF m 17 #[vr m1, .val (.double (FP.l2d x)), .second, vi (Int32.ofNat xs.length), vi (Int32.ofNat us.length)] [])) := by
    intro ws
    induction ws with
    | nil => intro us Tl Ll hcs mt2; exact absurd mt2 (fun h => nomatch h)
    | cons q ws ih =>
      intro us Tl Ll hcs mt2 Xl Nl K0 E_m1 F_arrived_m1 F_sorted_m1 F_held_m1 F_next_m1 V_aA V_aS
      have hul : us.length + 1 + ws.length = ca := by rw [← hxl, hcs, List.length_append, List.length_cons]; omega
      have bq := bxs q (by rw [hcs]; exact List.mem_append_right _ (List.mem_cons_self ..))
      refine ga Xl hx (D 10 rfl) rfl rfl ?_
      refine gF Xl hx hZ hown (wd hw 17 rfl) Via.refl rfl F_sorted_m1 (D 11 rfl) fun T169 X169 e169 => ?_
      refine gI X169 hx (D 12 rfl) rfl ?_
      refine gDA X169 hx hZ e169 V_aS (o_in (a := us.length) (by omega) (by omega)) (.double (FP.l2d q)) (by rw [hcs]; exact dv_at us ws q _ (by omega)) (D 13 rfl) ?_
      refine ga X169 hx (D 14 rfl) rfl rfl ?_
      refine gF X169 hx hZ hown (wd hw 15 rfl) Via.refl e169 F_arrived_m1 (D 15 rfl) fun T171 X171 e171 => ?_
      refine ga X171 hx (D 16 rfl) rfl rfl ?_
      show Go p e below _ (T171.setTop (mkF m 29 #[vr m1, .val (.double (FP.l2d x)), .second, vi (Int32.ofNat xs.length), vi (Int32.ofNat us.length)] [(.ref m1), (.ref aA), (.double (FP.l2d q))]))
      refine gF X171 hx hZ hown (wd hw 35 rfl) Via.refl e171 F_next_m1 (D 17 rfl) fun T172 X172 e172 => ?_
      refine gDA X172 hx hZ e172 V_aA (o_in (a := nx) (by omega) (by omega)) (.double (FP.l2d t)) hat (D 18 rfl) ?_
      refine gq (XS.dcmpS X172.here hx rfl (D 19 rfl) rfl rfl) rfl ?_
      show Go p e below _ (T172.setTop (mkF m 34 #[vr m1, .val (.double (FP.l2d x)), .second, vi (Int32.ofNat xs.length), vi (Int32.ofNat us.length)] [(.int (cmpValue (FP.dcmp (FP.l2d q) (FP.l2d t)) .l))]))
      rw [dc bq bt]
      by_cases hqt : q = t
      ·
        refine zY X172 hx 43 (D 20 rfl) ((if0 _ _).trans (teq ((lw_eq _ _).2 hqt : (lcmpW q t) = (0 : Int32))).1) (by decide) ?_
        rw [← e172] at K0 E_m1 F_arrived_m1 F_sorted_m1 F_held_m1 F_next_m1 V_aA V_aS
        exact found us ws _ _ (by rw [← hqt]; exact hcs) X172 Nl K0 E_m1 F_arrived_m1 F_sorted_m1 F_held_m1 F_next_m1 V_aA V_aS
      ·
        refine zN X172 hx (D 20 rfl) ((if0 _ _).trans (feq (fun h => hqt ((lw_eq _ _).1 h) : ¬ ((lcmpW q t) = (0 : Int32)))).1) ?_
        show Go p e below _ (T172.setTop (mkF m 37 #[vr m1, .val (.double (FP.l2d x)), .second, vi (Int32.ofNat xs.length), vi (Int32.ofNat us.length)] []))
        refine gn X172 hx #[vr m1, .val (.double (FP.l2d x)), .second, vi (Int32.ofNat xs.length), vi (Int32.ofNat (us ++ [q]).length)] (D 21 rfl) rfl (by rw [show Int32.ofNat us.length + Int32.ofInt 1 = Int32.ofNat (us ++ [q]).length from by rw [List.length_append]; exact o_one _]; rfl) ?_
        refine gg X172 hx 17 (D 22 rfl) (by decide) ?_
        rw [← e172] at K0 E_m1 F_arrived_m1 F_sorted_m1 F_held_m1 F_next_m1 V_aA V_aS
        show Go p e below _ (T172.setTop (mkF m 17 #[vr m1, .val (.double (FP.l2d x)), .second, vi (Int32.ofNat xs.length), vi (Int32.ofNat (us ++ [q]).length)] []))
        exact ih (us ++ [q]) _ _ (by rw [hcs, List.append_assoc]; rfl) ((List.mem_cons.1 mt2).resolve_left fun h => hqt h.symm) X172 Nl K0 E_m1 F_arrived_m1 F_sorted_m1 F_held_m1 F_next_m1 V_aA V_aS
  subst e150
  exact loopF xs [] _ _ rfl mt X150 N0 K0 E_m1 F_arrived_m1 F_sorted_m1 F_held_m1 F_next_m1 V_aA V_aS
def Q_rm0 (Z : State) (i0 i1 i2 i3 i4 i5 : Int32) (ca nn : Nat) (h0 : Heap) (n0 : Nat) : Option Value → Heap → List Loc → Prop := fun v _ L => v = some (.int 1) ∧ Fr n0 L
set_option maxRecDepth 65536 in
set_option maxHeartbeats 40000000 in
theorem rm0 (l : Launch) (Z : State) (a0 : Array Value) (hw : HW a0 Z) (ws : List Jvm.Cond) (i0 i1 i2 i3 i4 i5 : Int32) (ca nn : Nat) (h0 : Heap) (n0 : Nat) (Z0 : n0 ≤ h0.size) (hca : ca = 1 ∨ ca = 2 ∨ ca = 3 ∨ ca = 4) (ecap : (i0 &&& (3 : Int32)) + (1 : Int32) = Int32.ofNat ca) (hnn : nn ≤ 5) (enn : (((i0.toUInt32 >>> ((2 : Int32) &&& 31).toUInt32).toInt32) &&& (7 : Int32)) % (6 : Int32) = Int32.ofNat nn) :
    CT l x code maxLocals ret ws room_1 #[(.int i0), (.int i1), (.int i2), (.int i3), (.int i4), (.int i5)] Z h0 (Q_rm0 Z i0 i1 i2 i3 i4 i5 ca nn h0 n0) := by
  refine Go.start (plainFor_of_name pn_0) #[vi i0, vi i1, vi i2, vi i3, vi i4, vi i5, uu, uu, uu, uu, uu, uu, uu, uu, uu, uu, uu, uu, uu, uu, uu, uu, uu, uu, uu, uu, uu, uu, uu, uu, uu] n0 (by first | (simp [argsToLocals, Value.category, maxLocals]; done) | rfl) ?_
  intro p e s m below meth c s₁ Bd hx hby hml hZ hown X0 e0 N0
  replace hown : s.vm.findClass "com/example/oneiros/oneiros/SlidingMedianGetPinLaw" = some m.cls := hown
  refine gi X0 hx (hb hby at_0) rfl ?_
  refine gk X0 hx 3 (hb hby at_1) rfl ?_
  refine gq (XS.iand X0.here hx rfl (hb hby at_2) rfl) rfl ?_
  refine gk X0 hx 1 (hb hby at_3) rfl ?_
  refine gq (XS.iadd X0.here hx rfl (hb hby at_4) rfl) rfl ?_
  have ecap' : ((i0 &&& (3 : Int32)) + (1 : Int32)) = (Int32.ofNat ca) := ecap
  show Go p e below _ (s₁.setTop (mkF m 5 #[vi i0, vi i1, vi i2, vi i3, vi i4, vi i5, uu, uu, uu, uu, uu, uu, uu, uu, uu, uu, uu, uu, uu, uu, uu, uu, uu, uu, uu, uu, uu, uu, uu, uu, uu] [(.int ((i0 &&& (3 : Int32)) + (1 : Int32)))]))
  rw [ecap']
  refine gT X0 hx #[vi i0, vi i1, vi i2, vi i3, vi i4, vi i5, vi (Int32.ofNat ca), uu, uu, uu, uu, uu, uu, uu, uu, uu, uu, uu, uu, uu, uu, uu, uu, uu, uu, uu, uu, uu, uu, uu, uu] (hb hby at_5) rfl ?_
  refine gi X0 hx (hb hby at_7) rfl ?_
  refine gk X0 hx 2 (hb hby at_8) rfl ?_
  refine gq (XS.iushr X0.here hx rfl (hb hby at_9) rfl) rfl ?_
  refine gb X0 hx 7 (hb hby at_10) rfl ?_
  refine gq (XS.iand X0.here hx rfl (hb hby at_12) rfl) rfl ?_
  refine gb X0 hx 6 (hb hby at_13) rfl ?_
  refine gq (iremM X0 hx rfl (hb hby at_15) rfl (by first | assumption | decide)) rfl ?_
  have enn' : ((((i0.toUInt32 >>> ((2 : Int32) &&& 31).toUInt32).toInt32) &&& (7 : Int32)) % (6 : Int32)) = (Int32.ofNat nn) := enn
  show Go p e below _ (s₁.setTop (mkF m 16 #[vi i0, vi i1, vi i2, vi i3, vi i4, vi i5, vi (Int32.ofNat ca), uu, uu, uu, uu, uu, uu, uu, uu, uu, uu, uu, uu, uu, uu, uu, uu, uu, uu, uu, uu, uu, uu, uu, uu] [(.int ((((i0.toUInt32 >>> ((2 : Int32) &&& 31).toUInt32).toInt32) &&& (7 : Int32)) % (6 : Int32)))]))
  rw [enn']
  refine gT X0 hx #[vi i0, vi i1, vi i2, vi i3, vi i4, vi i5, vi (Int32.ofNat ca), vi (Int32.ofNat nn), uu, uu, uu, uu, uu, uu, uu, uu, uu, uu, uu, uu, uu, uu, uu, uu, uu, uu, uu, uu, uu, uu, uu] (hb hby at_16) rfl ?_
  refine gi X0 hx (hb hby at_18) rfl ?_
  refine gb X0 hx 32 (hb hby at_19) rfl ?_
  refine gq (XS.iand X0.here hx rfl (hb hby at_21) rfl) rfl ?_
  refine Go.twoP (P := fun _ => True) (B := fun b8 => s₁.setTop (mkF m 30 #[vi i0, vi i1, vi i2, vi i3, vi i4, vi i5, vi (Int32.ofNat ca), vi (Int32.ofNat nn), uu, uu, uu, uu, uu, uu, uu, uu, uu, uu, uu, uu, uu, uu, uu, uu, uu, uu, uu, uu, uu, uu, uu] [(.int b8)])) ?_ fun tail => ?_
  ·
    intro b8 _
    show Go p e below _ (s₁.setTop (mkF m 30 #[vi i0, vi i1, vi i2, vi i3, vi i4, vi i5, vi (Int32.ofNat ca), vi (Int32.ofNat nn), uu, uu, uu, uu, uu, uu, uu, uu, uu, uu, uu, uu, uu, uu, uu, uu, uu, uu, uu, uu, uu, uu, uu] [(.int b8)]))
    refine gT X0 hx #[vi i0, vi i1, vi i2, vi i3, vi i4, vi i5, vi (Int32.ofNat ca), vi (Int32.ofNat nn), vi b8, uu, uu, uu, uu, uu, uu, uu, uu, uu, uu, uu, uu, uu, uu, uu, uu, uu, uu, uu, uu, uu, uu] (hb hby at_30) rfl ?_
    refine gk X0 hx 5 (hb hby at_32) rfl ?_
    obtain ⟨T174, h174, k174, X174, e174, E174, A174, st174⟩ := newP X0 hx hZ (wd hw 0 rfl) e0 (g := (mkF m 33 #[vi i0, vi i1, vi i2, vi i3, vi i4, vi i5, vi (Int32.ofNat ca), vi (Int32.ofNat nn), vi b8, uu, uu, uu, uu, uu, uu, uu, uu, uu, uu, uu, uu, uu, uu, uu, uu, uu, uu, uu, uu, uu, uu] [(.int (5 : Int32))])) rfl (hb hby at_33) rfl (by decide) (cap := 5) (by decide) (by decide) (by decide) (by decide)
    obtain ⟨v9, g174⟩ : ∃ z, z = h0.size := ⟨_, rfl⟩
    rw [← g174] at A174 st174
    refine Go.by (fun t => st174 t) ?_
    have g_v9 : n0 ≤ v9 := Nat.le_trans Z0 (Nat.le_of_eq g174.symm)
    replace Z0 := Nat.le_trans Z0 E174.1
    have V_v9 : Arv Z h174 v9 k174 .long (5 : Int32) [(.long (0 : Int64)), (.long (0 : Int64)), (.long (0 : Int64)), (.long (0 : Int64)), (.long (0 : Int64))] (.long (0 : Int64)) := (Arv.new A174 (by decide)).pad (pad_rep [] (.long (0 : Int64)) 5)
    replace X174 := Stand.num (C := 1) (S := 5) X174 rfl rfl
    show Go p e below _ (T174.setTop (mkF m 35 #[vi i0, vi i1, vi i2, vi i3, vi i4, vi i5, vi (Int32.ofNat ca), vi (Int32.ofNat nn), vi b8, uu, uu, uu, uu, uu, uu, uu, uu, uu, uu, uu, uu, uu, uu, uu, uu, uu, uu, uu, uu, uu, uu] [(.ref v9)]))
    refine gU X174 hx #[vi i0, vi i1, vi i2, vi i3, vi i4, vi i5, vi (Int32.ofNat ca), vi (Int32.ofNat nn), vi b8, vr v9, uu, uu, uu, uu, uu, uu, uu, uu, uu, uu, uu, uu, uu, uu, uu, uu, uu, uu, uu, uu, uu] (hb hby at_35) rfl rfl ?_
    refine gA X174 hx (hb hby at_37) rfl rfl ?_
    refine gk X174 hx 0 (hb hby at_39) rfl ?_
    refine gI X174 hx (hb hby at_40) rfl ?_
    refine gi X174 hx (hb hby at_42) rfl ?_
    refine kS (W := 2) (C := 1) (S := 5) X174 hx hZ hown (wd hw 1 rfl) (wd hw 2 rfl) (wd hw 3 rfl) (wd hw 4 rfl) (rmPK l Z a0 hw [] b8 i1 h174 n0) pd_0 (hb hby at_43) e174 hml (by exact ⟨rfl, rfl, rfl, rfl⟩) (by decide) fun v175 T175 L175 Lc175 X175 hQ175 l175 => ?_
    obtain ⟨y0, rfl, Nq175, e175, q0⟩ := hQ175
    have N175 := l175 N0 Nq175
    refine sL X175 hx hZ e175 V_v9 ⟨by decide, by decide⟩ 0 rfl (Nat.le_of_ble_eq_true rfl) (hb hby at_46) fun T176 h176 X176 e176 W176 Vn176 => ?_
    replace V_v9 : Arv Z h176 v9 k174 .long (5 : Int32) [(.long y0), (.long (0 : Int64)), (.long (0 : Int64)), (.long (0 : Int64)), (.long (0 : Int64))] (.long (0 : Int64)) := Vn176
    clear Vn176
    replace Z0 := Nat.le_trans Z0 (Keep.of_wr W176).1
    have N176 := Fr.snoc X176 N175 g_v9
    refine gA X176 hx (hb hby at_47) rfl rfl ?_
    refine gk X176 hx 1 (hb hby at_49) rfl ?_
    refine gI X176 hx (hb hby at_50) rfl ?_
    refine gi X176 hx (hb hby at_52) rfl ?_
    refine kS (W := 2) (C := 1) (S := 5) X176 hx hZ hown (wd hw 1 rfl) (wd hw 2 rfl) (wd hw 3 rfl) (wd hw 4 rfl) (rmPK l Z a0 hw [] b8 i2 h176 n0) pd_0 (hb hby at_53) e176 hml (by exact ⟨rfl, rfl, rfl, rfl⟩) (by decide) fun v177 T177 L177 Lc177 X177 hQ177 l177 => ?_
    obtain ⟨y1, rfl, Nq177, e177, q1⟩ := hQ177
    have N177 := l177 N176 Nq177
    refine sL X177 hx hZ e177 V_v9 ⟨by decide, by decide⟩ 1 rfl (Nat.le_of_ble_eq_true rfl) (hb hby at_56) fun T178 h178 X178 e178 W178 Vn178 => ?_
    replace V_v9 : Arv Z h178 v9 k174 .long (5 : Int32) [(.long y0), (.long y1), (.long (0 : Int64)), (.long (0 : Int64)), (.long (0 : Int64))] (.long (0 : Int64)) := Vn178
    clear Vn178
    replace Z0 := Nat.le_trans Z0 (Keep.of_wr W178).1
    have N178 := Fr.snoc X178 N177 g_v9
    refine gA X178 hx (hb hby at_57) rfl rfl ?_
    refine gk X178 hx 2 (hb hby at_59) rfl ?_
    refine gI X178 hx (hb hby at_60) rfl ?_
    refine gi X178 hx (hb hby at_62) rfl ?_
    refine kS (W := 2) (C := 1) (S := 5) X178 hx hZ hown (wd hw 1 rfl) (wd hw 2 rfl) (wd hw 3 rfl) (wd hw 4 rfl) (rmPK l Z a0 hw [] b8 i3 h178 n0) pd_0 (hb hby at_63) e178 hml (by exact ⟨rfl, rfl, rfl, rfl⟩) (by decide) fun v179 T179 L179 Lc179 X179 hQ179 l179 => ?_
    obtain ⟨y2, rfl, Nq179, e179, q2⟩ := hQ179
    have N179 := l179 N178 Nq179
    refine sL X179 hx hZ e179 V_v9 ⟨by decide, by decide⟩ 2 rfl (Nat.le_of_ble_eq_true rfl) (hb hby at_66) fun T180 h180 X180 e180 W180 Vn180 => ?_
    replace V_v9 : Arv Z h180 v9 k174 .long (5 : Int32) [(.long y0), (.long y1), (.long y2), (.long (0 : Int64)), (.long (0 : Int64))] (.long (0 : Int64)) := Vn180
    clear Vn180
    replace Z0 := Nat.le_trans Z0 (Keep.of_wr W180).1
    have N180 := Fr.snoc X180 N179 g_v9
    refine gA X180 hx (hb hby at_67) rfl rfl ?_
    refine gk X180 hx 3 (hb hby at_69) rfl ?_
    refine gI X180 hx (hb hby at_70) rfl ?_
    refine gI X180 hx (hb hby at_72) rfl ?_
    refine kS (W := 2) (C := 1) (S := 5) X180 hx hZ hown (wd hw 1 rfl) (wd hw 2 rfl) (wd hw 3 rfl) (wd hw 4 rfl) (rmPK l Z a0 hw [] b8 i4 h180 n0) pd_0 (hb hby at_74) e180 hml (by exact ⟨rfl, rfl, rfl, rfl⟩) (by decide) fun v181 T181 L181 Lc181 X181 hQ181 l181 => ?_
    obtain ⟨y3, rfl, Nq181, e181, q3⟩ := hQ181
    have N181 := l181 N180 Nq181
    refine sL X181 hx hZ e181 V_v9 ⟨by decide, by decide⟩ 3 rfl (Nat.le_of_ble_eq_true rfl) (hb hby at_77) fun T182 h182 X182 e182 W182 Vn182 => ?_
    replace V_v9 : Arv Z h182 v9 k174 .long (5 : Int32) [(.long y0), (.long y1), (.long y2), (.long y3), (.long (0 : Int64))] (.long (0 : Int64)) := Vn182
    clear Vn182
    replace Z0 := Nat.le_trans Z0 (Keep.of_wr W182).1
    have N182 := Fr.snoc X182 N181 g_v9
    refine gA X182 hx (hb hby at_78) rfl rfl ?_
    refine gk X182 hx 4 (hb hby at_80) rfl ?_
    refine gI X182 hx (hb hby at_81) rfl ?_
    refine gI X182 hx (hb hby at_83) rfl ?_
    refine kS (W := 2) (C := 1) (S := 5) X182 hx hZ hown (wd hw 1 rfl) (wd hw 2 rfl) (wd hw 3 rfl) (wd hw 4 rfl) (rmPK l Z a0 hw [] b8 i5 h182 n0) pd_0 (hb hby at_85) e182 hml (by exact ⟨rfl, rfl, rfl, rfl⟩) (by decide) fun v183 T183 L183 Lc183 X183 hQ183 l183 => ?_
    obtain ⟨y4, rfl, Nq183, e183, q4⟩ := hQ183
    have N183 := l183 N182 Nq183
    show Go p e below _ (T183.setTop (mkF m 88 #[vi i0, vi i1, vi i2, vi i3, vi i4, vi i5, vi (Int32.ofNat ca), vi (Int32.ofNat nn), vi b8, vr v9, uu, uu, uu, uu, uu, uu, uu, uu, uu, uu, uu, uu, uu, uu, uu, uu, uu, uu, uu, uu, uu] [(.long y4), (.int (4 : Int32)), (.ref v9)]))
    refine sL X183 hx hZ e183 V_v9 ⟨by decide, by decide⟩ 4 rfl (Nat.le_of_ble_eq_true rfl) (hb hby at_88) fun T184 h184 X184 e184 W184 Vn184 => ?_
    replace V_v9 : Arv Z h184 v9 k174 .long (5 : Int32) [(.long y0), (.long y1), (.long y2), (.long y3), (.long y4)] (.long (0 : Int64)) := Vn184
    clear Vn184
    replace Z0 := Nat.le_trans Z0 (Keep.of_wr W184).1
    have N184 := Fr.snoc X184 N183 g_v9
    obtain ⟨T185, h185, X185, e185, E185, A185, D185, -, st185⟩ := newO X184 hx hZ hown (wd hw 5 rfl) (wd hw 6 rfl) (wd hw 7 rfl) e184 (g := (mkF m 89 #[vi i0, vi i1, vi i2, vi i3, vi i4, vi i5, vi (Int32.ofNat ca), vi (Int32.ofNat nn), vi b8, vr v9, uu, uu, uu, uu, uu, uu, uu, uu, uu, uu, uu, uu, uu, uu, uu, uu, uu, uu, uu, uu, uu] [])) rfl (hb hby at_89) (by decide) (by decide)
    obtain ⟨m1, g185⟩ : ∃ z, z = h184.size := ⟨_, rfl⟩
    rw [← g185] at A185 D185 st185
    refine Go.by (fun t => st185 t) ?_
    have g_m1 : n0 ≤ m1 := Nat.le_trans Z0 (Nat.le_of_eq g185.symm)
    have ne_v9_m1 : v9 ≠ m1 := Nat.ne_of_lt (Nat.lt_of_lt_of_le V_v9.lt (Nat.le_of_eq g185.symm))
    replace V_v9 := V_v9.ext E185
    replace Z0 := Nat.le_trans Z0 E185.1
    have E_m1 := A185
    have F_arrived_m1 : Fld Z h185 m1 "com/example/oneiros/oneiros/SlidingMedian" "arrived" "[D" .null := D185 (Or.inr (wd hw 16 rfl)) (ty := (.array .double)) (by decide)
    have F_sorted_m1 : Fld Z h185 m1 "com/example/oneiros/oneiros/SlidingMedian" "sorted" "[D" .null := D185 (Or.inr (wd hw 18 rfl)) (ty := (.array .double)) (by decide)
    have F_held_m1 : Fld Z h185 m1 "com/example/oneiros/oneiros/SlidingMedian" "held" "I" (.int (0 : Int32)) := D185 (Or.inl (wd hw 25 rfl)) (ty := .int) (by decide)
    have F_next_m1 : Fld Z h185 m1 "com/example/oneiros/oneiros/SlidingMedian" "next" "I" (.int (0 : Int32)) := D185 (Or.inl (wd hw 36 rfl)) (ty := .int) (by decide)
    replace X185 := Stand.num (C := 2) (S := 9) X185 rfl rfl
    show Go p e below _ (T185.setTop (mkF m 92 #[vi i0, vi i1, vi i2, vi i3, vi i4, vi i5, vi (Int32.ofNat ca), vi (Int32.ofNat nn), vi b8, vr v9, uu, uu, uu, uu, uu, uu, uu, uu, uu, uu, uu, uu, uu, uu, uu, uu, uu, uu, uu, uu, uu] [(.ref m1)]))
    refine gq (XS.dup X185.here hx rfl (hb hby at_92) rfl rfl) rfl ?_
    refine gI X185 hx (hb hby at_93) rfl ?_
    refine kI (W := 1) (C := 4) (S := 17) X185 hx hZ hown (wd hw 8 rfl) (wd hw 9 rfl) (wd hw 7 rfl) (wd hw 10 rfl) (rmIN l Z a0 hw [] m1 ca h185 n0 Z0 E_m1 F_arrived_m1 F_sorted_m1 F_held_m1 F_next_m1 g_m1 (by omega)) pd_1 (hb hby at_95) e185 hml (by exact ⟨rfl, rfl, rfl, rfl⟩) (by decide) fun v186 T186 L186 Lc186 X186 hQ186 l186 => ?_
    obtain ⟨aA, aS, cA, cS, rfl, Nq186, K186, sA, sS, ne_aA_aS, f1, f2, f3, f4, V1, V2⟩ := hQ186
    have g_aA : n0 ≤ aA := Nat.le_trans Z0 sA
    have g_aS : n0 ≤ aS := Nat.le_trans Z0 sS
    have ne_v9_aA : v9 ≠ aA := Nat.ne_of_lt (Nat.lt_of_lt_of_le V_v9.lt sA)
    have ne_v9_aS : v9 ≠ aS := Nat.ne_of_lt (Nat.lt_of_lt_of_le V_v9.lt sS)
    have N186 := l186 N184 Nq186
    replace V_v9 := V_v9.keep K186 (ninS ne_v9_m1 nin0)
    replace E_m1 := E_m1.keep K186
    replace Z0 := Nat.le_trans Z0 K186.1
    clear F_arrived_m1 F_sorted_m1 F_held_m1 F_next_m1
    have F_arrived_m1 := f1
    have F_sorted_m1 := f2
    have F_held_m1 := f3
    have F_next_m1 := f4
    clear f1 f2 f3 f4
    have V_aA := V1
    have V_aS := V2
    clear V1 V2
    have t5 := hnn
    refine gU X186 hx #[vi i0, vi i1, vi i2, vi i3, vi i4, vi i5, vi (Int32.ofNat ca), vi (Int32.ofNat nn), vi b8, vr v9, vr m1, uu, uu, uu, uu, uu, uu, uu, uu, uu, uu, uu, uu, uu, uu, uu, uu, uu, uu, uu, uu] (hb hby at_98) rfl rfl ?_
    rcases hca with rfl | rfl | rfl | rfl
    ·
      show Go p e below _ (T186.setTop (mkF m 100 #[vi i0, vi i1, vi i2, vi i3, vi i4, vi i5, vi (Int32.ofNat 1), vi (Int32.ofNat nn), vi b8, vr v9, vr m1, uu, uu, uu, uu, uu, uu, uu, uu, uu, uu, uu, uu, uu, uu, uu, uu, uu, uu, uu, uu] []))
      refine gI X186 hx (hb hby at_100) rfl ?_
      by_cases hj : nn = 0
      ·
        refine zY X186 hx 115 (hb hby at_102) ((if0 _ _).trans (flt (fun q => absurd ((o_lt (a := 0) (by decide) (by omega)).1 q) (by omega) : ¬ ((0 : Int32) < (Int32.ofNat nn)))).2.2.2) (by decide) ?_
        refine gI X186 hx (hb hby at_115) rfl ?_
        refine gk X186 hx 1 (hb hby at_117) rfl ?_
        refine cY X186 hx 131 (hb hby at_118) (flt (fun q => absurd ((o_lt (a := 1) (by decide) (by omega)).1 q) (by omega) : ¬ ((1 : Int32) < (Int32.ofNat nn)))).2.2.2 (by decide) ?_
        refine gI X186 hx (hb hby at_131) rfl ?_
        refine gk X186 hx 2 (hb hby at_133) rfl ?_
        refine cY X186 hx 147 (hb hby at_134) (flt (fun q => absurd ((o_lt (a := 2) (by decide) (by omega)).1 q) (by omega) : ¬ ((2 : Int32) < (Int32.ofNat nn)))).2.2.2 (by decide) ?_
        refine gI X186 hx (hb hby at_147) rfl ?_
        refine gk X186 hx 3 (hb hby at_149) rfl ?_
        refine cY X186 hx 163 (hb hby at_150) (flt (fun q => absurd ((o_lt (a := 3) (by decide) (by omega)).1 q) (by omega) : ¬ ((3 : Int32) < (Int32.ofNat nn)))).2.2.2 (by decide) ?_
        refine gI X186 hx (hb hby at_163) rfl ?_
        refine gk X186 hx 4 (hb hby at_165) rfl ?_
        refine cY X186 hx 179 (hb hby at_166) (flt (fun q => absurd ((o_lt (a := 4) (by decide) (by omega)).1 q) (by omega) : ¬ ((4 : Int32) < (Int32.ofNat nn)))).2.2.2 (by decide) ?_
        subst hj
        show Go p e below _ (T186.setTop (mkF m 179 #[vi i0, vi i1, vi i2, vi i3, vi i4, vi i5, vi (Int32.ofNat 1), vi (Int32.ofNat 0), vi b8, vr v9, vr m1, uu, uu, uu, uu, uu, uu, uu, uu, uu, uu, uu, uu, uu, uu, uu, uu, uu, uu, uu, uu] []))
        refine gA X186 hx (hb hby at_179) rfl rfl ?_
        refine kV (W := 0) (C := 4) (S := 17) X186 hx hZ hown (wd hw 19 rfl) (wd hw 20 rfl) (wd hw 22 rfl) (wd hw 21 rfl) (wd hw 7 rfl) (wd hw 23 rfl) (notFace_of_selects (args := #[]) (mvT hZ (wd hw 22 rfl))) E_m1 (rmGT l Z a0 hw [] m1 aS cS 1 0 (List.replicate 1 (0 : Int64)) FP.dconst0 T186.heap n0 F_sorted_m1 F_held_m1 V_aS (Or.inl ⟨rfl, rfl⟩) (by decide)) pd_3 (hb hby at_181) rfl hml (by exact ⟨rfl, rfl, rfl, rfl⟩) (by decide) fun v187 T187 L187 Lc187 X187 hQ187 l187 => ?_
        obtain ⟨rfl, Nq187, e187⟩ := hQ187
        have N187 := l187 N186 Nq187
        refine gE X187 hx #[vi i0, vi i1, vi i2, vi i3, vi i4, vi i5, vi (Int32.ofNat 1), vi (Int32.ofNat 0), vi b8, vr v9, vr m1, .val (.double FP.dconst0), .second, uu, uu, uu, uu, uu, uu, uu, uu, uu, uu, uu, uu, uu, uu, uu, uu, uu, uu] (hb hby at_184) rfl ?_
        refine gI X187 hx (hb hby at_186) rfl ?_
        refine gI X187 hx (hb hby at_188) rfl ?_
        refine kS (W := 0) (C := 4) (S := 17) X187 hx hZ hown (wd hw 26 rfl) (wd hw 27 rfl) (wd hw 28 rfl) (wd hw 29 rfl) (rmMI l Z a0 hw [] 0 1 T186.heap n0 (by decide)) pd_4 (hb hby at_190) e187 hml (by exact ⟨rfl, rfl, rfl, rfl⟩) (by decide) fun v188 T188 L188 Lc188 X188 hQ188 l188 => ?_
        obtain ⟨rfl, Nq188, e188⟩ := hQ188
        have N188 := l188 N187 Nq188
        show Go p e below _ (T188.setTop (mkF m 193 #[vi i0, vi i1, vi i2, vi i3, vi i4, vi i5, vi (Int32.ofNat 1), vi (Int32.ofNat 0), vi b8, vr v9, vr m1, .val (.double FP.dconst0), .second, uu, uu, uu, uu, uu, uu, uu, uu, uu, uu, uu, uu, uu, uu, uu, uu, uu, uu] [(.int (Int32.ofNat (min 0 1)))]))
        rw [show Int32.ofNat (min 0 1) = (0 : Int32) from rfl]
        refine gT X188 hx #[vi i0, vi i1, vi i2, vi i3, vi i4, vi i5, vi (Int32.ofNat 1), vi (Int32.ofNat 0), vi b8, vr v9, vr m1, .val (.double FP.dconst0), .second, vi (0 : Int32), uu, uu, uu, uu, uu, uu, uu, uu, uu, uu, uu, uu, uu, uu, uu, uu, uu] (hb hby at_193) rfl ?_
        refine gI X188 hx (hb hby at_195) rfl ?_
        refine gI X188 hx (hb hby at_197) rfl ?_
        refine gq (XS.isub X188.here hx rfl (hb hby at_199) rfl) rfl ?_
        show Go p e below _ (T188.setTop (mkF m 200 #[vi i0, vi i1, vi i2, vi i3, vi i4, vi i5, vi (Int32.ofNat 1), vi (Int32.ofNat 0), vi b8, vr v9, vr m1, .val (.double FP.dconst0), .second, vi (0 : Int32), uu, uu, uu, uu, uu, uu, uu, uu, uu, uu, uu, uu, uu, uu, uu, uu, uu] [(.int ((Int32.ofNat 0) - (0 : Int32)))]))
        rw [show ((Int32.ofNat 0) - (0 : Int32)) = (0 : Int32) from by decide]
        refine gT X188 hx #[vi i0, vi i1, vi i2, vi i3, vi i4, vi i5, vi (Int32.ofNat 1), vi (Int32.ofNat 0), vi b8, vr v9, vr m1, .val (.double FP.dconst0), .second, vi (0 : Int32), vi (0 : Int32), uu, uu, uu, uu, uu, uu, uu, uu, uu, uu, uu, uu, uu, uu, uu, uu] (hb hby at_200) rfl ?_
        refine gI X188 hx (hb hby at_202) rfl ?_
        refine zY X188 hx 215 (hb hby at_204) ((if0 _ _).trans (flt (by decide : ¬ ((0 : Int32) < (0 : Int32)))).2.2.2) (by decide) ?_
        refine Go.by (fun t => XS.lconst X188.here hx rfl (hb hby at_215)) ?_
        show Go p e below _ (T188.setTop (mkF m 216 #[vi i0, vi i1, vi i2, vi i3, vi i4, vi i5, vi (Int32.ofNat 1), vi (Int32.ofNat 0), vi b8, vr v9, vr m1, .val (.double FP.dconst0), .second, vi (0 : Int32), vi (0 : Int32), uu, uu, uu, uu, uu, uu, uu, uu, uu, uu, uu, uu, uu, uu, uu, uu] [(.long (0 : Int64))]))
        refine gM X188 hx #[vi i0, vi i1, vi i2, vi i3, vi i4, vi i5, vi (Int32.ofNat 1), vi (Int32.ofNat 0), vi b8, vr v9, vr m1, .val (.double FP.dconst0), .second, vi (0 : Int32), vi (0 : Int32), .val (.long (0 : Int64)), .second, uu, uu, uu, uu, uu, uu, uu, uu, uu, uu, uu, uu, uu, uu] (hb hby at_216) rfl ?_
        refine gI X188 hx (hb hby at_218) rfl ?_
        refine gk X188 hx 1 (hb hby at_220) rfl ?_
        refine cY X188 hx 234 (hb hby at_221) (flt (by decide : ¬ ((1 : Int32) < (0 : Int32)))).2.2.2 (by decide) ?_
        refine Go.by (fun t => XS.lconst X188.here hx rfl (hb hby at_234)) ?_
        show Go p e below _ (T188.setTop (mkF m 235 #[vi i0, vi i1, vi i2, vi i3, vi i4, vi i5, vi (Int32.ofNat 1), vi (Int32.ofNat 0), vi b8, vr v9, vr m1, .val (.double FP.dconst0), .second, vi (0 : Int32), vi (0 : Int32), .val (.long (0 : Int64)), .second, uu, uu, uu, uu, uu, uu, uu, uu, uu, uu, uu, uu, uu, uu] [(.long (0 : Int64))]))
        refine gM X188 hx #[vi i0, vi i1, vi i2, vi i3, vi i4, vi i5, vi (Int32.ofNat 1), vi (Int32.ofNat 0), vi b8, vr v9, vr m1, .val (.double FP.dconst0), .second, vi (0 : Int32), vi (0 : Int32), .val (.long (0 : Int64)), .second, .val (.long (0 : Int64)), .second, uu, uu, uu, uu, uu, uu, uu, uu, uu, uu, uu, uu] (hb hby at_235) rfl ?_
        refine gI X188 hx (hb hby at_237) rfl ?_
        refine gk X188 hx 2 (hb hby at_239) rfl ?_
        refine cY X188 hx 253 (hb hby at_240) (flt (by decide : ¬ ((2 : Int32) < (0 : Int32)))).2.2.2 (by decide) ?_
        refine Go.by (fun t => XS.lconst X188.here hx rfl (hb hby at_253)) ?_
        show Go p e below _ (T188.setTop (mkF m 254 #[vi i0, vi i1, vi i2, vi i3, vi i4, vi i5, vi (Int32.ofNat 1), vi (Int32.ofNat 0), vi b8, vr v9, vr m1, .val (.double FP.dconst0), .second, vi (0 : Int32), vi (0 : Int32), .val (.long (0 : Int64)), .second, .val (.long (0 : Int64)), .second, uu, uu, uu, uu, uu, uu, uu, uu, uu, uu, uu, uu] [(.long (0 : Int64))]))
        refine gM X188 hx #[vi i0, vi i1, vi i2, vi i3, vi i4, vi i5, vi (Int32.ofNat 1), vi (Int32.ofNat 0), vi b8, vr v9, vr m1, .val (.double FP.dconst0), .second, vi (0 : Int32), vi (0 : Int32), .val (.long (0 : Int64)), .second, .val (.long (0 : Int64)), .second, .val (.long (0 : Int64)), .second, uu, uu, uu, uu, uu, uu, uu, uu, uu, uu] (hb hby at_254) rfl ?_
        refine gI X188 hx (hb hby at_256) rfl ?_
        refine gk X188 hx 3 (hb hby at_258) rfl ?_
        refine cY X188 hx 272 (hb hby at_259) (flt (by decide : ¬ ((3 : Int32) < (0 : Int32)))).2.2.2 (by decide) ?_
        refine Go.by (fun t => XS.lconst X188.here hx rfl (hb hby at_272)) ?_
        show Go p e below _ (T188.setTop (mkF m 273 #[vi i0, vi i1, vi i2, vi i3, vi i4, vi i5, vi (Int32.ofNat 1), vi (Int32.ofNat 0), vi b8, vr v9, vr m1, .val (.double FP.dconst0), .second, vi (0 : Int32), vi (0 : Int32), .val (.long (0 : Int64)), .second, .val (.long (0 : Int64)), .second, .val (.long (0 : Int64)), .second, uu, uu, uu, uu, uu, uu, uu, uu, uu, uu] [(.long (0 : Int64))]))
        refine gM X188 hx #[vi i0, vi i1, vi i2, vi i3, vi i4, vi i5, vi (Int32.ofNat 1), vi (Int32.ofNat 0), vi b8, vr v9, vr m1, .val (.double FP.dconst0), .second, vi (0 : Int32), vi (0 : Int32), .val (.long (0 : Int64)), .second, .val (.long (0 : Int64)), .second, .val (.long (0 : Int64)), .second, .val (.long (0 : Int64)), .second, uu, uu, uu, uu, uu, uu, uu, uu] (hb hby at_273) rfl ?_
        refine gI X188 hx (hb hby at_275) rfl ?_
        refine zN X188 hx (hb hby at_277) ((if0 _ _).trans (teq (rfl : (0 : Int32) = (0 : Int32))).2) ?_
        refine Go.by (fun t => XS.dconst0 X188.here hx rfl (hb hby at_280) rfl) ?_
        show Go p e below _ (T188.setTop (mkF m 281 #[vi i0, vi i1, vi i2, vi i3, vi i4, vi i5, vi (Int32.ofNat 1), vi (Int32.ofNat 0), vi b8, vr v9, vr m1, .val (.double FP.dconst0), .second, vi (0 : Int32), vi (0 : Int32), .val (.long (0 : Int64)), .second, .val (.long (0 : Int64)), .second, .val (.long (0 : Int64)), .second, .val (.long (0 : Int64)), .second, uu, uu, uu, uu, uu, uu, uu, uu] [(.double FP.dconst0)]))
        refine gE X188 hx #[vi i0, vi i1, vi i2, vi i3, vi i4, vi i5, vi (Int32.ofNat 1), vi (Int32.ofNat 0), vi b8, vr v9, vr m1, .val (.double FP.dconst0), .second, vi (0 : Int32), vi (0 : Int32), .val (.long (0 : Int64)), .second, .val (.long (0 : Int64)), .second, .val (.long (0 : Int64)), .second, .val (.long (0 : Int64)), .second, .val (.double FP.dconst0), .second, uu, uu, uu, uu, uu, uu] (hb hby at_281) rfl ?_
        refine gg X188 hx 425 (hb hby at_283) (by decide) ?_
        refine gD X188 hx (hb hby at_425) rfl ?_
        refine gD X188 hx (hb hby at_427) rfl ?_
        refine gq (XS.dcmpS X188.here hx rfl (hb hby at_429) rfl rfl) rfl ?_
        show Go p e below _ (T188.setTop (mkF m 430 #[vi i0, vi i1, vi i2, vi i3, vi i4, vi i5, vi (Int32.ofNat 1), vi (Int32.ofNat 0), vi b8, vr v9, vr m1, .val (.double FP.dconst0), .second, vi (0 : Int32), vi (0 : Int32), .val (.long (0 : Int64)), .second, .val (.long (0 : Int64)), .second, .val (.long (0 : Int64)), .second, .val (.long (0 : Int64)), .second, .val (.double FP.dconst0), .second, uu, uu, uu, uu, uu, uu] [(.int (cmpValue (FP.dcmp FP.dconst0 FP.dconst0) .l))]))
        rw [show (cmpValue (FP.dcmp FP.dconst0 FP.dconst0) .l) = 0 from eq0 (rfl) (by unfold NoNaN64; decide)]
        refine zN X188 hx (hb hby at_430) ((if0 _ _).trans (teq (rfl : (0 : Int32) = (0 : Int32))).2) ?_
        refine gk X188 hx 1 (hb hby at_433) rfl ?_
        refine gg X188 hx 438 (hb hby at_434) (by decide) ?_
        exact Go.ret1 X188 hx Bd.returns Bd.notSynchronized (by first | rfl | decide) (Or.inl ⟨rfl, by simp, _, rfl⟩) (hb hby at_438) (by decide) (by decide) (by first | (rw [e188]; exact ⟨rfl, N188⟩) | exact ⟨rfl, N188⟩)
      ·
        refine zN X186 hx (hb hby at_102) ((if0 _ _).trans (tlt ((o_lt (a := 0) (by decide) (by omega)).2 (by omega) : (0 : Int32) < (Int32.ofNat nn))).2.2.2) ?_
        replace t5 : 0 < nn := by omega
        refine gA X186 hx (hb hby at_105) rfl rfl ?_
        refine gA X186 hx (hb hby at_107) rfl rfl ?_
        refine gk X186 hx 0 (hb hby at_109) rfl ?_
        refine gLA X186 hx hZ rfl V_v9 ⟨by decide, by decide⟩ (.long y0) rfl (hb hby at_110) ?_
        refine gq (XS.l2dS X186.here hx rfl (hb hby at_111) rfl rfl) rfl ?_
        have V_aS' : Arv Z T186.heap aS cS .double (Int32.ofNat 1) (([] ++ (0 : Int64) :: List.replicate 0 0).map Dv) (.double 0) := V_aS
        have V_aA' : Arv Z T186.heap aA cA .double (Int32.ofNat 1) ([(0 : Int64)].map Dv) (.double 0) := V_aA
        refine kV (W := 0) (C := 4) (S := 17) X186 hx hZ hown (wd hw 30 rfl) (wd hw 31 rfl) (wd hw 33 rfl) (wd hw 32 rfl) (wd hw 7 rfl) (wd hw 34 rfl) (notFace_of_selects (args := #[]) (mvT hZ (wd hw 33 rfl))) E_m1 (rmAN l Z a0 hw [] m1 aA aS cA cS 1 0 [(0 : Int64)] [] y0 (0 : Int32) 0 (List.replicate 0 0) T186.heap n0 E_m1 F_arrived_m1 F_sorted_m1 F_held_m1 F_next_m1 V_aA' V_aS' ne_aA_aS g_m1 g_aA g_aS (by decide) rfl (by decide) (by decide) q0 (fun _ h => nomatch h) (show Srt [] from List.Pairwise.nil) rfl) pd_2 (hb hby at_112) rfl hml (by exact ⟨rfl, rfl, rfl, rfl⟩) (by decide) fun v190 T190 L190 Lc190 X190 hQ190 l190 => ?_
        obtain ⟨xs1, ys1, zs, rfl, Nq190, K190, f1, f2, f3, f4, V1, V2, pq, so1, hy1, hzz, hl1'⟩ := hQ190
        rw [hzz] at pq
        have pm1 : xs1.Perm [y0] := perm_new (W := []) pq (List.Perm.refl _)
        have hl1 : xs1.length = 1 := hl1'
        have N190 := l190 N186 Nq190
        replace V_v9 := V_v9.keep K190 (ninS ne_v9_m1 (ninS ne_v9_aA (ninS ne_v9_aS nin0)))
        replace E_m1 := E_m1.keep K190
        replace Z0 := Nat.le_trans Z0 K190.1
        clear F_arrived_m1 F_sorted_m1 F_held_m1 F_next_m1
        have F_arrived_m1 := f1
        have F_sorted_m1 := f2
        have F_held_m1 := f3
        have F_next_m1 := f4
        clear f1 f2 f3 f4
        clear V_aA V_aS
        have V_aA := V1
        have V_aS := V2
        clear V1 V2
        rw [← hl1'] at F_held_m1
        refine gI X190 hx (hb hby at_115) rfl ?_
        refine gk X190 hx 1 (hb hby at_117) rfl ?_
        by_cases hj : nn = 1
        ·
          refine cY X190 hx 131 (hb hby at_118) (flt (fun q => absurd ((o_lt (a := 1) (by decide) (by omega)).1 q) (by omega) : ¬ ((1 : Int32) < (Int32.ofNat nn)))).2.2.2 (by decide) ?_
          refine gI X190 hx (hb hby at_131) rfl ?_
          refine gk X190 hx 2 (hb hby at_133) rfl ?_
          refine cY X190 hx 147 (hb hby at_134) (flt (fun q => absurd ((o_lt (a := 2) (by decide) (by omega)).1 q) (by omega) : ¬ ((2 : Int32) < (Int32.ofNat nn)))).2.2.2 (by decide) ?_
          refine gI X190 hx (hb hby at_147) rfl ?_
          refine gk X190 hx 3 (hb hby at_149) rfl ?_
          refine cY X190 hx 163 (hb hby at_150) (flt (fun q => absurd ((o_lt (a := 3) (by decide) (by omega)).1 q) (by omega) : ¬ ((3 : Int32) < (Int32.ofNat nn)))).2.2.2 (by decide) ?_
          refine gI X190 hx (hb hby at_163) rfl ?_
          refine gk X190 hx 4 (hb hby at_165) rfl ?_
          refine cY X190 hx 179 (hb hby at_166) (flt (fun q => absurd ((o_lt (a := 4) (by decide) (by omega)).1 q) (by omega) : ¬ ((4 : Int32) < (Int32.ofNat nn)))).2.2.2 (by decide) ?_
          show Go p e below _ (T190.setTop (mkF m 179 #[vi i0, vi i1, vi i2, vi i3, vi i4, vi i5, vi (Int32.ofNat 1), vi (Int32.ofNat nn), vi b8, vr v9, vr m1, uu, uu, uu, uu, uu, uu, uu, uu, uu, uu, uu, uu, uu, uu, uu, uu, uu, uu, uu, uu] []))
          subst hj
          show Go p e below _ (T190.setTop (mkF m 179 #[vi i0, vi i1, vi i2, vi i3, vi i4, vi i5, vi (Int32.ofNat 1), vi (Int32.ofNat 1), vi b8, vr v9, vr m1, uu, uu, uu, uu, uu, uu, uu, uu, uu, uu, uu, uu, uu, uu, uu, uu, uu, uu, uu, uu] []))
          obtain ⟨u0, r0, hr0, hs0⟩ := lenS hl1
          have hxs : xs1 = [u0] := by rw [hr0, len0 hs0]
          rw [hxs] at pm1 so1 V_aS
          have bA : ∀ z ∈ [u0], BdI z := fun z hz => (allI q0 (allZ0)) z (pm1.mem_iff.1 hz)
          have hlen : ([u0] ++ ys1).length = 1 := by rw [List.length_append]; have q := hy1; rw [hxs] at q; exact q
          replace F_held_m1 : Fld Z T190.heap m1 "com/example/oneiros/oneiros/SlidingMedian" "held" "I" (.int (Int32.ofNat 1)) := by rw [hl1] at F_held_m1; exact F_held_m1
          refine gA X190 hx (hb hby at_179) rfl rfl ?_
          refine kV (W := 0) (C := 4) (S := 17) X190 hx hZ hown (wd hw 19 rfl) (wd hw 20 rfl) (wd hw 22 rfl) (wd hw 21 rfl) (wd hw 7 rfl) (wd hw 23 rfl) (notFace_of_selects (args := #[]) (mvT hZ (wd hw 22 rfl))) E_m1 (rmGT l Z a0 hw [] m1 aS cS 1 1 ([u0] ++ ys1) (FP.l2d u0) T190.heap n0 F_sorted_m1 F_held_m1 V_aS (Or.inr (Or.inl ⟨rfl, by decide, hlen, _, rfl, rfl⟩)) (by decide)) pd_3 (hb hby at_181) rfl hml (by exact ⟨rfl, rfl, rfl, rfl⟩) (by decide) fun v191 T191 L191 Lc191 X191 hQ191 l191 => ?_
          obtain ⟨rfl, Nq191, e191⟩ := hQ191
          have N191 := l191 N190 Nq191
          refine gE X191 hx #[vi i0, vi i1, vi i2, vi i3, vi i4, vi i5, vi (Int32.ofNat 1), vi (Int32.ofNat 1), vi b8, vr v9, vr m1, .val (.double (FP.l2d u0)), .second, uu, uu, uu, uu, uu, uu, uu, uu, uu, uu, uu, uu, uu, uu, uu, uu, uu, uu] (hb hby at_184) rfl ?_
          refine gI X191 hx (hb hby at_186) rfl ?_
          refine gI X191 hx (hb hby at_188) rfl ?_
          refine kS (W := 0) (C := 4) (S := 17) X191 hx hZ hown (wd hw 26 rfl) (wd hw 27 rfl) (wd hw 28 rfl) (wd hw 29 rfl) (rmMI l Z a0 hw [] 1 1 T190.heap n0 (by decide)) pd_4 (hb hby at_190) e191 hml (by exact ⟨rfl, rfl, rfl, rfl⟩) (by decide) fun v192 T192 L192 Lc192 X192 hQ192 l192 => ?_
          obtain ⟨rfl, Nq192, e192⟩ := hQ192
          have N192 := l192 N191 Nq192
          show Go p e below _ (T192.setTop (mkF m 193 #[vi i0, vi i1, vi i2, vi i3, vi i4, vi i5, vi (Int32.ofNat 1), vi (Int32.ofNat 1), vi b8, vr v9, vr m1, .val (.double (FP.l2d u0)), .second, uu, uu, uu, uu, uu, uu, uu, uu, uu, uu, uu, uu, uu, uu, uu, uu, uu, uu] [(.int (Int32.ofNat (min 1 1)))]))
          rw [show Int32.ofNat (min 1 1) = (1 : Int32) from rfl]
          refine gT X192 hx #[vi i0, vi i1, vi i2, vi i3, vi i4, vi i5, vi (Int32.ofNat 1), vi (Int32.ofNat 1), vi b8, vr v9, vr m1, .val (.double (FP.l2d u0)), .second, vi (1 : Int32), uu, uu, uu, uu, uu, uu, uu, uu, uu, uu, uu, uu, uu, uu, uu, uu, uu] (hb hby at_193) rfl ?_
          refine gI X192 hx (hb hby at_195) rfl ?_
          refine gI X192 hx (hb hby at_197) rfl ?_
          refine gq (XS.isub X192.here hx rfl (hb hby at_199) rfl) rfl ?_
          show Go p e below _ (T192.setTop (mkF m 200 #[vi i0, vi i1, vi i2, vi i3, vi i4, vi i5, vi (Int32.ofNat 1), vi (Int32.ofNat 1), vi b8, vr v9, vr m1, .val (.double (FP.l2d u0)), .second, vi (1 : Int32), uu, uu, uu, uu, uu, uu, uu, uu, uu, uu, uu, uu, uu, uu, uu, uu, uu] [(.int ((Int32.ofNat 1) - (1 : Int32)))]))
          rw [show ((Int32.ofNat 1) - (1 : Int32)) = (0 : Int32) from by decide]
          refine gT X192 hx #[vi i0, vi i1, vi i2, vi i3, vi i4, vi i5, vi (Int32.ofNat 1), vi (Int32.ofNat 1), vi b8, vr v9, vr m1, .val (.double (FP.l2d u0)), .second, vi (1 : Int32), vi (0 : Int32), uu, uu, uu, uu, uu, uu, uu, uu, uu, uu, uu, uu, uu, uu, uu, uu] (hb hby at_200) rfl ?_
          refine gI X192 hx (hb hby at_202) rfl ?_
          refine zN X192 hx (hb hby at_204) ((if0 _ _).trans (tlt (by decide : (0 : Int32) < (1 : Int32))).2.2.2) ?_
          refine gA X192 hx (hb hby at_207) rfl rfl ?_
          refine gI X192 hx (hb hby at_209) rfl ?_
          refine gLA X192 hx hZ e192 V_v9 (by decide) (.long y0) rfl (hb hby at_211) ?_
          refine gg X192 hx 216 (hb hby at_212) (by decide) ?_
          refine gM X192 hx #[vi i0, vi i1, vi i2, vi i3, vi i4, vi i5, vi (Int32.ofNat 1), vi (Int32.ofNat 1), vi b8, vr v9, vr m1, .val (.double (FP.l2d u0)), .second, vi (1 : Int32), vi (0 : Int32), .val (.long y0), .second, uu, uu, uu, uu, uu, uu, uu, uu, uu, uu, uu, uu, uu, uu] (hb hby at_216) rfl ?_
          refine gI X192 hx (hb hby at_218) rfl ?_
          refine gk X192 hx 1 (hb hby at_220) rfl ?_
          refine cY X192 hx 234 (hb hby at_221) (flt (by decide : ¬ ((1 : Int32) < (1 : Int32)))).2.2.2 (by decide) ?_
          refine Go.by (fun t => XS.lconst X192.here hx rfl (hb hby at_234)) ?_
          show Go p e below _ (T192.setTop (mkF m 235 #[vi i0, vi i1, vi i2, vi i3, vi i4, vi i5, vi (Int32.ofNat 1), vi (Int32.ofNat 1), vi b8, vr v9, vr m1, .val (.double (FP.l2d u0)), .second, vi (1 : Int32), vi (0 : Int32), .val (.long y0), .second, uu, uu, uu, uu, uu, uu, uu, uu, uu, uu, uu, uu, uu, uu] [(.long (0 : Int64))]))
          refine gM X192 hx #[vi i0, vi i1, vi i2, vi i3, vi i4, vi i5, vi (Int32.ofNat 1), vi (Int32.ofNat 1), vi b8, vr v9, vr m1, .val (.double (FP.l2d u0)), .second, vi (1 : Int32), vi (0 : Int32), .val (.long y0), .second, .val (.long (0 : Int64)), .second, uu, uu, uu, uu, uu, uu, uu, uu, uu, uu, uu, uu] (hb hby at_235) rfl ?_
          refine gI X192 hx (hb hby at_237) rfl ?_
          refine gk X192 hx 2 (hb hby at_239) rfl ?_
          refine cY X192 hx 253 (hb hby at_240) (flt (by decide : ¬ ((2 : Int32) < (1 : Int32)))).2.2.2 (by decide) ?_
          refine Go.by (fun t => XS.lconst X192.here hx rfl (hb hby at_253)) ?_
          show Go p e below _ (T192.setTop (mkF m 254 #[vi i0, vi i1, vi i2, vi i3, vi i4, vi i5, vi (Int32.ofNat 1), vi (Int32.ofNat 1), vi b8, vr v9, vr m1, .val (.double (FP.l2d u0)), .second, vi (1 : Int32), vi (0 : Int32), .val (.long y0), .second, .val (.long (0 : Int64)), .second, uu, uu, uu, uu, uu, uu, uu, uu, uu, uu, uu, uu] [(.long (0 : Int64))]))
          refine gM X192 hx #[vi i0, vi i1, vi i2, vi i3, vi i4, vi i5, vi (Int32.ofNat 1), vi (Int32.ofNat 1), vi b8, vr v9, vr m1, .val (.double (FP.l2d u0)), .second, vi (1 : Int32), vi (0 : Int32), .val (.long y0), .second, .val (.long (0 : Int64)), .second, .val (.long (0 : Int64)), .second, uu, uu, uu, uu, uu, uu, uu, uu, uu, uu] (hb hby at_254) rfl ?_
          refine gI X192 hx (hb hby at_256) rfl ?_
          refine gk X192 hx 3 (hb hby at_258) rfl ?_
          refine cY X192 hx 272 (hb hby at_259) (flt (by decide : ¬ ((3 : Int32) < (1 : Int32)))).2.2.2 (by decide) ?_
          refine Go.by (fun t => XS.lconst X192.here hx rfl (hb hby at_272)) ?_
          show Go p e below _ (T192.setTop (mkF m 273 #[vi i0, vi i1, vi i2, vi i3, vi i4, vi i5, vi (Int32.ofNat 1), vi (Int32.ofNat 1), vi b8, vr v9, vr m1, .val (.double (FP.l2d u0)), .second, vi (1 : Int32), vi (0 : Int32), .val (.long y0), .second, .val (.long (0 : Int64)), .second, .val (.long (0 : Int64)), .second, uu, uu, uu, uu, uu, uu, uu, uu, uu, uu] [(.long (0 : Int64))]))
          refine gM X192 hx #[vi i0, vi i1, vi i2, vi i3, vi i4, vi i5, vi (Int32.ofNat 1), vi (Int32.ofNat 1), vi b8, vr v9, vr m1, .val (.double (FP.l2d u0)), .second, vi (1 : Int32), vi (0 : Int32), .val (.long y0), .second, .val (.long (0 : Int64)), .second, .val (.long (0 : Int64)), .second, .val (.long (0 : Int64)), .second, uu, uu, uu, uu, uu, uu, uu, uu] (hb hby at_273) rfl ?_
          refine gI X192 hx (hb hby at_275) rfl ?_
          refine zY X192 hx 286 (hb hby at_277) ((if0 _ _).trans (feq (by decide : ¬ ((1 : Int32) = (0 : Int32)))).2) (by decide) ?_
          refine gI X192 hx (hb hby at_286) rfl ?_
          refine gk X192 hx 1 (hb hby at_288) rfl ?_
          refine cN X192 hx (hb hby at_289) (teq (rfl : (1 : Int32) = (1 : Int32))).2 ?_
          refine gL X192 hx (hb hby at_292) rfl ?_
          refine gq (XS.l2dS X192.here hx rfl (hb hby at_294) rfl rfl) rfl ?_
          refine gE X192 hx #[vi i0, vi i1, vi i2, vi i3, vi i4, vi i5, vi (Int32.ofNat 1), vi (Int32.ofNat 1), vi b8, vr v9, vr m1, .val (.double (FP.l2d u0)), .second, vi (1 : Int32), vi (0 : Int32), .val (.long y0), .second, .val (.long (0 : Int64)), .second, .val (.long (0 : Int64)), .second, .val (.long (0 : Int64)), .second, .val (.double (FP.l2d y0)), .second, uu, uu, uu, uu, uu, uu] (hb hby at_295) rfl ?_
          refine gg X192 hx 425 (hb hby at_297) (by decide) ?_
          refine gD X192 hx (hb hby at_425) rfl ?_
          refine gD X192 hx (hb hby at_427) rfl ?_
          refine gq (XS.dcmpS X192.here hx rfl (hb hby at_429) rfl rfl) rfl ?_
          show Go p e below _ (T192.setTop (mkF m 430 #[vi i0, vi i1, vi i2, vi i3, vi i4, vi i5, vi (Int32.ofNat 1), vi (Int32.ofNat 1), vi b8, vr v9, vr m1, .val (.double (FP.l2d u0)), .second, vi (1 : Int32), vi (0 : Int32), .val (.long y0), .second, .val (.long (0 : Int64)), .second, .val (.long (0 : Int64)), .second, .val (.long (0 : Int64)), .second, .val (.double (FP.l2d y0)), .second, uu, uu, uu, uu, uu, uu] [(.int (cmpValue (FP.dcmp (FP.l2d u0) (FP.l2d y0)) .l))]))
          rw [show (cmpValue (FP.dcmp (FP.l2d u0) (FP.l2d y0)) .l) = 0 from eq0 (congrArg FP.l2d (List.cons.inj (med1 pm1)).1) (l2d_fin _).noNaN]
          refine zN X192 hx (hb hby at_430) ((if0 _ _).trans (teq (rfl : (0 : Int32) = (0 : Int32))).2) ?_
          refine gk X192 hx 1 (hb hby at_433) rfl ?_
          refine gg X192 hx 438 (hb hby at_434) (by decide) ?_
          exact Go.ret1 X192 hx Bd.returns Bd.notSynchronized (by first | rfl | decide) (Or.inl ⟨rfl, by simp, _, rfl⟩) (hb hby at_438) (by decide) (by decide) (by first | (rw [e192]; exact ⟨rfl, N192⟩) | exact ⟨rfl, N192⟩)
        ·
          refine cN X190 hx (hb hby at_118) (tlt ((o_lt (a := 1) (by decide) (by omega)).2 (by omega) : (1 : Int32) < (Int32.ofNat nn))).2.2.2 ?_
          replace t5 : 1 < nn := by omega
          refine gA X190 hx (hb hby at_121) rfl rfl ?_
          refine gA X190 hx (hb hby at_123) rfl rfl ?_
          refine gk X190 hx 1 (hb hby at_125) rfl ?_
          refine gLA X190 hx hZ rfl V_v9 ⟨by decide, by decide⟩ (.long y1) rfl (hb hby at_126) ?_
          refine gq (XS.l2dS X190.here hx rfl (hb hby at_127) rfl rfl) rfl ?_
          refine kV (W := 0) (C := 4) (S := 17) X190 hx hZ hown (wd hw 30 rfl) (wd hw 31 rfl) (wd hw 33 rfl) (wd hw 32 rfl) (wd hw 7 rfl) (wd hw 34 rfl) (notFace_of_selects (args := #[]) (mvT hZ (wd hw 33 rfl))) E_m1 (rmAF l Z a0 hw [] m1 aA aS cA cS 1 0 [y0] xs1 y1 (0 : Int32) y0 T190.heap n0 E_m1 F_arrived_m1 F_sorted_m1 F_held_m1 F_next_m1 V_aA (arv_eq V_aS (by rw [len0 (l := ys1) (by omega), List.append_nil])) ne_aA_aS g_m1 g_aA g_aS (by decide) rfl (by decide) (by decide) q1 (fun z hz => (allI q0 (allZ0)) z (pm1.mem_iff.1 hz)) so1 (by omega) rfl (pm1.mem_iff.2 (List.mem_of_getElem? (i := 0) rfl)) q0) pd_2 (hb hby at_128) rfl hml (by exact ⟨rfl, rfl, rfl, rfl⟩) (by decide) fun v195 T195 L195 Lc195 X195 hQ195 l195 => ?_
          obtain ⟨xs2, ys2, zs, rfl, Nq195, K195, f1, f2, f3, f4, V1, V2, pq, so2, hy2, px, hl2⟩ := hQ195
          have pm2 : xs2.Perm [y1] := perm_old (W := []) pq px pm1
          have N195 := l195 N190 Nq195
          replace V_v9 := V_v9.keep K195 (ninS ne_v9_m1 (ninS ne_v9_aA (ninS ne_v9_aS nin0)))
          replace E_m1 := E_m1.keep K195
          replace Z0 := Nat.le_trans Z0 K195.1
          clear F_arrived_m1 F_sorted_m1 F_held_m1 F_next_m1
          have F_arrived_m1 := f1
          have F_sorted_m1 := f2
          have F_held_m1 := f3
          have F_next_m1 := f4
          clear f1 f2 f3 f4
          clear V_aA V_aS
          have V_aA := V1
          have V_aS := V2
          clear V1 V2
          rw [← hl2] at F_held_m1
          refine gI X195 hx (hb hby at_131) rfl ?_
          refine gk X195 hx 2 (hb hby at_133) rfl ?_
          by_cases hj : nn = 2
          ·
            refine cY X195 hx 147 (hb hby at_134) (flt (fun q => absurd ((o_lt (a := 2) (by decide) (by omega)).1 q) (by omega) : ¬ ((2 : Int32) < (Int32.ofNat nn)))).2.2.2 (by decide) ?_
            show Go p e below _ (T195.setTop (mkF m 147 #[vi i0, vi i1, vi i2, vi i3, vi i4, vi i5, vi (Int32.ofNat 1), vi (Int32.ofNat nn), vi b8, vr v9, vr m1, uu, uu, uu, uu, uu, uu, uu, uu, uu, uu, uu, uu, uu, uu, uu, uu, uu, uu, uu, uu] []))
            refine gI X195 hx (hb hby at_147) rfl ?_
            refine gk X195 hx 3 (hb hby at_149) rfl ?_
            refine cY X195 hx 163 (hb hby at_150) (flt (fun q => absurd ((o_lt (a := 3) (by decide) (by omega)).1 q) (by omega) : ¬ ((3 : Int32) < (Int32.ofNat nn)))).2.2.2 (by decide) ?_
            refine gI X195 hx (hb hby at_163) rfl ?_
            refine gk X195 hx 4 (hb hby at_165) rfl ?_
            refine cY X195 hx 179 (hb hby at_166) (flt (fun q => absurd ((o_lt (a := 4) (by decide) (by omega)).1 q) (by omega) : ¬ ((4 : Int32) < (Int32.ofNat nn)))).2.2.2 (by decide) ?_
            subst hj
            show Go p e below _ (T195.setTop (mkF m 179 #[vi i0, vi i1, vi i2, vi i3, vi i4, vi i5, vi (Int32.ofNat 1), vi (Int32.ofNat 2), vi b8, vr v9, vr m1, uu, uu, uu, uu, uu, uu, uu, uu, uu, uu, uu, uu, uu, uu, uu, uu, uu, uu, uu, uu] []))
            obtain ⟨u0, r0, hr0, hs0⟩ := lenS hl2
            have hxs : xs2 = [u0] := by rw [hr0, len0 hs0]
            rw [hxs] at pm2 so2 V_aS
            have bA : ∀ z ∈ [u0], BdI z := fun z hz => (allI q1 (allZ0)) z (pm2.mem_iff.1 hz)
            have hlen : ([u0] ++ ys2).length = 1 := by rw [List.length_append]; have q := hy2; rw [hxs] at q; exact q
            replace F_held_m1 : Fld Z T195.heap m1 "com/example/oneiros/oneiros/SlidingMedian" "held" "I" (.int (Int32.ofNat 1)) := by rw [hl2] at F_held_m1; exact F_held_m1
            refine gA X195 hx (hb hby at_179) rfl rfl ?_
            refine kV (W := 0) (C := 4) (S := 17) X195 hx hZ hown (wd hw 19 rfl) (wd hw 20 rfl) (wd hw 22 rfl) (wd hw 21 rfl) (wd hw 7 rfl) (wd hw 23 rfl) (notFace_of_selects (args := #[]) (mvT hZ (wd hw 22 rfl))) E_m1 (rmGT l Z a0 hw [] m1 aS cS 1 1 ([u0] ++ ys2) (FP.l2d u0) T195.heap n0 F_sorted_m1 F_held_m1 V_aS (Or.inr (Or.inl ⟨rfl, by decide, hlen, _, rfl, rfl⟩)) (by decide)) pd_3 (hb hby at_181) rfl hml (by exact ⟨rfl, rfl, rfl, rfl⟩) (by decide) fun v196 T196 L196 Lc196 X196 hQ196 l196 => ?_
            obtain ⟨rfl, Nq196, e196⟩ := hQ196
            have N196 := l196 N195 Nq196
            refine gE X196 hx #[vi i0, vi i1, vi i2, vi i3, vi i4, vi i5, vi (Int32.ofNat 1), vi (Int32.ofNat 2), vi b8, vr v9, vr m1, .val (.double (FP.l2d u0)), .second, uu, uu, uu, uu, uu, uu, uu, uu, uu, uu, uu, uu, uu, uu, uu, uu, uu, uu] (hb hby at_184) rfl ?_
            refine gI X196 hx (hb hby at_186) rfl ?_
            refine gI X196 hx (hb hby at_188) rfl ?_
            refine kS (W := 0) (C := 4) (S := 17) X196 hx hZ hown (wd hw 26 rfl) (wd hw 27 rfl) (wd hw 28 rfl) (wd hw 29 rfl) (rmMI l Z a0 hw [] 2 1 T195.heap n0 (by decide)) pd_4 (hb hby at_190) e196 hml (by exact ⟨rfl, rfl, rfl, rfl⟩) (by decide) fun v197 T197 L197 Lc197 X197 hQ197 l197 => ?_
            obtain ⟨rfl, Nq197, e197⟩ := hQ197
            have N197 := l197 N196 Nq197
            show Go p e below _ (T197.setTop (mkF m 193 #[vi i0, vi i1, vi i2, vi i3, vi i4, vi i5, vi (Int32.ofNat 1), vi (Int32.ofNat 2), vi b8, vr v9, vr m1, .val (.double (FP.l2d u0)), .second, uu, uu, uu, uu, uu, uu, uu, uu, uu, uu, uu, uu, uu, uu, uu, uu, uu, uu] [(.int (Int32.ofNat (min 2 1)))]))
            rw [show Int32.ofNat (min 2 1) = (1 : Int32) from rfl]
            refine gT X197 hx #[vi i0, vi i1, vi i2, vi i3, vi i4, vi i5, vi (Int32.ofNat 1), vi (Int32.ofNat 2), vi b8, vr v9, vr m1, .val (.double (FP.l2d u0)), .second, vi (1 : Int32), uu, uu, uu, uu, uu, uu, uu, uu, uu, uu, uu, uu, uu, uu, uu, uu, uu] (hb hby at_193) rfl ?_
            refine gI X197 hx (hb hby at_195) rfl ?_
            refine gI X197 hx (hb hby at_197) rfl ?_
            refine gq (XS.isub X197.here hx rfl (hb hby at_199) rfl) rfl ?_
            show Go p e below _ (T197.setTop (mkF m 200 #[vi i0, vi i1, vi i2, vi i3, vi i4, vi i5, vi (Int32.ofNat 1), vi (Int32.ofNat 2), vi b8, vr v9, vr m1, .val (.double (FP.l2d u0)), .second, vi (1 : Int32), uu, uu, uu, uu, uu, uu, uu, uu, uu, uu, uu, uu, uu, uu, uu, uu, uu] [(.int ((Int32.ofNat 2) - (1 : Int32)))]))
            rw [show ((Int32.ofNat 2) - (1 : Int32)) = (1 : Int32) from by decide]
            refine gT X197 hx #[vi i0, vi i1, vi i2, vi i3, vi i4, vi i5, vi (Int32.ofNat 1), vi (Int32.ofNat 2), vi b8, vr v9, vr m1, .val (.double (FP.l2d u0)), .second, vi (1 : Int32), vi (1 : Int32), uu, uu, uu, uu, uu, uu, uu, uu, uu, uu, uu, uu, uu, uu, uu, uu] (hb hby at_200) rfl ?_
            refine gI X197 hx (hb hby at_202) rfl ?_
            refine zN X197 hx (hb hby at_204) ((if0 _ _).trans (tlt (by decide : (0 : Int32) < (1 : Int32))).2.2.2) ?_
            refine gA X197 hx (hb hby at_207) rfl rfl ?_
            refine gI X197 hx (hb hby at_209) rfl ?_
            refine gLA X197 hx hZ e197 V_v9 (by decide) (.long y1) rfl (hb hby at_211) ?_
            refine gg X197 hx 216 (hb hby at_212) (by decide) ?_
            refine gM X197 hx #[vi i0, vi i1, vi i2, vi i3, vi i4, vi i5, vi (Int32.ofNat 1), vi (Int32.ofNat 2), vi b8, vr v9, vr m1, .val (.double (FP.l2d u0)), .second, vi (1 : Int32), vi (1 : Int32), .val (.long y1), .second, uu, uu, uu, uu, uu, uu, uu, uu, uu, uu, uu, uu, uu, uu] (hb hby at_216) rfl ?_
            refine gI X197 hx (hb hby at_218) rfl ?_
            refine gk X197 hx 1 (hb hby at_220) rfl ?_
            refine cY X197 hx 234 (hb hby at_221) (flt (by decide : ¬ ((1 : Int32) < (1 : Int32)))).2.2.2 (by decide) ?_
            refine Go.by (fun t => XS.lconst X197.here hx rfl (hb hby at_234)) ?_
            show Go p e below _ (T197.setTop (mkF m 235 #[vi i0, vi i1, vi i2, vi i3, vi i4, vi i5, vi (Int32.ofNat 1), vi (Int32.ofNat 2), vi b8, vr v9, vr m1, .val (.double (FP.l2d u0)), .second, vi (1 : Int32), vi (1 : Int32), .val (.long y1), .second, uu, uu, uu, uu, uu, uu, uu, uu, uu, uu, uu, uu, uu, uu] [(.long (0 : Int64))]))
            refine gM X197 hx #[vi i0, vi i1, vi i2, vi i3, vi i4, vi i5, vi (Int32.ofNat 1), vi (Int32.ofNat 2), vi b8, vr v9, vr m1, .val (.double (FP.l2d u0)), .second, vi (1 : Int32), vi (1 : Int32), .val (.long y1), .second, .val (.long (0 : Int64)), .second, uu, uu, uu, uu, uu, uu, uu, uu, uu, uu, uu, uu] (hb hby at_235) rfl ?_
            refine gI X197 hx (hb hby at_237) rfl ?_
            refine gk X197 hx 2 (hb hby at_239) rfl ?_
            refine cY X197 hx 253 (hb hby at_240) (flt (by decide : ¬ ((2 : Int32) < (1 : Int32)))).2.2.2 (by decide) ?_
            refine Go.by (fun t => XS.lconst X197.here hx rfl (hb hby at_253)) ?_
            show Go p e below _ (T197.setTop (mkF m 254 #[vi i0, vi i1, vi i2, vi i3, vi i4, vi i5, vi (Int32.ofNat 1), vi (Int32.ofNat 2), vi b8, vr v9, vr m1, .val (.double (FP.l2d u0)), .second, vi (1 : Int32), vi (1 : Int32), .val (.long y1), .second, .val (.long (0 : Int64)), .second, uu, uu, uu, uu, uu, uu, uu, uu, uu, uu, uu, uu] [(.long (0 : Int64))]))
            refine gM X197 hx #[vi i0, vi i1, vi i2, vi i3, vi i4, vi i5, vi (Int32.ofNat 1), vi (Int32.ofNat 2), vi b8, vr v9, vr m1, .val (.double (FP.l2d u0)), .second, vi (1 : Int32), vi (1 : Int32), .val (.long y1), .second, .val (.long (0 : Int64)), .second, .val (.long (0 : Int64)), .second, uu, uu, uu, uu, uu, uu, uu, uu, uu, uu] (hb hby at_254) rfl ?_
            refine gI X197 hx (hb hby at_256) rfl ?_
            refine gk X197 hx 3 (hb hby at_258) rfl ?_
            refine cY X197 hx 272 (hb hby at_259) (flt (by decide : ¬ ((3 : Int32) < (1 : Int32)))).2.2.2 (by decide) ?_
            refine Go.by (fun t => XS.lconst X197.here hx rfl (hb hby at_272)) ?_
            show Go p e below _ (T197.setTop (mkF m 273 #[vi i0, vi i1, vi i2, vi i3, vi i4, vi i5, vi (Int32.ofNat 1), vi (Int32.ofNat 2), vi b8, vr v9, vr m1, .val (.double (FP.l2d u0)), .second, vi (1 : Int32), vi (1 : Int32), .val (.long y1), .second, .val (.long (0 : Int64)), .second, .val (.long (0 : Int64)), .second, uu, uu, uu, uu, uu, uu, uu, uu, uu, uu] [(.long (0 : Int64))]))
            refine gM X197 hx #[vi i0, vi i1, vi i2, vi i3, vi i4, vi i5, vi (Int32.ofNat 1), vi (Int32.ofNat 2), vi b8, vr v9, vr m1, .val (.double (FP.l2d u0)), .second, vi (1 : Int32), vi (1 : Int32), .val (.long y1), .second, .val (.long (0 : Int64)), .second, .val (.long (0 : Int64)), .second, .val (.long (0 : Int64)), .second, uu, uu, uu, uu, uu, uu, uu, uu] (hb hby at_273) rfl ?_
            refine gI X197 hx (hb hby at_275) rfl ?_
            refine zY X197 hx 286 (hb hby at_277) ((if0 _ _).trans (feq (by decide : ¬ ((1 : Int32) = (0 : Int32)))).2) (by decide) ?_
            refine gI X197 hx (hb hby at_286) rfl ?_
            refine gk X197 hx 1 (hb hby at_288) rfl ?_
            refine cN X197 hx (hb hby at_289) (teq (rfl : (1 : Int32) = (1 : Int32))).2 ?_
            refine gL X197 hx (hb hby at_292) rfl ?_
            refine gq (XS.l2dS X197.here hx rfl (hb hby at_294) rfl rfl) rfl ?_
            refine gE X197 hx #[vi i0, vi i1, vi i2, vi i3, vi i4, vi i5, vi (Int32.ofNat 1), vi (Int32.ofNat 2), vi b8, vr v9, vr m1, .val (.double (FP.l2d u0)), .second, vi (1 : Int32), vi (1 : Int32), .val (.long y1), .second, .val (.long (0 : Int64)), .second, .val (.long (0 : Int64)), .second, .val (.long (0 : Int64)), .second, .val (.double (FP.l2d y1)), .second, uu, uu, uu, uu, uu, uu] (hb hby at_295) rfl ?_
            refine gg X197 hx 425 (hb hby at_297) (by decide) ?_
            refine gD X197 hx (hb hby at_425) rfl ?_
            refine gD X197 hx (hb hby at_427) rfl ?_
            refine gq (XS.dcmpS X197.here hx rfl (hb hby at_429) rfl rfl) rfl ?_
            show Go p e below _ (T197.setTop (mkF m 430 #[vi i0, vi i1, vi i2, vi i3, vi i4, vi i5, vi (Int32.ofNat 1), vi (Int32.ofNat 2), vi b8, vr v9, vr m1, .val (.double (FP.l2d u0)), .second, vi (1 : Int32), vi (1 : Int32), .val (.long y1), .second, .val (.long (0 : Int64)), .second, .val (.long (0 : Int64)), .second, .val (.long (0 : Int64)), .second, .val (.double (FP.l2d y1)), .second, uu, uu, uu, uu, uu, uu] [(.int (cmpValue (FP.dcmp (FP.l2d u0) (FP.l2d y1)) .l))]))
            rw [show (cmpValue (FP.dcmp (FP.l2d u0) (FP.l2d y1)) .l) = 0 from eq0 (congrArg FP.l2d (List.cons.inj (med1 pm2)).1) (l2d_fin _).noNaN]
            refine zN X197 hx (hb hby at_430) ((if0 _ _).trans (teq (rfl : (0 : Int32) = (0 : Int32))).2) ?_
            refine gk X197 hx 1 (hb hby at_433) rfl ?_
            refine gg X197 hx 438 (hb hby at_434) (by decide) ?_
            exact Go.ret1 X197 hx Bd.returns Bd.notSynchronized (by first | rfl | decide) (Or.inl ⟨rfl, by simp, _, rfl⟩) (hb hby at_438) (by decide) (by decide) (by first | (rw [e197]; exact ⟨rfl, N197⟩) | exact ⟨rfl, N197⟩)
          ·
            refine cN X195 hx (hb hby at_134) (tlt ((o_lt (a := 2) (by decide) (by omega)).2 (by omega) : (2 : Int32) < (Int32.ofNat nn))).2.2.2 ?_
            show Go p e below _ (T195.setTop (mkF m 137 #[vi i0, vi i1, vi i2, vi i3, vi i4, vi i5, vi (Int32.ofNat 1), vi (Int32.ofNat nn), vi b8, vr v9, vr m1, uu, uu, uu, uu, uu, uu, uu, uu, uu, uu, uu, uu, uu, uu, uu, uu, uu, uu, uu, uu] []))
            replace t5 : 2 < nn := by omega
            refine gA X195 hx (hb hby at_137) rfl rfl ?_
            refine gA X195 hx (hb hby at_139) rfl rfl ?_
            refine gk X195 hx 2 (hb hby at_141) rfl ?_
            refine gLA X195 hx hZ rfl V_v9 ⟨by decide, by decide⟩ (.long y2) rfl (hb hby at_142) ?_
            refine gq (XS.l2dS X195.here hx rfl (hb hby at_143) rfl rfl) rfl ?_
            refine kV (W := 0) (C := 4) (S := 17) X195 hx hZ hown (wd hw 30 rfl) (wd hw 31 rfl) (wd hw 33 rfl) (wd hw 32 rfl) (wd hw 7 rfl) (wd hw 34 rfl) (notFace_of_selects (args := #[]) (mvT hZ (wd hw 33 rfl))) E_m1 (rmAF l Z a0 hw [] m1 aA aS cA cS 1 0 [y1] xs2 y2 (0 : Int32) y1 T195.heap n0 E_m1 F_arrived_m1 F_sorted_m1 F_held_m1 F_next_m1 V_aA (arv_eq V_aS (by rw [len0 (l := ys2) (by omega), List.append_nil])) ne_aA_aS g_m1 g_aA g_aS (by decide) rfl (by decide) (by decide) q2 (fun z hz => (allI q1 (allZ0)) z (pm2.mem_iff.1 hz)) so2 (by omega) rfl (pm2.mem_iff.2 (List.mem_of_getElem? (i := 0) rfl)) q1) pd_2 (hb hby at_144) rfl hml (by exact ⟨rfl, rfl, rfl, rfl⟩) (by decide) fun v200 T200 L200 Lc200 X200 hQ200 l200 => ?_
            obtain ⟨xs3, ys3, zs, rfl, Nq200, K200, f1, f2, f3, f4, V1, V2, pq, so3, hy3, px, hl3⟩ := hQ200
            have pm3 : xs3.Perm [y2] := perm_old (W := []) pq px pm2
            have N200 := l200 N195 Nq200
            replace V_v9 := V_v9.keep K200 (ninS ne_v9_m1 (ninS ne_v9_aA (ninS ne_v9_aS nin0)))
            replace E_m1 := E_m1.keep K200
            replace Z0 := Nat.le_trans Z0 K200.1
            clear F_arrived_m1 F_sorted_m1 F_held_m1 F_next_m1
            have F_arrived_m1 := f1
            have F_sorted_m1 := f2
            have F_held_m1 := f3
            have F_next_m1 := f4
            clear f1 f2 f3 f4
            clear V_aA V_aS
            have V_aA := V1
            have V_aS := V2
            clear V1 V2
            rw [← hl3] at F_held_m1
            refine gI X200 hx (hb hby at_147) rfl ?_
            refine gk X200 hx 3 (hb hby at_149) rfl ?_
            by_cases hj : nn = 3
            ·
              refine cY X200 hx 163 (hb hby at_150) (flt (fun q => absurd ((o_lt (a := 3) (by decide) (by omega)).1 q) (by omega) : ¬ ((3 : Int32) < (Int32.ofNat nn)))).2.2.2 (by decide) ?_
              refine gI X200 hx (hb hby at_163) rfl ?_
              refine gk X200 hx 4 (hb hby at_165) rfl ?_
              refine cY X200 hx 179 (hb hby at_166) (flt (fun q => absurd ((o_lt (a := 4) (by decide) (by omega)).1 q) (by omega) : ¬ ((4 : Int32) < (Int32.ofNat nn)))).2.2.2 (by decide) ?_
              subst hj
              show Go p e below _ (T200.setTop (mkF m 179 #[vi i0, vi i1, vi i2, vi i3, vi i4, vi i5, vi (Int32.ofNat 1), vi (Int32.ofNat 3), vi b8, vr v9, vr m1, uu, uu, uu, uu, uu, uu, uu, uu, uu, uu, uu, uu, uu, uu, uu, uu, uu, uu, uu, uu] []))
              obtain ⟨u0, r0, hr0, hs0⟩ := lenS hl3
              have hxs : xs3 = [u0] := by rw [hr0, len0 hs0]
              rw [hxs] at pm3 so3 V_aS
              have bA : ∀ z ∈ [u0], BdI z := fun z hz => (allI q2 (allZ0)) z (pm3.mem_iff.1 hz)
              have hlen : ([u0] ++ ys3).length = 1 := by rw [List.length_append]; have q := hy3; rw [hxs] at q; exact q
              replace F_held_m1 : Fld Z T200.heap m1 "com/example/oneiros/oneiros/SlidingMedian" "held" "I" (.int (Int32.ofNat 1)) := by rw [hl3] at F_held_m1; exact F_held_m1
              refine gA X200 hx (hb hby at_179) rfl rfl ?_
              refine kV (W := 0) (C := 4) (S := 17) X200 hx hZ hown (wd hw 19 rfl) (wd hw 20 rfl) (wd hw 22 rfl) (wd hw 21 rfl) (wd hw 7 rfl) (wd hw 23 rfl) (notFace_of_selects (args := #[]) (mvT hZ (wd hw 22 rfl))) E_m1 (rmGT l Z a0 hw [] m1 aS cS 1 1 ([u0] ++ ys3) (FP.l2d u0) T200.heap n0 F_sorted_m1 F_held_m1 V_aS (Or.inr (Or.inl ⟨rfl, by decide, hlen, _, rfl, rfl⟩)) (by decide)) pd_3 (hb hby at_181) rfl hml (by exact ⟨rfl, rfl, rfl, rfl⟩) (by decide) fun v201 T201 L201 Lc201 X201 hQ201 l201 => ?_
              obtain ⟨rfl, Nq201, e201⟩ := hQ201
              have N201 := l201 N200 Nq201
              refine gE X201 hx #[vi i0, vi i1, vi i2, vi i3, vi i4, vi i5, vi (Int32.ofNat 1), vi (Int32.ofNat 3), vi b8, vr v9, vr m1, .val (.double (FP.l2d u0)), .second, uu, uu, uu, uu, uu, uu, uu, uu, uu, uu, uu, uu, uu, uu, uu, uu, uu, uu] (hb hby at_184) rfl ?_
              refine gI X201 hx (hb hby at_186) rfl ?_
              refine gI X201 hx (hb hby at_188) rfl ?_
              refine kS (W := 0) (C := 4) (S := 17) X201 hx hZ hown (wd hw 26 rfl) (wd hw 27 rfl) (wd hw 28 rfl) (wd hw 29 rfl) (rmMI l Z a0 hw [] 3 1 T200.heap n0 (by decide)) pd_4 (hb hby at_190) e201 hml (by exact ⟨rfl, rfl, rfl, rfl⟩) (by decide) fun v202 T202 L202 Lc202 X202 hQ202 l202 => ?_
              obtain ⟨rfl, Nq202, e202⟩ := hQ202
              have N202 := l202 N201 Nq202
              show Go p e below _ (T202.setTop (mkF m 193 #[vi i0, vi i1, vi i2, vi i3, vi i4, vi i5, vi (Int32.ofNat 1), vi (Int32.ofNat 3), vi b8, vr v9, vr m1, .val (.double (FP.l2d u0)), .second, uu, uu, uu, uu, uu, uu, uu, uu, uu, uu, uu, uu, uu, uu, uu, uu, uu, uu] [(.int (Int32.ofNat (min 3 1)))]))
              rw [show Int32.ofNat (min 3 1) = (1 : Int32) from rfl]
              refine gT X202 hx #[vi i0, vi i1, vi i2, vi i3, vi i4, vi i5, vi (Int32.ofNat 1), vi (Int32.ofNat 3), vi b8, vr v9, vr m1, .val (.double (FP.l2d u0)), .second, vi (1 : Int32), uu, uu, uu, uu, uu, uu, uu, uu, uu, uu, uu, uu, uu, uu, uu, uu, uu] (hb hby at_193) rfl ?_
              refine gI X202 hx (hb hby at_195) rfl ?_
              refine gI X202 hx (hb hby at_197) rfl ?_
              refine gq (XS.isub X202.here hx rfl (hb hby at_199) rfl) rfl ?_
              show Go p e below _ (T202.setTop (mkF m 200 #[vi i0, vi i1, vi i2, vi i3, vi i4, vi i5, vi (Int32.ofNat 1), vi (Int32.ofNat 3), vi b8, vr v9, vr m1, .val (.double (FP.l2d u0)), .second, vi (1 : Int32), uu, uu, uu, uu, uu, uu, uu, uu, uu, uu, uu, uu, uu, uu, uu, uu, uu] [(.int ((Int32.ofNat 3) - (1 : Int32)))]))
              rw [show ((Int32.ofNat 3) - (1 : Int32)) = (2 : Int32) from by decide]
              refine gT X202 hx #[vi i0, vi i1, vi i2, vi i3, vi i4, vi i5, vi (Int32.ofNat 1), vi (Int32.ofNat 3), vi b8, vr v9, vr m1, .val (.double (FP.l2d u0)), .second, vi (1 : Int32), vi (2 : Int32), uu, uu, uu, uu, uu, uu, uu, uu, uu, uu, uu, uu, uu, uu, uu, uu] (hb hby at_200) rfl ?_
              refine gI X202 hx (hb hby at_202) rfl ?_
              refine zN X202 hx (hb hby at_204) ((if0 _ _).trans (tlt (by decide : (0 : Int32) < (1 : Int32))).2.2.2) ?_
              refine gA X202 hx (hb hby at_207) rfl rfl ?_
              refine gI X202 hx (hb hby at_209) rfl ?_
              refine gLA X202 hx hZ e202 V_v9 (by decide) (.long y2) rfl (hb hby at_211) ?_
              refine gg X202 hx 216 (hb hby at_212) (by decide) ?_
              refine gM X202 hx #[vi i0, vi i1, vi i2, vi i3, vi i4, vi i5, vi (Int32.ofNat 1), vi (Int32.ofNat 3), vi b8, vr v9, vr m1, .val (.double (FP.l2d u0)), .second, vi (1 : Int32), vi (2 : Int32), .val (.long y2), .second, uu, uu, uu, uu, uu, uu, uu, uu, uu, uu, uu, uu, uu, uu] (hb hby at_216) rfl ?_
              refine gI X202 hx (hb hby at_218) rfl ?_
              refine gk X202 hx 1 (hb hby at_220) rfl ?_
              refine cY X202 hx 234 (hb hby at_221) (flt (by decide : ¬ ((1 : Int32) < (1 : Int32)))).2.2.2 (by decide) ?_
              refine Go.by (fun t => XS.lconst X202.here hx rfl (hb hby at_234)) ?_
              show Go p e below _ (T202.setTop (mkF m 235 #[vi i0, vi i1, vi i2, vi i3, vi i4, vi i5, vi (Int32.ofNat 1), vi (Int32.ofNat 3), vi b8, vr v9, vr m1, .val (.double (FP.l2d u0)), .second, vi (1 : Int32), vi (2 : Int32), .val (.long y2), .second, uu, uu, uu, uu, uu, uu, uu, uu, uu, uu, uu, uu, uu, uu] [(.long (0 : Int64))]))
              refine gM X202 hx #[vi i0, vi i1, vi i2, vi i3, vi i4, vi i5, vi (Int32.ofNat 1), vi (Int32.ofNat 3), vi b8, vr v9, vr m1, .val (.double (FP.l2d u0)), .second, vi (1 : Int32), vi (2 : Int32), .val (.long y2), .second, .val (.long (0 : Int64)), .second, uu, uu, uu, uu, uu, uu, uu, uu, uu, uu, uu, uu] (hb hby at_235) rfl ?_
              refine gI X202 hx (hb hby at_237) rfl ?_
              refine gk X202 hx 2 (hb hby at_239) rfl ?_
              refine cY X202 hx 253 (hb hby at_240) (flt (by decide : ¬ ((2 : Int32) < (1 : Int32)))).2.2.2 (by decide) ?_
              refine Go.by (fun t => XS.lconst X202.here hx rfl (hb hby at_253)) ?_
              show Go p e below _ (T202.setTop (mkF m 254 #[vi i0, vi i1, vi i2, vi i3, vi i4, vi i5, vi (Int32.ofNat 1), vi (Int32.ofNat 3), vi b8, vr v9, vr m1, .val (.double (FP.l2d u0)), .second, vi (1 : Int32), vi (2 : Int32), .val (.long y2), .second, .val (.long (0 : Int64)), .second, uu, uu, uu, uu, uu, uu, uu, uu, uu, uu, uu, uu] [(.long (0 : Int64))]))
              refine gM X202 hx #[vi i0, vi i1, vi i2, vi i3, vi i4, vi i5, vi (Int32.ofNat 1), vi (Int32.ofNat 3), vi b8, vr v9, vr m1, .val (.double (FP.l2d u0)), .second, vi (1 : Int32), vi (2 : Int32), .val (.long y2), .second, .val (.long (0 : Int64)), .second, .val (.long (0 : Int64)), .second, uu, uu, uu, uu, uu, uu, uu, uu, uu, uu] (hb hby at_254) rfl ?_
              refine gI X202 hx (hb hby at_256) rfl ?_
              refine gk X202 hx 3 (hb hby at_258) rfl ?_
              refine cY X202 hx 272 (hb hby at_259) (flt (by decide : ¬ ((3 : Int32) < (1 : Int32)))).2.2.2 (by decide) ?_
              refine Go.by (fun t => XS.lconst X202.here hx rfl (hb hby at_272)) ?_
              show Go p e below _ (T202.setTop (mkF m 273 #[vi i0, vi i1, vi i2, vi i3, vi i4, vi i5, vi (Int32.ofNat 1), vi (Int32.ofNat 3), vi b8, vr v9, vr m1, .val (.double (FP.l2d u0)), .second, vi (1 : Int32), vi (2 : Int32), .val (.long y2), .second, .val (.long (0 : Int64)), .second, .val (.long (0 : Int64)), .second, uu, uu, uu, uu, uu, uu, uu, uu, uu, uu] [(.long (0 : Int64))]))
              refine gM X202 hx #[vi i0, vi i1, vi i2, vi i3, vi i4, vi i5, vi (Int32.ofNat 1), vi (Int32.ofNat 3), vi b8, vr v9, vr m1, .val (.double (FP.l2d u0)), .second, vi (1 : Int32), vi (2 : Int32), .val (.long y2), .second, .val (.long (0 : Int64)), .second, .val (.long (0 : Int64)), .second, .val (.long (0 : Int64)), .second, uu, uu, uu, uu, uu, uu, uu, uu] (hb hby at_273) rfl ?_
              refine gI X202 hx (hb hby at_275) rfl ?_
              refine zY X202 hx 286 (hb hby at_277) ((if0 _ _).trans (feq (by decide : ¬ ((1 : Int32) = (0 : Int32)))).2) (by decide) ?_
              refine gI X202 hx (hb hby at_286) rfl ?_
              refine gk X202 hx 1 (hb hby at_288) rfl ?_
              refine cN X202 hx (hb hby at_289) (teq (rfl : (1 : Int32) = (1 : Int32))).2 ?_
              refine gL X202 hx (hb hby at_292) rfl ?_
              refine gq (XS.l2dS X202.here hx rfl (hb hby at_294) rfl rfl) rfl ?_
              refine gE X202 hx #[vi i0, vi i1, vi i2, vi i3, vi i4, vi i5, vi (Int32.ofNat 1), vi (Int32.ofNat 3), vi b8, vr v9, vr m1, .val (.double (FP.l2d u0)), .second, vi (1 : Int32), vi (2 : Int32), .val (.long y2), .second, .val (.long (0 : Int64)), .second, .val (.long (0 : Int64)), .second, .val (.long (0 : Int64)), .second, .val (.double (FP.l2d y2)), .second, uu, uu, uu, uu, uu, uu] (hb hby at_295) rfl ?_
              refine gg X202 hx 425 (hb hby at_297) (by decide) ?_
              refine gD X202 hx (hb hby at_425) rfl ?_
              refine gD X202 hx (hb hby at_427) rfl ?_
              refine gq (XS.dcmpS X202.here hx rfl (hb hby at_429) rfl rfl) rfl ?_
              show Go p e below _ (T202.setTop (mkF m 430 #[vi i0, vi i1, vi i2, vi i3, vi i4, vi i5, vi (Int32.ofNat 1), vi (Int32.ofNat 3), vi b8, vr v9, vr m1, .val (.double (FP.l2d u0)), .second, vi (1 : Int32), vi (2 : Int32), .val (.long y2), .second, .val (.long (0 : Int64)), .second, .val (.long (0 : Int64)), .second, .val (.long (0 : Int64)), .second, .val (.double (FP.l2d y2)), .second, uu, uu, uu, uu, uu, uu] [(.int (cmpValue (FP.dcmp (FP.l2d u0) (FP.l2d y2)) .l))]))
              rw [show (cmpValue (FP.dcmp (FP.l2d u0) (FP.l2d y2)) .l) = 0 from eq0 (congrArg FP.l2d (List.cons.inj (med1 pm3)).1) (l2d_fin _).noNaN]
              refine zN X202 hx (hb hby at_430) ((if0 _ _).trans (teq (rfl : (0 : Int32) = (0 : Int32))).2) ?_
              refine gk X202 hx 1 (hb hby at_433) rfl ?_
              refine gg X202 hx 438 (hb hby at_434) (by decide) ?_
              exact Go.ret1 X202 hx Bd.returns Bd.notSynchronized (by first | rfl | decide) (Or.inl ⟨rfl, by simp, _, rfl⟩) (hb hby at_438) (by decide) (by decide) (by first | (rw [e202]; exact ⟨rfl, N202⟩) | exact ⟨rfl, N202⟩)
            ·
              refine cN X200 hx (hb hby at_150) (tlt ((o_lt (a := 3) (by decide) (by omega)).2 (by omega) : (3 : Int32) < (Int32.ofNat nn))).2.2.2 ?_
              replace t5 : 3 < nn := by omega
              refine gA X200 hx (hb hby at_153) rfl rfl ?_
              refine gA X200 hx (hb hby at_155) rfl rfl ?_
              refine gk X200 hx 3 (hb hby at_157) rfl ?_
              refine gLA X200 hx hZ rfl V_v9 ⟨by decide, by decide⟩ (.long y3) rfl (hb hby at_158) ?_
              refine gq (XS.l2dS X200.here hx rfl (hb hby at_159) rfl rfl) rfl ?_
              refine kV (W := 0) (C := 4) (S := 17) X200 hx hZ hown (wd hw 30 rfl) (wd hw 31 rfl) (wd hw 33 rfl) (wd hw 32 rfl) (wd hw 7 rfl) (wd hw 34 rfl) (notFace_of_selects (args := #[]) (mvT hZ (wd hw 33 rfl))) E_m1 (rmAF l Z a0 hw [] m1 aA aS cA cS 1 0 [y2] xs3 y3 (0 : Int32) y2 T200.heap n0 E_m1 F_arrived_m1 F_sorted_m1 F_held_m1 F_next_m1 V_aA (arv_eq V_aS (by rw [len0 (l := ys3) (by omega), List.append_nil])) ne_aA_aS g_m1 g_aA g_aS (by decide) rfl (by decide) (by decide) q3 (fun z hz => (allI q2 (allZ0)) z (pm3.mem_iff.1 hz)) so3 (by omega) rfl (pm3.mem_iff.2 (List.mem_of_getElem? (i := 0) rfl)) q2) pd_2 (hb hby at_160) rfl hml (by exact ⟨rfl, rfl, rfl, rfl⟩) (by decide) fun v205 T205 L205 Lc205 X205 hQ205 l205 => ?_
              obtain ⟨xs4, ys4, zs, rfl, Nq205, K205, f1, f2, f3, f4, V1, V2, pq, so4, hy4, px, hl4⟩ := hQ205
              have pm4 : xs4.Perm [y3] := perm_old (W := []) pq px pm3
              have N205 := l205 N200 Nq205
              replace V_v9 := V_v9.keep K205 (ninS ne_v9_m1 (ninS ne_v9_aA (ninS ne_v9_aS nin0)))
              replace E_m1 := E_m1.keep K205
              replace Z0 := Nat.le_trans Z0 K205.1
              clear F_arrived_m1 F_sorted_m1 F_held_m1 F_next_m1
              have F_arrived_m1 := f1
              have F_sorted_m1 := f2
              have F_held_m1 := f3
              have F_next_m1 := f4
              clear f1 f2 f3 f4
              clear V_aA V_aS
              have V_aA := V1
              have V_aS := V2
              clear V1 V2
              rw [← hl4] at F_held_m1
              refine gI X205 hx (hb hby at_163) rfl ?_
              refine gk X205 hx 4 (hb hby at_165) rfl ?_
              by_cases hj : nn = 4
              ·
                refine cY X205 hx 179 (hb hby at_166) (flt (fun q => absurd ((o_lt (a := 4) (by decide) (by omega)).1 q) (by omega) : ¬ ((4 : Int32) < (Int32.ofNat nn)))).2.2.2 (by decide) ?_
                subst hj
                show Go p e below _ (T205.setTop (mkF m 179 #[vi i0, vi i1, vi i2, vi i3, vi i4, vi i5, vi (Int32.ofNat 1), vi (Int32.ofNat 4), vi b8, vr v9, vr m1, uu, uu, uu, uu, uu, uu, uu, uu, uu, uu, uu, uu, uu, uu, uu, uu, uu, uu, uu, uu] []))
                obtain ⟨u0, r0, hr0, hs0⟩ := lenS hl4
                have hxs : xs4 = [u0] := by rw [hr0, len0 hs0]
                rw [hxs] at pm4 so4 V_aS
                have bA : ∀ z ∈ [u0], BdI z := fun z hz => (allI q3 (allZ0)) z (pm4.mem_iff.1 hz)
                have hlen : ([u0] ++ ys4).length = 1 := by rw [List.length_append]; have q := hy4; rw [hxs] at q; exact q
                replace F_held_m1 : Fld Z T205.heap m1 "com/example/oneiros/oneiros/SlidingMedian" "held" "I" (.int (Int32.ofNat 1)) := by rw [hl4] at F_held_m1; exact F_held_m1
                refine gA X205 hx (hb hby at_179) rfl rfl ?_
                refine kV (W := 0) (C := 4) (S := 17) X205 hx hZ hown (wd hw 19 rfl) (wd hw 20 rfl) (wd hw 22 rfl) (wd hw 21 rfl) (wd hw 7 rfl) (wd hw 23 rfl) (notFace_of_selects (args := #[]) (mvT hZ (wd hw 22 rfl))) E_m1 (rmGT l Z a0 hw [] m1 aS cS 1 1 ([u0] ++ ys4) (FP.l2d u0) T205.heap n0 F_sorted_m1 F_held_m1 V_aS (Or.inr (Or.inl ⟨rfl, by decide, hlen, _, rfl, rfl⟩)) (by decide)) pd_3 (hb hby at_181) rfl hml (by exact ⟨rfl, rfl, rfl, rfl⟩) (by decide) fun v206 T206 L206 Lc206 X206 hQ206 l206 => ?_
                obtain ⟨rfl, Nq206, e206⟩ := hQ206
                have N206 := l206 N205 Nq206
                refine gE X206 hx #[vi i0, vi i1, vi i2, vi i3, vi i4, vi i5, vi (Int32.ofNat 1), vi (Int32.ofNat 4), vi b8, vr v9, vr m1, .val (.double (FP.l2d u0)), .second, uu, uu, uu, uu, uu, uu, uu, uu, uu, uu, uu, uu, uu, uu, uu, uu, uu, uu] (hb hby at_184) rfl ?_
                refine gI X206 hx (hb hby at_186) rfl ?_
                refine gI X206 hx (hb hby at_188) rfl ?_
                refine kS (W := 0) (C := 4) (S := 17) X206 hx hZ hown (wd hw 26 rfl) (wd hw 27 rfl) (wd hw 28 rfl) (wd hw 29 rfl) (rmMI l Z a0 hw [] 4 1 T205.heap n0 (by decide)) pd_4 (hb hby at_190) e206 hml (by exact ⟨rfl, rfl, rfl, rfl⟩) (by decide) fun v207 T207 L207 Lc207 X207 hQ207 l207 => ?_
                obtain ⟨rfl, Nq207, e207⟩ := hQ207
                have N207 := l207 N206 Nq207
                show Go p e below _ (T207.setTop (mkF m 193 #[vi i0, vi i1, vi i2, vi i3, vi i4, vi i5, vi (Int32.ofNat 1), vi (Int32.ofNat 4), vi b8, vr v9, vr m1, .val (.double (FP.l2d u0)), .second, uu, uu, uu, uu, uu, uu, uu, uu, uu, uu, uu, uu, uu, uu, uu, uu, uu, uu] [(.int (Int32.ofNat (min 4 1)))]))
                rw [show Int32.ofNat (min 4 1) = (1 : Int32) from rfl]
                refine gT X207 hx #[vi i0, vi i1, vi i2, vi i3, vi i4, vi i5, vi (Int32.ofNat 1), vi (Int32.ofNat 4), vi b8, vr v9, vr m1, .val (.double (FP.l2d u0)), .second, vi (1 : Int32), uu, uu, uu, uu, uu, uu, uu, uu, uu, uu, uu, uu, uu, uu, uu, uu, uu] (hb hby at_193) rfl ?_
                refine gI X207 hx (hb hby at_195) rfl ?_
                refine gI X207 hx (hb hby at_197) rfl ?_
                refine gq (XS.isub X207.here hx rfl (hb hby at_199) rfl) rfl ?_
                show Go p e below _ (T207.setTop (mkF m 200 #[vi i0, vi i1, vi i2, vi i3, vi i4, vi i5, vi (Int32.ofNat 1), vi (Int32.ofNat 4), vi b8, vr v9, vr m1, .val (.double (FP.l2d u0)), .second, vi (1 : Int32), uu, uu, uu, uu, uu, uu, uu, uu, uu, uu, uu, uu, uu, uu, uu, uu, uu] [(.int ((Int32.ofNat 4) - (1 : Int32)))]))
                rw [show ((Int32.ofNat 4) - (1 : Int32)) = (3 : Int32) from by decide]
                refine gT X207 hx #[vi i0, vi i1, vi i2, vi i3, vi i4, vi i5, vi (Int32.ofNat 1), vi (Int32.ofNat 4), vi b8, vr v9, vr m1, .val (.double (FP.l2d u0)), .second, vi (1 : Int32), vi (3 : Int32), uu, uu, uu, uu, uu, uu, uu, uu, uu, uu, uu, uu, uu, uu, uu, uu] (hb hby at_200) rfl ?_
                refine gI X207 hx (hb hby at_202) rfl ?_
                refine zN X207 hx (hb hby at_204) ((if0 _ _).trans (tlt (by decide : (0 : Int32) < (1 : Int32))).2.2.2) ?_
                refine gA X207 hx (hb hby at_207) rfl rfl ?_
                refine gI X207 hx (hb hby at_209) rfl ?_
                refine gLA X207 hx hZ e207 V_v9 (by decide) (.long y3) rfl (hb hby at_211) ?_
                refine gg X207 hx 216 (hb hby at_212) (by decide) ?_
                refine gM X207 hx #[vi i0, vi i1, vi i2, vi i3, vi i4, vi i5, vi (Int32.ofNat 1), vi (Int32.ofNat 4), vi b8, vr v9, vr m1, .val (.double (FP.l2d u0)), .second, vi (1 : Int32), vi (3 : Int32), .val (.long y3), .second, uu, uu, uu, uu, uu, uu, uu, uu, uu, uu, uu, uu, uu, uu] (hb hby at_216) rfl ?_
                refine gI X207 hx (hb hby at_218) rfl ?_
                refine gk X207 hx 1 (hb hby at_220) rfl ?_
                refine cY X207 hx 234 (hb hby at_221) (flt (by decide : ¬ ((1 : Int32) < (1 : Int32)))).2.2.2 (by decide) ?_
                refine Go.by (fun t => XS.lconst X207.here hx rfl (hb hby at_234)) ?_
                show Go p e below _ (T207.setTop (mkF m 235 #[vi i0, vi i1, vi i2, vi i3, vi i4, vi i5, vi (Int32.ofNat 1), vi (Int32.ofNat 4), vi b8, vr v9, vr m1, .val (.double (FP.l2d u0)), .second, vi (1 : Int32), vi (3 : Int32), .val (.long y3), .second, uu, uu, uu, uu, uu, uu, uu, uu, uu, uu, uu, uu, uu, uu] [(.long (0 : Int64))]))
                refine gM X207 hx #[vi i0, vi i1, vi i2, vi i3, vi i4, vi i5, vi (Int32.ofNat 1), vi (Int32.ofNat 4), vi b8, vr v9, vr m1, .val (.double (FP.l2d u0)), .second, vi (1 : Int32), vi (3 : Int32), .val (.long y3), .second, .val (.long (0 : Int64)), .second, uu, uu, uu, uu, uu, uu, uu, uu, uu, uu, uu, uu] (hb hby at_235) rfl ?_
                refine gI X207 hx (hb hby at_237) rfl ?_
                refine gk X207 hx 2 (hb hby at_239) rfl ?_
                refine cY X207 hx 253 (hb hby at_240) (flt (by decide : ¬ ((2 : Int32) < (1 : Int32)))).2.2.2 (by decide) ?_
                refine Go.by (fun t => XS.lconst X207.here hx rfl (hb hby at_253)) ?_
                show Go p e below _ (T207.setTop (mkF m 254 #[vi i0, vi i1, vi i2, vi i3, vi i4, vi i5, vi (Int32.ofNat 1), vi (Int32.ofNat 4), vi b8, vr v9, vr m1, .val (.double (FP.l2d u0)), .second, vi (1 : Int32), vi (3 : Int32), .val (.long y3), .second, .val (.long (0 : Int64)), .second, uu, uu, uu, uu, uu, uu, uu, uu, uu, uu, uu, uu] [(.long (0 : Int64))]))
                refine gM X207 hx #[vi i0, vi i1, vi i2, vi i3, vi i4, vi i5, vi (Int32.ofNat 1), vi (Int32.ofNat 4), vi b8, vr v9, vr m1, .val (.double (FP.l2d u0)), .second, vi (1 : Int32), vi (3 : Int32), .val (.long y3), .second, .val (.long (0 : Int64)), .second, .val (.long (0 : Int64)), .second, uu, uu, uu, uu, uu, uu, uu, uu, uu, uu] (hb hby at_254) rfl ?_
                refine gI X207 hx (hb hby at_256) rfl ?_
                refine gk X207 hx 3 (hb hby at_258) rfl ?_
                refine cY X207 hx 272 (hb hby at_259) (flt (by decide : ¬ ((3 : Int32) < (1 : Int32)))).2.2.2 (by decide) ?_
                refine Go.by (fun t => XS.lconst X207.here hx rfl (hb hby at_272)) ?_
                show Go p e below _ (T207.setTop (mkF m 273 #[vi i0, vi i1, vi i2, vi i3, vi i4, vi i5, vi (Int32.ofNat 1), vi (Int32.ofNat 4), vi b8, vr v9, vr m1, .val (.double (FP.l2d u0)), .second, vi (1 : Int32), vi (3 : Int32), .val (.long y3), .second, .val (.long (0 : Int64)), .second, .val (.long (0 : Int64)), .second, uu, uu, uu, uu, uu, uu, uu, uu, uu, uu] [(.long (0 : Int64))]))
                refine gM X207 hx #[vi i0, vi i1, vi i2, vi i3, vi i4, vi i5, vi (Int32.ofNat 1), vi (Int32.ofNat 4), vi b8, vr v9, vr m1, .val (.double (FP.l2d u0)), .second, vi (1 : Int32), vi (3 : Int32), .val (.long y3), .second, .val (.long (0 : Int64)), .second, .val (.long (0 : Int64)), .second, .val (.long (0 : Int64)), .second, uu, uu, uu, uu, uu, uu, uu, uu] (hb hby at_273) rfl ?_
                refine gI X207 hx (hb hby at_275) rfl ?_
                refine zY X207 hx 286 (hb hby at_277) ((if0 _ _).trans (feq (by decide : ¬ ((1 : Int32) = (0 : Int32)))).2) (by decide) ?_
                refine gI X207 hx (hb hby at_286) rfl ?_
                refine gk X207 hx 1 (hb hby at_288) rfl ?_
                refine cN X207 hx (hb hby at_289) (teq (rfl : (1 : Int32) = (1 : Int32))).2 ?_
                refine gL X207 hx (hb hby at_292) rfl ?_
                refine gq (XS.l2dS X207.here hx rfl (hb hby at_294) rfl rfl) rfl ?_
                refine gE X207 hx #[vi i0, vi i1, vi i2, vi i3, vi i4, vi i5, vi (Int32.ofNat 1), vi (Int32.ofNat 4), vi b8, vr v9, vr m1, .val (.double (FP.l2d u0)), .second, vi (1 : Int32), vi (3 : Int32), .val (.long y3), .second, .val (.long (0 : Int64)), .second, .val (.long (0 : Int64)), .second, .val (.long (0 : Int64)), .second, .val (.double (FP.l2d y3)), .second, uu, uu, uu, uu, uu, uu] (hb hby at_295) rfl ?_
                refine gg X207 hx 425 (hb hby at_297) (by decide) ?_
                refine gD X207 hx (hb hby at_425) rfl ?_
                refine gD X207 hx (hb hby at_427) rfl ?_
                refine gq (XS.dcmpS X207.here hx rfl (hb hby at_429) rfl rfl) rfl ?_
                show Go p e below _ (T207.setTop (mkF m 430 #[vi i0, vi i1, vi i2, vi i3, vi i4, vi i5, vi (Int32.ofNat 1), vi (Int32.ofNat 4), vi b8, vr v9, vr m1, .val (.double (FP.l2d u0)), .second, vi (1 : Int32), vi (3 : Int32), .val (.long y3), .second, .val (.long (0 : Int64)), .second, .val (.long (0 : Int64)), .second, .val (.long (0 : Int64)), .second, .val (.double (FP.l2d y3)), .second, uu, uu, uu, uu, uu, uu] [(.int (cmpValue (FP.dcmp (FP.l2d u0) (FP.l2d y3)) .l))]))
                rw [show (cmpValue (FP.dcmp (FP.l2d u0) (FP.l2d y3)) .l) = 0 from eq0 (congrArg FP.l2d (List.cons.inj (med1 pm4)).1) (l2d_fin _).noNaN]
                refine zN X207 hx (hb hby at_430) ((if0 _ _).trans (teq (rfl : (0 : Int32) = (0 : Int32))).2) ?_
                refine gk X207 hx 1 (hb hby at_433) rfl ?_
                refine gg X207 hx 438 (hb hby at_434) (by decide) ?_
                exact Go.ret1 X207 hx Bd.returns Bd.notSynchronized (by first | rfl | decide) (Or.inl ⟨rfl, by simp, _, rfl⟩) (hb hby at_438) (by decide) (by decide) (by first | (rw [e207]; exact ⟨rfl, N207⟩) | exact ⟨rfl, N207⟩)
              ·
                refine cN X205 hx (hb hby at_166) (tlt ((o_lt (a := 4) (by decide) (by omega)).2 (by omega) : (4 : Int32) < (Int32.ofNat nn))).2.2.2 ?_
                replace t5 : 4 < nn := by omega
                refine gA X205 hx (hb hby at_169) rfl rfl ?_
                refine gA X205 hx (hb hby at_171) rfl rfl ?_
                refine gk X205 hx 4 (hb hby at_173) rfl ?_
                refine gLA X205 hx hZ rfl V_v9 ⟨by decide, by decide⟩ (.long y4) rfl (hb hby at_174) ?_
                show Go p e below _ (T205.setTop (mkF m 175 #[vi i0, vi i1, vi i2, vi i3, vi i4, vi i5, vi (Int32.ofNat 1), vi (Int32.ofNat nn), vi b8, vr v9, vr m1, uu, uu, uu, uu, uu, uu, uu, uu, uu, uu, uu, uu, uu, uu, uu, uu, uu, uu, uu, uu] [(.long y4), (.ref m1)]))
                refine gq (XS.l2dS X205.here hx rfl (hb hby at_175) rfl rfl) rfl ?_
                refine kV (W := 0) (C := 4) (S := 17) X205 hx hZ hown (wd hw 30 rfl) (wd hw 31 rfl) (wd hw 33 rfl) (wd hw 32 rfl) (wd hw 7 rfl) (wd hw 34 rfl) (notFace_of_selects (args := #[]) (mvT hZ (wd hw 33 rfl))) E_m1 (rmAF l Z a0 hw [] m1 aA aS cA cS 1 0 [y3] xs4 y4 (0 : Int32) y3 T205.heap n0 E_m1 F_arrived_m1 F_sorted_m1 F_held_m1 F_next_m1 V_aA (arv_eq V_aS (by rw [len0 (l := ys4) (by omega), List.append_nil])) ne_aA_aS g_m1 g_aA g_aS (by decide) rfl (by decide) (by decide) q4 (fun z hz => (allI q3 (allZ0)) z (pm4.mem_iff.1 hz)) so4 (by omega) rfl (pm4.mem_iff.2 (List.mem_of_getElem? (i := 0) rfl)) q3) pd_2 (hb hby at_176) rfl hml (by exact ⟨rfl, rfl, rfl, rfl⟩) (by decide) fun v210 T210 L210 Lc210 X210 hQ210 l210 => ?_
                obtain ⟨xs5, ys5, zs, rfl, Nq210, K210, f1, f2, f3, f4, V1, V2, pq, so5, hy5, px, hl5⟩ := hQ210
                have pm5 : xs5.Perm [y4] := perm_old (W := []) pq px pm4
                have N210 := l210 N205 Nq210
                replace V_v9 := V_v9.keep K210 (ninS ne_v9_m1 (ninS ne_v9_aA (ninS ne_v9_aS nin0)))
                replace E_m1 := E_m1.keep K210
                replace Z0 := Nat.le_trans Z0 K210.1
                clear F_arrived_m1 F_sorted_m1 F_held_m1 F_next_m1
                have F_arrived_m1 := f1
                have F_sorted_m1 := f2
                have F_held_m1 := f3
                have F_next_m1 := f4
                clear f1 f2 f3 f4
                clear V_aA V_aS
                have V_aA := V1
                have V_aS := V2
                clear V1 V2
                rw [← hl5] at F_held_m1
                have hj : nn = 5 := by omega
                subst hj
                show Go p e below _ (T210.setTop (mkF m 179 #[vi i0, vi i1, vi i2, vi i3, vi i4, vi i5, vi (Int32.ofNat 1), vi (Int32.ofNat 5), vi b8, vr v9, vr m1, uu, uu, uu, uu, uu, uu, uu, uu, uu, uu, uu, uu, uu, uu, uu, uu, uu, uu, uu, uu] []))
                obtain ⟨u0, r0, hr0, hs0⟩ := lenS hl5
                have hxs : xs5 = [u0] := by rw [hr0, len0 hs0]
                rw [hxs] at pm5 so5 V_aS
                have bA : ∀ z ∈ [u0], BdI z := fun z hz => (allI q4 (allZ0)) z (pm5.mem_iff.1 hz)
                have hlen : ([u0] ++ ys5).length = 1 := by rw [List.length_append]; have q := hy5; rw [hxs] at q; exact q
                replace F_held_m1 : Fld Z T210.heap m1 "com/example/oneiros/oneiros/SlidingMedian" "held" "I" (.int (Int32.ofNat 1)) := by rw [hl5] at F_held_m1; exact F_held_m1
                refine gA X210 hx (hb hby at_179) rfl rfl ?_
                refine kV (W := 0) (C := 4) (S := 17) X210 hx hZ hown (wd hw 19 rfl) (wd hw 20 rfl) (wd hw 22 rfl) (wd hw 21 rfl) (wd hw 7 rfl) (wd hw 23 rfl) (notFace_of_selects (args := #[]) (mvT hZ (wd hw 22 rfl))) E_m1 (rmGT l Z a0 hw [] m1 aS cS 1 1 ([u0] ++ ys5) (FP.l2d u0) T210.heap n0 F_sorted_m1 F_held_m1 V_aS (Or.inr (Or.inl ⟨rfl, by decide, hlen, _, rfl, rfl⟩)) (by decide)) pd_3 (hb hby at_181) rfl hml (by exact ⟨rfl, rfl, rfl, rfl⟩) (by decide) fun v211 T211 L211 Lc211 X211 hQ211 l211 => ?_
                obtain ⟨rfl, Nq211, e211⟩ := hQ211
                have N211 := l211 N210 Nq211
                refine gE X211 hx #[vi i0, vi i1, vi i2, vi i3, vi i4, vi i5, vi (Int32.ofNat 1), vi (Int32.ofNat 5), vi b8, vr v9, vr m1, .val (.double (FP.l2d u0)), .second, uu, uu, uu, uu, uu, uu, uu, uu, uu, uu, uu, uu, uu, uu, uu, uu, uu, uu] (hb hby at_184) rfl ?_
                refine gI X211 hx (hb hby at_186) rfl ?_
                refine gI X211 hx (hb hby at_188) rfl ?_
                refine kS (W := 0) (C := 4) (S := 17) X211 hx hZ hown (wd hw 26 rfl) (wd hw 27 rfl) (wd hw 28 rfl) (wd hw 29 rfl) (rmMI l Z a0 hw [] 5 1 T210.heap n0 (by decide)) pd_4 (hb hby at_190) e211 hml (by exact ⟨rfl, rfl, rfl, rfl⟩) (by decide) fun v212 T212 L212 Lc212 X212 hQ212 l212 => ?_
                obtain ⟨rfl, Nq212, e212⟩ := hQ212
                have N212 := l212 N211 Nq212
                show Go p e below _ (T212.setTop (mkF m 193 #[vi i0, vi i1, vi i2, vi i3, vi i4, vi i5, vi (Int32.ofNat 1), vi (Int32.ofNat 5), vi b8, vr v9, vr m1, .val (.double (FP.l2d u0)), .second, uu, uu, uu, uu, uu, uu, uu, uu, uu, uu, uu, uu, uu, uu, uu, uu, uu, uu] [(.int (Int32.ofNat (min 5 1)))]))
                rw [show Int32.ofNat (min 5 1) = (1 : Int32) from rfl]
                refine gT X212 hx #[vi i0, vi i1, vi i2, vi i3, vi i4, vi i5, vi (Int32.ofNat 1), vi (Int32.ofNat 5), vi b8, vr v9, vr m1, .val (.double (FP.l2d u0)), .second, vi (1 : Int32), uu, uu, uu, uu, uu, uu, uu, uu, uu, uu, uu, uu, uu, uu, uu, uu, uu] (hb hby at_193) rfl ?_
                refine gI X212 hx (hb hby at_195) rfl ?_
                refine gI X212 hx (hb hby at_197) rfl ?_
                refine gq (XS.isub X212.here hx rfl (hb hby at_199) rfl) rfl ?_
                show Go p e below _ (T212.setTop (mkF m 200 #[vi i0, vi i1, vi i2, vi i3, vi i4, vi i5, vi (Int32.ofNat 1), vi (Int32.ofNat 5), vi b8, vr v9, vr m1, .val (.double (FP.l2d u0)), .second, vi (1 : Int32), uu, uu, uu, uu, uu, uu, uu, uu, uu, uu, uu, uu, uu, uu, uu, uu, uu] [(.int ((Int32.ofNat 5) - (1 : Int32)))]))
                rw [show ((Int32.ofNat 5) - (1 : Int32)) = (4 : Int32) from by decide]
                refine gT X212 hx #[vi i0, vi i1, vi i2, vi i3, vi i4, vi i5, vi (Int32.ofNat 1), vi (Int32.ofNat 5), vi b8, vr v9, vr m1, .val (.double (FP.l2d u0)), .second, vi (1 : Int32), vi (4 : Int32), uu, uu, uu, uu, uu, uu, uu, uu, uu, uu, uu, uu, uu, uu, uu, uu] (hb hby at_200) rfl ?_
                refine gI X212 hx (hb hby at_202) rfl ?_
                refine zN X212 hx (hb hby at_204) ((if0 _ _).trans (tlt (by decide : (0 : Int32) < (1 : Int32))).2.2.2) ?_
                refine gA X212 hx (hb hby at_207) rfl rfl ?_
                refine gI X212 hx (hb hby at_209) rfl ?_
                refine gLA X212 hx hZ e212 V_v9 (by decide) (.long y4) rfl (hb hby at_211) ?_
                refine gg X212 hx 216 (hb hby at_212) (by decide) ?_
                refine gM X212 hx #[vi i0, vi i1, vi i2, vi i3, vi i4, vi i5, vi (Int32.ofNat 1), vi (Int32.ofNat 5), vi b8, vr v9, vr m1, .val (.double (FP.l2d u0)), .second, vi (1 : Int32), vi (4 : Int32), .val (.long y4), .second, uu, uu, uu, uu, uu, uu, uu, uu, uu, uu, uu, uu, uu, uu] (hb hby at_216) rfl ?_
                refine gI X212 hx (hb hby at_218) rfl ?_
                refine gk X212 hx 1 (hb hby at_220) rfl ?_
                refine cY X212 hx 234 (hb hby at_221) (flt (by decide : ¬ ((1 : Int32) < (1 : Int32)))).2.2.2 (by decide) ?_
                refine Go.by (fun t => XS.lconst X212.here hx rfl (hb hby at_234)) ?_
                show Go p e below _ (T212.setTop (mkF m 235 #[vi i0, vi i1, vi i2, vi i3, vi i4, vi i5, vi (Int32.ofNat 1), vi (Int32.ofNat 5), vi b8, vr v9, vr m1, .val (.double (FP.l2d u0)), .second, vi (1 : Int32), vi (4 : Int32), .val (.long y4), .second, uu, uu, uu, uu, uu, uu, uu, uu, uu, uu, uu, uu, uu, uu] [(.long (0 : Int64))]))
                refine gM X212 hx #[vi i0, vi i1, vi i2, vi i3, vi i4, vi i5, vi (Int32.ofNat 1), vi (Int32.ofNat 5), vi b8, vr v9, vr m1, .val (.double (FP.l2d u0)), .second, vi (1 : Int32), vi (4 : Int32), .val (.long y4), .second, .val (.long (0 : Int64)), .second, uu, uu, uu, uu, uu, uu, uu, uu, uu, uu, uu, uu] (hb hby at_235) rfl ?_
                refine gI X212 hx (hb hby at_237) rfl ?_
                refine gk X212 hx 2 (hb hby at_239) rfl ?_
                refine cY X212 hx 253 (hb hby at_240) (flt (by decide : ¬ ((2 : Int32) < (1 : Int32)))).2.2.2 (by decide) ?_
                refine Go.by (fun t => XS.lconst X212.here hx rfl (hb hby at_253)) ?_
                show Go p e below _ (T212.setTop (mkF m 254 #[vi i0, vi i1, vi i2, vi i3, vi i4, vi i5, vi (Int32.ofNat 1), vi (Int32.ofNat 5), vi b8, vr v9, vr m1, .val (.double (FP.l2d u0)), .second, vi (1 : Int32), vi (4 : Int32), .val (.long y4), .second, .val (.long (0 : Int64)), .second, uu, uu, uu, uu, uu, uu, uu, uu, uu, uu, uu, uu] [(.long (0 : Int64))]))
                refine gM X212 hx #[vi i0, vi i1, vi i2, vi i3, vi i4, vi i5, vi (Int32.ofNat 1), vi (Int32.ofNat 5), vi b8, vr v9, vr m1, .val (.double (FP.l2d u0)), .second, vi (1 : Int32), vi (4 : Int32), .val (.long y4), .second, .val (.long (0 : Int64)), .second, .val (.long (0 : Int64)), .second, uu, uu, uu, uu, uu, uu, uu, uu, uu, uu] (hb hby at_254) rfl ?_
                refine gI X212 hx (hb hby at_256) rfl ?_
                refine gk X212 hx 3 (hb hby at_258) rfl ?_
                refine cY X212 hx 272 (hb hby at_259) (flt (by decide : ¬ ((3 : Int32) < (1 : Int32)))).2.2.2 (by decide) ?_
                refine Go.by (fun t => XS.lconst X212.here hx rfl (hb hby at_272)) ?_
                show Go p e below _ (T212.setTop (mkF m 273 #[vi i0, vi i1, vi i2, vi i3, vi i4, vi i5, vi (Int32.ofNat 1), vi (Int32.ofNat 5), vi b8, vr v9, vr m1, .val (.double (FP.l2d u0)), .second, vi (1 : Int32), vi (4 : Int32), .val (.long y4), .second, .val (.long (0 : Int64)), .second, .val (.long (0 : Int64)), .second, uu, uu, uu, uu, uu, uu, uu, uu, uu, uu] [(.long (0 : Int64))]))
                refine gM X212 hx #[vi i0, vi i1, vi i2, vi i3, vi i4, vi i5, vi (Int32.ofNat 1), vi (Int32.ofNat 5), vi b8, vr v9, vr m1, .val (.double (FP.l2d u0)), .second, vi (1 : Int32), vi (4 : Int32), .val (.long y4), .second, .val (.long (0 : Int64)), .second, .val (.long (0 : Int64)), .second, .val (.long (0 : Int64)), .second, uu, uu, uu, uu, uu, uu, uu, uu] (hb hby at_273) rfl ?_
                refine gI X212 hx (hb hby at_275) rfl ?_
                refine zY X212 hx 286 (hb hby at_277) ((if0 _ _).trans (feq (by decide : ¬ ((1 : Int32) = (0 : Int32)))).2) (by decide) ?_
                refine gI X212 hx (hb hby at_286) rfl ?_
                refine gk X212 hx 1 (hb hby at_288) rfl ?_
                refine cN X212 hx (hb hby at_289) (teq (rfl : (1 : Int32) = (1 : Int32))).2 ?_
                refine gL X212 hx (hb hby at_292) rfl ?_
                refine gq (XS.l2dS X212.here hx rfl (hb hby at_294) rfl rfl) rfl ?_
                refine gE X212 hx #[vi i0, vi i1, vi i2, vi i3, vi i4, vi i5, vi (Int32.ofNat 1), vi (Int32.ofNat 5), vi b8, vr v9, vr m1, .val (.double (FP.l2d u0)), .second, vi (1 : Int32), vi (4 : Int32), .val (.long y4), .second, .val (.long (0 : Int64)), .second, .val (.long (0 : Int64)), .second, .val (.long (0 : Int64)), .second, .val (.double (FP.l2d y4)), .second, uu, uu, uu, uu, uu, uu] (hb hby at_295) rfl ?_
                refine gg X212 hx 425 (hb hby at_297) (by decide) ?_
                refine gD X212 hx (hb hby at_425) rfl ?_
                refine gD X212 hx (hb hby at_427) rfl ?_
                refine gq (XS.dcmpS X212.here hx rfl (hb hby at_429) rfl rfl) rfl ?_
                show Go p e below _ (T212.setTop (mkF m 430 #[vi i0, vi i1, vi i2, vi i3, vi i4, vi i5, vi (Int32.ofNat 1), vi (Int32.ofNat 5), vi b8, vr v9, vr m1, .val (.double (FP.l2d u0)), .second, vi (1 : Int32), vi (4 : Int32), .val (.long y4), .second, .val (.long (0 : Int64)), .second, .val (.long (0 : Int64)), .second, .val (.long (0 : Int64)), .second, .val (.double (FP.l2d y4)), .second, uu, uu, uu, uu, uu, uu] [(.int (cmpValue (FP.dcmp (FP.l2d u0) (FP.l2d y4)) .l))]))
                rw [show (cmpValue (FP.dcmp (FP.l2d u0) (FP.l2d y4)) .l) = 0 from eq0 (congrArg FP.l2d (List.cons.inj (med1 pm5)).1) (l2d_fin _).noNaN]
                refine zN X212 hx (hb hby at_430) ((if0 _ _).trans (teq (rfl : (0 : Int32) = (0 : Int32))).2) ?_
                refine gk X212 hx 1 (hb hby at_433) rfl ?_
                refine gg X212 hx 438 (hb hby at_434) (by decide) ?_
                exact Go.ret1 X212 hx Bd.returns Bd.notSynchronized (by first | rfl | decide) (Or.inl ⟨rfl, by simp, _, rfl⟩) (hb hby at_438) (by decide) (by decide) (by first | (rw [e212]; exact ⟨rfl, N212⟩) | exact ⟨rfl, N212⟩)
    ·
      show Go p e below _ (T186.setTop (mkF m 100 #[vi i0, vi i1, vi i2, vi i3, vi i4, vi i5, vi (Int32.ofNat 2), vi (Int32.ofNat nn), vi b8, vr v9, vr m1, uu, uu, uu, uu, uu, uu, uu, uu, uu, uu, uu, uu, uu, uu, uu, uu, uu, uu, uu, uu] []))
      refine gI X186 hx (hb hby at_100) rfl ?_
      by_cases hj : nn = 0
      ·
        refine zY X186 hx 115 (hb hby at_102) ((if0 _ _).trans (flt (fun q => absurd ((o_lt (a := 0) (by decide) (by omega)).1 q) (by omega) : ¬ ((0 : Int32) < (Int32.ofNat nn)))).2.2.2) (by decide) ?_
        refine gI X186 hx (hb hby at_115) rfl ?_
        refine gk X186 hx 1 (hb hby at_117) rfl ?_
        refine cY X186 hx 131 (hb hby at_118) (flt (fun q => absurd ((o_lt (a := 1) (by decide) (by omega)).1 q) (by omega) : ¬ ((1 : Int32) < (Int32.ofNat nn)))).2.2.2 (by decide) ?_
        refine gI X186 hx (hb hby at_131) rfl ?_
        refine gk X186 hx 2 (hb hby at_133) rfl ?_
        refine cY X186 hx 147 (hb hby at_134) (flt (fun q => absurd ((o_lt (a := 2) (by decide) (by omega)).1 q) (by omega) : ¬ ((2 : Int32) < (Int32.ofNat nn)))).2.2.2 (by decide) ?_
        refine gI X186 hx (hb hby at_147) rfl ?_
        refine gk X186 hx 3 (hb hby at_149) rfl ?_
        refine cY X186 hx 163 (hb hby at_150) (flt (fun q => absurd ((o_lt (a := 3) (by decide) (by omega)).1 q) (by omega) : ¬ ((3 : Int32) < (Int32.ofNat nn)))).2.2.2 (by decide) ?_
        refine gI X186 hx (hb hby at_163) rfl ?_
        refine gk X186 hx 4 (hb hby at_165) rfl ?_
        refine cY X186 hx 179 (hb hby at_166) (flt (fun q => absurd ((o_lt (a := 4) (by decide) (by omega)).1 q) (by omega) : ¬ ((4 : Int32) < (Int32.ofNat nn)))).2.2.2 (by decide) ?_
        subst hj
        show Go p e below _ (T186.setTop (mkF m 179 #[vi i0, vi i1, vi i2, vi i3, vi i4, vi i5, vi (Int32.ofNat 2), vi (Int32.ofNat 0), vi b8, vr v9, vr m1, uu, uu, uu, uu, uu, uu, uu, uu, uu, uu, uu, uu, uu, uu, uu, uu, uu, uu, uu, uu] []))
        refine gA X186 hx (hb hby at_179) rfl rfl ?_
        refine kV (W := 0) (C := 4) (S := 17) X186 hx hZ hown (wd hw 19 rfl) (wd hw 20 rfl) (wd hw 22 rfl) (wd hw 21 rfl) (wd hw 7 rfl) (wd hw 23 rfl) (notFace_of_selects (args := #[]) (mvT hZ (wd hw 22 rfl))) E_m1 (rmGT l Z a0 hw [] m1 aS cS 2 0 (List.replicate 2 (0 : Int64)) FP.dconst0 T186.heap n0 F_sorted_m1 F_held_m1 V_aS (Or.inl ⟨rfl, rfl⟩) (by decide)) pd_3 (hb hby at_181) rfl hml (by exact ⟨rfl, rfl, rfl, rfl⟩) (by decide) fun v214 T214 L214 Lc214 X214 hQ214 l214 => ?_
        obtain ⟨rfl, Nq214, e214⟩ := hQ214
        have N214 := l214 N186 Nq214
        refine gE X214 hx #[vi i0, vi i1, vi i2, vi i3, vi i4, vi i5, vi (Int32.ofNat 2), vi (Int32.ofNat 0), vi b8, vr v9, vr m1, .val (.double FP.dconst0), .second, uu, uu, uu, uu, uu, uu, uu, uu, uu, uu, uu, uu, uu, uu, uu, uu, uu, uu] (hb hby at_184) rfl ?_
        refine gI X214 hx (hb hby at_186) rfl ?_
        refine gI X214 hx (hb hby at_188) rfl ?_
        refine kS (W := 0) (C := 4) (S := 17) X214 hx hZ hown (wd hw 26 rfl) (wd hw 27 rfl) (wd hw 28 rfl) (wd hw 29 rfl) (rmMI l Z a0 hw [] 0 2 T186.heap n0 (by decide)) pd_4 (hb hby at_190) e214 hml (by exact ⟨rfl, rfl, rfl, rfl⟩) (by decide) fun v215 T215 L215 Lc215 X215 hQ215 l215 => ?_
        obtain ⟨rfl, Nq215, e215⟩ := hQ215
        have N215 := l215 N214 Nq215
        show Go p e below _ (T215.setTop (mkF m 193 #[vi i0, vi i1, vi i2, vi i3, vi i4, vi i5, vi (Int32.ofNat 2), vi (Int32.ofNat 0), vi b8, vr v9, vr m1, .val (.double FP.dconst0), .second, uu, uu, uu, uu, uu, uu, uu, uu, uu, uu, uu, uu, uu, uu, uu, uu, uu, uu] [(.int (Int32.ofNat (min 0 2)))]))
        rw [show Int32.ofNat (min 0 2) = (0 : Int32) from rfl]
        refine gT X215 hx #[vi i0, vi i1, vi i2, vi i3, vi i4, vi i5, vi (Int32.ofNat 2), vi (Int32.ofNat 0), vi b8, vr v9, vr m1, .val (.double FP.dconst0), .second, vi (0 : Int32), uu, uu, uu, uu, uu, uu, uu, uu, uu, uu, uu, uu, uu, uu, uu, uu, uu] (hb hby at_193) rfl ?_
        refine gI X215 hx (hb hby at_195) rfl ?_
        refine gI X215 hx (hb hby at_197) rfl ?_
        refine gq (XS.isub X215.here hx rfl (hb hby at_199) rfl) rfl ?_
        show Go p e below _ (T215.setTop (mkF m 200 #[vi i0, vi i1, vi i2, vi i3, vi i4, vi i5, vi (Int32.ofNat 2), vi (Int32.ofNat 0), vi b8, vr v9, vr m1, .val (.double FP.dconst0), .second, vi (0 : Int32), uu, uu, uu, uu, uu, uu, uu, uu, uu, uu, uu, uu, uu, uu, uu, uu, uu] [(.int ((Int32.ofNat 0) - (0 : Int32)))]))
        rw [show ((Int32.ofNat 0) - (0 : Int32)) = (0 : Int32) from by decide]
        refine gT X215 hx #[vi i0, vi i1, vi i2, vi i3, vi i4, vi i5, vi (Int32.ofNat 2), vi (Int32.ofNat 0), vi b8, vr v9, vr m1, .val (.double FP.dconst0), .second, vi (0 : Int32), vi (0 : Int32), uu, uu, uu, uu, uu, uu, uu, uu, uu, uu, uu, uu, uu, uu, uu, uu] (hb hby at_200) rfl ?_
        refine gI X215 hx (hb hby at_202) rfl ?_
        refine zY X215 hx 215 (hb hby at_204) ((if0 _ _).trans (flt (by decide : ¬ ((0 : Int32) < (0 : Int32)))).2.2.2) (by decide) ?_
        refine Go.by (fun t => XS.lconst X215.here hx rfl (hb hby at_215)) ?_
        show Go p e below _ (T215.setTop (mkF m 216 #[vi i0, vi i1, vi i2, vi i3, vi i4, vi i5, vi (Int32.ofNat 2), vi (Int32.ofNat 0), vi b8, vr v9, vr m1, .val (.double FP.dconst0), .second, vi (0 : Int32), vi (0 : Int32), uu, uu, uu, uu, uu, uu, uu, uu, uu, uu, uu, uu, uu, uu, uu, uu] [(.long (0 : Int64))]))
        refine gM X215 hx #[vi i0, vi i1, vi i2, vi i3, vi i4, vi i5, vi (Int32.ofNat 2), vi (Int32.ofNat 0), vi b8, vr v9, vr m1, .val (.double FP.dconst0), .second, vi (0 : Int32), vi (0 : Int32), .val (.long (0 : Int64)), .second, uu, uu, uu, uu, uu, uu, uu, uu, uu, uu, uu, uu, uu, uu] (hb hby at_216) rfl ?_
        refine gI X215 hx (hb hby at_218) rfl ?_
        refine gk X215 hx 1 (hb hby at_220) rfl ?_
        refine cY X215 hx 234 (hb hby at_221) (flt (by decide : ¬ ((1 : Int32) < (0 : Int32)))).2.2.2 (by decide) ?_
        refine Go.by (fun t => XS.lconst X215.here hx rfl (hb hby at_234)) ?_
        show Go p e below _ (T215.setTop (mkF m 235 #[vi i0, vi i1, vi i2, vi i3, vi i4, vi i5, vi (Int32.ofNat 2), vi (Int32.ofNat 0), vi b8, vr v9, vr m1, .val (.double FP.dconst0), .second, vi (0 : Int32), vi (0 : Int32), .val (.long (0 : Int64)), .second, uu, uu, uu, uu, uu, uu, uu, uu, uu, uu, uu, uu, uu, uu] [(.long (0 : Int64))]))
        refine gM X215 hx #[vi i0, vi i1, vi i2, vi i3, vi i4, vi i5, vi (Int32.ofNat 2), vi (Int32.ofNat 0), vi b8, vr v9, vr m1, .val (.double FP.dconst0), .second, vi (0 : Int32), vi (0 : Int32), .val (.long (0 : Int64)), .second, .val (.long (0 : Int64)), .second, uu, uu, uu, uu, uu, uu, uu, uu, uu, uu, uu, uu] (hb hby at_235) rfl ?_
        refine gI X215 hx (hb hby at_237) rfl ?_
        refine gk X215 hx 2 (hb hby at_239) rfl ?_
        refine cY X215 hx 253 (hb hby at_240) (flt (by decide : ¬ ((2 : Int32) < (0 : Int32)))).2.2.2 (by decide) ?_
        refine Go.by (fun t => XS.lconst X215.here hx rfl (hb hby at_253)) ?_
        show Go p e below _ (T215.setTop (mkF m 254 #[vi i0, vi i1, vi i2, vi i3, vi i4, vi i5, vi (Int32.ofNat 2), vi (Int32.ofNat 0), vi b8, vr v9, vr m1, .val (.double FP.dconst0), .second, vi (0 : Int32), vi (0 : Int32), .val (.long (0 : Int64)), .second, .val (.long (0 : Int64)), .second, uu, uu, uu, uu, uu, uu, uu, uu, uu, uu, uu, uu] [(.long (0 : Int64))]))
        refine gM X215 hx #[vi i0, vi i1, vi i2, vi i3, vi i4, vi i5, vi (Int32.ofNat 2), vi (Int32.ofNat 0), vi b8, vr v9, vr m1, .val (.double FP.dconst0), .second, vi (0 : Int32), vi (0 : Int32), .val (.long (0 : Int64)), .second, .val (.long (0 : Int64)), .second, .val (.long (0 : Int64)), .second, uu, uu, uu, uu, uu, uu, uu, uu, uu, uu] (hb hby at_254) rfl ?_
        refine gI X215 hx (hb hby at_256) rfl ?_
        refine gk X215 hx 3 (hb hby at_258) rfl ?_
        refine cY X215 hx 272 (hb hby at_259) (flt (by decide : ¬ ((3 : Int32) < (0 : Int32)))).2.2.2 (by decide) ?_
        refine Go.by (fun t => XS.lconst X215.here hx rfl (hb hby at_272)) ?_
        show Go p e below _ (T215.setTop (mkF m 273 #[vi i0, vi i1, vi i2, vi i3, vi i4, vi i5, vi (Int32.ofNat 2), vi (Int32.ofNat 0), vi b8, vr v9, vr m1, .val (.double FP.dconst0), .second, vi (0 : Int32), vi (0 : Int32), .val (.long (0 : Int64)), .second, .val (.long (0 : Int64)), .second, .val (.long (0 : Int64)), .second, uu, uu, uu, uu, uu, uu, uu, uu, uu, uu] [(.long (0 : Int64))]))
        refine gM X215 hx #[vi i0, vi i1, vi i2, vi i3, vi i4, vi i5, vi (Int32.ofNat 2), vi (Int32.ofNat 0), vi b8, vr v9, vr m1, .val (.double FP.dconst0), .second, vi (0 : Int32), vi (0 : Int32), .val (.long (0 : Int64)), .second, .val (.long (0 : Int64)), .second, .val (.long (0 : Int64)), .second, .val (.long (0 : Int64)), .second, uu, uu, uu, uu, uu, uu, uu, uu] (hb hby at_273) rfl ?_
        refine gI X215 hx (hb hby at_275) rfl ?_
        refine zN X215 hx (hb hby at_277) ((if0 _ _).trans (teq (rfl : (0 : Int32) = (0 : Int32))).2) ?_
        refine Go.by (fun t => XS.dconst0 X215.here hx rfl (hb hby at_280) rfl) ?_
        show Go p e below _ (T215.setTop (mkF m 281 #[vi i0, vi i1, vi i2, vi i3, vi i4, vi i5, vi (Int32.ofNat 2), vi (Int32.ofNat 0), vi b8, vr v9, vr m1, .val (.double FP.dconst0), .second, vi (0 : Int32), vi (0 : Int32), .val (.long (0 : Int64)), .second, .val (.long (0 : Int64)), .second, .val (.long (0 : Int64)), .second, .val (.long (0 : Int64)), .second, uu, uu, uu, uu, uu, uu, uu, uu] [(.double FP.dconst0)]))
        refine gE X215 hx #[vi i0, vi i1, vi i2, vi i3, vi i4, vi i5, vi (Int32.ofNat 2), vi (Int32.ofNat 0), vi b8, vr v9, vr m1, .val (.double FP.dconst0), .second, vi (0 : Int32), vi (0 : Int32), .val (.long (0 : Int64)), .second, .val (.long (0 : Int64)), .second, .val (.long (0 : Int64)), .second, .val (.long (0 : Int64)), .second, .val (.double FP.dconst0), .second, uu, uu, uu, uu, uu, uu] (hb hby at_281) rfl ?_
        refine gg X215 hx 425 (hb hby at_283) (by decide) ?_
        refine gD X215 hx (hb hby at_425) rfl ?_
        refine gD X215 hx (hb hby at_427) rfl ?_
        refine gq (XS.dcmpS X215.here hx rfl (hb hby at_429) rfl rfl) rfl ?_
        show Go p e below _ (T215.setTop (mkF m 430 #[vi i0, vi i1, vi i2, vi i3, vi i4, vi i5, vi (Int32.ofNat 2), vi (Int32.ofNat 0), vi b8, vr v9, vr m1, .val (.double FP.dconst0), .second, vi (0 : Int32), vi (0 : Int32), .val (.long (0 : Int64)), .second, .val (.long (0 : Int64)), .second, .val (.long (0 : Int64)), .second, .val (.long (0 : Int64)), .second, .val (.double FP.dconst0), .second, uu, uu, uu, uu, uu, uu] [(.int (cmpValue (FP.dcmp FP.dconst0 FP.dconst0) .l))]))
        rw [show (cmpValue (FP.dcmp FP.dconst0 FP.dconst0) .l) = 0 from eq0 (rfl) (by unfold NoNaN64; decide)]
        refine zN X215 hx (hb hby at_430) ((if0 _ _).trans (teq (rfl : (0 : Int32) = (0 : Int32))).2) ?_
        refine gk X215 hx 1 (hb hby at_433) rfl ?_
        refine gg X215 hx 438 (hb hby at_434) (by decide) ?_
        exact Go.ret1 X215 hx Bd.returns Bd.notSynchronized (by first | rfl | decide) (Or.inl ⟨rfl, by simp, _, rfl⟩) (hb hby at_438) (by decide) (by decide) (by first | (rw [e215]; exact ⟨rfl, N215⟩) | exact ⟨rfl, N215⟩)
      ·
        refine zN X186 hx (hb hby at_102) ((if0 _ _).trans (tlt ((o_lt (a := 0) (by decide) (by omega)).2 (by omega) : (0 : Int32) < (Int32.ofNat nn))).2.2.2) ?_
        replace t5 : 0 < nn := by omega
        refine gA X186 hx (hb hby at_105) rfl rfl ?_
        refine gA X186 hx (hb hby at_107) rfl rfl ?_
        refine gk X186 hx 0 (hb hby at_109) rfl ?_
        refine gLA X186 hx hZ rfl V_v9 ⟨by decide, by decide⟩ (.long y0) rfl (hb hby at_110) ?_
        refine gq (XS.l2dS X186.here hx rfl (hb hby at_111) rfl rfl) rfl ?_
        have V_aS' : Arv Z T186.heap aS cS .double (Int32.ofNat 2) (([] ++ (0 : Int64) :: List.replicate 1 0).map Dv) (.double 0) := V_aS
        have V_aA' : Arv Z T186.heap aA cA .double (Int32.ofNat 2) ([(0 : Int64), 0].map Dv) (.double 0) := V_aA
        refine kV (W := 0) (C := 4) (S := 17) X186 hx hZ hown (wd hw 30 rfl) (wd hw 31 rfl) (wd hw 33 rfl) (wd hw 32 rfl) (wd hw 7 rfl) (wd hw 34 rfl) (notFace_of_selects (args := #[]) (mvT hZ (wd hw 33 rfl))) E_m1 (rmAN l Z a0 hw [] m1 aA aS cA cS 2 0 [(0 : Int64), 0] [] y0 (1 : Int32) 0 (List.replicate 1 0) T186.heap n0 E_m1 F_arrived_m1 F_sorted_m1 F_held_m1 F_next_m1 V_aA' V_aS' ne_aA_aS g_m1 g_aA g_aS (by decide) rfl (by decide) (by decide) q0 (fun _ h => nomatch h) (show Srt [] from List.Pairwise.nil) rfl) pd_2 (hb hby at_112) rfl hml (by exact ⟨rfl, rfl, rfl, rfl⟩) (by decide) fun v217 T217 L217 Lc217 X217 hQ217 l217 => ?_
        obtain ⟨xs1, ys1, zs, rfl, Nq217, K217, f1, f2, f3, f4, V1, V2, pq, so1, hy1, hzz, hl1'⟩ := hQ217
        rw [hzz] at pq
        have pm1 : xs1.Perm [y0] := perm_new (W := []) pq (List.Perm.refl _)
        have hl1 : xs1.length = 1 := hl1'
        have N217 := l217 N186 Nq217
        replace V_v9 := V_v9.keep K217 (ninS ne_v9_m1 (ninS ne_v9_aA (ninS ne_v9_aS nin0)))
        replace E_m1 := E_m1.keep K217
        replace Z0 := Nat.le_trans Z0 K217.1
        clear F_arrived_m1 F_sorted_m1 F_held_m1 F_next_m1
        have F_arrived_m1 := f1
        have F_sorted_m1 := f2
        have F_held_m1 := f3
        have F_next_m1 := f4
        clear f1 f2 f3 f4
        clear V_aA V_aS
        have V_aA := V1
        have V_aS := V2
        clear V1 V2
        rw [← hl1'] at F_held_m1
        refine gI X217 hx (hb hby at_115) rfl ?_
        refine gk X217 hx 1 (hb hby at_117) rfl ?_
        by_cases hj : nn = 1
        ·
          refine cY X217 hx 131 (hb hby at_118) (flt (fun q => absurd ((o_lt (a := 1) (by decide) (by omega)).1 q) (by omega) : ¬ ((1 : Int32) < (Int32.ofNat nn)))).2.2.2 (by decide) ?_
          refine gI X217 hx (hb hby at_131) rfl ?_
          refine gk X217 hx 2 (hb hby at_133) rfl ?_
          refine cY X217 hx 147 (hb hby at_134) (flt (fun q => absurd ((o_lt (a := 2) (by decide) (by omega)).1 q) (by omega) : ¬ ((2 : Int32) < (Int32.ofNat nn)))).2.2.2 (by decide) ?_
          refine gI X217 hx (hb hby at_147) rfl ?_
          refine gk X217 hx 3 (hb hby at_149) rfl ?_
          refine cY X217 hx 163 (hb hby at_150) (flt (fun q => absurd ((o_lt (a := 3) (by decide) (by omega)).1 q) (by omega) : ¬ ((3 : Int32) < (Int32.ofNat nn)))).2.2.2 (by decide) ?_
          refine gI X217 hx (hb hby at_163) rfl ?_
          refine gk X217 hx 4 (hb hby at_165) rfl ?_
          refine cY X217 hx 179 (hb hby at_166) (flt (fun q => absurd ((o_lt (a := 4) (by decide) (by omega)).1 q) (by omega) : ¬ ((4 : Int32) < (Int32.ofNat nn)))).2.2.2 (by decide) ?_
          show Go p e below _ (T217.setTop (mkF m 179 #[vi i0, vi i1, vi i2, vi i3, vi i4, vi i5, vi (Int32.ofNat 2), vi (Int32.ofNat nn), vi b8, vr v9, vr m1, uu, uu, uu, uu, uu, uu, uu, uu, uu, uu, uu, uu, uu, uu, uu, uu, uu, uu, uu, uu] []))
          subst hj
          show Go p e below _ (T217.setTop (mkF m 179 #[vi i0, vi i1, vi i2, vi i3, vi i4, vi i5, vi (Int32.ofNat 2), vi (Int32.ofNat 1), vi b8, vr v9, vr m1, uu, uu, uu, uu, uu, uu, uu, uu, uu, uu, uu, uu, uu, uu, uu, uu, uu, uu, uu, uu] []))
          obtain ⟨u0, r0, hr0, hs0⟩ := lenS hl1
          have hxs : xs1 = [u0] := by rw [hr0, len0 hs0]
          rw [hxs] at pm1 so1 V_aS
          have bA : ∀ z ∈ [u0], BdI z := fun z hz => (allI q0 (allZ0)) z (pm1.mem_iff.1 hz)
          have hlen : ([u0] ++ ys1).length = 2 := by rw [List.length_append]; have q := hy1; rw [hxs] at q; exact q
          replace F_held_m1 : Fld Z T217.heap m1 "com/example/oneiros/oneiros/SlidingMedian" "held" "I" (.int (Int32.ofNat 1)) := by rw [hl1] at F_held_m1; exact F_held_m1
          refine gA X217 hx (hb hby at_179) rfl rfl ?_
          refine kV (W := 0) (C := 4) (S := 17) X217 hx hZ hown (wd hw 19 rfl) (wd hw 20 rfl) (wd hw 22 rfl) (wd hw 21 rfl) (wd hw 7 rfl) (wd hw 23 rfl) (notFace_of_selects (args := #[]) (mvT hZ (wd hw 22 rfl))) E_m1 (rmGT l Z a0 hw [] m1 aS cS 2 1 ([u0] ++ ys1) (FP.l2d u0) T217.heap n0 F_sorted_m1 F_held_m1 V_aS (Or.inr (Or.inl ⟨rfl, by decide, hlen, _, rfl, rfl⟩)) (by decide)) pd_3 (hb hby at_181) rfl hml (by exact ⟨rfl, rfl, rfl, rfl⟩) (by decide) fun v218 T218 L218 Lc218 X218 hQ218 l218 => ?_
          obtain ⟨rfl, Nq218, e218⟩ := hQ218
          have N218 := l218 N217 Nq218
          refine gE X218 hx #[vi i0, vi i1, vi i2, vi i3, vi i4, vi i5, vi (Int32.ofNat 2), vi (Int32.ofNat 1), vi b8, vr v9, vr m1, .val (.double (FP.l2d u0)), .second, uu, uu, uu, uu, uu, uu, uu, uu, uu, uu, uu, uu, uu, uu, uu, uu, uu, uu] (hb hby at_184) rfl ?_
          refine gI X218 hx (hb hby at_186) rfl ?_
          refine gI X218 hx (hb hby at_188) rfl ?_
          refine kS (W := 0) (C := 4) (S := 17) X218 hx hZ hown (wd hw 26 rfl) (wd hw 27 rfl) (wd hw 28 rfl) (wd hw 29 rfl) (rmMI l Z a0 hw [] 1 2 T217.heap n0 (by decide)) pd_4 (hb hby at_190) e218 hml (by exact ⟨rfl, rfl, rfl, rfl⟩) (by decide) fun v219 T219 L219 Lc219 X219 hQ219 l219 => ?_
          obtain ⟨rfl, Nq219, e219⟩ := hQ219
          have N219 := l219 N218 Nq219
          show Go p e below _ (T219.setTop (mkF m 193 #[vi i0, vi i1, vi i2, vi i3, vi i4, vi i5, vi (Int32.ofNat 2), vi (Int32.ofNat 1), vi b8, vr v9, vr m1, .val (.double (FP.l2d u0)), .second, uu, uu, uu, uu, uu, uu, uu, uu, uu, uu, uu, uu, uu, uu, uu, uu, uu, uu] [(.int (Int32.ofNat (min 1 2)))]))
          rw [show Int32.ofNat (min 1 2) = (1 : Int32) from rfl]
          refine gT X219 hx #[vi i0, vi i1, vi i2, vi i3, vi i4, vi i5, vi (Int32.ofNat 2), vi (Int32.ofNat 1), vi b8, vr v9, vr m1, .val (.double (FP.l2d u0)), .second, vi (1 : Int32), uu, uu, uu, uu, uu, uu, uu, uu, uu, uu, uu, uu, uu, uu, uu, uu, uu] (hb hby at_193) rfl ?_
          refine gI X219 hx (hb hby at_195) rfl ?_
          refine gI X219 hx (hb hby at_197) rfl ?_
          refine gq (XS.isub X219.here hx rfl (hb hby at_199) rfl) rfl ?_
          show Go p e below _ (T219.setTop (mkF m 200 #[vi i0, vi i1, vi i2, vi i3, vi i4, vi i5, vi (Int32.ofNat 2), vi (Int32.ofNat 1), vi b8, vr v9, vr m1, .val (.double (FP.l2d u0)), .second, vi (1 : Int32), uu, uu, uu, uu, uu, uu, uu, uu, uu, uu, uu, uu, uu, uu, uu, uu, uu] [(.int ((Int32.ofNat 1) - (1 : Int32)))]))
          rw [show ((Int32.ofNat 1) - (1 : Int32)) = (0 : Int32) from by decide]
          refine gT X219 hx #[vi i0, vi i1, vi i2, vi i3, vi i4, vi i5, vi (Int32.ofNat 2), vi (Int32.ofNat 1), vi b8, vr v9, vr m1, .val (.double (FP.l2d u0)), .second, vi (1 : Int32), vi (0 : Int32), uu, uu, uu, uu, uu, uu, uu, uu, uu, uu, uu, uu, uu, uu, uu, uu] (hb hby at_200) rfl ?_
          refine gI X219 hx (hb hby at_202) rfl ?_
          refine zN X219 hx (hb hby at_204) ((if0 _ _).trans (tlt (by decide : (0 : Int32) < (1 : Int32))).2.2.2) ?_
          refine gA X219 hx (hb hby at_207) rfl rfl ?_
          refine gI X219 hx (hb hby at_209) rfl ?_
          refine gLA X219 hx hZ e219 V_v9 (by decide) (.long y0) rfl (hb hby at_211) ?_
          refine gg X219 hx 216 (hb hby at_212) (by decide) ?_
          refine gM X219 hx #[vi i0, vi i1, vi i2, vi i3, vi i4, vi i5, vi (Int32.ofNat 2), vi (Int32.ofNat 1), vi b8, vr v9, vr m1, .val (.double (FP.l2d u0)), .second, vi (1 : Int32), vi (0 : Int32), .val (.long y0), .second, uu, uu, uu, uu, uu, uu, uu, uu, uu, uu, uu, uu, uu, uu] (hb hby at_216) rfl ?_
          refine gI X219 hx (hb hby at_218) rfl ?_
          refine gk X219 hx 1 (hb hby at_220) rfl ?_
          refine cY X219 hx 234 (hb hby at_221) (flt (by decide : ¬ ((1 : Int32) < (1 : Int32)))).2.2.2 (by decide) ?_
          refine Go.by (fun t => XS.lconst X219.here hx rfl (hb hby at_234)) ?_
          show Go p e below _ (T219.setTop (mkF m 235 #[vi i0, vi i1, vi i2, vi i3, vi i4, vi i5, vi (Int32.ofNat 2), vi (Int32.ofNat 1), vi b8, vr v9, vr m1, .val (.double (FP.l2d u0)), .second, vi (1 : Int32), vi (0 : Int32), .val (.long y0), .second, uu, uu, uu, uu, uu, uu, uu, uu, uu, uu, uu, uu, uu, uu] [(.long (0 : Int64))]))
          refine gM X219 hx #[vi i0, vi i1, vi i2, vi i3, vi i4, vi i5, vi (Int32.ofNat 2), vi (Int32.ofNat 1), vi b8, vr v9, vr m1, .val (.double (FP.l2d u0)), .second, vi (1 : Int32), vi (0 : Int32), .val (.long y0), .second, .val (.long (0 : Int64)), .second, uu, uu, uu, uu, uu, uu, uu, uu, uu, uu, uu, uu] (hb hby at_235) rfl ?_
          refine gI X219 hx (hb hby at_237) rfl ?_
          refine gk X219 hx 2 (hb hby at_239) rfl ?_
          refine cY X219 hx 253 (hb hby at_240) (flt (by decide : ¬ ((2 : Int32) < (1 : Int32)))).2.2.2 (by decide) ?_
          refine Go.by (fun t => XS.lconst X219.here hx rfl (hb hby at_253)) ?_
          show Go p e below _ (T219.setTop (mkF m 254 #[vi i0, vi i1, vi i2, vi i3, vi i4, vi i5, vi (Int32.ofNat 2), vi (Int32.ofNat 1), vi b8, vr v9, vr m1, .val (.double (FP.l2d u0)), .second, vi (1 : Int32), vi (0 : Int32), .val (.long y0), .second, .val (.long (0 : Int64)), .second, uu, uu, uu, uu, uu, uu, uu, uu, uu, uu, uu, uu] [(.long (0 : Int64))]))
          refine gM X219 hx #[vi i0, vi i1, vi i2, vi i3, vi i4, vi i5, vi (Int32.ofNat 2), vi (Int32.ofNat 1), vi b8, vr v9, vr m1, .val (.double (FP.l2d u0)), .second, vi (1 : Int32), vi (0 : Int32), .val (.long y0), .second, .val (.long (0 : Int64)), .second, .val (.long (0 : Int64)), .second, uu, uu, uu, uu, uu, uu, uu, uu, uu, uu] (hb hby at_254) rfl ?_
          refine gI X219 hx (hb hby at_256) rfl ?_
          refine gk X219 hx 3 (hb hby at_258) rfl ?_
          refine cY X219 hx 272 (hb hby at_259) (flt (by decide : ¬ ((3 : Int32) < (1 : Int32)))).2.2.2 (by decide) ?_
          refine Go.by (fun t => XS.lconst X219.here hx rfl (hb hby at_272)) ?_
          show Go p e below _ (T219.setTop (mkF m 273 #[vi i0, vi i1, vi i2, vi i3, vi i4, vi i5, vi (Int32.ofNat 2), vi (Int32.ofNat 1), vi b8, vr v9, vr m1, .val (.double (FP.l2d u0)), .second, vi (1 : Int32), vi (0 : Int32), .val (.long y0), .second, .val (.long (0 : Int64)), .second, .val (.long (0 : Int64)), .second, uu, uu, uu, uu, uu, uu, uu, uu, uu, uu] [(.long (0 : Int64))]))
          refine gM X219 hx #[vi i0, vi i1, vi i2, vi i3, vi i4, vi i5, vi (Int32.ofNat 2), vi (Int32.ofNat 1), vi b8, vr v9, vr m1, .val (.double (FP.l2d u0)), .second, vi (1 : Int32), vi (0 : Int32), .val (.long y0), .second, .val (.long (0 : Int64)), .second, .val (.long (0 : Int64)), .second, .val (.long (0 : Int64)), .second, uu, uu, uu, uu, uu, uu, uu, uu] (hb hby at_273) rfl ?_
          refine gI X219 hx (hb hby at_275) rfl ?_
          refine zY X219 hx 286 (hb hby at_277) ((if0 _ _).trans (feq (by decide : ¬ ((1 : Int32) = (0 : Int32)))).2) (by decide) ?_
          refine gI X219 hx (hb hby at_286) rfl ?_
          refine gk X219 hx 1 (hb hby at_288) rfl ?_
          refine cN X219 hx (hb hby at_289) (teq (rfl : (1 : Int32) = (1 : Int32))).2 ?_
          refine gL X219 hx (hb hby at_292) rfl ?_
          refine gq (XS.l2dS X219.here hx rfl (hb hby at_294) rfl rfl) rfl ?_
          refine gE X219 hx #[vi i0, vi i1, vi i2, vi i3, vi i4, vi i5, vi (Int32.ofNat 2), vi (Int32.ofNat 1), vi b8, vr v9, vr m1, .val (.double (FP.l2d u0)), .second, vi (1 : Int32), vi (0 : Int32), .val (.long y0), .second, .val (.long (0 : Int64)), .second, .val (.long (0 : Int64)), .second, .val (.long (0 : Int64)), .second, .val (.double (FP.l2d y0)), .second, uu, uu, uu, uu, uu, uu] (hb hby at_295) rfl ?_
          refine gg X219 hx 425 (hb hby at_297) (by decide) ?_
          refine gD X219 hx (hb hby at_425) rfl ?_
          refine gD X219 hx (hb hby at_427) rfl ?_
          refine gq (XS.dcmpS X219.here hx rfl (hb hby at_429) rfl rfl) rfl ?_
          show Go p e below _ (T219.setTop (mkF m 430 #[vi i0, vi i1, vi i2, vi i3, vi i4, vi i5, vi (Int32.ofNat 2), vi (Int32.ofNat 1), vi b8, vr v9, vr m1, .val (.double (FP.l2d u0)), .second, vi (1 : Int32), vi (0 : Int32), .val (.long y0), .second, .val (.long (0 : Int64)), .second, .val (.long (0 : Int64)), .second, .val (.long (0 : Int64)), .second, .val (.double (FP.l2d y0)), .second, uu, uu, uu, uu, uu, uu] [(.int (cmpValue (FP.dcmp (FP.l2d u0) (FP.l2d y0)) .l))]))
          rw [show (cmpValue (FP.dcmp (FP.l2d u0) (FP.l2d y0)) .l) = 0 from eq0 (congrArg FP.l2d (List.cons.inj (med1 pm1)).1) (l2d_fin _).noNaN]
          refine zN X219 hx (hb hby at_430) ((if0 _ _).trans (teq (rfl : (0 : Int32) = (0 : Int32))).2) ?_
          refine gk X219 hx 1 (hb hby at_433) rfl ?_
          refine gg X219 hx 438 (hb hby at_434) (by decide) ?_
          exact Go.ret1 X219 hx Bd.returns Bd.notSynchronized (by first | rfl | decide) (Or.inl ⟨rfl, by simp, _, rfl⟩) (hb hby at_438) (by decide) (by decide) (by first | (rw [e219]; exact ⟨rfl, N219⟩) | exact ⟨rfl, N219⟩)
        ·
          refine cN X217 hx (hb hby at_118) (tlt ((o_lt (a := 1) (by decide) (by omega)).2 (by omega) : (1 : Int32) < (Int32.ofNat nn))).2.2.2 ?_
          replace t5 : 1 < nn := by omega
          refine gA X217 hx (hb hby at_121) rfl rfl ?_
          refine gA X217 hx (hb hby at_123) rfl rfl ?_
          refine gk X217 hx 1 (hb hby at_125) rfl ?_
          refine gLA X217 hx hZ rfl V_v9 ⟨by decide, by decide⟩ (.long y1) rfl (hb hby at_126) ?_
          refine gq (XS.l2dS X217.here hx rfl (hb hby at_127) rfl rfl) rfl ?_
          obtain ⟨z1, s1, hz1, hzl1⟩ := lenS (l := ys1) (n := 0) (by omega)
          rw [hz1] at V_aS
          refine kV (W := 0) (C := 4) (S := 17) X217 hx hZ hown (wd hw 30 rfl) (wd hw 31 rfl) (wd hw 33 rfl) (wd hw 32 rfl) (wd hw 7 rfl) (wd hw 34 rfl) (notFace_of_selects (args := #[]) (mvT hZ (wd hw 33 rfl))) E_m1 (rmAN l Z a0 hw [] m1 aA aS cA cS 2 1 [y0, 0] xs1 y1 (0 : Int32) z1 s1 T217.heap n0 E_m1 F_arrived_m1 F_sorted_m1 F_held_m1 F_next_m1 V_aA V_aS ne_aA_aS g_m1 g_aA g_aS (by decide) rfl (by decide) (by decide) q1 (fun z hz => (allI q0 (allZ0)) z (pm1.mem_iff.1 hz)) so1 (by omega)) pd_2 (hb hby at_128) rfl hml (by exact ⟨rfl, rfl, rfl, rfl⟩) (by decide) fun v222 T222 L222 Lc222 X222 hQ222 l222 => ?_
          obtain ⟨xs2, ys2, zs, rfl, Nq222, K222, f1, f2, f3, f4, V1, V2, pq, so2, hy2, hzz, hl2'⟩ := hQ222
          rw [hzz] at pq
          have pm2 : xs2.Perm [y0, y1] := perm_new (W := [y0]) pq pm1
          have hl2 : xs2.length = 2 := by rw [hl2', hl1]
          have N222 := l222 N217 Nq222
          replace V_v9 := V_v9.keep K222 (ninS ne_v9_m1 (ninS ne_v9_aA (ninS ne_v9_aS nin0)))
          replace E_m1 := E_m1.keep K222
          replace Z0 := Nat.le_trans Z0 K222.1
          clear F_arrived_m1 F_sorted_m1 F_held_m1 F_next_m1
          have F_arrived_m1 := f1
          have F_sorted_m1 := f2
          have F_held_m1 := f3
          have F_next_m1 := f4
          clear f1 f2 f3 f4
          clear V_aA V_aS
          have V_aA := V1
          have V_aS := V2
          clear V1 V2
          rw [← hl2'] at F_held_m1
          refine gI X222 hx (hb hby at_131) rfl ?_
          refine gk X222 hx 2 (hb hby at_133) rfl ?_
          by_cases hj : nn = 2
          ·
            refine cY X222 hx 147 (hb hby at_134) (flt (fun q => absurd ((o_lt (a := 2) (by decide) (by omega)).1 q) (by omega) : ¬ ((2 : Int32) < (Int32.ofNat nn)))).2.2.2 (by decide) ?_
            show Go p e below _ (T222.setTop (mkF m 147 #[vi i0, vi i1, vi i2, vi i3, vi i4, vi i5, vi (Int32.ofNat 2), vi (Int32.ofNat nn), vi b8, vr v9, vr m1, uu, uu, uu, uu, uu, uu, uu, uu, uu, uu, uu, uu, uu, uu, uu, uu, uu, uu, uu, uu] []))
            refine gI X222 hx (hb hby at_147) rfl ?_
            refine gk X222 hx 3 (hb hby at_149) rfl ?_
            refine cY X222 hx 163 (hb hby at_150) (flt (fun q => absurd ((o_lt (a := 3) (by decide) (by omega)).1 q) (by omega) : ¬ ((3 : Int32) < (Int32.ofNat nn)))).2.2.2 (by decide) ?_
            refine gI X222 hx (hb hby at_163) rfl ?_
            refine gk X222 hx 4 (hb hby at_165) rfl ?_
            refine cY X222 hx 179 (hb hby at_166) (flt (fun q => absurd ((o_lt (a := 4) (by decide) (by omega)).1 q) (by omega) : ¬ ((4 : Int32) < (Int32.ofNat nn)))).2.2.2 (by decide) ?_
            subst hj
            show Go p e below _ (T222.setTop (mkF m 179 #[vi i0, vi i1, vi i2, vi i3, vi i4, vi i5, vi (Int32.ofNat 2), vi (Int32.ofNat 2), vi b8, vr v9, vr m1, uu, uu, uu, uu, uu, uu, uu, uu, uu, uu, uu, uu, uu, uu, uu, uu, uu, uu, uu, uu] []))
            obtain ⟨u0, r0, hr0, hs0⟩ := lenS hl2
            obtain ⟨u1, r1, hr1, hs1⟩ := lenS hs0
            have hxs : xs2 = [u0, u1] := by rw [hr0, hr1, len0 hs1]
            rw [hxs] at pm2 so2 V_aS
            have bA : ∀ z ∈ [u0, u1], BdI z := fun z hz => (allI q0 (allI q1 (allZ0))) z (pm2.mem_iff.1 hz)
            have hlen : ([u0, u1] ++ ys2).length = 2 := by rw [List.length_append]; have q := hy2; rw [hxs] at q; exact q
            replace F_held_m1 : Fld Z T222.heap m1 "com/example/oneiros/oneiros/SlidingMedian" "held" "I" (.int (Int32.ofNat 2)) := by rw [hl2] at F_held_m1; exact F_held_m1
            refine gA X222 hx (hb hby at_179) rfl rfl ?_
            refine kV (W := 0) (C := 4) (S := 17) X222 hx hZ hown (wd hw 19 rfl) (wd hw 20 rfl) (wd hw 22 rfl) (wd hw 21 rfl) (wd hw 7 rfl) (wd hw 23 rfl) (notFace_of_selects (args := #[]) (mvT hZ (wd hw 22 rfl))) E_m1 (rmGT l Z a0 hw [] m1 aS cS 2 2 ([u0, u1] ++ ys2) (FP.ddiv (FP.l2d (u0 + u1)) 4611686018427387904) T222.heap n0 F_sorted_m1 F_held_m1 V_aS (Or.inr (Or.inr (Or.inl ⟨rfl, by decide, hlen, _, _, rfl, rfl, (bA u0 (List.mem_of_getElem? (i := 0) rfl)), (bA u1 (List.mem_of_getElem? (i := 1) rfl)), rfl⟩))) (by decide)) pd_3 (hb hby at_181) rfl hml (by exact ⟨rfl, rfl, rfl, rfl⟩) (by decide) fun v223 T223 L223 Lc223 X223 hQ223 l223 => ?_
            obtain ⟨rfl, Nq223, e223⟩ := hQ223
            have N223 := l223 N222 Nq223
            refine gE X223 hx #[vi i0, vi i1, vi i2, vi i3, vi i4, vi i5, vi (Int32.ofNat 2), vi (Int32.ofNat 2), vi b8, vr v9, vr m1, .val (.double (FP.ddiv (FP.l2d (u0 + u1)) 4611686018427387904)), .second, uu, uu, uu, uu, uu, uu, uu, uu, uu, uu, uu, uu, uu, uu, uu, uu, uu, uu] (hb hby at_184) rfl ?_
            refine gI X223 hx (hb hby at_186) rfl ?_
            refine gI X223 hx (hb hby at_188) rfl ?_
            refine kS (W := 0) (C := 4) (S := 17) X223 hx hZ hown (wd hw 26 rfl) (wd hw 27 rfl) (wd hw 28 rfl) (wd hw 29 rfl) (rmMI l Z a0 hw [] 2 2 T222.heap n0 (by decide)) pd_4 (hb hby at_190) e223 hml (by exact ⟨rfl, rfl, rfl, rfl⟩) (by decide) fun v224 T224 L224 Lc224 X224 hQ224 l224 => ?_
            obtain ⟨rfl, Nq224, e224⟩ := hQ224
            have N224 := l224 N223 Nq224
            show Go p e below _ (T224.setTop (mkF m 193 #[vi i0, vi i1, vi i2, vi i3, vi i4, vi i5, vi (Int32.ofNat 2), vi (Int32.ofNat 2), vi b8, vr v9, vr m1, .val (.double (FP.ddiv (FP.l2d (u0 + u1)) 4611686018427387904)), .second, uu, uu, uu, uu, uu, uu, uu, uu, uu, uu, uu, uu, uu, uu, uu, uu, uu, uu] [(.int (Int32.ofNat (min 2 2)))]))
            rw [show Int32.ofNat (min 2 2) = (2 : Int32) from rfl]
            refine gT X224 hx #[vi i0, vi i1, vi i2, vi i3, vi i4, vi i5, vi (Int32.ofNat 2), vi (Int32.ofNat 2), vi b8, vr v9, vr m1, .val (.double (FP.ddiv (FP.l2d (u0 + u1)) 4611686018427387904)), .second, vi (2 : Int32), uu, uu, uu, uu, uu, uu, uu, uu, uu, uu, uu, uu, uu, uu, uu, uu, uu] (hb hby at_193) rfl ?_
            refine gI X224 hx (hb hby at_195) rfl ?_
            refine gI X224 hx (hb hby at_197) rfl ?_
            refine gq (XS.isub X224.here hx rfl (hb hby at_199) rfl) rfl ?_
            show Go p e below _ (T224.setTop (mkF m 200 #[vi i0, vi i1, vi i2, vi i3, vi i4, vi i5, vi (Int32.ofNat 2), vi (Int32.ofNat 2), vi b8, vr v9, vr m1, .val (.double (FP.ddiv (FP.l2d (u0 + u1)) 4611686018427387904)), .second, vi (2 : Int32), uu, uu, uu, uu, uu, uu, uu, uu, uu, uu, uu, uu, uu, uu, uu, uu, uu] [(.int ((Int32.ofNat 2) - (2 : Int32)))]))
            rw [show ((Int32.ofNat 2) - (2 : Int32)) = (0 : Int32) from by decide]
            refine gT X224 hx #[vi i0, vi i1, vi i2, vi i3, vi i4, vi i5, vi (Int32.ofNat 2), vi (Int32.ofNat 2), vi b8, vr v9, vr m1, .val (.double (FP.ddiv (FP.l2d (u0 + u1)) 4611686018427387904)), .second, vi (2 : Int32), vi (0 : Int32), uu, uu, uu, uu, uu, uu, uu, uu, uu, uu, uu, uu, uu, uu, uu, uu] (hb hby at_200) rfl ?_
            refine gI X224 hx (hb hby at_202) rfl ?_
            refine zN X224 hx (hb hby at_204) ((if0 _ _).trans (tlt (by decide : (0 : Int32) < (2 : Int32))).2.2.2) ?_
            refine gA X224 hx (hb hby at_207) rfl rfl ?_
            refine gI X224 hx (hb hby at_209) rfl ?_
            refine gLA X224 hx hZ e224 V_v9 (by decide) (.long y0) rfl (hb hby at_211) ?_
            refine gg X224 hx 216 (hb hby at_212) (by decide) ?_
            refine gM X224 hx #[vi i0, vi i1, vi i2, vi i3, vi i4, vi i5, vi (Int32.ofNat 2), vi (Int32.ofNat 2), vi b8, vr v9, vr m1, .val (.double (FP.ddiv (FP.l2d (u0 + u1)) 4611686018427387904)), .second, vi (2 : Int32), vi (0 : Int32), .val (.long y0), .second, uu, uu, uu, uu, uu, uu, uu, uu, uu, uu, uu, uu, uu, uu] (hb hby at_216) rfl ?_
            refine gI X224 hx (hb hby at_218) rfl ?_
            refine gk X224 hx 1 (hb hby at_220) rfl ?_
            refine cN X224 hx (hb hby at_221) (tlt (by decide : (1 : Int32) < (2 : Int32))).2.2.2 ?_
            refine gA X224 hx (hb hby at_224) rfl rfl ?_
            refine gI X224 hx (hb hby at_226) rfl ?_
            refine gk X224 hx 1 (hb hby at_228) rfl ?_
            refine gq (XS.iadd X224.here hx rfl (hb hby at_229) rfl) rfl ?_
            refine gLA X224 hx hZ e224 V_v9 (by decide) (.long y1) rfl (hb hby at_230) ?_
            refine gg X224 hx 235 (hb hby at_231) (by decide) ?_
            refine gM X224 hx #[vi i0, vi i1, vi i2, vi i3, vi i4, vi i5, vi (Int32.ofNat 2), vi (Int32.ofNat 2), vi b8, vr v9, vr m1, .val (.double (FP.ddiv (FP.l2d (u0 + u1)) 4611686018427387904)), .second, vi (2 : Int32), vi (0 : Int32), .val (.long y0), .second, .val (.long y1), .second, uu, uu, uu, uu, uu, uu, uu, uu, uu, uu, uu, uu] (hb hby at_235) rfl ?_
            refine gI X224 hx (hb hby at_237) rfl ?_
            refine gk X224 hx 2 (hb hby at_239) rfl ?_
            refine cY X224 hx 253 (hb hby at_240) (flt (by decide : ¬ ((2 : Int32) < (2 : Int32)))).2.2.2 (by decide) ?_
            refine Go.by (fun t => XS.lconst X224.here hx rfl (hb hby at_253)) ?_
            show Go p e below _ (T224.setTop (mkF m 254 #[vi i0, vi i1, vi i2, vi i3, vi i4, vi i5, vi (Int32.ofNat 2), vi (Int32.ofNat 2), vi b8, vr v9, vr m1, .val (.double (FP.ddiv (FP.l2d (u0 + u1)) 4611686018427387904)), .second, vi (2 : Int32), vi (0 : Int32), .val (.long y0), .second, .val (.long y1), .second, uu, uu, uu, uu, uu, uu, uu, uu, uu, uu, uu, uu] [(.long (0 : Int64))]))
            refine gM X224 hx #[vi i0, vi i1, vi i2, vi i3, vi i4, vi i5, vi (Int32.ofNat 2), vi (Int32.ofNat 2), vi b8, vr v9, vr m1, .val (.double (FP.ddiv (FP.l2d (u0 + u1)) 4611686018427387904)), .second, vi (2 : Int32), vi (0 : Int32), .val (.long y0), .second, .val (.long y1), .second, .val (.long (0 : Int64)), .second, uu, uu, uu, uu, uu, uu, uu, uu, uu, uu] (hb hby at_254) rfl ?_
            refine gI X224 hx (hb hby at_256) rfl ?_
            refine gk X224 hx 3 (hb hby at_258) rfl ?_
            refine cY X224 hx 272 (hb hby at_259) (flt (by decide : ¬ ((3 : Int32) < (2 : Int32)))).2.2.2 (by decide) ?_
            refine Go.by (fun t => XS.lconst X224.here hx rfl (hb hby at_272)) ?_
            show Go p e below _ (T224.setTop (mkF m 273 #[vi i0, vi i1, vi i2, vi i3, vi i4, vi i5, vi (Int32.ofNat 2), vi (Int32.ofNat 2), vi b8, vr v9, vr m1, .val (.double (FP.ddiv (FP.l2d (u0 + u1)) 4611686018427387904)), .second, vi (2 : Int32), vi (0 : Int32), .val (.long y0), .second, .val (.long y1), .second, .val (.long (0 : Int64)), .second, uu, uu, uu, uu, uu, uu, uu, uu, uu, uu] [(.long (0 : Int64))]))
            refine gM X224 hx #[vi i0, vi i1, vi i2, vi i3, vi i4, vi i5, vi (Int32.ofNat 2), vi (Int32.ofNat 2), vi b8, vr v9, vr m1, .val (.double (FP.ddiv (FP.l2d (u0 + u1)) 4611686018427387904)), .second, vi (2 : Int32), vi (0 : Int32), .val (.long y0), .second, .val (.long y1), .second, .val (.long (0 : Int64)), .second, .val (.long (0 : Int64)), .second, uu, uu, uu, uu, uu, uu, uu, uu] (hb hby at_273) rfl ?_
            refine gI X224 hx (hb hby at_275) rfl ?_
            refine zY X224 hx 286 (hb hby at_277) ((if0 _ _).trans (feq (by decide : ¬ ((2 : Int32) = (0 : Int32)))).2) (by decide) ?_
            refine gI X224 hx (hb hby at_286) rfl ?_
            refine gk X224 hx 1 (hb hby at_288) rfl ?_
            refine cY X224 hx 300 (hb hby at_289) (feq (by decide : ¬ ((2 : Int32) = (1 : Int32)))).2 (by decide) ?_
            refine gI X224 hx (hb hby at_300) rfl ?_
            refine gk X224 hx 2 (hb hby at_302) rfl ?_
            refine cN X224 hx (hb hby at_303) (teq (rfl : (2 : Int32) = (2 : Int32))).2 ?_
            refine gL X224 hx (hb hby at_306) rfl ?_
            refine gL X224 hx (hb hby at_308) rfl ?_
            refine gq (XS.ladd X224.here hx rfl (hb hby at_310) rfl) rfl ?_
            refine gq (XS.l2dS X224.here hx rfl (hb hby at_311) rfl rfl) rfl ?_
            refine Go.by (fun t => X224.ldc2DoubleC hx hown (mvT hZ (wd hw 42 rfl)) (g := (mkF m 312 #[vi i0, vi i1, vi i2, vi i3, vi i4, vi i5, vi (Int32.ofNat 2), vi (Int32.ofNat 2), vi b8, vr v9, vr m1, .val (.double (FP.ddiv (FP.l2d (u0 + u1)) 4611686018427387904)), .second, vi (2 : Int32), vi (0 : Int32), .val (.long y0), .second, .val (.long y1), .second, .val (.long (0 : Int64)), .second, .val (.long (0 : Int64)), .second, uu, uu, uu, uu, uu, uu, uu, uu] [(.double (FP.l2d (y0 + y1)))])) rfl (hb hby at_312) t) ?_
            show Go p e below _ (T224.setTop (mkF m 315 #[vi i0, vi i1, vi i2, vi i3, vi i4, vi i5, vi (Int32.ofNat 2), vi (Int32.ofNat 2), vi b8, vr v9, vr m1, .val (.double (FP.ddiv (FP.l2d (u0 + u1)) 4611686018427387904)), .second, vi (2 : Int32), vi (0 : Int32), .val (.long y0), .second, .val (.long y1), .second, .val (.long (0 : Int64)), .second, .val (.long (0 : Int64)), .second, uu, uu, uu, uu, uu, uu, uu, uu] [(.double (4611686018427387904 : UInt64)), (.double (FP.l2d (y0 + y1)))]))
            refine gq (XS.ddivS X224.here hx rfl (hb hby at_315) rfl nn_div rfl) rfl ?_
            refine gE X224 hx #[vi i0, vi i1, vi i2, vi i3, vi i4, vi i5, vi (Int32.ofNat 2), vi (Int32.ofNat 2), vi b8, vr v9, vr m1, .val (.double (FP.ddiv (FP.l2d (u0 + u1)) 4611686018427387904)), .second, vi (2 : Int32), vi (0 : Int32), .val (.long y0), .second, .val (.long y1), .second, .val (.long (0 : Int64)), .second, .val (.long (0 : Int64)), .second, .val (.double (FP.ddiv (FP.l2d (y0 + y1)) (4611686018427387904 : UInt64))), .second, uu, uu, uu, uu, uu, uu] (hb hby at_316) rfl ?_
            refine gg X224 hx 425 (hb hby at_318) (by decide) ?_
            refine gD X224 hx (hb hby at_425) rfl ?_
            refine gD X224 hx (hb hby at_427) rfl ?_
            refine gq (XS.dcmpS X224.here hx rfl (hb hby at_429) rfl rfl) rfl ?_
            show Go p e below _ (T224.setTop (mkF m 430 #[vi i0, vi i1, vi i2, vi i3, vi i4, vi i5, vi (Int32.ofNat 2), vi (Int32.ofNat 2), vi b8, vr v9, vr m1, .val (.double (FP.ddiv (FP.l2d (u0 + u1)) 4611686018427387904)), .second, vi (2 : Int32), vi (0 : Int32), .val (.long y0), .second, .val (.long y1), .second, .val (.long (0 : Int64)), .second, .val (.long (0 : Int64)), .second, .val (.double (FP.ddiv (FP.l2d (y0 + y1)) (4611686018427387904 : UInt64))), .second, uu, uu, uu, uu, uu, uu] [(.int (cmpValue (FP.dcmp (FP.ddiv (FP.l2d (u0 + u1)) 4611686018427387904) (FP.ddiv (FP.l2d (y0 + y1)) (4611686018427387904 : UInt64))) .l))]))
            rw [show (cmpValue (FP.dcmp (FP.ddiv (FP.l2d (u0 + u1)) 4611686018427387904) (FP.ddiv (FP.l2d (y0 + y1)) (4611686018427387904 : UInt64))) .l) = 0 from eq0 (by rw [med2 pm2 q0 q1 (bA u0 (List.mem_of_getElem? (i := 0) rfl)) (bA u1 (List.mem_of_getElem? (i := 1) rfl))]) nn_div]
            refine zN X224 hx (hb hby at_430) ((if0 _ _).trans (teq (rfl : (0 : Int32) = (0 : Int32))).2) ?_
            refine gk X224 hx 1 (hb hby at_433) rfl ?_
            refine gg X224 hx 438 (hb hby at_434) (by decide) ?_
            exact Go.ret1 X224 hx Bd.returns Bd.notSynchronized (by first | rfl | decide) (Or.inl ⟨rfl, by simp, _, rfl⟩) (hb hby at_438) (by decide) (by decide) (by first | (rw [e224]; exact ⟨rfl, N224⟩) | exact ⟨rfl, N224⟩)
          ·
            refine cN X222 hx (hb hby at_134) (tlt ((o_lt (a := 2) (by decide) (by omega)).2 (by omega) : (2 : Int32) < (Int32.ofNat nn))).2.2.2 ?_
            show Go p e below _ (T222.setTop (mkF m 137 #[vi i0, vi i1, vi i2, vi i3, vi i4, vi i5, vi (Int32.ofNat 2), vi (Int32.ofNat nn), vi b8, vr v9, vr m1, uu, uu, uu, uu, uu, uu, uu, uu, uu, uu, uu, uu, uu, uu, uu, uu, uu, uu, uu, uu] []))
            replace t5 : 2 < nn := by omega
            refine gA X222 hx (hb hby at_137) rfl rfl ?_
            refine gA X222 hx (hb hby at_139) rfl rfl ?_
            refine gk X222 hx 2 (hb hby at_141) rfl ?_
            refine gLA X222 hx hZ rfl V_v9 ⟨by decide, by decide⟩ (.long y2) rfl (hb hby at_142) ?_
            refine gq (XS.l2dS X222.here hx rfl (hb hby at_143) rfl rfl) rfl ?_
            refine kV (W := 0) (C := 4) (S := 17) X222 hx hZ hown (wd hw 30 rfl) (wd hw 31 rfl) (wd hw 33 rfl) (wd hw 32 rfl) (wd hw 7 rfl) (wd hw 34 rfl) (notFace_of_selects (args := #[]) (mvT hZ (wd hw 33 rfl))) E_m1 (rmAF l Z a0 hw [] m1 aA aS cA cS 2 0 [y0, y1] xs2 y2 (1 : Int32) y0 T222.heap n0 E_m1 F_arrived_m1 F_sorted_m1 F_held_m1 F_next_m1 V_aA (arv_eq V_aS (by rw [len0 (l := ys2) (by omega), List.append_nil])) ne_aA_aS g_m1 g_aA g_aS (by decide) rfl (by decide) (by decide) q2 (fun z hz => (allI q0 (allI q1 (allZ0))) z (pm2.mem_iff.1 hz)) so2 (by omega) rfl (pm2.mem_iff.2 (List.mem_of_getElem? (i := 0) rfl)) q0) pd_2 (hb hby at_144) rfl hml (by exact ⟨rfl, rfl, rfl, rfl⟩) (by decide) fun v228 T228 L228 Lc228 X228 hQ228 l228 => ?_
            obtain ⟨xs3, ys3, zs, rfl, Nq228, K228, f1, f2, f3, f4, V1, V2, pq, so3, hy3, px, hl3⟩ := hQ228
            have pm3 : xs3.Perm [y1, y2] := perm_old (W := [y1]) pq px pm2
            have N228 := l228 N222 Nq228
            replace V_v9 := V_v9.keep K228 (ninS ne_v9_m1 (ninS ne_v9_aA (ninS ne_v9_aS nin0)))
            replace E_m1 := E_m1.keep K228
            replace Z0 := Nat.le_trans Z0 K228.1
            clear F_arrived_m1 F_sorted_m1 F_held_m1 F_next_m1
            have F_arrived_m1 := f1
            have F_sorted_m1 := f2
            have F_held_m1 := f3
            have F_next_m1 := f4
            clear f1 f2 f3 f4
            clear V_aA V_aS
            have V_aA := V1
            have V_aS := V2
            clear V1 V2
            rw [← hl3] at F_held_m1
            refine gI X228 hx (hb hby at_147) rfl ?_
            refine gk X228 hx 3 (hb hby at_149) rfl ?_
            by_cases hj : nn = 3
            ·
              refine cY X228 hx 163 (hb hby at_150) (flt (fun q => absurd ((o_lt (a := 3) (by decide) (by omega)).1 q) (by omega) : ¬ ((3 : Int32) < (Int32.ofNat nn)))).2.2.2 (by decide) ?_
              refine gI X228 hx (hb hby at_163) rfl ?_
              refine gk X228 hx 4 (hb hby at_165) rfl ?_
              refine cY X228 hx 179 (hb hby at_166) (flt (fun q => absurd ((o_lt (a := 4) (by decide) (by omega)).1 q) (by omega) : ¬ ((4 : Int32) < (Int32.ofNat nn)))).2.2.2 (by decide) ?_
              subst hj
              show Go p e below _ (T228.setTop (mkF m 179 #[vi i0, vi i1, vi i2, vi i3, vi i4, vi i5, vi (Int32.ofNat 2), vi (Int32.ofNat 3), vi b8, vr v9, vr m1, uu, uu, uu, uu, uu, uu, uu, uu, uu, uu, uu, uu, uu, uu, uu, uu, uu, uu, uu, uu] []))
              obtain ⟨u0, r0, hr0, hs0⟩ := lenS hl3
              obtain ⟨u1, r1, hr1, hs1⟩ := lenS hs0
              have hxs : xs3 = [u0, u1] := by rw [hr0, hr1, len0 hs1]
              rw [hxs] at pm3 so3 V_aS
              have bA : ∀ z ∈ [u0, u1], BdI z := fun z hz => (allI q1 (allI q2 (allZ0))) z (pm3.mem_iff.1 hz)
              have hlen : ([u0, u1] ++ ys3).length = 2 := by rw [List.length_append]; have q := hy3; rw [hxs] at q; exact q
              replace F_held_m1 : Fld Z T228.heap m1 "com/example/oneiros/oneiros/SlidingMedian" "held" "I" (.int (Int32.ofNat 2)) := by rw [hl3] at F_held_m1; exact F_held_m1
              refine gA X228 hx (hb hby at_179) rfl rfl ?_
              refine kV (W := 0) (C := 4) (S := 17) X228 hx hZ hown (wd hw 19 rfl) (wd hw 20 rfl) (wd hw 22 rfl) (wd hw 21 rfl) (wd hw 7 rfl) (wd hw 23 rfl) (notFace_of_selects (args := #[]) (mvT hZ (wd hw 22 rfl))) E_m1 (rmGT l Z a0 hw [] m1 aS cS 2 2 ([u0, u1] ++ ys3) (FP.ddiv (FP.l2d (u0 + u1)) 4611686018427387904) T228.heap n0 F_sorted_m1 F_held_m1 V_aS (Or.inr (Or.inr (Or.inl ⟨rfl, by decide, hlen, _, _, rfl, rfl, (bA u0 (List.mem_of_getElem? (i := 0) rfl)), (bA u1 (List.mem_of_getElem? (i := 1) rfl)), rfl⟩))) (by decide)) pd_3 (hb hby at_181) rfl hml (by exact ⟨rfl, rfl, rfl, rfl⟩) (by decide) fun v229 T229 L229 Lc229 X229 hQ229 l229 => ?_
              obtain ⟨rfl, Nq229, e229⟩ := hQ229
              have N229 := l229 N228 Nq229
              refine gE X229 hx #[vi i0, vi i1, vi i2, vi i3, vi i4, vi i5, vi (Int32.ofNat 2), vi (Int32.ofNat 3), vi b8, vr v9, vr m1, .val (.double (FP.ddiv (FP.l2d (u0 + u1)) 4611686018427387904)), .second, uu, uu, uu, uu, uu, uu, uu, uu, uu, uu, uu, uu, uu, uu, uu, uu, uu, uu] (hb hby at_184) rfl ?_
              refine gI X229 hx (hb hby at_186) rfl ?_
              refine gI X229 hx (hb hby at_188) rfl ?_
              refine kS (W := 0) (C := 4) (S := 17) X229 hx hZ hown (wd hw 26 rfl) (wd hw 27 rfl) (wd hw 28 rfl) (wd hw 29 rfl) (rmMI l Z a0 hw [] 3 2 T228.heap n0 (by decide)) pd_4 (hb hby at_190) e229 hml (by exact ⟨rfl, rfl, rfl, rfl⟩) (by decide) fun v230 T230 L230 Lc230 X230 hQ230 l230 => ?_
              obtain ⟨rfl, Nq230, e230⟩ := hQ230
              have N230 := l230 N229 Nq230
              show Go p e below _ (T230.setTop (mkF m 193 #[vi i0, vi i1, vi i2, vi i3, vi i4, vi i5, vi (Int32.ofNat 2), vi (Int32.ofNat 3), vi b8, vr v9, vr m1, .val (.double (FP.ddiv (FP.l2d (u0 + u1)) 4611686018427387904)), .second, uu, uu, uu, uu, uu, uu, uu, uu, uu, uu, uu, uu, uu, uu, uu, uu, uu, uu] [(.int (Int32.ofNat (min 3 2)))]))
              rw [show Int32.ofNat (min 3 2) = (2 : Int32) from rfl]
              refine gT X230 hx #[vi i0, vi i1, vi i2, vi i3, vi i4, vi i5, vi (Int32.ofNat 2), vi (Int32.ofNat 3), vi b8, vr v9, vr m1, .val (.double (FP.ddiv (FP.l2d (u0 + u1)) 4611686018427387904)), .second, vi (2 : Int32), uu, uu, uu, uu, uu, uu, uu, uu, uu, uu, uu, uu, uu, uu, uu, uu, uu] (hb hby at_193) rfl ?_
              refine gI X230 hx (hb hby at_195) rfl ?_
              refine gI X230 hx (hb hby at_197) rfl ?_
              refine gq (XS.isub X230.here hx rfl (hb hby at_199) rfl) rfl ?_
              show Go p e below _ (T230.setTop (mkF m 200 #[vi i0, vi i1, vi i2, vi i3, vi i4, vi i5, vi (Int32.ofNat 2), vi (Int32.ofNat 3), vi b8, vr v9, vr m1, .val (.double (FP.ddiv (FP.l2d (u0 + u1)) 4611686018427387904)), .second, vi (2 : Int32), uu, uu, uu, uu, uu, uu, uu, uu, uu, uu, uu, uu, uu, uu, uu, uu, uu] [(.int ((Int32.ofNat 3) - (2 : Int32)))]))
              rw [show ((Int32.ofNat 3) - (2 : Int32)) = (1 : Int32) from by decide]
              refine gT X230 hx #[vi i0, vi i1, vi i2, vi i3, vi i4, vi i5, vi (Int32.ofNat 2), vi (Int32.ofNat 3), vi b8, vr v9, vr m1, .val (.double (FP.ddiv (FP.l2d (u0 + u1)) 4611686018427387904)), .second, vi (2 : Int32), vi (1 : Int32), uu, uu, uu, uu, uu, uu, uu, uu, uu, uu, uu, uu, uu, uu, uu, uu] (hb hby at_200) rfl ?_
              refine gI X230 hx (hb hby at_202) rfl ?_
              refine zN X230 hx (hb hby at_204) ((if0 _ _).trans (tlt (by decide : (0 : Int32) < (2 : Int32))).2.2.2) ?_
              refine gA X230 hx (hb hby at_207) rfl rfl ?_
              refine gI X230 hx (hb hby at_209) rfl ?_
              refine gLA X230 hx hZ e230 V_v9 (by decide) (.long y1) rfl (hb hby at_211) ?_
              refine gg X230 hx 216 (hb hby at_212) (by decide) ?_
              refine gM X230 hx #[vi i0, vi i1, vi i2, vi i3, vi i4, vi i5, vi (Int32.ofNat 2), vi (Int32.ofNat 3), vi b8, vr v9, vr m1, .val (.double (FP.ddiv (FP.l2d (u0 + u1)) 4611686018427387904)), .second, vi (2 : Int32), vi (1 : Int32), .val (.long y1), .second, uu, uu, uu, uu, uu, uu, uu, uu, uu, uu, uu, uu, uu, uu] (hb hby at_216) rfl ?_
              refine gI X230 hx (hb hby at_218) rfl ?_
              refine gk X230 hx 1 (hb hby at_220) rfl ?_
              refine cN X230 hx (hb hby at_221) (tlt (by decide : (1 : Int32) < (2 : Int32))).2.2.2 ?_
              refine gA X230 hx (hb hby at_224) rfl rfl ?_
              refine gI X230 hx (hb hby at_226) rfl ?_
              refine gk X230 hx 1 (hb hby at_228) rfl ?_
              refine gq (XS.iadd X230.here hx rfl (hb hby at_229) rfl) rfl ?_
              refine gLA X230 hx hZ e230 V_v9 (by decide) (.long y2) rfl (hb hby at_230) ?_
              refine gg X230 hx 235 (hb hby at_231) (by decide) ?_
              refine gM X230 hx #[vi i0, vi i1, vi i2, vi i3, vi i4, vi i5, vi (Int32.ofNat 2), vi (Int32.ofNat 3), vi b8, vr v9, vr m1, .val (.double (FP.ddiv (FP.l2d (u0 + u1)) 4611686018427387904)), .second, vi (2 : Int32), vi (1 : Int32), .val (.long y1), .second, .val (.long y2), .second, uu, uu, uu, uu, uu, uu, uu, uu, uu, uu, uu, uu] (hb hby at_235) rfl ?_
              refine gI X230 hx (hb hby at_237) rfl ?_
              refine gk X230 hx 2 (hb hby at_239) rfl ?_
              refine cY X230 hx 253 (hb hby at_240) (flt (by decide : ¬ ((2 : Int32) < (2 : Int32)))).2.2.2 (by decide) ?_
              refine Go.by (fun t => XS.lconst X230.here hx rfl (hb hby at_253)) ?_
              show Go p e below _ (T230.setTop (mkF m 254 #[vi i0, vi i1, vi i2, vi i3, vi i4, vi i5, vi (Int32.ofNat 2), vi (Int32.ofNat 3), vi b8, vr v9, vr m1, .val (.double (FP.ddiv (FP.l2d (u0 + u1)) 4611686018427387904)), .second, vi (2 : Int32), vi (1 : Int32), .val (.long y1), .second, .val (.long y2), .second, uu, uu, uu, uu, uu, uu, uu, uu, uu, uu, uu, uu] [(.long (0 : Int64))]))
              refine gM X230 hx #[vi i0, vi i1, vi i2, vi i3, vi i4, vi i5, vi (Int32.ofNat 2), vi (Int32.ofNat 3), vi b8, vr v9, vr m1, .val (.double (FP.ddiv (FP.l2d (u0 + u1)) 4611686018427387904)), .second, vi (2 : Int32), vi (1 : Int32), .val (.long y1), .second, .val (.long y2), .second, .val (.long (0 : Int64)), .second, uu, uu, uu, uu, uu, uu, uu, uu, uu, uu] (hb hby at_254) rfl ?_
              refine gI X230 hx (hb hby at_256) rfl ?_
              refine gk X230 hx 3 (hb hby at_258) rfl ?_
              refine cY X230 hx 272 (hb hby at_259) (flt (by decide : ¬ ((3 : Int32) < (2 : Int32)))).2.2.2 (by decide) ?_
              refine Go.by (fun t => XS.lconst X230.here hx rfl (hb hby at_272)) ?_
              show Go p e below _ (T230.setTop (mkF m 273 #[vi i0, vi i1, vi i2, vi i3, vi i4, vi i5, vi (Int32.ofNat 2), vi (Int32.ofNat 3), vi b8, vr v9, vr m1, .val (.double (FP.ddiv (FP.l2d (u0 + u1)) 4611686018427387904)), .second, vi (2 : Int32), vi (1 : Int32), .val (.long y1), .second, .val (.long y2), .second, .val (.long (0 : Int64)), .second, uu, uu, uu, uu, uu, uu, uu, uu, uu, uu] [(.long (0 : Int64))]))
              refine gM X230 hx #[vi i0, vi i1, vi i2, vi i3, vi i4, vi i5, vi (Int32.ofNat 2), vi (Int32.ofNat 3), vi b8, vr v9, vr m1, .val (.double (FP.ddiv (FP.l2d (u0 + u1)) 4611686018427387904)), .second, vi (2 : Int32), vi (1 : Int32), .val (.long y1), .second, .val (.long y2), .second, .val (.long (0 : Int64)), .second, .val (.long (0 : Int64)), .second, uu, uu, uu, uu, uu, uu, uu, uu] (hb hby at_273) rfl ?_
              refine gI X230 hx (hb hby at_275) rfl ?_
              refine zY X230 hx 286 (hb hby at_277) ((if0 _ _).trans (feq (by decide : ¬ ((2 : Int32) = (0 : Int32)))).2) (by decide) ?_
              refine gI X230 hx (hb hby at_286) rfl ?_
              refine gk X230 hx 1 (hb hby at_288) rfl ?_
              refine cY X230 hx 300 (hb hby at_289) (feq (by decide : ¬ ((2 : Int32) = (1 : Int32)))).2 (by decide) ?_
              refine gI X230 hx (hb hby at_300) rfl ?_
              refine gk X230 hx 2 (hb hby at_302) rfl ?_
              refine cN X230 hx (hb hby at_303) (teq (rfl : (2 : Int32) = (2 : Int32))).2 ?_
              refine gL X230 hx (hb hby at_306) rfl ?_
              refine gL X230 hx (hb hby at_308) rfl ?_
              refine gq (XS.ladd X230.here hx rfl (hb hby at_310) rfl) rfl ?_
              refine gq (XS.l2dS X230.here hx rfl (hb hby at_311) rfl rfl) rfl ?_
              refine Go.by (fun t => X230.ldc2DoubleC hx hown (mvT hZ (wd hw 42 rfl)) (g := (mkF m 312 #[vi i0, vi i1, vi i2, vi i3, vi i4, vi i5, vi (Int32.ofNat 2), vi (Int32.ofNat 3), vi b8, vr v9, vr m1, .val (.double (FP.ddiv (FP.l2d (u0 + u1)) 4611686018427387904)), .second, vi (2 : Int32), vi (1 : Int32), .val (.long y1), .second, .val (.long y2), .second, .val (.long (0 : Int64)), .second, .val (.long (0 : Int64)), .second, uu, uu, uu, uu, uu, uu, uu, uu] [(.double (FP.l2d (y1 + y2)))])) rfl (hb hby at_312) t) ?_
              show Go p e below _ (T230.setTop (mkF m 315 #[vi i0, vi i1, vi i2, vi i3, vi i4, vi i5, vi (Int32.ofNat 2), vi (Int32.ofNat 3), vi b8, vr v9, vr m1, .val (.double (FP.ddiv (FP.l2d (u0 + u1)) 4611686018427387904)), .second, vi (2 : Int32), vi (1 : Int32), .val (.long y1), .second, .val (.long y2), .second, .val (.long (0 : Int64)), .second, .val (.long (0 : Int64)), .second, uu, uu, uu, uu, uu, uu, uu, uu] [(.double (4611686018427387904 : UInt64)), (.double (FP.l2d (y1 + y2)))]))
              refine gq (XS.ddivS X230.here hx rfl (hb hby at_315) rfl nn_div rfl) rfl ?_
              refine gE X230 hx #[vi i0, vi i1, vi i2, vi i3, vi i4, vi i5, vi (Int32.ofNat 2), vi (Int32.ofNat 3), vi b8, vr v9, vr m1, .val (.double (FP.ddiv (FP.l2d (u0 + u1)) 4611686018427387904)), .second, vi (2 : Int32), vi (1 : Int32), .val (.long y1), .second, .val (.long y2), .second, .val (.long (0 : Int64)), .second, .val (.long (0 : Int64)), .second, .val (.double (FP.ddiv (FP.l2d (y1 + y2)) (4611686018427387904 : UInt64))), .second, uu, uu, uu, uu, uu, uu] (hb hby at_316) rfl ?_
              refine gg X230 hx 425 (hb hby at_318) (by decide) ?_
              refine gD X230 hx (hb hby at_425) rfl ?_
              refine gD X230 hx (hb hby at_427) rfl ?_
              refine gq (XS.dcmpS X230.here hx rfl (hb hby at_429) rfl rfl) rfl ?_
              show Go p e below _ (T230.setTop (mkF m 430 #[vi i0, vi i1, vi i2, vi i3, vi i4, vi i5, vi (Int32.ofNat 2), vi (Int32.ofNat 3), vi b8, vr v9, vr m1, .val (.double (FP.ddiv (FP.l2d (u0 + u1)) 4611686018427387904)), .second, vi (2 : Int32), vi (1 : Int32), .val (.long y1), .second, .val (.long y2), .second, .val (.long (0 : Int64)), .second, .val (.long (0 : Int64)), .second, .val (.double (FP.ddiv (FP.l2d (y1 + y2)) (4611686018427387904 : UInt64))), .second, uu, uu, uu, uu, uu, uu] [(.int (cmpValue (FP.dcmp (FP.ddiv (FP.l2d (u0 + u1)) 4611686018427387904) (FP.ddiv (FP.l2d (y1 + y2)) (4611686018427387904 : UInt64))) .l))]))
              rw [show (cmpValue (FP.dcmp (FP.ddiv (FP.l2d (u0 + u1)) 4611686018427387904) (FP.ddiv (FP.l2d (y1 + y2)) (4611686018427387904 : UInt64))) .l) = 0 from eq0 (by rw [med2 pm3 q1 q2 (bA u0 (List.mem_of_getElem? (i := 0) rfl)) (bA u1 (List.mem_of_getElem? (i := 1) rfl))]) nn_div]
              refine zN X230 hx (hb hby at_430) ((if0 _ _).trans (teq (rfl : (0 : Int32) = (0 : Int32))).2) ?_
              refine gk X230 hx 1 (hb hby at_433) rfl ?_
              refine gg X230 hx 438 (hb hby at_434) (by decide) ?_
              exact Go.ret1 X230 hx Bd.returns Bd.notSynchronized (by first | rfl | decide) (Or.inl ⟨rfl, by simp, _, rfl⟩) (hb hby at_438) (by decide) (by decide) (by first | (rw [e230]; exact ⟨rfl, N230⟩) | exact ⟨rfl, N230⟩)
            ·
              refine cN X228 hx (hb hby at_150) (tlt ((o_lt (a := 3) (by decide) (by omega)).2 (by omega) : (3 : Int32) < (Int32.ofNat nn))).2.2.2 ?_
              replace t5 : 3 < nn := by omega
              refine gA X228 hx (hb hby at_153) rfl rfl ?_
              refine gA X228 hx (hb hby at_155) rfl rfl ?_
              refine gk X228 hx 3 (hb hby at_157) rfl ?_
              refine gLA X228 hx hZ rfl V_v9 ⟨by decide, by decide⟩ (.long y3) rfl (hb hby at_158) ?_
              refine gq (XS.l2dS X228.here hx rfl (hb hby at_159) rfl rfl) rfl ?_
              refine kV (W := 0) (C := 4) (S := 17) X228 hx hZ hown (wd hw 30 rfl) (wd hw 31 rfl) (wd hw 33 rfl) (wd hw 32 rfl) (wd hw 7 rfl) (wd hw 34 rfl) (notFace_of_selects (args := #[]) (mvT hZ (wd hw 33 rfl))) E_m1 (rmAF l Z a0 hw [] m1 aA aS cA cS 2 1 [y2, y1] xs3 y3 (0 : Int32) y1 T228.heap n0 E_m1 F_arrived_m1 F_sorted_m1 F_held_m1 F_next_m1 V_aA (arv_eq V_aS (by rw [len0 (l := ys3) (by omega), List.append_nil])) ne_aA_aS g_m1 g_aA g_aS (by decide) rfl (by decide) (by decide) q3 (fun z hz => (allI q1 (allI q2 (allZ0))) z (pm3.mem_iff.1 hz)) so3 (by omega) rfl (pm3.mem_iff.2 (List.mem_of_getElem? (i := 0) rfl)) q1) pd_2 (hb hby at_160) rfl hml (by exact ⟨rfl, rfl, rfl, rfl⟩) (by decide) fun v234 T234 L234 Lc234 X234 hQ234 l234 => ?_
              obtain ⟨xs4, ys4, zs, rfl, Nq234, K234, f1, f2, f3, f4, V1, V2, pq, so4, hy4, px, hl4⟩ := hQ234
              have pm4 : xs4.Perm [y2, y3] := perm_old (W := [y2]) pq px pm3
              have N234 := l234 N228 Nq234
              replace V_v9 := V_v9.keep K234 (ninS ne_v9_m1 (ninS ne_v9_aA (ninS ne_v9_aS nin0)))
              replace E_m1 := E_m1.keep K234
              replace Z0 := Nat.le_trans Z0 K234.1
              clear F_arrived_m1 F_sorted_m1 F_held_m1 F_next_m1
              have F_arrived_m1 := f1
              have F_sorted_m1 := f2
              have F_held_m1 := f3
              have F_next_m1 := f4
              clear f1 f2 f3 f4
              clear V_aA V_aS
              have V_aA := V1
              have V_aS := V2
              clear V1 V2
              rw [← hl4] at F_held_m1
              refine gI X234 hx (hb hby at_163) rfl ?_
              refine gk X234 hx 4 (hb hby at_165) rfl ?_
              by_cases hj : nn = 4
              ·
                refine cY X234 hx 179 (hb hby at_166) (flt (fun q => absurd ((o_lt (a := 4) (by decide) (by omega)).1 q) (by omega) : ¬ ((4 : Int32) < (Int32.ofNat nn)))).2.2.2 (by decide) ?_
                subst hj
                show Go p e below _ (T234.setTop (mkF m 179 #[vi i0, vi i1, vi i2, vi i3, vi i4, vi i5, vi (Int32.ofNat 2), vi (Int32.ofNat 4), vi b8, vr v9, vr m1, uu, uu, uu, uu, uu, uu, uu, uu, uu, uu, uu, uu, uu, uu, uu, uu, uu, uu, uu, uu] []))
                obtain ⟨u0, r0, hr0, hs0⟩ := lenS hl4
                obtain ⟨u1, r1, hr1, hs1⟩ := lenS hs0
                have hxs : xs4 = [u0, u1] := by rw [hr0, hr1, len0 hs1]
                rw [hxs] at pm4 so4 V_aS
                have bA : ∀ z ∈ [u0, u1], BdI z := fun z hz => (allI q2 (allI q3 (allZ0))) z (pm4.mem_iff.1 hz)
                have hlen : ([u0, u1] ++ ys4).length = 2 := by rw [List.length_append]; have q := hy4; rw [hxs] at q; exact q
                replace F_held_m1 : Fld Z T234.heap m1 "com/example/oneiros/oneiros/SlidingMedian" "held" "I" (.int (Int32.ofNat 2)) := by rw [hl4] at F_held_m1; exact F_held_m1
                refine gA X234 hx (hb hby at_179) rfl rfl ?_
                refine kV (W := 0) (C := 4) (S := 17) X234 hx hZ hown (wd hw 19 rfl) (wd hw 20 rfl) (wd hw 22 rfl) (wd hw 21 rfl) (wd hw 7 rfl) (wd hw 23 rfl) (notFace_of_selects (args := #[]) (mvT hZ (wd hw 22 rfl))) E_m1 (rmGT l Z a0 hw [] m1 aS cS 2 2 ([u0, u1] ++ ys4) (FP.ddiv (FP.l2d (u0 + u1)) 4611686018427387904) T234.heap n0 F_sorted_m1 F_held_m1 V_aS (Or.inr (Or.inr (Or.inl ⟨rfl, by decide, hlen, _, _, rfl, rfl, (bA u0 (List.mem_of_getElem? (i := 0) rfl)), (bA u1 (List.mem_of_getElem? (i := 1) rfl)), rfl⟩))) (by decide)) pd_3 (hb hby at_181) rfl hml (by exact ⟨rfl, rfl, rfl, rfl⟩) (by decide) fun v235 T235 L235 Lc235 X235 hQ235 l235 => ?_
                obtain ⟨rfl, Nq235, e235⟩ := hQ235
                have N235 := l235 N234 Nq235
                refine gE X235 hx #[vi i0, vi i1, vi i2, vi i3, vi i4, vi i5, vi (Int32.ofNat 2), vi (Int32.ofNat 4), vi b8, vr v9, vr m1, .val (.double (FP.ddiv (FP.l2d (u0 + u1)) 4611686018427387904)), .second, uu, uu, uu, uu, uu, uu, uu, uu, uu, uu, uu, uu, uu, uu, uu, uu, uu, uu] (hb hby at_184) rfl ?_
                refine gI X235 hx (hb hby at_186) rfl ?_
                refine gI X235 hx (hb hby at_188) rfl ?_
                refine kS (W := 0) (C := 4) (S := 17) X235 hx hZ hown (wd hw 26 rfl) (wd hw 27 rfl) (wd hw 28 rfl) (wd hw 29 rfl) (rmMI l Z a0 hw [] 4 2 T234.heap n0 (by decide)) pd_4 (hb hby at_190) e235 hml (by exact ⟨rfl, rfl, rfl, rfl⟩) (by decide) fun v236 T236 L236 Lc236 X236 hQ236 l236 => ?_
                obtain ⟨rfl, Nq236, e236⟩ := hQ236
                have N236 := l236 N235 Nq236
                show Go p e below _ (T236.setTop (mkF m 193 #[vi i0, vi i1, vi i2, vi i3, vi i4, vi i5, vi (Int32.ofNat 2), vi (Int32.ofNat 4), vi b8, vr v9, vr m1, .val (.double (FP.ddiv (FP.l2d (u0 + u1)) 4611686018427387904)), .second, uu, uu, uu, uu, uu, uu, uu, uu, uu, uu, uu, uu, uu, uu, uu, uu, uu, uu] [(.int (Int32.ofNat (min 4 2)))]))
                rw [show Int32.ofNat (min 4 2) = (2 : Int32) from rfl]
                refine gT X236 hx #[vi i0, vi i1, vi i2, vi i3, vi i4, vi i5, vi (Int32.ofNat 2), vi (Int32.ofNat 4), vi b8, vr v9, vr m1, .val (.double (FP.ddiv (FP.l2d (u0 + u1)) 4611686018427387904)), .second, vi (2 : Int32), uu, uu, uu, uu, uu, uu, uu, uu, uu, uu, uu, uu, uu, uu, uu, uu, uu] (hb hby at_193) rfl ?_
                refine gI X236 hx (hb hby at_195) rfl ?_
                refine gI X236 hx (hb hby at_197) rfl ?_
                refine gq (XS.isub X236.here hx rfl (hb hby at_199) rfl) rfl ?_
                show Go p e below _ (T236.setTop (mkF m 200 #[vi i0, vi i1, vi i2, vi i3, vi i4, vi i5, vi (Int32.ofNat 2), vi (Int32.ofNat 4), vi b8, vr v9, vr m1, .val (.double (FP.ddiv (FP.l2d (u0 + u1)) 4611686018427387904)), .second, vi (2 : Int32), uu, uu, uu, uu, uu, uu, uu, uu, uu, uu, uu, uu, uu, uu, uu, uu, uu] [(.int ((Int32.ofNat 4) - (2 : Int32)))]))
                rw [show ((Int32.ofNat 4) - (2 : Int32)) = (2 : Int32) from by decide]
                refine gT X236 hx #[vi i0, vi i1, vi i2, vi i3, vi i4, vi i5, vi (Int32.ofNat 2), vi (Int32.ofNat 4), vi b8, vr v9, vr m1, .val (.double (FP.ddiv (FP.l2d (u0 + u1)) 4611686018427387904)), .second, vi (2 : Int32), vi (2 : Int32), uu, uu, uu, uu, uu, uu, uu, uu, uu, uu, uu, uu, uu, uu, uu, uu] (hb hby at_200) rfl ?_
                refine gI X236 hx (hb hby at_202) rfl ?_
                refine zN X236 hx (hb hby at_204) ((if0 _ _).trans (tlt (by decide : (0 : Int32) < (2 : Int32))).2.2.2) ?_
                refine gA X236 hx (hb hby at_207) rfl rfl ?_
                refine gI X236 hx (hb hby at_209) rfl ?_
                refine gLA X236 hx hZ e236 V_v9 (by decide) (.long y2) rfl (hb hby at_211) ?_
                refine gg X236 hx 216 (hb hby at_212) (by decide) ?_
                refine gM X236 hx #[vi i0, vi i1, vi i2, vi i3, vi i4, vi i5, vi (Int32.ofNat 2), vi (Int32.ofNat 4), vi b8, vr v9, vr m1, .val (.double (FP.ddiv (FP.l2d (u0 + u1)) 4611686018427387904)), .second, vi (2 : Int32), vi (2 : Int32), .val (.long y2), .second, uu, uu, uu, uu, uu, uu, uu, uu, uu, uu, uu, uu, uu, uu] (hb hby at_216) rfl ?_
                refine gI X236 hx (hb hby at_218) rfl ?_
                refine gk X236 hx 1 (hb hby at_220) rfl ?_
                refine cN X236 hx (hb hby at_221) (tlt (by decide : (1 : Int32) < (2 : Int32))).2.2.2 ?_
                refine gA X236 hx (hb hby at_224) rfl rfl ?_
                refine gI X236 hx (hb hby at_226) rfl ?_
                refine gk X236 hx 1 (hb hby at_228) rfl ?_
                refine gq (XS.iadd X236.here hx rfl (hb hby at_229) rfl) rfl ?_
                refine gLA X236 hx hZ e236 V_v9 (by decide) (.long y3) rfl (hb hby at_230) ?_
                refine gg X236 hx 235 (hb hby at_231) (by decide) ?_
                refine gM X236 hx #[vi i0, vi i1, vi i2, vi i3, vi i4, vi i5, vi (Int32.ofNat 2), vi (Int32.ofNat 4), vi b8, vr v9, vr m1, .val (.double (FP.ddiv (FP.l2d (u0 + u1)) 4611686018427387904)), .second, vi (2 : Int32), vi (2 : Int32), .val (.long y2), .second, .val (.long y3), .second, uu, uu, uu, uu, uu, uu, uu, uu, uu, uu, uu, uu] (hb hby at_235) rfl ?_
                refine gI X236 hx (hb hby at_237) rfl ?_
                refine gk X236 hx 2 (hb hby at_239) rfl ?_
                refine cY X236 hx 253 (hb hby at_240) (flt (by decide : ¬ ((2 : Int32) < (2 : Int32)))).2.2.2 (by decide) ?_
                refine Go.by (fun t => XS.lconst X236.here hx rfl (hb hby at_253)) ?_
                show Go p e below _ (T236.setTop (mkF m 254 #[vi i0, vi i1, vi i2, vi i3, vi i4, vi i5, vi (Int32.ofNat 2), vi (Int32.ofNat 4), vi b8, vr v9, vr m1, .val (.double (FP.ddiv (FP.l2d (u0 + u1)) 4611686018427387904)), .second, vi (2 : Int32), vi (2 : Int32), .val (.long y2), .second, .val (.long y3), .second, uu, uu, uu, uu, uu, uu, uu, uu, uu, uu, uu, uu] [(.long (0 : Int64))]))
                refine gM X236 hx #[vi i0, vi i1, vi i2, vi i3, vi i4, vi i5, vi (Int32.ofNat 2), vi (Int32.ofNat 4), vi b8, vr v9, vr m1, .val (.double (FP.ddiv (FP.l2d (u0 + u1)) 4611686018427387904)), .second, vi (2 : Int32), vi (2 : Int32), .val (.long y2), .second, .val (.long y3), .second, .val (.long (0 : Int64)), .second, uu, uu, uu, uu, uu, uu, uu, uu, uu, uu] (hb hby at_254) rfl ?_
                refine gI X236 hx (hb hby at_256) rfl ?_
                refine gk X236 hx 3 (hb hby at_258) rfl ?_
                refine cY X236 hx 272 (hb hby at_259) (flt (by decide : ¬ ((3 : Int32) < (2 : Int32)))).2.2.2 (by decide) ?_
                refine Go.by (fun t => XS.lconst X236.here hx rfl (hb hby at_272)) ?_
                show Go p e below _ (T236.setTop (mkF m 273 #[vi i0, vi i1, vi i2, vi i3, vi i4, vi i5, vi (Int32.ofNat 2), vi (Int32.ofNat 4), vi b8, vr v9, vr m1, .val (.double (FP.ddiv (FP.l2d (u0 + u1)) 4611686018427387904)), .second, vi (2 : Int32), vi (2 : Int32), .val (.long y2), .second, .val (.long y3), .second, .val (.long (0 : Int64)), .second, uu, uu, uu, uu, uu, uu, uu, uu, uu, uu] [(.long (0 : Int64))]))
                refine gM X236 hx #[vi i0, vi i1, vi i2, vi i3, vi i4, vi i5, vi (Int32.ofNat 2), vi (Int32.ofNat 4), vi b8, vr v9, vr m1, .val (.double (FP.ddiv (FP.l2d (u0 + u1)) 4611686018427387904)), .second, vi (2 : Int32), vi (2 : Int32), .val (.long y2), .second, .val (.long y3), .second, .val (.long (0 : Int64)), .second, .val (.long (0 : Int64)), .second, uu, uu, uu, uu, uu, uu, uu, uu] (hb hby at_273) rfl ?_
                refine gI X236 hx (hb hby at_275) rfl ?_
                refine zY X236 hx 286 (hb hby at_277) ((if0 _ _).trans (feq (by decide : ¬ ((2 : Int32) = (0 : Int32)))).2) (by decide) ?_
                refine gI X236 hx (hb hby at_286) rfl ?_
                refine gk X236 hx 1 (hb hby at_288) rfl ?_
                refine cY X236 hx 300 (hb hby at_289) (feq (by decide : ¬ ((2 : Int32) = (1 : Int32)))).2 (by decide) ?_
                refine gI X236 hx (hb hby at_300) rfl ?_
                refine gk X236 hx 2 (hb hby at_302) rfl ?_
                refine cN X236 hx (hb hby at_303) (teq (rfl : (2 : Int32) = (2 : Int32))).2 ?_
                refine gL X236 hx (hb hby at_306) rfl ?_
                refine gL X236 hx (hb hby at_308) rfl ?_
                refine gq (XS.ladd X236.here hx rfl (hb hby at_310) rfl) rfl ?_
                refine gq (XS.l2dS X236.here hx rfl (hb hby at_311) rfl rfl) rfl ?_
                refine Go.by (fun t => X236.ldc2DoubleC hx hown (mvT hZ (wd hw 42 rfl)) (g := (mkF m 312 #[vi i0, vi i1, vi i2, vi i3, vi i4, vi i5, vi (Int32.ofNat 2), vi (Int32.ofNat 4), vi b8, vr v9, vr m1, .val (.double (FP.ddiv (FP.l2d (u0 + u1)) 4611686018427387904)), .second, vi (2 : Int32), vi (2 : Int32), .val (.long y2), .second, .val (.long y3), .second, .val (.long (0 : Int64)), .second, .val (.long (0 : Int64)), .second, uu, uu, uu, uu, uu, uu, uu, uu] [(.double (FP.l2d (y2 + y3)))])) rfl (hb hby at_312) t) ?_
                show Go p e below _ (T236.setTop (mkF m 315 #[vi i0, vi i1, vi i2, vi i3, vi i4, vi i5, vi (Int32.ofNat 2), vi (Int32.ofNat 4), vi b8, vr v9, vr m1, .val (.double (FP.ddiv (FP.l2d (u0 + u1)) 4611686018427387904)), .second, vi (2 : Int32), vi (2 : Int32), .val (.long y2), .second, .val (.long y3), .second, .val (.long (0 : Int64)), .second, .val (.long (0 : Int64)), .second, uu, uu, uu, uu, uu, uu, uu, uu] [(.double (4611686018427387904 : UInt64)), (.double (FP.l2d (y2 + y3)))]))
                refine gq (XS.ddivS X236.here hx rfl (hb hby at_315) rfl nn_div rfl) rfl ?_
                refine gE X236 hx #[vi i0, vi i1, vi i2, vi i3, vi i4, vi i5, vi (Int32.ofNat 2), vi (Int32.ofNat 4), vi b8, vr v9, vr m1, .val (.double (FP.ddiv (FP.l2d (u0 + u1)) 4611686018427387904)), .second, vi (2 : Int32), vi (2 : Int32), .val (.long y2), .second, .val (.long y3), .second, .val (.long (0 : Int64)), .second, .val (.long (0 : Int64)), .second, .val (.double (FP.ddiv (FP.l2d (y2 + y3)) (4611686018427387904 : UInt64))), .second, uu, uu, uu, uu, uu, uu] (hb hby at_316) rfl ?_
                refine gg X236 hx 425 (hb hby at_318) (by decide) ?_
                refine gD X236 hx (hb hby at_425) rfl ?_
                refine gD X236 hx (hb hby at_427) rfl ?_
                refine gq (XS.dcmpS X236.here hx rfl (hb hby at_429) rfl rfl) rfl ?_
                show Go p e below _ (T236.setTop (mkF m 430 #[vi i0, vi i1, vi i2, vi i3, vi i4, vi i5, vi (Int32.ofNat 2), vi (Int32.ofNat 4), vi b8, vr v9, vr m1, .val (.double (FP.ddiv (FP.l2d (u0 + u1)) 4611686018427387904)), .second, vi (2 : Int32), vi (2 : Int32), .val (.long y2), .second, .val (.long y3), .second, .val (.long (0 : Int64)), .second, .val (.long (0 : Int64)), .second, .val (.double (FP.ddiv (FP.l2d (y2 + y3)) (4611686018427387904 : UInt64))), .second, uu, uu, uu, uu, uu, uu] [(.int (cmpValue (FP.dcmp (FP.ddiv (FP.l2d (u0 + u1)) 4611686018427387904) (FP.ddiv (FP.l2d (y2 + y3)) (4611686018427387904 : UInt64))) .l))]))
                rw [show (cmpValue (FP.dcmp (FP.ddiv (FP.l2d (u0 + u1)) 4611686018427387904) (FP.ddiv (FP.l2d (y2 + y3)) (4611686018427387904 : UInt64))) .l) = 0 from eq0 (by rw [med2 pm4 q2 q3 (bA u0 (List.mem_of_getElem? (i := 0) rfl)) (bA u1 (List.mem_of_getElem? (i := 1) rfl))]) nn_div]
                refine zN X236 hx (hb hby at_430) ((if0 _ _).trans (teq (rfl : (0 : Int32) = (0 : Int32))).2) ?_
                refine gk X236 hx 1 (hb hby at_433) rfl ?_
                refine gg X236 hx 438 (hb hby at_434) (by decide) ?_
                exact Go.ret1 X236 hx Bd.returns Bd.notSynchronized (by first | rfl | decide) (Or.inl ⟨rfl, by simp, _, rfl⟩) (hb hby at_438) (by decide) (by decide) (by first | (rw [e236]; exact ⟨rfl, N236⟩) | exact ⟨rfl, N236⟩)
              ·
                refine cN X234 hx (hb hby at_166) (tlt ((o_lt (a := 4) (by decide) (by omega)).2 (by omega) : (4 : Int32) < (Int32.ofNat nn))).2.2.2 ?_
                replace t5 : 4 < nn := by omega
                refine gA X234 hx (hb hby at_169) rfl rfl ?_
                refine gA X234 hx (hb hby at_171) rfl rfl ?_
                refine gk X234 hx 4 (hb hby at_173) rfl ?_
                refine gLA X234 hx hZ rfl V_v9 ⟨by decide, by decide⟩ (.long y4) rfl (hb hby at_174) ?_
                show Go p e below _ (T234.setTop (mkF m 175 #[vi i0, vi i1, vi i2, vi i3, vi i4, vi i5, vi (Int32.ofNat 2), vi (Int32.ofNat nn), vi b8, vr v9, vr m1, uu, uu, uu, uu, uu, uu, uu, uu, uu, uu, uu, uu, uu, uu, uu, uu, uu, uu, uu, uu] [(.long y4), (.ref m1)]))
                refine gq (XS.l2dS X234.here hx rfl (hb hby at_175) rfl rfl) rfl ?_
                refine kV (W := 0) (C := 4) (S := 17) X234 hx hZ hown (wd hw 30 rfl) (wd hw 31 rfl) (wd hw 33 rfl) (wd hw 32 rfl) (wd hw 7 rfl) (wd hw 34 rfl) (notFace_of_selects (args := #[]) (mvT hZ (wd hw 33 rfl))) E_m1 (rmAF l Z a0 hw [] m1 aA aS cA cS 2 0 [y2, y3] xs4 y4 (1 : Int32) y2 T234.heap n0 E_m1 F_arrived_m1 F_sorted_m1 F_held_m1 F_next_m1 V_aA (arv_eq V_aS (by rw [len0 (l := ys4) (by omega), List.append_nil])) ne_aA_aS g_m1 g_aA g_aS (by decide) rfl (by decide) (by decide) q4 (fun z hz => (allI q2 (allI q3 (allZ0))) z (pm4.mem_iff.1 hz)) so4 (by omega) rfl (pm4.mem_iff.2 (List.mem_of_getElem? (i := 0) rfl)) q2) pd_2 (hb hby at_176) rfl hml (by exact ⟨rfl, rfl, rfl, rfl⟩) (by decide) fun v240 T240 L240 Lc240 X240 hQ240 l240 => ?_
                obtain ⟨xs5, ys5, zs, rfl, Nq240, K240, f1, f2, f3, f4, V1, V2, pq, so5, hy5, px, hl5⟩ := hQ240
                have pm5 : xs5.Perm [y3, y4] := perm_old (W := [y3]) pq px pm4
                have N240 := l240 N234 Nq240
                replace V_v9 := V_v9.keep K240 (ninS ne_v9_m1 (ninS ne_v9_aA (ninS ne_v9_aS nin0)))
                replace E_m1 := E_m1.keep K240
                replace Z0 := Nat.le_trans Z0 K240.1
                clear F_arrived_m1 F_sorted_m1 F_held_m1 F_next_m1
                have F_arrived_m1 := f1
                have F_sorted_m1 := f2
                have F_held_m1 := f3
                have F_next_m1 := f4
                clear f1 f2 f3 f4
                clear V_aA V_aS
                have V_aA := V1
                have V_aS := V2
                clear V1 V2
                rw [← hl5] at F_held_m1
                have hj : nn = 5 := by omega
                subst hj
                show Go p e below _ (T240.setTop (mkF m 179 #[vi i0, vi i1, vi i2, vi i3, vi i4, vi i5, vi (Int32.ofNat 2), vi (Int32.ofNat 5), vi b8, vr v9, vr m1, uu, uu, uu, uu, uu, uu, uu, uu, uu, uu, uu, uu, uu, uu, uu, uu, uu, uu, uu, uu] []))
                obtain ⟨u0, r0, hr0, hs0⟩ := lenS hl5
                obtain ⟨u1, r1, hr1, hs1⟩ := lenS hs0
                have hxs : xs5 = [u0, u1] := by rw [hr0, hr1, len0 hs1]
                rw [hxs] at pm5 so5 V_aS
                have bA : ∀ z ∈ [u0, u1], BdI z := fun z hz => (allI q3 (allI q4 (allZ0))) z (pm5.mem_iff.1 hz)
                have hlen : ([u0, u1] ++ ys5).length = 2 := by rw [List.length_append]; have q := hy5; rw [hxs] at q; exact q
                replace F_held_m1 : Fld Z T240.heap m1 "com/example/oneiros/oneiros/SlidingMedian" "held" "I" (.int (Int32.ofNat 2)) := by rw [hl5] at F_held_m1; exact F_held_m1
                refine gA X240 hx (hb hby at_179) rfl rfl ?_
                refine kV (W := 0) (C := 4) (S := 17) X240 hx hZ hown (wd hw 19 rfl) (wd hw 20 rfl) (wd hw 22 rfl) (wd hw 21 rfl) (wd hw 7 rfl) (wd hw 23 rfl) (notFace_of_selects (args := #[]) (mvT hZ (wd hw 22 rfl))) E_m1 (rmGT l Z a0 hw [] m1 aS cS 2 2 ([u0, u1] ++ ys5) (FP.ddiv (FP.l2d (u0 + u1)) 4611686018427387904) T240.heap n0 F_sorted_m1 F_held_m1 V_aS (Or.inr (Or.inr (Or.inl ⟨rfl, by decide, hlen, _, _, rfl, rfl, (bA u0 (List.mem_of_getElem? (i := 0) rfl)), (bA u1 (List.mem_of_getElem? (i := 1) rfl)), rfl⟩))) (by decide)) pd_3 (hb hby at_181) rfl hml (by exact ⟨rfl, rfl, rfl, rfl⟩) (by decide) fun v241 T241 L241 Lc241 X241 hQ241 l241 => ?_
                obtain ⟨rfl, Nq241, e241⟩ := hQ241
                have N241 := l241 N240 Nq241
                refine gE X241 hx #[vi i0, vi i1, vi i2, vi i3, vi i4, vi i5, vi (Int32.ofNat 2), vi (Int32.ofNat 5), vi b8, vr v9, vr m1, .val (.double (FP.ddiv (FP.l2d (u0 + u1)) 4611686018427387904)), .second, uu, uu, uu, uu, uu, uu, uu, uu, uu, uu, uu, uu, uu, uu, uu, uu, uu, uu] (hb hby at_184) rfl ?_
                refine gI X241 hx (hb hby at_186) rfl ?_
                refine gI X241 hx (hb hby at_188) rfl ?_
                refine kS (W := 0) (C := 4) (S := 17) X241 hx hZ hown (wd hw 26 rfl) (wd hw 27 rfl) (wd hw 28 rfl) (wd hw 29 rfl) (rmMI l Z a0 hw [] 5 2 T240.heap n0 (by decide)) pd_4 (hb hby at_190) e241 hml (by exact ⟨rfl, rfl, rfl, rfl⟩) (by decide) fun v242 T242 L242 Lc242 X242 hQ242 l242 => ?_
                obtain ⟨rfl, Nq242, e242⟩ := hQ242
                have N242 := l242 N241 Nq242
                show Go p e below _ (T242.setTop (mkF m 193 #[vi i0, vi i1, vi i2, vi i3, vi i4, vi i5, vi (Int32.ofNat 2), vi (Int32.ofNat 5), vi b8, vr v9, vr m1, .val (.double (FP.ddiv (FP.l2d (u0 + u1)) 4611686018427387904)), .second, uu, uu, uu, uu, uu, uu, uu, uu, uu, uu, uu, uu, uu, uu, uu, uu, uu, uu] [(.int (Int32.ofNat (min 5 2)))]))
                rw [show Int32.ofNat (min 5 2) = (2 : Int32) from rfl]
                refine gT X242 hx #[vi i0, vi i1, vi i2, vi i3, vi i4, vi i5, vi (Int32.ofNat 2), vi (Int32.ofNat 5), vi b8, vr v9, vr m1, .val (.double (FP.ddiv (FP.l2d (u0 + u1)) 4611686018427387904)), .second, vi (2 : Int32), uu, uu, uu, uu, uu, uu, uu, uu, uu, uu, uu, uu, uu, uu, uu, uu, uu] (hb hby at_193) rfl ?_
                refine gI X242 hx (hb hby at_195) rfl ?_
                refine gI X242 hx (hb hby at_197) rfl ?_
                refine gq (XS.isub X242.here hx rfl (hb hby at_199) rfl) rfl ?_
                show Go p e below _ (T242.setTop (mkF m 200 #[vi i0, vi i1, vi i2, vi i3, vi i4, vi i5, vi (Int32.ofNat 2), vi (Int32.ofNat 5), vi b8, vr v9, vr m1, .val (.double (FP.ddiv (FP.l2d (u0 + u1)) 4611686018427387904)), .second, vi (2 : Int32), uu, uu, uu, uu, uu, uu, uu, uu, uu, uu, uu, uu, uu, uu, uu, uu, uu] [(.int ((Int32.ofNat 5) - (2 : Int32)))]))
                rw [show ((Int32.ofNat 5) - (2 : Int32)) = (3 : Int32) from by decide]
                refine gT X242 hx #[vi i0, vi i1, vi i2, vi i3, vi i4, vi i5, vi (Int32.ofNat 2), vi (Int32.ofNat 5), vi b8, vr v9, vr m1, .val (.double (FP.ddiv (FP.l2d (u0 + u1)) 4611686018427387904)), .second, vi (2 : Int32), vi (3 : Int32), uu, uu, uu, uu, uu, uu, uu, uu, uu, uu, uu, uu, uu, uu, uu, uu] (hb hby at_200) rfl ?_
                refine gI X242 hx (hb hby at_202) rfl ?_
                refine zN X242 hx (hb hby at_204) ((if0 _ _).trans (tlt (by decide : (0 : Int32) < (2 : Int32))).2.2.2) ?_
                refine gA X242 hx (hb hby at_207) rfl rfl ?_
                refine gI X242 hx (hb hby at_209) rfl ?_
                refine gLA X242 hx hZ e242 V_v9 (by decide) (.long y3) rfl (hb hby at_211) ?_
                refine gg X242 hx 216 (hb hby at_212) (by decide) ?_
                refine gM X242 hx #[vi i0, vi i1, vi i2, vi i3, vi i4, vi i5, vi (Int32.ofNat 2), vi (Int32.ofNat 5), vi b8, vr v9, vr m1, .val (.double (FP.ddiv (FP.l2d (u0 + u1)) 4611686018427387904)), .second, vi (2 : Int32), vi (3 : Int32), .val (.long y3), .second, uu, uu, uu, uu, uu, uu, uu, uu, uu, uu, uu, uu, uu, uu] (hb hby at_216) rfl ?_
                refine gI X242 hx (hb hby at_218) rfl ?_
                refine gk X242 hx 1 (hb hby at_220) rfl ?_
                refine cN X242 hx (hb hby at_221) (tlt (by decide : (1 : Int32) < (2 : Int32))).2.2.2 ?_
                refine gA X242 hx (hb hby at_224) rfl rfl ?_
                refine gI X242 hx (hb hby at_226) rfl ?_
                refine gk X242 hx 1 (hb hby at_228) rfl ?_
                refine gq (XS.iadd X242.here hx rfl (hb hby at_229) rfl) rfl ?_
                refine gLA X242 hx hZ e242 V_v9 (by decide) (.long y4) rfl (hb hby at_230) ?_
                refine gg X242 hx 235 (hb hby at_231) (by decide) ?_
                refine gM X242 hx #[vi i0, vi i1, vi i2, vi i3, vi i4, vi i5, vi (Int32.ofNat 2), vi (Int32.ofNat 5), vi b8, vr v9, vr m1, .val (.double (FP.ddiv (FP.l2d (u0 + u1)) 4611686018427387904)), .second, vi (2 : Int32), vi (3 : Int32), .val (.long y3), .second, .val (.long y4), .second, uu, uu, uu, uu, uu, uu, uu, uu, uu, uu, uu, uu] (hb hby at_235) rfl ?_
                refine gI X242 hx (hb hby at_237) rfl ?_
                refine gk X242 hx 2 (hb hby at_239) rfl ?_
                refine cY X242 hx 253 (hb hby at_240) (flt (by decide : ¬ ((2 : Int32) < (2 : Int32)))).2.2.2 (by decide) ?_
                refine Go.by (fun t => XS.lconst X242.here hx rfl (hb hby at_253)) ?_
                show Go p e below _ (T242.setTop (mkF m 254 #[vi i0, vi i1, vi i2, vi i3, vi i4, vi i5, vi (Int32.ofNat 2), vi (Int32.ofNat 5), vi b8, vr v9, vr m1, .val (.double (FP.ddiv (FP.l2d (u0 + u1)) 4611686018427387904)), .second, vi (2 : Int32), vi (3 : Int32), .val (.long y3), .second, .val (.long y4), .second, uu, uu, uu, uu, uu, uu, uu, uu, uu, uu, uu, uu] [(.long (0 : Int64))]))
                refine gM X242 hx #[vi i0, vi i1, vi i2, vi i3, vi i4, vi i5, vi (Int32.ofNat 2), vi (Int32.ofNat 5), vi b8, vr v9, vr m1, .val (.double (FP.ddiv (FP.l2d (u0 + u1)) 4611686018427387904)), .second, vi (2 : Int32), vi (3 : Int32), .val (.long y3), .second, .val (.long y4), .second, .val (.long (0 : Int64)), .second, uu, uu, uu, uu, uu, uu, uu, uu, uu, uu] (hb hby at_254) rfl ?_
                refine gI X242 hx (hb hby at_256) rfl ?_
                refine gk X242 hx 3 (hb hby at_258) rfl ?_
                refine cY X242 hx 272 (hb hby at_259) (flt (by decide : ¬ ((3 : Int32) < (2 : Int32)))).2.2.2 (by decide) ?_
                refine Go.by (fun t => XS.lconst X242.here hx rfl (hb hby at_272)) ?_
                show Go p e below _ (T242.setTop (mkF m 273 #[vi i0, vi i1, vi i2, vi i3, vi i4, vi i5, vi (Int32.ofNat 2), vi (Int32.ofNat 5), vi b8, vr v9, vr m1, .val (.double (FP.ddiv (FP.l2d (u0 + u1)) 4611686018427387904)), .second, vi (2 : Int32), vi (3 : Int32), .val (.long y3), .second, .val (.long y4), .second, .val (.long (0 : Int64)), .second, uu, uu, uu, uu, uu, uu, uu, uu, uu, uu] [(.long (0 : Int64))]))
                refine gM X242 hx #[vi i0, vi i1, vi i2, vi i3, vi i4, vi i5, vi (Int32.ofNat 2), vi (Int32.ofNat 5), vi b8, vr v9, vr m1, .val (.double (FP.ddiv (FP.l2d (u0 + u1)) 4611686018427387904)), .second, vi (2 : Int32), vi (3 : Int32), .val (.long y3), .second, .val (.long y4), .second, .val (.long (0 : Int64)), .second, .val (.long (0 : Int64)), .second, uu, uu, uu, uu, uu, uu, uu, uu] (hb hby at_273) rfl ?_
                refine gI X242 hx (hb hby at_275) rfl ?_
                refine zY X242 hx 286 (hb hby at_277) ((if0 _ _).trans (feq (by decide : ¬ ((2 : Int32) = (0 : Int32)))).2) (by decide) ?_
                refine gI X242 hx (hb hby at_286) rfl ?_
                refine gk X242 hx 1 (hb hby at_288) rfl ?_
                refine cY X242 hx 300 (hb hby at_289) (feq (by decide : ¬ ((2 : Int32) = (1 : Int32)))).2 (by decide) ?_
                refine gI X242 hx (hb hby at_300) rfl ?_
                refine gk X242 hx 2 (hb hby at_302) rfl ?_
                refine cN X242 hx (hb hby at_303) (teq (rfl : (2 : Int32) = (2 : Int32))).2 ?_
                refine gL X242 hx (hb hby at_306) rfl ?_
                refine gL X242 hx (hb hby at_308) rfl ?_
                refine gq (XS.ladd X242.here hx rfl (hb hby at_310) rfl) rfl ?_
                refine gq (XS.l2dS X242.here hx rfl (hb hby at_311) rfl rfl) rfl ?_
                refine Go.by (fun t => X242.ldc2DoubleC hx hown (mvT hZ (wd hw 42 rfl)) (g := (mkF m 312 #[vi i0, vi i1, vi i2, vi i3, vi i4, vi i5, vi (Int32.ofNat 2), vi (Int32.ofNat 5), vi b8, vr v9, vr m1, .val (.double (FP.ddiv (FP.l2d (u0 + u1)) 4611686018427387904)), .second, vi (2 : Int32), vi (3 : Int32), .val (.long y3), .second, .val (.long y4), .second, .val (.long (0 : Int64)), .second, .val (.long (0 : Int64)), .second, uu, uu, uu, uu, uu, uu, uu, uu] [(.double (FP.l2d (y3 + y4)))])) rfl (hb hby at_312) t) ?_
                show Go p e below _ (T242.setTop (mkF m 315 #[vi i0, vi i1, vi i2, vi i3, vi i4, vi i5, vi (Int32.ofNat 2), vi (Int32.ofNat 5), vi b8, vr v9, vr m1, .val (.double (FP.ddiv (FP.l2d (u0 + u1)) 4611686018427387904)), .second, vi (2 : Int32), vi (3 : Int32), .val (.long y3), .second, .val (.long y4), .second, .val (.long (0 : Int64)), .second, .val (.long (0 : Int64)), .second, uu, uu, uu, uu, uu, uu, uu, uu] [(.double (4611686018427387904 : UInt64)), (.double (FP.l2d (y3 + y4)))]))
                refine gq (XS.ddivS X242.here hx rfl (hb hby at_315) rfl nn_div rfl) rfl ?_
                refine gE X242 hx #[vi i0, vi i1, vi i2, vi i3, vi i4, vi i5, vi (Int32.ofNat 2), vi (Int32.ofNat 5), vi b8, vr v9, vr m1, .val (.double (FP.ddiv (FP.l2d (u0 + u1)) 4611686018427387904)), .second, vi (2 : Int32), vi (3 : Int32), .val (.long y3), .second, .val (.long y4), .second, .val (.long (0 : Int64)), .second, .val (.long (0 : Int64)), .second, .val (.double (FP.ddiv (FP.l2d (y3 + y4)) (4611686018427387904 : UInt64))), .second, uu, uu, uu, uu, uu, uu] (hb hby at_316) rfl ?_
                refine gg X242 hx 425 (hb hby at_318) (by decide) ?_
                refine gD X242 hx (hb hby at_425) rfl ?_
                refine gD X242 hx (hb hby at_427) rfl ?_
                refine gq (XS.dcmpS X242.here hx rfl (hb hby at_429) rfl rfl) rfl ?_
                show Go p e below _ (T242.setTop (mkF m 430 #[vi i0, vi i1, vi i2, vi i3, vi i4, vi i5, vi (Int32.ofNat 2), vi (Int32.ofNat 5), vi b8, vr v9, vr m1, .val (.double (FP.ddiv (FP.l2d (u0 + u1)) 4611686018427387904)), .second, vi (2 : Int32), vi (3 : Int32), .val (.long y3), .second, .val (.long y4), .second, .val (.long (0 : Int64)), .second, .val (.long (0 : Int64)), .second, .val (.double (FP.ddiv (FP.l2d (y3 + y4)) (4611686018427387904 : UInt64))), .second, uu, uu, uu, uu, uu, uu] [(.int (cmpValue (FP.dcmp (FP.ddiv (FP.l2d (u0 + u1)) 4611686018427387904) (FP.ddiv (FP.l2d (y3 + y4)) (4611686018427387904 : UInt64))) .l))]))
                rw [show (cmpValue (FP.dcmp (FP.ddiv (FP.l2d (u0 + u1)) 4611686018427387904) (FP.ddiv (FP.l2d (y3 + y4)) (4611686018427387904 : UInt64))) .l) = 0 from eq0 (by rw [med2 pm5 q3 q4 (bA u0 (List.mem_of_getElem? (i := 0) rfl)) (bA u1 (List.mem_of_getElem? (i := 1) rfl))]) nn_div]
                refine zN X242 hx (hb hby at_430) ((if0 _ _).trans (teq (rfl : (0 : Int32) = (0 : Int32))).2) ?_
                refine gk X242 hx 1 (hb hby at_433) rfl ?_
                refine gg X242 hx 438 (hb hby at_434) (by decide) ?_
                exact Go.ret1 X242 hx Bd.returns Bd.notSynchronized (by first | rfl | decide) (Or.inl ⟨rfl, by simp, _, rfl⟩) (hb hby at_438) (by decide) (by decide) (by first | (rw [e242]; exact ⟨rfl, N242⟩) | exact ⟨rfl, N242⟩)
    ·
      show Go p e below _ (T186.setTop (mkF m 100 #[vi i0, vi i1, vi i2, vi i3, vi i4, vi i5, vi (Int32.ofNat 3), vi (Int32.ofNat nn), vi b8, vr v9, vr m1, uu, uu, uu, uu, uu, uu, uu, uu, uu, uu, uu, uu, uu, uu, uu, uu, uu, uu, uu, uu] []))
      refine gI X186 hx (hb hby at_100) rfl ?_
      by_cases hj : nn = 0
      ·
        refine zY X186 hx 115 (hb hby at_102) ((if0 _ _).trans (flt (fun q => absurd ((o_lt (a := 0) (by decide) (by omega)).1 q) (by omega) : ¬ ((0 : Int32) < (Int32.ofNat nn)))).2.2.2) (by decide) ?_
        refine gI X186 hx (hb hby at_115) rfl ?_
        refine gk X186 hx 1 (hb hby at_117) rfl ?_
        refine cY X186 hx 131 (hb hby at_118) (flt (fun q => absurd ((o_lt (a := 1) (by decide) (by omega)).1 q) (by omega) : ¬ ((1 : Int32) < (Int32.ofNat nn)))).2.2.2 (by decide) ?_
        refine gI X186 hx (hb hby at_131) rfl ?_
        refine gk X186 hx 2 (hb hby at_133) rfl ?_
        refine cY X186 hx 147 (hb hby at_134) (flt (fun q => absurd ((o_lt (a := 2) (by decide) (by omega)).1 q) (by omega) : ¬ ((2 : Int32) < (Int32.ofNat nn)))).2.2.2 (by decide) ?_
        refine gI X186 hx (hb hby at_147) rfl ?_
        refine gk X186 hx 3 (hb hby at_149) rfl ?_
        refine cY X186 hx 163 (hb hby at_150) (flt (fun q => absurd ((o_lt (a := 3) (by decide) (by omega)).1 q) (by omega) : ¬ ((3 : Int32) < (Int32.ofNat nn)))).2.2.2 (by decide) ?_
        refine gI X186 hx (hb hby at_163) rfl ?_
        refine gk X186 hx 4 (hb hby at_165) rfl ?_
        refine cY X186 hx 179 (hb hby at_166) (flt (fun q => absurd ((o_lt (a := 4) (by decide) (by omega)).1 q) (by omega) : ¬ ((4 : Int32) < (Int32.ofNat nn)))).2.2.2 (by decide) ?_
        subst hj
        show Go p e below _ (T186.setTop (mkF m 179 #[vi i0, vi i1, vi i2, vi i3, vi i4, vi i5, vi (Int32.ofNat 3), vi (Int32.ofNat 0), vi b8, vr v9, vr m1, uu, uu, uu, uu, uu, uu, uu, uu, uu, uu, uu, uu, uu, uu, uu, uu, uu, uu, uu, uu] []))
        refine gA X186 hx (hb hby at_179) rfl rfl ?_
        refine kV (W := 0) (C := 4) (S := 17) X186 hx hZ hown (wd hw 19 rfl) (wd hw 20 rfl) (wd hw 22 rfl) (wd hw 21 rfl) (wd hw 7 rfl) (wd hw 23 rfl) (notFace_of_selects (args := #[]) (mvT hZ (wd hw 22 rfl))) E_m1 (rmGT l Z a0 hw [] m1 aS cS 3 0 (List.replicate 3 (0 : Int64)) FP.dconst0 T186.heap n0 F_sorted_m1 F_held_m1 V_aS (Or.inl ⟨rfl, rfl⟩) (by decide)) pd_3 (hb hby at_181) rfl hml (by exact ⟨rfl, rfl, rfl, rfl⟩) (by decide) fun v245 T245 L245 Lc245 X245 hQ245 l245 => ?_
        obtain ⟨rfl, Nq245, e245⟩ := hQ245
        have N245 := l245 N186 Nq245
        refine gE X245 hx #[vi i0, vi i1, vi i2, vi i3, vi i4, vi i5, vi (Int32.ofNat 3), vi (Int32.ofNat 0), vi b8, vr v9, vr m1, .val (.double FP.dconst0), .second, uu, uu, uu, uu, uu, uu, uu, uu, uu, uu, uu, uu, uu, uu, uu, uu, uu, uu] (hb hby at_184) rfl ?_
        refine gI X245 hx (hb hby at_186) rfl ?_
        refine gI X245 hx (hb hby at_188) rfl ?_
        refine kS (W := 0) (C := 4) (S := 17) X245 hx hZ hown (wd hw 26 rfl) (wd hw 27 rfl) (wd hw 28 rfl) (wd hw 29 rfl) (rmMI l Z a0 hw [] 0 3 T186.heap n0 (by decide)) pd_4 (hb hby at_190) e245 hml (by exact ⟨rfl, rfl, rfl, rfl⟩) (by decide) fun v246 T246 L246 Lc246 X246 hQ246 l246 => ?_
        obtain ⟨rfl, Nq246, e246⟩ := hQ246
        have N246 := l246 N245 Nq246
        show Go p e below _ (T246.setTop (mkF m 193 #[vi i0, vi i1, vi i2, vi i3, vi i4, vi i5, vi (Int32.ofNat 3), vi (Int32.ofNat 0), vi b8, vr v9, vr m1, .val (.double FP.dconst0), .second, uu, uu, uu, uu, uu, uu, uu, uu, uu, uu, uu, uu, uu, uu, uu, uu, uu, uu] [(.int (Int32.ofNat (min 0 3)))]))
        rw [show Int32.ofNat (min 0 3) = (0 : Int32) from rfl]
        refine gT X246 hx #[vi i0, vi i1, vi i2, vi i3, vi i4, vi i5, vi (Int32.ofNat 3), vi (Int32.ofNat 0), vi b8, vr v9, vr m1, .val (.double FP.dconst0), .second, vi (0 : Int32), uu, uu, uu, uu, uu, uu, uu, uu, uu, uu, uu, uu, uu, uu, uu, uu, uu] (hb hby at_193) rfl ?_
        refine gI X246 hx (hb hby at_195) rfl ?_
        refine gI X246 hx (hb hby at_197) rfl ?_
        refine gq (XS.isub X246.here hx rfl (hb hby at_199) rfl) rfl ?_
        show Go p e below _ (T246.setTop (mkF m 200 #[vi i0, vi i1, vi i2, vi i3, vi i4, vi i5, vi (Int32.ofNat 3), vi (Int32.ofNat 0), vi b8, vr v9, vr m1, .val (.double FP.dconst0), .second, vi (0 : Int32), uu, uu, uu, uu, uu, uu, uu, uu, uu, uu, uu, uu, uu, uu, uu, uu, uu] [(.int ((Int32.ofNat 0) - (0 : Int32)))]))
        rw [show ((Int32.ofNat 0) - (0 : Int32)) = (0 : Int32) from by decide]
        refine gT X246 hx #[vi i0, vi i1, vi i2, vi i3, vi i4, vi i5, vi (Int32.ofNat 3), vi (Int32.ofNat 0), vi b8, vr v9, vr m1, .val (.double FP.dconst0), .second, vi (0 : Int32), vi (0 : Int32), uu, uu, uu, uu, uu, uu, uu, uu, uu, uu, uu, uu, uu, uu, uu, uu] (hb hby at_200) rfl ?_
        refine gI X246 hx (hb hby at_202) rfl ?_
        refine zY X246 hx 215 (hb hby at_204) ((if0 _ _).trans (flt (by decide : ¬ ((0 : Int32) < (0 : Int32)))).2.2.2) (by decide) ?_
        refine Go.by (fun t => XS.lconst X246.here hx rfl (hb hby at_215)) ?_
        show Go p e below _ (T246.setTop (mkF m 216 #[vi i0, vi i1, vi i2, vi i3, vi i4, vi i5, vi (Int32.ofNat 3), vi (Int32.ofNat 0), vi b8, vr v9, vr m1, .val (.double FP.dconst0), .second, vi (0 : Int32), vi (0 : Int32), uu, uu, uu, uu, uu, uu, uu, uu, uu, uu, uu, uu, uu, uu, uu, uu] [(.long (0 : Int64))]))
        refine gM X246 hx #[vi i0, vi i1, vi i2, vi i3, vi i4, vi i5, vi (Int32.ofNat 3), vi (Int32.ofNat 0), vi b8, vr v9, vr m1, .val (.double FP.dconst0), .second, vi (0 : Int32), vi (0 : Int32), .val (.long (0 : Int64)), .second, uu, uu, uu, uu, uu, uu, uu, uu, uu, uu, uu, uu, uu, uu] (hb hby at_216) rfl ?_
        refine gI X246 hx (hb hby at_218) rfl ?_
        refine gk X246 hx 1 (hb hby at_220) rfl ?_
        refine cY X246 hx 234 (hb hby at_221) (flt (by decide : ¬ ((1 : Int32) < (0 : Int32)))).2.2.2 (by decide) ?_
        refine Go.by (fun t => XS.lconst X246.here hx rfl (hb hby at_234)) ?_
        show Go p e below _ (T246.setTop (mkF m 235 #[vi i0, vi i1, vi i2, vi i3, vi i4, vi i5, vi (Int32.ofNat 3), vi (Int32.ofNat 0), vi b8, vr v9, vr m1, .val (.double FP.dconst0), .second, vi (0 : Int32), vi (0 : Int32), .val (.long (0 : Int64)), .second, uu, uu, uu, uu, uu, uu, uu, uu, uu, uu, uu, uu, uu, uu] [(.long (0 : Int64))]))
        refine gM X246 hx #[vi i0, vi i1, vi i2, vi i3, vi i4, vi i5, vi (Int32.ofNat 3), vi (Int32.ofNat 0), vi b8, vr v9, vr m1, .val (.double FP.dconst0), .second, vi (0 : Int32), vi (0 : Int32), .val (.long (0 : Int64)), .second, .val (.long (0 : Int64)), .second, uu, uu, uu, uu, uu, uu, uu, uu, uu, uu, uu, uu] (hb hby at_235) rfl ?_
        refine gI X246 hx (hb hby at_237) rfl ?_
        refine gk X246 hx 2 (hb hby at_239) rfl ?_
        refine cY X246 hx 253 (hb hby at_240) (flt (by decide : ¬ ((2 : Int32) < (0 : Int32)))).2.2.2 (by decide) ?_
        refine Go.by (fun t => XS.lconst X246.here hx rfl (hb hby at_253)) ?_
        show Go p e below _ (T246.setTop (mkF m 254 #[vi i0, vi i1, vi i2, vi i3, vi i4, vi i5, vi (Int32.ofNat 3), vi (Int32.ofNat 0), vi b8, vr v9, vr m1, .val (.double FP.dconst0), .second, vi (0 : Int32), vi (0 : Int32), .val (.long (0 : Int64)), .second, .val (.long (0 : Int64)), .second, uu, uu, uu, uu, uu, uu, uu, uu, uu, uu, uu, uu] [(.long (0 : Int64))]))
        refine gM X246 hx #[vi i0, vi i1, vi i2, vi i3, vi i4, vi i5, vi (Int32.ofNat 3), vi (Int32.ofNat 0), vi b8, vr v9, vr m1, .val (.double FP.dconst0), .second, vi (0 : Int32), vi (0 : Int32), .val (.long (0 : Int64)), .second, .val (.long (0 : Int64)), .second, .val (.long (0 : Int64)), .second, uu, uu, uu, uu, uu, uu, uu, uu, uu, uu] (hb hby at_254) rfl ?_
        refine gI X246 hx (hb hby at_256) rfl ?_
        refine gk X246 hx 3 (hb hby at_258) rfl ?_
        refine cY X246 hx 272 (hb hby at_259) (flt (by decide : ¬ ((3 : Int32) < (0 : Int32)))).2.2.2 (by decide) ?_
        refine Go.by (fun t => XS.lconst X246.here hx rfl (hb hby at_272)) ?_
        show Go p e below _ (T246.setTop (mkF m 273 #[vi i0, vi i1, vi i2, vi i3, vi i4, vi i5, vi (Int32.ofNat 3), vi (Int32.ofNat 0), vi b8, vr v9, vr m1, .val (.double FP.dconst0), .second, vi (0 : Int32), vi (0 : Int32), .val (.long (0 : Int64)), .second, .val (.long (0 : Int64)), .second, .val (.long (0 : Int64)), .second, uu, uu, uu, uu, uu, uu, uu, uu, uu, uu] [(.long (0 : Int64))]))
        refine gM X246 hx #[vi i0, vi i1, vi i2, vi i3, vi i4, vi i5, vi (Int32.ofNat 3), vi (Int32.ofNat 0), vi b8, vr v9, vr m1, .val (.double FP.dconst0), .second, vi (0 : Int32), vi (0 : Int32), .val (.long (0 : Int64)), .second, .val (.long (0 : Int64)), .second, .val (.long (0 : Int64)), .second, .val (.long (0 : Int64)), .second, uu, uu, uu, uu, uu, uu, uu, uu] (hb hby at_273) rfl ?_
        refine gI X246 hx (hb hby at_275) rfl ?_
        refine zN X246 hx (hb hby at_277) ((if0 _ _).trans (teq (rfl : (0 : Int32) = (0 : Int32))).2) ?_
        refine Go.by (fun t => XS.dconst0 X246.here hx rfl (hb hby at_280) rfl) ?_
        show Go p e below _ (T246.setTop (mkF m 281 #[vi i0, vi i1, vi i2, vi i3, vi i4, vi i5, vi (Int32.ofNat 3), vi (Int32.ofNat 0), vi b8, vr v9, vr m1, .val (.double FP.dconst0), .second, vi (0 : Int32), vi (0 : Int32), .val (.long (0 : Int64)), .second, .val (.long (0 : Int64)), .second, .val (.long (0 : Int64)), .second, .val (.long (0 : Int64)), .second, uu, uu, uu, uu, uu, uu, uu, uu] [(.double FP.dconst0)]))
        refine gE X246 hx #[vi i0, vi i1, vi i2, vi i3, vi i4, vi i5, vi (Int32.ofNat 3), vi (Int32.ofNat 0), vi b8, vr v9, vr m1, .val (.double FP.dconst0), .second, vi (0 : Int32), vi (0 : Int32), .val (.long (0 : Int64)), .second, .val (.long (0 : Int64)), .second, .val (.long (0 : Int64)), .second, .val (.long (0 : Int64)), .second, .val (.double FP.dconst0), .second, uu, uu, uu, uu, uu, uu] (hb hby at_281) rfl ?_
        refine gg X246 hx 425 (hb hby at_283) (by decide) ?_
        refine gD X246 hx (hb hby at_425) rfl ?_
        refine gD X246 hx (hb hby at_427) rfl ?_
        refine gq (XS.dcmpS X246.here hx rfl (hb hby at_429) rfl rfl) rfl ?_
        show Go p e below _ (T246.setTop (mkF m 430 #[vi i0, vi i1, vi i2, vi i3, vi i4, vi i5, vi (Int32.ofNat 3), vi (Int32.ofNat 0), vi b8, vr v9, vr m1, .val (.double FP.dconst0), .second, vi (0 : Int32), vi (0 : Int32), .val (.long (0 : Int64)), .second, .val (.long (0 : Int64)), .second, .val (.long (0 : Int64)), .second, .val (.long (0 : Int64)), .second, .val (.double FP.dconst0), .second, uu, uu, uu, uu, uu, uu] [(.int (cmpValue (FP.dcmp FP.dconst0 FP.dconst0) .l))]))
        rw [show (cmpValue (FP.dcmp FP.dconst0 FP.dconst0) .l) = 0 from eq0 (rfl) (by unfold NoNaN64; decide)]
        refine zN X246 hx (hb hby at_430) ((if0 _ _).trans (teq (rfl : (0 : Int32) = (0 : Int32))).2) ?_
        refine gk X246 hx 1 (hb hby at_433) rfl ?_
        refine gg X246 hx 438 (hb hby at_434) (by decide) ?_
        exact Go.ret1 X246 hx Bd.returns Bd.notSynchronized (by first | rfl | decide) (Or.inl ⟨rfl, by simp, _, rfl⟩) (hb hby at_438) (by decide) (by decide) (by first | (rw [e246]; exact ⟨rfl, N246⟩) | exact ⟨rfl, N246⟩)
      ·
        refine zN X186 hx (hb hby at_102) ((if0 _ _).trans (tlt ((o_lt (a := 0) (by decide) (by omega)).2 (by omega) : (0 : Int32) < (Int32.ofNat nn))).2.2.2) ?_
        replace t5 : 0 < nn := by omega
        refine gA X186 hx (hb hby at_105) rfl rfl ?_
        refine gA X186 hx (hb hby at_107) rfl rfl ?_
        refine gk X186 hx 0 (hb hby at_109) rfl ?_
        refine gLA X186 hx hZ rfl V_v9 ⟨by decide, by decide⟩ (.long y0) rfl (hb hby at_110) ?_
        refine gq (XS.l2dS X186.here hx rfl (hb hby at_111) rfl rfl) rfl ?_
        have V_aS' : Arv Z T186.heap aS cS .double (Int32.ofNat 3) (([] ++ (0 : Int64) :: List.replicate 2 0).map Dv) (.double 0) := V_aS
        have V_aA' : Arv Z T186.heap aA cA .double (Int32.ofNat 3) ([(0 : Int64), 0, 0].map Dv) (.double 0) := V_aA
        refine kV (W := 0) (C := 4) (S := 17) X186 hx hZ hown (wd hw 30 rfl) (wd hw 31 rfl) (wd hw 33 rfl) (wd hw 32 rfl) (wd hw 7 rfl) (wd hw 34 rfl) (notFace_of_selects (args := #[]) (mvT hZ (wd hw 33 rfl))) E_m1 (rmAN l Z a0 hw [] m1 aA aS cA cS 3 0 [(0 : Int64), 0, 0] [] y0 (1 : Int32) 0 (List.replicate 2 0) T186.heap n0 E_m1 F_arrived_m1 F_sorted_m1 F_held_m1 F_next_m1 V_aA' V_aS' ne_aA_aS g_m1 g_aA g_aS (by decide) rfl (by decide) (by decide) q0 (fun _ h => nomatch h) (show Srt [] from List.Pairwise.nil) rfl) pd_2 (hb hby at_112) rfl hml (by exact ⟨rfl, rfl, rfl, rfl⟩) (by decide) fun v248 T248 L248 Lc248 X248 hQ248 l248 => ?_
        obtain ⟨xs1, ys1, zs, rfl, Nq248, K248, f1, f2, f3, f4, V1, V2, pq, so1, hy1, hzz, hl1'⟩ := hQ248
        rw [hzz] at pq
        have pm1 : xs1.Perm [y0] := perm_new (W := []) pq (List.Perm.refl _)
        have hl1 : xs1.length = 1 := hl1'
        have N248 := l248 N186 Nq248
        replace V_v9 := V_v9.keep K248 (ninS ne_v9_m1 (ninS ne_v9_aA (ninS ne_v9_aS nin0)))
        replace E_m1 := E_m1.keep K248
        replace Z0 := Nat.le_trans Z0 K248.1
        clear F_arrived_m1 F_sorted_m1 F_held_m1 F_next_m1
        have F_arrived_m1 := f1
        have F_sorted_m1 := f2
        have F_held_m1 := f3
        have F_next_m1 := f4
        clear f1 f2 f3 f4
        clear V_aA V_aS
        have V_aA := V1
        have V_aS := V2
        clear V1 V2
        rw [← hl1'] at F_held_m1
        refine gI X248 hx (hb hby at_115) rfl ?_
        refine gk X248 hx 1 (hb hby at_117) rfl ?_
        by_cases hj : nn = 1
        ·
          refine cY X248 hx 131 (hb hby at_118) (flt (fun q => absurd ((o_lt (a := 1) (by decide) (by omega)).1 q) (by omega) : ¬ ((1 : Int32) < (Int32.ofNat nn)))).2.2.2 (by decide) ?_
          refine gI X248 hx (hb hby at_131) rfl ?_
          refine gk X248 hx 2 (hb hby at_133) rfl ?_
          refine cY X248 hx 147 (hb hby at_134) (flt (fun q => absurd ((o_lt (a := 2) (by decide) (by omega)).1 q) (by omega) : ¬ ((2 : Int32) < (Int32.ofNat nn)))).2.2.2 (by decide) ?_
          refine gI X248 hx (hb hby at_147) rfl ?_
          refine gk X248 hx 3 (hb hby at_149) rfl ?_
          refine cY X248 hx 163 (hb hby at_150) (flt (fun q => absurd ((o_lt (a := 3) (by decide) (by omega)).1 q) (by omega) : ¬ ((3 : Int32) < (Int32.ofNat nn)))).2.2.2 (by decide) ?_
          refine gI X248 hx (hb hby at_163) rfl ?_
          refine gk X248 hx 4 (hb hby at_165) rfl ?_
          refine cY X248 hx 179 (hb hby at_166) (flt (fun q => absurd ((o_lt (a := 4) (by decide) (by omega)).1 q) (by omega) : ¬ ((4 : Int32) < (Int32.ofNat nn)))).2.2.2 (by decide) ?_
          show Go p e below _ (T248.setTop (mkF m 179 #[vi i0, vi i1, vi i2, vi i3, vi i4, vi i5, vi (Int32.ofNat 3), vi (Int32.ofNat nn), vi b8, vr v9, vr m1, uu, uu, uu, uu, uu, uu, uu, uu, uu, uu, uu, uu, uu, uu, uu, uu, uu, uu, uu, uu] []))
          subst hj
          show Go p e below _ (T248.setTop (mkF m 179 #[vi i0, vi i1, vi i2, vi i3, vi i4, vi i5, vi (Int32.ofNat 3), vi (Int32.ofNat 1), vi b8, vr v9, vr m1, uu, uu, uu, uu, uu, uu, uu, uu, uu, uu, uu, uu, uu, uu, uu, uu, uu, uu, uu, uu] []))
          obtain ⟨u0, r0, hr0, hs0⟩ := lenS hl1
          have hxs : xs1 = [u0] := by rw [hr0, len0 hs0]
          rw [hxs] at pm1 so1 V_aS
          have bA : ∀ z ∈ [u0], BdI z := fun z hz => (allI q0 (allZ0)) z (pm1.mem_iff.1 hz)
          have hlen : ([u0] ++ ys1).length = 3 := by rw [List.length_append]; have q := hy1; rw [hxs] at q; exact q
          replace F_held_m1 : Fld Z T248.heap m1 "com/example/oneiros/oneiros/SlidingMedian" "held" "I" (.int (Int32.ofNat 1)) := by rw [hl1] at F_held_m1; exact F_held_m1
          refine gA X248 hx (hb hby at_179) rfl rfl ?_
          refine kV (W := 0) (C := 4) (S := 17) X248 hx hZ hown (wd hw 19 rfl) (wd hw 20 rfl) (wd hw 22 rfl) (wd hw 21 rfl) (wd hw 7 rfl) (wd hw 23 rfl) (notFace_of_selects (args := #[]) (mvT hZ (wd hw 22 rfl))) E_m1 (rmGT l Z a0 hw [] m1 aS cS 3 1 ([u0] ++ ys1) (FP.l2d u0) T248.heap n0 F_sorted_m1 F_held_m1 V_aS (Or.inr (Or.inl ⟨rfl, by decide, hlen, _, rfl, rfl⟩)) (by decide)) pd_3 (hb hby at_181) rfl hml (by exact ⟨rfl, rfl, rfl, rfl⟩) (by decide) fun v249 T249 L249 Lc249 X249 hQ249 l249 => ?_
          obtain ⟨rfl, Nq249, e249⟩ := hQ249
          have N249 := l249 N248 Nq249
          refine gE X249 hx #[vi i0, vi i1, vi i2, vi i3, vi i4, vi i5, vi (Int32.ofNat 3), vi (Int32.ofNat 1), vi b8, vr v9, vr m1, .val (.double (FP.l2d u0)), .second, uu, uu, uu, uu, uu, uu, uu, uu, uu, uu, uu, uu, uu, uu, uu, uu, uu, uu] (hb hby at_184) rfl ?_
          refine gI X249 hx (hb hby at_186) rfl ?_
          refine gI X249 hx (hb hby at_188) rfl ?_
          refine kS (W := 0) (C := 4) (S := 17) X249 hx hZ hown (wd hw 26 rfl) (wd hw 27 rfl) (wd hw 28 rfl) (wd hw 29 rfl) (rmMI l Z a0 hw [] 1 3 T248.heap n0 (by decide)) pd_4 (hb hby at_190) e249 hml (by exact ⟨rfl, rfl, rfl, rfl⟩) (by decide) fun v250 T250 L250 Lc250 X250 hQ250 l250 => ?_
          obtain ⟨rfl, Nq250, e250⟩ := hQ250
          have N250 := l250 N249 Nq250
          show Go p e below _ (T250.setTop (mkF m 193 #[vi i0, vi i1, vi i2, vi i3, vi i4, vi i5, vi (Int32.ofNat 3), vi (Int32.ofNat 1), vi b8, vr v9, vr m1, .val (.double (FP.l2d u0)), .second, uu, uu, uu, uu, uu, uu, uu, uu, uu, uu, uu, uu, uu, uu, uu, uu, uu, uu] [(.int (Int32.ofNat (min 1 3)))]))
          rw [show Int32.ofNat (min 1 3) = (1 : Int32) from rfl]
          refine gT X250 hx #[vi i0, vi i1, vi i2, vi i3, vi i4, vi i5, vi (Int32.ofNat 3), vi (Int32.ofNat 1), vi b8, vr v9, vr m1, .val (.double (FP.l2d u0)), .second, vi (1 : Int32), uu, uu, uu, uu, uu, uu, uu, uu, uu, uu, uu, uu, uu, uu, uu, uu, uu] (hb hby at_193) rfl ?_
          refine gI X250 hx (hb hby at_195) rfl ?_
          refine gI X250 hx (hb hby at_197) rfl ?_
          refine gq (XS.isub X250.here hx rfl (hb hby at_199) rfl) rfl ?_
          show Go p e below _ (T250.setTop (mkF m 200 #[vi i0, vi i1, vi i2, vi i3, vi i4, vi i5, vi (Int32.ofNat 3), vi (Int32.ofNat 1), vi b8, vr v9, vr m1, .val (.double (FP.l2d u0)), .second, vi (1 : Int32), uu, uu, uu, uu, uu, uu, uu, uu, uu, uu, uu, uu, uu, uu, uu, uu, uu] [(.int ((Int32.ofNat 1) - (1 : Int32)))]))
          rw [show ((Int32.ofNat 1) - (1 : Int32)) = (0 : Int32) from by decide]
          refine gT X250 hx #[vi i0, vi i1, vi i2, vi i3, vi i4, vi i5, vi (Int32.ofNat 3), vi (Int32.ofNat 1), vi b8, vr v9, vr m1, .val (.double (FP.l2d u0)), .second, vi (1 : Int32), vi (0 : Int32), uu, uu, uu, uu, uu, uu, uu, uu, uu, uu, uu, uu, uu, uu, uu, uu] (hb hby at_200) rfl ?_
          refine gI X250 hx (hb hby at_202) rfl ?_
          refine zN X250 hx (hb hby at_204) ((if0 _ _).trans (tlt (by decide : (0 : Int32) < (1 : Int32))).2.2.2) ?_
          refine gA X250 hx (hb hby at_207) rfl rfl ?_
          refine gI X250 hx (hb hby at_209) rfl ?_
          refine gLA X250 hx hZ e250 V_v9 (by decide) (.long y0) rfl (hb hby at_211) ?_
          refine gg X250 hx 216 (hb hby at_212) (by decide) ?_
          refine gM X250 hx #[vi i0, vi i1, vi i2, vi i3, vi i4, vi i5, vi (Int32.ofNat 3), vi (Int32.ofNat 1), vi b8, vr v9, vr m1, .val (.double (FP.l2d u0)), .second, vi (1 : Int32), vi (0 : Int32), .val (.long y0), .second, uu, uu, uu, uu, uu, uu, uu, uu, uu, uu, uu, uu, uu, uu] (hb hby at_216) rfl ?_
          refine gI X250 hx (hb hby at_218) rfl ?_
          refine gk X250 hx 1 (hb hby at_220) rfl ?_
          refine cY X250 hx 234 (hb hby at_221) (flt (by decide : ¬ ((1 : Int32) < (1 : Int32)))).2.2.2 (by decide) ?_
          refine Go.by (fun t => XS.lconst X250.here hx rfl (hb hby at_234)) ?_
          show Go p e below _ (T250.setTop (mkF m 235 #[vi i0, vi i1, vi i2, vi i3, vi i4, vi i5, vi (Int32.ofNat 3), vi (Int32.ofNat 1), vi b8, vr v9, vr m1, .val (.double (FP.l2d u0)), .second, vi (1 : Int32), vi (0 : Int32), .val (.long y0), .second, uu, uu, uu, uu, uu, uu, uu, uu, uu, uu, uu, uu, uu, uu] [(.long (0 : Int64))]))
          refine gM X250 hx #[vi i0, vi i1, vi i2, vi i3, vi i4, vi i5, vi (Int32.ofNat 3), vi (Int32.ofNat 1), vi b8, vr v9, vr m1, .val (.double (FP.l2d u0)), .second, vi (1 : Int32), vi (0 : Int32), .val (.long y0), .second, .val (.long (0 : Int64)), .second, uu, uu, uu, uu, uu, uu, uu, uu, uu, uu, uu, uu] (hb hby at_235) rfl ?_
          refine gI X250 hx (hb hby at_237) rfl ?_
          refine gk X250 hx 2 (hb hby at_239) rfl ?_
          refine cY X250 hx 253 (hb hby at_240) (flt (by decide : ¬ ((2 : Int32) < (1 : Int32)))).2.2.2 (by decide) ?_
          refine Go.by (fun t => XS.lconst X250.here hx rfl (hb hby at_253)) ?_
          show Go p e below _ (T250.setTop (mkF m 254 #[vi i0, vi i1, vi i2, vi i3, vi i4, vi i5, vi (Int32.ofNat 3), vi (Int32.ofNat 1), vi b8, vr v9, vr m1, .val (.double (FP.l2d u0)), .second, vi (1 : Int32), vi (0 : Int32), .val (.long y0), .second, .val (.long (0 : Int64)), .second, uu, uu, uu, uu, uu, uu, uu, uu, uu, uu, uu, uu] [(.long (0 : Int64))]))
          refine gM X250 hx #[vi i0, vi i1, vi i2, vi i3, vi i4, vi i5, vi (Int32.ofNat 3), vi (Int32.ofNat 1), vi b8, vr v9, vr m1, .val (.double (FP.l2d u0)), .second, vi (1 : Int32), vi (0 : Int32), .val (.long y0), .second, .val (.long (0 : Int64)), .second, .val (.long (0 : Int64)), .second, uu, uu, uu, uu, uu, uu, uu, uu, uu, uu] (hb hby at_254) rfl ?_
          refine gI X250 hx (hb hby at_256) rfl ?_
          refine gk X250 hx 3 (hb hby at_258) rfl ?_
          refine cY X250 hx 272 (hb hby at_259) (flt (by decide : ¬ ((3 : Int32) < (1 : Int32)))).2.2.2 (by decide) ?_
          refine Go.by (fun t => XS.lconst X250.here hx rfl (hb hby at_272)) ?_
          show Go p e below _ (T250.setTop (mkF m 273 #[vi i0, vi i1, vi i2, vi i3, vi i4, vi i5, vi (Int32.ofNat 3), vi (Int32.ofNat 1), vi b8, vr v9, vr m1, .val (.double (FP.l2d u0)), .second, vi (1 : Int32), vi (0 : Int32), .val (.long y0), .second, .val (.long (0 : Int64)), .second, .val (.long (0 : Int64)), .second, uu, uu, uu, uu, uu, uu, uu, uu, uu, uu] [(.long (0 : Int64))]))
          refine gM X250 hx #[vi i0, vi i1, vi i2, vi i3, vi i4, vi i5, vi (Int32.ofNat 3), vi (Int32.ofNat 1), vi b8, vr v9, vr m1, .val (.double (FP.l2d u0)), .second, vi (1 : Int32), vi (0 : Int32), .val (.long y0), .second, .val (.long (0 : Int64)), .second, .val (.long (0 : Int64)), .second, .val (.long (0 : Int64)), .second, uu, uu, uu, uu, uu, uu, uu, uu] (hb hby at_273) rfl ?_
          refine gI X250 hx (hb hby at_275) rfl ?_
          refine zY X250 hx 286 (hb hby at_277) ((if0 _ _).trans (feq (by decide : ¬ ((1 : Int32) = (0 : Int32)))).2) (by decide) ?_
          refine gI X250 hx (hb hby at_286) rfl ?_
          refine gk X250 hx 1 (hb hby at_288) rfl ?_
          refine cN X250 hx (hb hby at_289) (teq (rfl : (1 : Int32) = (1 : Int32))).2 ?_
          refine gL X250 hx (hb hby at_292) rfl ?_
          refine gq (XS.l2dS X250.here hx rfl (hb hby at_294) rfl rfl) rfl ?_
          refine gE X250 hx #[vi i0, vi i1, vi i2, vi i3, vi i4, vi i5, vi (Int32.ofNat 3), vi (Int32.ofNat 1), vi b8, vr v9, vr m1, .val (.double (FP.l2d u0)), .second, vi (1 : Int32), vi (0 : Int32), .val (.long y0), .second, .val (.long (0 : Int64)), .second, .val (.long (0 : Int64)), .second, .val (.long (0 : Int64)), .second, .val (.double (FP.l2d y0)), .second, uu, uu, uu, uu, uu, uu] (hb hby at_295) rfl ?_
          refine gg X250 hx 425 (hb hby at_297) (by decide) ?_
          refine gD X250 hx (hb hby at_425) rfl ?_
          refine gD X250 hx (hb hby at_427) rfl ?_
          refine gq (XS.dcmpS X250.here hx rfl (hb hby at_429) rfl rfl) rfl ?_
          show Go p e below _ (T250.setTop (mkF m 430 #[vi i0, vi i1, vi i2, vi i3, vi i4, vi i5, vi (Int32.ofNat 3), vi (Int32.ofNat 1), vi b8, vr v9, vr m1, .val (.double (FP.l2d u0)), .second, vi (1 : Int32), vi (0 : Int32), .val (.long y0), .second, .val (.long (0 : Int64)), .second, .val (.long (0 : Int64)), .second, .val (.long (0 : Int64)), .second, .val (.double (FP.l2d y0)), .second, uu, uu, uu, uu, uu, uu] [(.int (cmpValue (FP.dcmp (FP.l2d u0) (FP.l2d y0)) .l))]))
          rw [show (cmpValue (FP.dcmp (FP.l2d u0) (FP.l2d y0)) .l) = 0 from eq0 (congrArg FP.l2d (List.cons.inj (med1 pm1)).1) (l2d_fin _).noNaN]
          refine zN X250 hx (hb hby at_430) ((if0 _ _).trans (teq (rfl : (0 : Int32) = (0 : Int32))).2) ?_
          refine gk X250 hx 1 (hb hby at_433) rfl ?_
          refine gg X250 hx 438 (hb hby at_434) (by decide) ?_
          exact Go.ret1 X250 hx Bd.returns Bd.notSynchronized (by first | rfl | decide) (Or.inl ⟨rfl, by simp, _, rfl⟩) (hb hby at_438) (by decide) (by decide) (by first | (rw [e250]; exact ⟨rfl, N250⟩) | exact ⟨rfl, N250⟩)
        ·
          refine cN X248 hx (hb hby at_118) (tlt ((o_lt (a := 1) (by decide) (by omega)).2 (by omega) : (1 : Int32) < (Int32.ofNat nn))).2.2.2 ?_
          replace t5 : 1 < nn := by omega
          refine gA X248 hx (hb hby at_121) rfl rfl ?_
          refine gA X248 hx (hb hby at_123) rfl rfl ?_
          refine gk X248 hx 1 (hb hby at_125) rfl ?_
          refine gLA X248 hx hZ rfl V_v9 ⟨by decide, by decide⟩ (.long y1) rfl (hb hby at_126) ?_
          refine gq (XS.l2dS X248.here hx rfl (hb hby at_127) rfl rfl) rfl ?_
          obtain ⟨z1, s1, hz1, hzl1⟩ := lenS (l := ys1) (n := 1) (by omega)
          rw [hz1] at V_aS
          refine kV (W := 0) (C := 4) (S := 17) X248 hx hZ hown (wd hw 30 rfl) (wd hw 31 rfl) (wd hw 33 rfl) (wd hw 32 rfl) (wd hw 7 rfl) (wd hw 34 rfl) (notFace_of_selects (args := #[]) (mvT hZ (wd hw 33 rfl))) E_m1 (rmAN l Z a0 hw [] m1 aA aS cA cS 3 1 [y0, 0, 0] xs1 y1 (2 : Int32) z1 s1 T248.heap n0 E_m1 F_arrived_m1 F_sorted_m1 F_held_m1 F_next_m1 V_aA V_aS ne_aA_aS g_m1 g_aA g_aS (by decide) rfl (by decide) (by decide) q1 (fun z hz => (allI q0 (allZ0)) z (pm1.mem_iff.1 hz)) so1 (by omega)) pd_2 (hb hby at_128) rfl hml (by exact ⟨rfl, rfl, rfl, rfl⟩) (by decide) fun v253 T253 L253 Lc253 X253 hQ253 l253 => ?_
          obtain ⟨xs2, ys2, zs, rfl, Nq253, K253, f1, f2, f3, f4, V1, V2, pq, so2, hy2, hzz, hl2'⟩ := hQ253
          rw [hzz] at pq
          have pm2 : xs2.Perm [y0, y1] := perm_new (W := [y0]) pq pm1
          have hl2 : xs2.length = 2 := by rw [hl2', hl1]
          have N253 := l253 N248 Nq253
          replace V_v9 := V_v9.keep K253 (ninS ne_v9_m1 (ninS ne_v9_aA (ninS ne_v9_aS nin0)))
          replace E_m1 := E_m1.keep K253
          replace Z0 := Nat.le_trans Z0 K253.1
          clear F_arrived_m1 F_sorted_m1 F_held_m1 F_next_m1
          have F_arrived_m1 := f1
          have F_sorted_m1 := f2
          have F_held_m1 := f3
          have F_next_m1 := f4
          clear f1 f2 f3 f4
          clear V_aA V_aS
          have V_aA := V1
          have V_aS := V2
          clear V1 V2
          rw [← hl2'] at F_held_m1
          refine gI X253 hx (hb hby at_131) rfl ?_
          refine gk X253 hx 2 (hb hby at_133) rfl ?_
          by_cases hj : nn = 2
          ·
            refine cY X253 hx 147 (hb hby at_134) (flt (fun q => absurd ((o_lt (a := 2) (by decide) (by omega)).1 q) (by omega) : ¬ ((2 : Int32) < (Int32.ofNat nn)))).2.2.2 (by decide) ?_
            show Go p e below _ (T253.setTop (mkF m 147 #[vi i0, vi i1, vi i2, vi i3, vi i4, vi i5, vi (Int32.ofNat 3), vi (Int32.ofNat nn), vi b8, vr v9, vr m1, uu, uu, uu, uu, uu, uu, uu, uu, uu, uu, uu, uu, uu, uu, uu, uu, uu, uu, uu, uu] []))
            refine gI X253 hx (hb hby at_147) rfl ?_
            refine gk X253 hx 3 (hb hby at_149) rfl ?_
            refine cY X253 hx 163 (hb hby at_150) (flt (fun q => absurd ((o_lt (a := 3) (by decide) (by omega)).1 q) (by omega) : ¬ ((3 : Int32) < (Int32.ofNat nn)))).2.2.2 (by decide) ?_
            refine gI X253 hx (hb hby at_163) rfl ?_
            refine gk X253 hx 4 (hb hby at_165) rfl ?_
            refine cY X253 hx 179 (hb hby at_166) (flt (fun q => absurd ((o_lt (a := 4) (by decide) (by omega)).1 q) (by omega) : ¬ ((4 : Int32) < (Int32.ofNat nn)))).2.2.2 (by decide) ?_
            subst hj
            show Go p e below _ (T253.setTop (mkF m 179 #[vi i0, vi i1, vi i2, vi i3, vi i4, vi i5, vi (Int32.ofNat 3), vi (Int32.ofNat 2), vi b8, vr v9, vr m1, uu, uu, uu, uu, uu, uu, uu, uu, uu, uu, uu, uu, uu, uu, uu, uu, uu, uu, uu, uu] []))
            obtain ⟨u0, r0, hr0, hs0⟩ := lenS hl2
            obtain ⟨u1, r1, hr1, hs1⟩ := lenS hs0
            have hxs : xs2 = [u0, u1] := by rw [hr0, hr1, len0 hs1]
            rw [hxs] at pm2 so2 V_aS
            have bA : ∀ z ∈ [u0, u1], BdI z := fun z hz => (allI q0 (allI q1 (allZ0))) z (pm2.mem_iff.1 hz)
            have hlen : ([u0, u1] ++ ys2).length = 3 := by rw [List.length_append]; have q := hy2; rw [hxs] at q; exact q
            replace F_held_m1 : Fld Z T253.heap m1 "com/example/oneiros/oneiros/SlidingMedian" "held" "I" (.int (Int32.ofNat 2)) := by rw [hl2] at F_held_m1; exact F_held_m1
            refine gA X253 hx (hb hby at_179) rfl rfl ?_
            refine kV (W := 0) (C := 4) (S := 17) X253 hx hZ hown (wd hw 19 rfl) (wd hw 20 rfl) (wd hw 22 rfl) (wd hw 21 rfl) (wd hw 7 rfl) (wd hw 23 rfl) (notFace_of_selects (args := #[]) (mvT hZ (wd hw 22 rfl))) E_m1 (rmGT l Z a0 hw [] m1 aS cS 3 2 ([u0, u1] ++ ys2) (FP.ddiv (FP.l2d (u0 + u1)) 4611686018427387904) T253.heap n0 F_sorted_m1 F_held_m1 V_aS (Or.inr (Or.inr (Or.inl ⟨rfl, by decide, hlen, _, _, rfl, rfl, (bA u0 (List.mem_of_getElem? (i := 0) rfl)), (bA u1 (List.mem_of_getElem? (i := 1) rfl)), rfl⟩))) (by decide)) pd_3 (hb hby at_181) rfl hml (by exact ⟨rfl, rfl, rfl, rfl⟩) (by decide) fun v254 T254 L254 Lc254 X254 hQ254 l254 => ?_
            obtain ⟨rfl, Nq254, e254⟩ := hQ254
            have N254 := l254 N253 Nq254
            refine gE X254 hx #[vi i0, vi i1, vi i2, vi i3, vi i4, vi i5, vi (Int32.ofNat 3), vi (Int32.ofNat 2), vi b8, vr v9, vr m1, .val (.double (FP.ddiv (FP.l2d (u0 + u1)) 4611686018427387904)), .second, uu, uu, uu, uu, uu, uu, uu, uu, uu, uu, uu, uu, uu, uu, uu, uu, uu, uu] (hb hby at_184) rfl ?_
            refine gI X254 hx (hb hby at_186) rfl ?_
            refine gI X254 hx (hb hby at_188) rfl ?_
            refine kS (W := 0) (C := 4) (S := 17) X254 hx hZ hown (wd hw 26 rfl) (wd hw 27 rfl) (wd hw 28 rfl) (wd hw 29 rfl) (rmMI l Z a0 hw [] 2 3 T253.heap n0 (by decide)) pd_4 (hb hby at_190) e254 hml (by exact ⟨rfl, rfl, rfl, rfl⟩) (by decide) fun v255 T255 L255 Lc255 X255 hQ255 l255 => ?_
            obtain ⟨rfl, Nq255, e255⟩ := hQ255
            have N255 := l255 N254 Nq255
            show Go p e below _ (T255.setTop (mkF m 193 #[vi i0, vi i1, vi i2, vi i3, vi i4, vi i5, vi (Int32.ofNat 3), vi (Int32.ofNat 2), vi b8, vr v9, vr m1, .val (.double (FP.ddiv (FP.l2d (u0 + u1)) 4611686018427387904)), .second, uu, uu, uu, uu, uu, uu, uu, uu, uu, uu, uu, uu, uu, uu, uu, uu, uu, uu] [(.int (Int32.ofNat (min 2 3)))]))
            rw [show Int32.ofNat (min 2 3) = (2 : Int32) from rfl]
            refine gT X255 hx #[vi i0, vi i1, vi i2, vi i3, vi i4, vi i5, vi (Int32.ofNat 3), vi (Int32.ofNat 2), vi b8, vr v9, vr m1, .val (.double (FP.ddiv (FP.l2d (u0 + u1)) 4611686018427387904)), .second, vi (2 : Int32), uu, uu, uu, uu, uu, uu, uu, uu, uu, uu, uu, uu, uu, uu, uu, uu, uu] (hb hby at_193) rfl ?_
            refine gI X255 hx (hb hby at_195) rfl ?_
            refine gI X255 hx (hb hby at_197) rfl ?_
            refine gq (XS.isub X255.here hx rfl (hb hby at_199) rfl) rfl ?_
            show Go p e below _ (T255.setTop (mkF m 200 #[vi i0, vi i1, vi i2, vi i3, vi i4, vi i5, vi (Int32.ofNat 3), vi (Int32.ofNat 2), vi b8, vr v9, vr m1, .val (.double (FP.ddiv (FP.l2d (u0 + u1)) 4611686018427387904)), .second, vi (2 : Int32), uu, uu, uu, uu, uu, uu, uu, uu, uu, uu, uu, uu, uu, uu, uu, uu, uu] [(.int ((Int32.ofNat 2) - (2 : Int32)))]))
            rw [show ((Int32.ofNat 2) - (2 : Int32)) = (0 : Int32) from by decide]
            refine gT X255 hx #[vi i0, vi i1, vi i2, vi i3, vi i4, vi i5, vi (Int32.ofNat 3), vi (Int32.ofNat 2), vi b8, vr v9, vr m1, .val (.double (FP.ddiv (FP.l2d (u0 + u1)) 4611686018427387904)), .second, vi (2 : Int32), vi (0 : Int32), uu, uu, uu, uu, uu, uu, uu, uu, uu, uu, uu, uu, uu, uu, uu, uu] (hb hby at_200) rfl ?_
            refine gI X255 hx (hb hby at_202) rfl ?_
            refine zN X255 hx (hb hby at_204) ((if0 _ _).trans (tlt (by decide : (0 : Int32) < (2 : Int32))).2.2.2) ?_
            refine gA X255 hx (hb hby at_207) rfl rfl ?_
            refine gI X255 hx (hb hby at_209) rfl ?_
            refine gLA X255 hx hZ e255 V_v9 (by decide) (.long y0) rfl (hb hby at_211) ?_
            refine gg X255 hx 216 (hb hby at_212) (by decide) ?_
            refine gM X255 hx #[vi i0, vi i1, vi i2, vi i3, vi i4, vi i5, vi (Int32.ofNat 3), vi (Int32.ofNat 2), vi b8, vr v9, vr m1, .val (.double (FP.ddiv (FP.l2d (u0 + u1)) 4611686018427387904)), .second, vi (2 : Int32), vi (0 : Int32), .val (.long y0), .second, uu, uu, uu, uu, uu, uu, uu, uu, uu, uu, uu, uu, uu, uu] (hb hby at_216) rfl ?_
            refine gI X255 hx (hb hby at_218) rfl ?_
            refine gk X255 hx 1 (hb hby at_220) rfl ?_
            refine cN X255 hx (hb hby at_221) (tlt (by decide : (1 : Int32) < (2 : Int32))).2.2.2 ?_
            refine gA X255 hx (hb hby at_224) rfl rfl ?_
            refine gI X255 hx (hb hby at_226) rfl ?_
            refine gk X255 hx 1 (hb hby at_228) rfl ?_
            refine gq (XS.iadd X255.here hx rfl (hb hby at_229) rfl) rfl ?_
            refine gLA X255 hx hZ e255 V_v9 (by decide) (.long y1) rfl (hb hby at_230) ?_
            refine gg X255 hx 235 (hb hby at_231) (by decide) ?_
            refine gM X255 hx #[vi i0, vi i1, vi i2, vi i3, vi i4, vi i5, vi (Int32.ofNat 3), vi (Int32.ofNat 2), vi b8, vr v9, vr m1, .val (.double (FP.ddiv (FP.l2d (u0 + u1)) 4611686018427387904)), .second, vi (2 : Int32), vi (0 : Int32), .val (.long y0), .second, .val (.long y1), .second, uu, uu, uu, uu, uu, uu, uu, uu, uu, uu, uu, uu] (hb hby at_235) rfl ?_
            refine gI X255 hx (hb hby at_237) rfl ?_
            refine gk X255 hx 2 (hb hby at_239) rfl ?_
            refine cY X255 hx 253 (hb hby at_240) (flt (by decide : ¬ ((2 : Int32) < (2 : Int32)))).2.2.2 (by decide) ?_
            refine Go.by (fun t => XS.lconst X255.here hx rfl (hb hby at_253)) ?_
            show Go p e below _ (T255.setTop (mkF m 254 #[vi i0, vi i1, vi i2, vi i3, vi i4, vi i5, vi (Int32.ofNat 3), vi (Int32.ofNat 2), vi b8, vr v9, vr m1, .val (.double (FP.ddiv (FP.l2d (u0 + u1)) 4611686018427387904)), .second, vi (2 : Int32), vi (0 : Int32), .val (.long y0), .second, .val (.long y1), .second, uu, uu, uu, uu, uu, uu, uu, uu, uu, uu, uu, uu] [(.long (0 : Int64))]))
            refine gM X255 hx #[vi i0, vi i1, vi i2, vi i3, vi i4, vi i5, vi (Int32.ofNat 3), vi (Int32.ofNat 2), vi b8, vr v9, vr m1, .val (.double (FP.ddiv (FP.l2d (u0 + u1)) 4611686018427387904)), .second, vi (2 : Int32), vi (0 : Int32), .val (.long y0), .second, .val (.long y1), .second, .val (.long (0 : Int64)), .second, uu, uu, uu, uu, uu, uu, uu, uu, uu, uu] (hb hby at_254) rfl ?_
            refine gI X255 hx (hb hby at_256) rfl ?_
            refine gk X255 hx 3 (hb hby at_258) rfl ?_
            refine cY X255 hx 272 (hb hby at_259) (flt (by decide : ¬ ((3 : Int32) < (2 : Int32)))).2.2.2 (by decide) ?_
            refine Go.by (fun t => XS.lconst X255.here hx rfl (hb hby at_272)) ?_
            show Go p e below _ (T255.setTop (mkF m 273 #[vi i0, vi i1, vi i2, vi i3, vi i4, vi i5, vi (Int32.ofNat 3), vi (Int32.ofNat 2), vi b8, vr v9, vr m1, .val (.double (FP.ddiv (FP.l2d (u0 + u1)) 4611686018427387904)), .second, vi (2 : Int32), vi (0 : Int32), .val (.long y0), .second, .val (.long y1), .second, .val (.long (0 : Int64)), .second, uu, uu, uu, uu, uu, uu, uu, uu, uu, uu] [(.long (0 : Int64))]))
            refine gM X255 hx #[vi i0, vi i1, vi i2, vi i3, vi i4, vi i5, vi (Int32.ofNat 3), vi (Int32.ofNat 2), vi b8, vr v9, vr m1, .val (.double (FP.ddiv (FP.l2d (u0 + u1)) 4611686018427387904)), .second, vi (2 : Int32), vi (0 : Int32), .val (.long y0), .second, .val (.long y1), .second, .val (.long (0 : Int64)), .second, .val (.long (0 : Int64)), .second, uu, uu, uu, uu, uu, uu, uu, uu] (hb hby at_273) rfl ?_
            refine gI X255 hx (hb hby at_275) rfl ?_
            refine zY X255 hx 286 (hb hby at_277) ((if0 _ _).trans (feq (by decide : ¬ ((2 : Int32) = (0 : Int32)))).2) (by decide) ?_
            refine gI X255 hx (hb hby at_286) rfl ?_
            refine gk X255 hx 1 (hb hby at_288) rfl ?_
            refine cY X255 hx 300 (hb hby at_289) (feq (by decide : ¬ ((2 : Int32) = (1 : Int32)))).2 (by decide) ?_
            refine gI X255 hx (hb hby at_300) rfl ?_
            refine gk X255 hx 2 (hb hby at_302) rfl ?_
            refine cN X255 hx (hb hby at_303) (teq (rfl : (2 : Int32) = (2 : Int32))).2 ?_
            refine gL X255 hx (hb hby at_306) rfl ?_
            refine gL X255 hx (hb hby at_308) rfl ?_
            refine gq (XS.ladd X255.here hx rfl (hb hby at_310) rfl) rfl ?_
            refine gq (XS.l2dS X255.here hx rfl (hb hby at_311) rfl rfl) rfl ?_
            refine Go.by (fun t => X255.ldc2DoubleC hx hown (mvT hZ (wd hw 42 rfl)) (g := (mkF m 312 #[vi i0, vi i1, vi i2, vi i3, vi i4, vi i5, vi (Int32.ofNat 3), vi (Int32.ofNat 2), vi b8, vr v9, vr m1, .val (.double (FP.ddiv (FP.l2d (u0 + u1)) 4611686018427387904)), .second, vi (2 : Int32), vi (0 : Int32), .val (.long y0), .second, .val (.long y1), .second, .val (.long (0 : Int64)), .second, .val (.long (0 : Int64)), .second, uu, uu, uu, uu, uu, uu, uu, uu] [(.double (FP.l2d (y0 + y1)))])) rfl (hb hby at_312) t) ?_
            show Go p e below _ (T255.setTop (mkF m 315 #[vi i0, vi i1, vi i2, vi i3, vi i4, vi i5, vi (Int32.ofNat 3), vi (Int32.ofNat 2), vi b8, vr v9, vr m1, .val (.double (FP.ddiv (FP.l2d (u0 + u1)) 4611686018427387904)), .second, vi (2 : Int32), vi (0 : Int32), .val (.long y0), .second, .val (.long y1), .second, .val (.long (0 : Int64)), .second, .val (.long (0 : Int64)), .second, uu, uu, uu, uu, uu, uu, uu, uu] [(.double (4611686018427387904 : UInt64)), (.double (FP.l2d (y0 + y1)))]))
            refine gq (XS.ddivS X255.here hx rfl (hb hby at_315) rfl nn_div rfl) rfl ?_
            refine gE X255 hx #[vi i0, vi i1, vi i2, vi i3, vi i4, vi i5, vi (Int32.ofNat 3), vi (Int32.ofNat 2), vi b8, vr v9, vr m1, .val (.double (FP.ddiv (FP.l2d (u0 + u1)) 4611686018427387904)), .second, vi (2 : Int32), vi (0 : Int32), .val (.long y0), .second, .val (.long y1), .second, .val (.long (0 : Int64)), .second, .val (.long (0 : Int64)), .second, .val (.double (FP.ddiv (FP.l2d (y0 + y1)) (4611686018427387904 : UInt64))), .second, uu, uu, uu, uu, uu, uu] (hb hby at_316) rfl ?_
            refine gg X255 hx 425 (hb hby at_318) (by decide) ?_
            refine gD X255 hx (hb hby at_425) rfl ?_
            refine gD X255 hx (hb hby at_427) rfl ?_
            refine gq (XS.dcmpS X255.here hx rfl (hb hby at_429) rfl rfl) rfl ?_
            show Go p e below _ (T255.setTop (mkF m 430 #[vi i0, vi i1, vi i2, vi i3, vi i4, vi i5, vi (Int32.ofNat 3), vi (Int32.ofNat 2), vi b8, vr v9, vr m1, .val (.double (FP.ddiv (FP.l2d (u0 + u1)) 4611686018427387904)), .second, vi (2 : Int32), vi (0 : Int32), .val (.long y0), .second, .val (.long y1), .second, .val (.long (0 : Int64)), .second, .val (.long (0 : Int64)), .second, .val (.double (FP.ddiv (FP.l2d (y0 + y1)) (4611686018427387904 : UInt64))), .second, uu, uu, uu, uu, uu, uu] [(.int (cmpValue (FP.dcmp (FP.ddiv (FP.l2d (u0 + u1)) 4611686018427387904) (FP.ddiv (FP.l2d (y0 + y1)) (4611686018427387904 : UInt64))) .l))]))
            rw [show (cmpValue (FP.dcmp (FP.ddiv (FP.l2d (u0 + u1)) 4611686018427387904) (FP.ddiv (FP.l2d (y0 + y1)) (4611686018427387904 : UInt64))) .l) = 0 from eq0 (by rw [med2 pm2 q0 q1 (bA u0 (List.mem_of_getElem? (i := 0) rfl)) (bA u1 (List.mem_of_getElem? (i := 1) rfl))]) nn_div]
            refine zN X255 hx (hb hby at_430) ((if0 _ _).trans (teq (rfl : (0 : Int32) = (0 : Int32))).2) ?_
            refine gk X255 hx 1 (hb hby at_433) rfl ?_
            refine gg X255 hx 438 (hb hby at_434) (by decide) ?_
            exact Go.ret1 X255 hx Bd.returns Bd.notSynchronized (by first | rfl | decide) (Or.inl ⟨rfl, by simp, _, rfl⟩) (hb hby at_438) (by decide) (by decide) (by first | (rw [e255]; exact ⟨rfl, N255⟩) | exact ⟨rfl, N255⟩)
          ·
            refine cN X253 hx (hb hby at_134) (tlt ((o_lt (a := 2) (by decide) (by omega)).2 (by omega) : (2 : Int32) < (Int32.ofNat nn))).2.2.2 ?_
            show Go p e below _ (T253.setTop (mkF m 137 #[vi i0, vi i1, vi i2, vi i3, vi i4, vi i5, vi (Int32.ofNat 3), vi (Int32.ofNat nn), vi b8, vr v9, vr m1, uu, uu, uu, uu, uu, uu, uu, uu, uu, uu, uu, uu, uu, uu, uu, uu, uu, uu, uu, uu] []))
            replace t5 : 2 < nn := by omega
            refine gA X253 hx (hb hby at_137) rfl rfl ?_
            refine gA X253 hx (hb hby at_139) rfl rfl ?_
            refine gk X253 hx 2 (hb hby at_141) rfl ?_
            refine gLA X253 hx hZ rfl V_v9 ⟨by decide, by decide⟩ (.long y2) rfl (hb hby at_142) ?_
            refine gq (XS.l2dS X253.here hx rfl (hb hby at_143) rfl rfl) rfl ?_
            obtain ⟨z2, s2, hz2, hzl2⟩ := lenS (l := ys2) (n := 0) (by omega)
            rw [hz2] at V_aS
            refine kV (W := 0) (C := 4) (S := 17) X253 hx hZ hown (wd hw 30 rfl) (wd hw 31 rfl) (wd hw 33 rfl) (wd hw 32 rfl) (wd hw 7 rfl) (wd hw 34 rfl) (notFace_of_selects (args := #[]) (mvT hZ (wd hw 33 rfl))) E_m1 (rmAN l Z a0 hw [] m1 aA aS cA cS 3 2 [y0, y1, 0] xs2 y2 (0 : Int32) z2 s2 T253.heap n0 E_m1 F_arrived_m1 F_sorted_m1 F_held_m1 F_next_m1 V_aA V_aS ne_aA_aS g_m1 g_aA g_aS (by decide) rfl (by decide) (by decide) q2 (fun z hz => (allI q0 (allI q1 (allZ0))) z (pm2.mem_iff.1 hz)) so2 (by omega)) pd_2 (hb hby at_144) rfl hml (by exact ⟨rfl, rfl, rfl, rfl⟩) (by decide) fun v259 T259 L259 Lc259 X259 hQ259 l259 => ?_
            obtain ⟨xs3, ys3, zs, rfl, Nq259, K259, f1, f2, f3, f4, V1, V2, pq, so3, hy3, hzz, hl3'⟩ := hQ259
            rw [hzz] at pq
            have pm3 : xs3.Perm [y0, y1, y2] := perm_new (W := [y0, y1]) pq pm2
            have hl3 : xs3.length = 3 := by rw [hl3', hl2]
            have N259 := l259 N253 Nq259
            replace V_v9 := V_v9.keep K259 (ninS ne_v9_m1 (ninS ne_v9_aA (ninS ne_v9_aS nin0)))
            replace E_m1 := E_m1.keep K259
            replace Z0 := Nat.le_trans Z0 K259.1
            clear F_arrived_m1 F_sorted_m1 F_held_m1 F_next_m1
            have F_arrived_m1 := f1
            have F_sorted_m1 := f2
            have F_held_m1 := f3
            have F_next_m1 := f4
            clear f1 f2 f3 f4
            clear V_aA V_aS
            have V_aA := V1
            have V_aS := V2
            clear V1 V2
            rw [← hl3'] at F_held_m1
            refine gI X259 hx (hb hby at_147) rfl ?_
            refine gk X259 hx 3 (hb hby at_149) rfl ?_
            by_cases hj : nn = 3
            ·
              refine cY X259 hx 163 (hb hby at_150) (flt (fun q => absurd ((o_lt (a := 3) (by decide) (by omega)).1 q) (by omega) : ¬ ((3 : Int32) < (Int32.ofNat nn)))).2.2.2 (by decide) ?_
              refine gI X259 hx (hb hby at_163) rfl ?_
              refine gk X259 hx 4 (hb hby at_165) rfl ?_
              refine cY X259 hx 179 (hb hby at_166) (flt (fun q => absurd ((o_lt (a := 4) (by decide) (by omega)).1 q) (by omega) : ¬ ((4 : Int32) < (Int32.ofNat nn)))).2.2.2 (by decide) ?_
              subst hj
              show Go p e below _ (T259.setTop (mkF m 179 #[vi i0, vi i1, vi i2, vi i3, vi i4, vi i5, vi (Int32.ofNat 3), vi (Int32.ofNat 3), vi b8, vr v9, vr m1, uu, uu, uu, uu, uu, uu, uu, uu, uu, uu, uu, uu, uu, uu, uu, uu, uu, uu, uu, uu] []))
              obtain ⟨u0, r0, hr0, hs0⟩ := lenS hl3
              obtain ⟨u1, r1, hr1, hs1⟩ := lenS hs0
              obtain ⟨u2, r2, hr2, hs2⟩ := lenS hs1
              have hxs : xs3 = [u0, u1, u2] := by rw [hr0, hr1, hr2, len0 hs2]
              rw [hxs] at pm3 so3 V_aS
              have bA : ∀ z ∈ [u0, u1, u2], BdI z := fun z hz => (allI q0 (allI q1 (allI q2 (allZ0)))) z (pm3.mem_iff.1 hz)
              have hlen : ([u0, u1, u2] ++ ys3).length = 3 := by rw [List.length_append]; have q := hy3; rw [hxs] at q; exact q
              replace F_held_m1 : Fld Z T259.heap m1 "com/example/oneiros/oneiros/SlidingMedian" "held" "I" (.int (Int32.ofNat 3)) := by rw [hl3] at F_held_m1; exact F_held_m1
              refine gA X259 hx (hb hby at_179) rfl rfl ?_
              refine kV (W := 0) (C := 4) (S := 17) X259 hx hZ hown (wd hw 19 rfl) (wd hw 20 rfl) (wd hw 22 rfl) (wd hw 21 rfl) (wd hw 7 rfl) (wd hw 23 rfl) (notFace_of_selects (args := #[]) (mvT hZ (wd hw 22 rfl))) E_m1 (rmGT l Z a0 hw [] m1 aS cS 3 3 ([u0, u1, u2] ++ ys3) (FP.l2d u1) T259.heap n0 F_sorted_m1 F_held_m1 V_aS (Or.inr (Or.inr (Or.inr (Or.inl ⟨rfl, by decide, hlen, _, rfl, rfl⟩)))) (by decide)) pd_3 (hb hby at_181) rfl hml (by exact ⟨rfl, rfl, rfl, rfl⟩) (by decide) fun v260 T260 L260 Lc260 X260 hQ260 l260 => ?_
              obtain ⟨rfl, Nq260, e260⟩ := hQ260
              have N260 := l260 N259 Nq260
              refine gE X260 hx #[vi i0, vi i1, vi i2, vi i3, vi i4, vi i5, vi (Int32.ofNat 3), vi (Int32.ofNat 3), vi b8, vr v9, vr m1, .val (.double (FP.l2d u1)), .second, uu, uu, uu, uu, uu, uu, uu, uu, uu, uu, uu, uu, uu, uu, uu, uu, uu, uu] (hb hby at_184) rfl ?_
              refine gI X260 hx (hb hby at_186) rfl ?_
              refine gI X260 hx (hb hby at_188) rfl ?_
              refine kS (W := 0) (C := 4) (S := 17) X260 hx hZ hown (wd hw 26 rfl) (wd hw 27 rfl) (wd hw 28 rfl) (wd hw 29 rfl) (rmMI l Z a0 hw [] 3 3 T259.heap n0 (by decide)) pd_4 (hb hby at_190) e260 hml (by exact ⟨rfl, rfl, rfl, rfl⟩) (by decide) fun v261 T261 L261 Lc261 X261 hQ261 l261 => ?_
              obtain ⟨rfl, Nq261, e261⟩ := hQ261
              have N261 := l261 N260 Nq261
              show Go p e below _ (T261.setTop (mkF m 193 #[vi i0, vi i1, vi i2, vi i3, vi i4, vi i5, vi (Int32.ofNat 3), vi (Int32.ofNat 3), vi b8, vr v9, vr m1, .val (.double (FP.l2d u1)), .second, uu, uu, uu, uu, uu, uu, uu, uu, uu, uu, uu, uu, uu, uu, uu, uu, uu, uu] [(.int (Int32.ofNat (min 3 3)))]))
              rw [show Int32.ofNat (min 3 3) = (3 : Int32) from rfl]
              refine gT X261 hx #[vi i0, vi i1, vi i2, vi i3, vi i4, vi i5, vi (Int32.ofNat 3), vi (Int32.ofNat 3), vi b8, vr v9, vr m1, .val (.double (FP.l2d u1)), .second, vi (3 : Int32), uu, uu, uu, uu, uu, uu, uu, uu, uu, uu, uu, uu, uu, uu, uu, uu, uu] (hb hby at_193) rfl ?_
              refine gI X261 hx (hb hby at_195) rfl ?_
              refine gI X261 hx (hb hby at_197) rfl ?_
              refine gq (XS.isub X261.here hx rfl (hb hby at_199) rfl) rfl ?_
              show Go p e below _ (T261.setTop (mkF m 200 #[vi i0, vi i1, vi i2, vi i3, vi i4, vi i5, vi (Int32.ofNat 3), vi (Int32.ofNat 3), vi b8, vr v9, vr m1, .val (.double (FP.l2d u1)), .second, vi (3 : Int32), uu, uu, uu, uu, uu, uu, uu, uu, uu, uu, uu, uu, uu, uu, uu, uu, uu] [(.int ((Int32.ofNat 3) - (3 : Int32)))]))
              rw [show ((Int32.ofNat 3) - (3 : Int32)) = (0 : Int32) from by decide]
              refine gT X261 hx #[vi i0, vi i1, vi i2, vi i3, vi i4, vi i5, vi (Int32.ofNat 3), vi (Int32.ofNat 3), vi b8, vr v9, vr m1, .val (.double (FP.l2d u1)), .second, vi (3 : Int32), vi (0 : Int32), uu, uu, uu, uu, uu, uu, uu, uu, uu, uu, uu, uu, uu, uu, uu, uu] (hb hby at_200) rfl ?_
              refine gI X261 hx (hb hby at_202) rfl ?_
              refine zN X261 hx (hb hby at_204) ((if0 _ _).trans (tlt (by decide : (0 : Int32) < (3 : Int32))).2.2.2) ?_
              refine gA X261 hx (hb hby at_207) rfl rfl ?_
              refine gI X261 hx (hb hby at_209) rfl ?_
              refine gLA X261 hx hZ e261 V_v9 (by decide) (.long y0) rfl (hb hby at_211) ?_
              refine gg X261 hx 216 (hb hby at_212) (by decide) ?_
              refine gM X261 hx #[vi i0, vi i1, vi i2, vi i3, vi i4, vi i5, vi (Int32.ofNat 3), vi (Int32.ofNat 3), vi b8, vr v9, vr m1, .val (.double (FP.l2d u1)), .second, vi (3 : Int32), vi (0 : Int32), .val (.long y0), .second, uu, uu, uu, uu, uu, uu, uu, uu, uu, uu, uu, uu, uu, uu] (hb hby at_216) rfl ?_
              refine gI X261 hx (hb hby at_218) rfl ?_
              refine gk X261 hx 1 (hb hby at_220) rfl ?_
              refine cN X261 hx (hb hby at_221) (tlt (by decide : (1 : Int32) < (3 : Int32))).2.2.2 ?_
              refine gA X261 hx (hb hby at_224) rfl rfl ?_
              refine gI X261 hx (hb hby at_226) rfl ?_
              refine gk X261 hx 1 (hb hby at_228) rfl ?_
              refine gq (XS.iadd X261.here hx rfl (hb hby at_229) rfl) rfl ?_
              refine gLA X261 hx hZ e261 V_v9 (by decide) (.long y1) rfl (hb hby at_230) ?_
              refine gg X261 hx 235 (hb hby at_231) (by decide) ?_
              refine gM X261 hx #[vi i0, vi i1, vi i2, vi i3, vi i4, vi i5, vi (Int32.ofNat 3), vi (Int32.ofNat 3), vi b8, vr v9, vr m1, .val (.double (FP.l2d u1)), .second, vi (3 : Int32), vi (0 : Int32), .val (.long y0), .second, .val (.long y1), .second, uu, uu, uu, uu, uu, uu, uu, uu, uu, uu, uu, uu] (hb hby at_235) rfl ?_
              refine gI X261 hx (hb hby at_237) rfl ?_
              refine gk X261 hx 2 (hb hby at_239) rfl ?_
              refine cN X261 hx (hb hby at_240) (tlt (by decide : (2 : Int32) < (3 : Int32))).2.2.2 ?_
              refine gA X261 hx (hb hby at_243) rfl rfl ?_
              refine gI X261 hx (hb hby at_245) rfl ?_
              refine gk X261 hx 2 (hb hby at_247) rfl ?_
              refine gq (XS.iadd X261.here hx rfl (hb hby at_248) rfl) rfl ?_
              refine gLA X261 hx hZ e261 V_v9 (by decide) (.long y2) rfl (hb hby at_249) ?_
              refine gg X261 hx 254 (hb hby at_250) (by decide) ?_
              refine gM X261 hx #[vi i0, vi i1, vi i2, vi i3, vi i4, vi i5, vi (Int32.ofNat 3), vi (Int32.ofNat 3), vi b8, vr v9, vr m1, .val (.double (FP.l2d u1)), .second, vi (3 : Int32), vi (0 : Int32), .val (.long y0), .second, .val (.long y1), .second, .val (.long y2), .second, uu, uu, uu, uu, uu, uu, uu, uu, uu, uu] (hb hby at_254) rfl ?_
              refine gI X261 hx (hb hby at_256) rfl ?_
              refine gk X261 hx 3 (hb hby at_258) rfl ?_
              show Go p e below _ (T261.setTop (mkF m 259 #[vi i0, vi i1, vi i2, vi i3, vi i4, vi i5, vi (Int32.ofNat 3), vi (Int32.ofNat 3), vi b8, vr v9, vr m1, .val (.double (FP.l2d u1)), .second, vi (3 : Int32), vi (0 : Int32), .val (.long y0), .second, .val (.long y1), .second, .val (.long y2), .second, uu, uu, uu, uu, uu, uu, uu, uu, uu, uu] [(.int (3 : Int32)), (.int (3 : Int32))]))
              refine cY X261 hx 272 (hb hby at_259) (flt (by decide : ¬ ((3 : Int32) < (3 : Int32)))).2.2.2 (by decide) ?_
              refine Go.by (fun t => XS.lconst X261.here hx rfl (hb hby at_272)) ?_
              show Go p e below _ (T261.setTop (mkF m 273 #[vi i0, vi i1, vi i2, vi i3, vi i4, vi i5, vi (Int32.ofNat 3), vi (Int32.ofNat 3), vi b8, vr v9, vr m1, .val (.double (FP.l2d u1)), .second, vi (3 : Int32), vi (0 : Int32), .val (.long y0), .second, .val (.long y1), .second, .val (.long y2), .second, uu, uu, uu, uu, uu, uu, uu, uu, uu, uu] [(.long (0 : Int64))]))
              refine gM X261 hx #[vi i0, vi i1, vi i2, vi i3, vi i4, vi i5, vi (Int32.ofNat 3), vi (Int32.ofNat 3), vi b8, vr v9, vr m1, .val (.double (FP.l2d u1)), .second, vi (3 : Int32), vi (0 : Int32), .val (.long y0), .second, .val (.long y1), .second, .val (.long y2), .second, .val (.long (0 : Int64)), .second, uu, uu, uu, uu, uu, uu, uu, uu] (hb hby at_273) rfl ?_
              refine gI X261 hx (hb hby at_275) rfl ?_
              refine zY X261 hx 286 (hb hby at_277) ((if0 _ _).trans (feq (by decide : ¬ ((3 : Int32) = (0 : Int32)))).2) (by decide) ?_
              refine gI X261 hx (hb hby at_286) rfl ?_
              refine gk X261 hx 1 (hb hby at_288) rfl ?_
              refine cY X261 hx 300 (hb hby at_289) (feq (by decide : ¬ ((3 : Int32) = (1 : Int32)))).2 (by decide) ?_
              refine gI X261 hx (hb hby at_300) rfl ?_
              refine gk X261 hx 2 (hb hby at_302) rfl ?_
              refine cY X261 hx 321 (hb hby at_303) (feq (by decide : ¬ ((3 : Int32) = (2 : Int32)))).2 (by decide) ?_
              refine gI X261 hx (hb hby at_321) rfl ?_
              refine gk X261 hx 3 (hb hby at_323) rfl ?_
              refine cN X261 hx (hb hby at_324) (teq (rfl : (3 : Int32) = (3 : Int32))).2 ?_
              refine gL X261 hx (hb hby at_327) rfl ?_
              refine gL X261 hx (hb hby at_329) rfl ?_
              refine kS (W := 0) (C := 4) (S := 17) X261 hx hZ hown (wd hw 43 rfl) (wd hw 44 rfl) (wd hw 28 rfl) (wd hw 45 rfl) (rmMN l Z a0 hw [] y0 y1 T259.heap n0) pd_5 (hb hby at_331) e261 hml (by exact ⟨rfl, rfl, rfl, rfl⟩) (by decide) fun v265 T265 L265 Lc265 X265 hQ265 l265 => ?_
              obtain ⟨rfl, Nq265, e265⟩ := hQ265
              have N265 := l265 N261 Nq265
              refine gL X265 hx (hb hby at_334) rfl ?_
              refine gL X265 hx (hb hby at_336) rfl ?_
              refine kS (W := 2) (C := 4) (S := 17) X265 hx hZ hown (wd hw 46 rfl) (wd hw 47 rfl) (wd hw 28 rfl) (wd hw 48 rfl) (rmMX l Z a0 hw [] y0 y1 T259.heap n0) pd_5 (hb hby at_338) e265 hml (by exact ⟨rfl, rfl, rfl, rfl⟩) (by decide) fun v266 T266 L266 Lc266 X266 hQ266 l266 => ?_
              obtain ⟨rfl, Nq266, e266⟩ := hQ266
              have N266 := l266 N265 Nq266
              refine gL X266 hx (hb hby at_341) rfl ?_
              refine kS (W := 2) (C := 4) (S := 17) X266 hx hZ hown (wd hw 43 rfl) (wd hw 44 rfl) (wd hw 28 rfl) (wd hw 45 rfl) (rmMN l Z a0 hw [] (mxL y0 y1) y2 T259.heap n0) pd_5 (hb hby at_343) e266 hml (by exact ⟨rfl, rfl, rfl, rfl⟩) (by decide) fun v267 T267 L267 Lc267 X267 hQ267 l267 => ?_
              obtain ⟨rfl, Nq267, e267⟩ := hQ267
              have N267 := l267 N266 Nq267
              show Go p e below _ (T267.setTop (mkF m 346 #[vi i0, vi i1, vi i2, vi i3, vi i4, vi i5, vi (Int32.ofNat 3), vi (Int32.ofNat 3), vi b8, vr v9, vr m1, .val (.double (FP.l2d u1)), .second, vi (3 : Int32), vi (0 : Int32), .val (.long y0), .second, .val (.long y1), .second, .val (.long y2), .second, .val (.long (0 : Int64)), .second, uu, uu, uu, uu, uu, uu, uu, uu] [(.long (mnL (mxL y0 y1) y2)), (.long (mnL y0 y1))]))
              refine kS (W := 0) (C := 4) (S := 17) X267 hx hZ hown (wd hw 46 rfl) (wd hw 47 rfl) (wd hw 28 rfl) (wd hw 48 rfl) (rmMX l Z a0 hw [] (mnL y0 y1) (mnL (mxL y0 y1) y2) T259.heap n0) pd_5 (hb hby at_346) e267 hml (by exact ⟨rfl, rfl, rfl, rfl⟩) (by decide) fun v268 T268 L268 Lc268 X268 hQ268 l268 => ?_
              obtain ⟨rfl, Nq268, e268⟩ := hQ268
              have N268 := l268 N267 Nq268
              refine gM X268 hx #[vi i0, vi i1, vi i2, vi i3, vi i4, vi i5, vi (Int32.ofNat 3), vi (Int32.ofNat 3), vi b8, vr v9, vr m1, .val (.double (FP.l2d u1)), .second, vi (3 : Int32), vi (0 : Int32), .val (.long y0), .second, .val (.long y1), .second, .val (.long y2), .second, .val (.long (0 : Int64)), .second, uu, uu, .val (.long (mxL (mnL y0 y1) (mnL (mxL y0 y1) y2))), .second, uu, uu, uu, uu] (hb hby at_349) rfl ?_
              refine gL X268 hx (hb hby at_351) rfl ?_
              refine gq (XS.l2dS X268.here hx rfl (hb hby at_353) rfl rfl) rfl ?_
              refine gE X268 hx #[vi i0, vi i1, vi i2, vi i3, vi i4, vi i5, vi (Int32.ofNat 3), vi (Int32.ofNat 3), vi b8, vr v9, vr m1, .val (.double (FP.l2d u1)), .second, vi (3 : Int32), vi (0 : Int32), .val (.long y0), .second, .val (.long y1), .second, .val (.long y2), .second, .val (.long (0 : Int64)), .second, .val (.double (FP.l2d (mxL (mnL y0 y1) (mnL (mxL y0 y1) y2)))), .second, .val (.long (mxL (mnL y0 y1) (mnL (mxL y0 y1) y2))), .second, uu, uu, uu, uu] (hb hby at_354) rfl ?_
              refine gg X268 hx 425 (hb hby at_356) (by decide) ?_
              refine gD X268 hx (hb hby at_425) rfl ?_
              refine gD X268 hx (hb hby at_427) rfl ?_
              refine gq (XS.dcmpS X268.here hx rfl (hb hby at_429) rfl rfl) rfl ?_
              show Go p e below _ (T268.setTop (mkF m 430 #[vi i0, vi i1, vi i2, vi i3, vi i4, vi i5, vi (Int32.ofNat 3), vi (Int32.ofNat 3), vi b8, vr v9, vr m1, .val (.double (FP.l2d u1)), .second, vi (3 : Int32), vi (0 : Int32), .val (.long y0), .second, .val (.long y1), .second, .val (.long y2), .second, .val (.long (0 : Int64)), .second, .val (.double (FP.l2d (mxL (mnL y0 y1) (mnL (mxL y0 y1) y2)))), .second, .val (.long (mxL (mnL y0 y1) (mnL (mxL y0 y1) y2))), .second, uu, uu, uu, uu] [(.int (cmpValue (FP.dcmp (FP.l2d u1) (FP.l2d (mxL (mnL y0 y1) (mnL (mxL y0 y1) y2)))) .l))]))
              rw [show (cmpValue (FP.dcmp (FP.l2d u1) (FP.l2d (mxL (mnL y0 y1) (mnL (mxL y0 y1) y2)))) .l) = 0 from eq0 (by rw [med3 pm3 so3]) (l2d_fin _).noNaN]
              refine zN X268 hx (hb hby at_430) ((if0 _ _).trans (teq (rfl : (0 : Int32) = (0 : Int32))).2) ?_
              refine gk X268 hx 1 (hb hby at_433) rfl ?_
              refine gg X268 hx 438 (hb hby at_434) (by decide) ?_
              exact Go.ret1 X268 hx Bd.returns Bd.notSynchronized (by first | rfl | decide) (Or.inl ⟨rfl, by simp, _, rfl⟩) (hb hby at_438) (by decide) (by decide) (by first | (rw [e268]; exact ⟨rfl, N268⟩) | exact ⟨rfl, N268⟩)
            ·
              refine cN X259 hx (hb hby at_150) (tlt ((o_lt (a := 3) (by decide) (by omega)).2 (by omega) : (3 : Int32) < (Int32.ofNat nn))).2.2.2 ?_
              replace t5 : 3 < nn := by omega
              refine gA X259 hx (hb hby at_153) rfl rfl ?_
              refine gA X259 hx (hb hby at_155) rfl rfl ?_
              refine gk X259 hx 3 (hb hby at_157) rfl ?_
              refine gLA X259 hx hZ rfl V_v9 ⟨by decide, by decide⟩ (.long y3) rfl (hb hby at_158) ?_
              refine gq (XS.l2dS X259.here hx rfl (hb hby at_159) rfl rfl) rfl ?_
              refine kV (W := 0) (C := 4) (S := 17) X259 hx hZ hown (wd hw 30 rfl) (wd hw 31 rfl) (wd hw 33 rfl) (wd hw 32 rfl) (wd hw 7 rfl) (wd hw 34 rfl) (notFace_of_selects (args := #[]) (mvT hZ (wd hw 33 rfl))) E_m1 (rmAF l Z a0 hw [] m1 aA aS cA cS 3 0 [y0, y1, y2] xs3 y3 (1 : Int32) y0 T259.heap n0 E_m1 F_arrived_m1 F_sorted_m1 F_held_m1 F_next_m1 V_aA (arv_eq V_aS (by rw [len0 (l := ys3) (by omega), List.append_nil])) ne_aA_aS g_m1 g_aA g_aS (by decide) rfl (by decide) (by decide) q3 (fun z hz => (allI q0 (allI q1 (allI q2 (allZ0)))) z (pm3.mem_iff.1 hz)) so3 (by omega) rfl (pm3.mem_iff.2 (List.mem_of_getElem? (i := 0) rfl)) q0) pd_2 (hb hby at_160) rfl hml (by exact ⟨rfl, rfl, rfl, rfl⟩) (by decide) fun v270 T270 L270 Lc270 X270 hQ270 l270 => ?_
              obtain ⟨xs4, ys4, zs, rfl, Nq270, K270, f1, f2, f3, f4, V1, V2, pq, so4, hy4, px, hl4⟩ := hQ270
              have pm4 : xs4.Perm [y1, y2, y3] := perm_old (W := [y1, y2]) pq px pm3
              have N270 := l270 N259 Nq270
              replace V_v9 := V_v9.keep K270 (ninS ne_v9_m1 (ninS ne_v9_aA (ninS ne_v9_aS nin0)))
              replace E_m1 := E_m1.keep K270
              replace Z0 := Nat.le_trans Z0 K270.1
              clear F_arrived_m1 F_sorted_m1 F_held_m1 F_next_m1
              have F_arrived_m1 := f1
              have F_sorted_m1 := f2
              have F_held_m1 := f3
              have F_next_m1 := f4
              clear f1 f2 f3 f4
              clear V_aA V_aS
              have V_aA := V1
              have V_aS := V2
              clear V1 V2
              rw [← hl4] at F_held_m1
              refine gI X270 hx (hb hby at_163) rfl ?_
              refine gk X270 hx 4 (hb hby at_165) rfl ?_
              by_cases hj : nn = 4
              ·
                refine cY X270 hx 179 (hb hby at_166) (flt (fun q => absurd ((o_lt (a := 4) (by decide) (by omega)).1 q) (by omega) : ¬ ((4 : Int32) < (Int32.ofNat nn)))).2.2.2 (by decide) ?_
                subst hj
                show Go p e below _ (T270.setTop (mkF m 179 #[vi i0, vi i1, vi i2, vi i3, vi i4, vi i5, vi (Int32.ofNat 3), vi (Int32.ofNat 4), vi b8, vr v9, vr m1, uu, uu, uu, uu, uu, uu, uu, uu, uu, uu, uu, uu, uu, uu, uu, uu, uu, uu, uu, uu] []))
                obtain ⟨u0, r0, hr0, hs0⟩ := lenS hl4
                obtain ⟨u1, r1, hr1, hs1⟩ := lenS hs0
                obtain ⟨u2, r2, hr2, hs2⟩ := lenS hs1
                have hxs : xs4 = [u0, u1, u2] := by rw [hr0, hr1, hr2, len0 hs2]
                rw [hxs] at pm4 so4 V_aS
                have bA : ∀ z ∈ [u0, u1, u2], BdI z := fun z hz => (allI q1 (allI q2 (allI q3 (allZ0)))) z (pm4.mem_iff.1 hz)
                have hlen : ([u0, u1, u2] ++ ys4).length = 3 := by rw [List.length_append]; have q := hy4; rw [hxs] at q; exact q
                replace F_held_m1 : Fld Z T270.heap m1 "com/example/oneiros/oneiros/SlidingMedian" "held" "I" (.int (Int32.ofNat 3)) := by rw [hl4] at F_held_m1; exact F_held_m1
                refine gA X270 hx (hb hby at_179) rfl rfl ?_
                refine kV (W := 0) (C := 4) (S := 17) X270 hx hZ hown (wd hw 19 rfl) (wd hw 20 rfl) (wd hw 22 rfl) (wd hw 21 rfl) (wd hw 7 rfl) (wd hw 23 rfl) (notFace_of_selects (args := #[]) (mvT hZ (wd hw 22 rfl))) E_m1 (rmGT l Z a0 hw [] m1 aS cS 3 3 ([u0, u1, u2] ++ ys4) (FP.l2d u1) T270.heap n0 F_sorted_m1 F_held_m1 V_aS (Or.inr (Or.inr (Or.inr (Or.inl ⟨rfl, by decide, hlen, _, rfl, rfl⟩)))) (by decide)) pd_3 (hb hby at_181) rfl hml (by exact ⟨rfl, rfl, rfl, rfl⟩) (by decide) fun v271 T271 L271 Lc271 X271 hQ271 l271 => ?_
                obtain ⟨rfl, Nq271, e271⟩ := hQ271
                have N271 := l271 N270 Nq271
                refine gE X271 hx #[vi i0, vi i1, vi i2, vi i3, vi i4, vi i5, vi (Int32.ofNat 3), vi (Int32.ofNat 4), vi b8, vr v9, vr m1, .val (.double (FP.l2d u1)), .second, uu, uu, uu, uu, uu, uu, uu, uu, uu, uu, uu, uu, uu, uu, uu, uu, uu, uu] (hb hby at_184) rfl ?_
                refine gI X271 hx (hb hby at_186) rfl ?_
                refine gI X271 hx (hb hby at_188) rfl ?_
                refine kS (W := 0) (C := 4) (S := 17) X271 hx hZ hown (wd hw 26 rfl) (wd hw 27 rfl) (wd hw 28 rfl) (wd hw 29 rfl) (rmMI l Z a0 hw [] 4 3 T270.heap n0 (by decide)) pd_4 (hb hby at_190) e271 hml (by exact ⟨rfl, rfl, rfl, rfl⟩) (by decide) fun v272 T272 L272 Lc272 X272 hQ272 l272 => ?_
                obtain ⟨rfl, Nq272, e272⟩ := hQ272
                have N272 := l272 N271 Nq272
                show Go p e below _ (T272.setTop (mkF m 193 #[vi i0, vi i1, vi i2, vi i3, vi i4, vi i5, vi (Int32.ofNat 3), vi (Int32.ofNat 4), vi b8, vr v9, vr m1, .val (.double (FP.l2d u1)), .second, uu, uu, uu, uu, uu, uu, uu, uu, uu, uu, uu, uu, uu, uu, uu, uu, uu, uu] [(.int (Int32.ofNat (min 4 3)))]))
                rw [show Int32.ofNat (min 4 3) = (3 : Int32) from rfl]
                refine gT X272 hx #[vi i0, vi i1, vi i2, vi i3, vi i4, vi i5, vi (Int32.ofNat 3), vi (Int32.ofNat 4), vi b8, vr v9, vr m1, .val (.double (FP.l2d u1)), .second, vi (3 : Int32), uu, uu, uu, uu, uu, uu, uu, uu, uu, uu, uu, uu, uu, uu, uu, uu, uu] (hb hby at_193) rfl ?_
                refine gI X272 hx (hb hby at_195) rfl ?_
                refine gI X272 hx (hb hby at_197) rfl ?_
                refine gq (XS.isub X272.here hx rfl (hb hby at_199) rfl) rfl ?_
                show Go p e below _ (T272.setTop (mkF m 200 #[vi i0, vi i1, vi i2, vi i3, vi i4, vi i5, vi (Int32.ofNat 3), vi (Int32.ofNat 4), vi b8, vr v9, vr m1, .val (.double (FP.l2d u1)), .second, vi (3 : Int32), uu, uu, uu, uu, uu, uu, uu, uu, uu, uu, uu, uu, uu, uu, uu, uu, uu] [(.int ((Int32.ofNat 4) - (3 : Int32)))]))
                rw [show ((Int32.ofNat 4) - (3 : Int32)) = (1 : Int32) from by decide]
                refine gT X272 hx #[vi i0, vi i1, vi i2, vi i3, vi i4, vi i5, vi (Int32.ofNat 3), vi (Int32.ofNat 4), vi b8, vr v9, vr m1, .val (.double (FP.l2d u1)), .second, vi (3 : Int32), vi (1 : Int32), uu, uu, uu, uu, uu, uu, uu, uu, uu, uu, uu, uu, uu, uu, uu, uu] (hb hby at_200) rfl ?_
                refine gI X272 hx (hb hby at_202) rfl ?_
                refine zN X272 hx (hb hby at_204) ((if0 _ _).trans (tlt (by decide : (0 : Int32) < (3 : Int32))).2.2.2) ?_
                refine gA X272 hx (hb hby at_207) rfl rfl ?_
                refine gI X272 hx (hb hby at_209) rfl ?_
                refine gLA X272 hx hZ e272 V_v9 (by decide) (.long y1) rfl (hb hby at_211) ?_
                refine gg X272 hx 216 (hb hby at_212) (by decide) ?_
                refine gM X272 hx #[vi i0, vi i1, vi i2, vi i3, vi i4, vi i5, vi (Int32.ofNat 3), vi (Int32.ofNat 4), vi b8, vr v9, vr m1, .val (.double (FP.l2d u1)), .second, vi (3 : Int32), vi (1 : Int32), .val (.long y1), .second, uu, uu, uu, uu, uu, uu, uu, uu, uu, uu, uu, uu, uu, uu] (hb hby at_216) rfl ?_
                refine gI X272 hx (hb hby at_218) rfl ?_
                refine gk X272 hx 1 (hb hby at_220) rfl ?_
                refine cN X272 hx (hb hby at_221) (tlt (by decide : (1 : Int32) < (3 : Int32))).2.2.2 ?_
                refine gA X272 hx (hb hby at_224) rfl rfl ?_
                refine gI X272 hx (hb hby at_226) rfl ?_
                refine gk X272 hx 1 (hb hby at_228) rfl ?_
                refine gq (XS.iadd X272.here hx rfl (hb hby at_229) rfl) rfl ?_
                refine gLA X272 hx hZ e272 V_v9 (by decide) (.long y2) rfl (hb hby at_230) ?_
                refine gg X272 hx 235 (hb hby at_231) (by decide) ?_
                refine gM X272 hx #[vi i0, vi i1, vi i2, vi i3, vi i4, vi i5, vi (Int32.ofNat 3), vi (Int32.ofNat 4), vi b8, vr v9, vr m1, .val (.double (FP.l2d u1)), .second, vi (3 : Int32), vi (1 : Int32), .val (.long y1), .second, .val (.long y2), .second, uu, uu, uu, uu, uu, uu, uu, uu, uu, uu, uu, uu] (hb hby at_235) rfl ?_
                refine gI X272 hx (hb hby at_237) rfl ?_
                refine gk X272 hx 2 (hb hby at_239) rfl ?_
                refine cN X272 hx (hb hby at_240) (tlt (by decide : (2 : Int32) < (3 : Int32))).2.2.2 ?_
                refine gA X272 hx (hb hby at_243) rfl rfl ?_
                refine gI X272 hx (hb hby at_245) rfl ?_
                refine gk X272 hx 2 (hb hby at_247) rfl ?_
                refine gq (XS.iadd X272.here hx rfl (hb hby at_248) rfl) rfl ?_
                refine gLA X272 hx hZ e272 V_v9 (by decide) (.long y3) rfl (hb hby at_249) ?_
                refine gg X272 hx 254 (hb hby at_250) (by decide) ?_
                refine gM X272 hx #[vi i0, vi i1, vi i2, vi i3, vi i4, vi i5, vi (Int32.ofNat 3), vi (Int32.ofNat 4), vi b8, vr v9, vr m1, .val (.double (FP.l2d u1)), .second, vi (3 : Int32), vi (1 : Int32), .val (.long y1), .second, .val (.long y2), .second, .val (.long y3), .second, uu, uu, uu, uu, uu, uu, uu, uu, uu, uu] (hb hby at_254) rfl ?_
                refine gI X272 hx (hb hby at_256) rfl ?_
                refine gk X272 hx 3 (hb hby at_258) rfl ?_
                show Go p e below _ (T272.setTop (mkF m 259 #[vi i0, vi i1, vi i2, vi i3, vi i4, vi i5, vi (Int32.ofNat 3), vi (Int32.ofNat 4), vi b8, vr v9, vr m1, .val (.double (FP.l2d u1)), .second, vi (3 : Int32), vi (1 : Int32), .val (.long y1), .second, .val (.long y2), .second, .val (.long y3), .second, uu, uu, uu, uu, uu, uu, uu, uu, uu, uu] [(.int (3 : Int32)), (.int (3 : Int32))]))
                refine cY X272 hx 272 (hb hby at_259) (flt (by decide : ¬ ((3 : Int32) < (3 : Int32)))).2.2.2 (by decide) ?_
                refine Go.by (fun t => XS.lconst X272.here hx rfl (hb hby at_272)) ?_
                show Go p e below _ (T272.setTop (mkF m 273 #[vi i0, vi i1, vi i2, vi i3, vi i4, vi i5, vi (Int32.ofNat 3), vi (Int32.ofNat 4), vi b8, vr v9, vr m1, .val (.double (FP.l2d u1)), .second, vi (3 : Int32), vi (1 : Int32), .val (.long y1), .second, .val (.long y2), .second, .val (.long y3), .second, uu, uu, uu, uu, uu, uu, uu, uu, uu, uu] [(.long (0 : Int64))]))
                refine gM X272 hx #[vi i0, vi i1, vi i2, vi i3, vi i4, vi i5, vi (Int32.ofNat 3), vi (Int32.ofNat 4), vi b8, vr v9, vr m1, .val (.double (FP.l2d u1)), .second, vi (3 : Int32), vi (1 : Int32), .val (.long y1), .second, .val (.long y2), .second, .val (.long y3), .second, .val (.long (0 : Int64)), .second, uu, uu, uu, uu, uu, uu, uu, uu] (hb hby at_273) rfl ?_
                refine gI X272 hx (hb hby at_275) rfl ?_
                refine zY X272 hx 286 (hb hby at_277) ((if0 _ _).trans (feq (by decide : ¬ ((3 : Int32) = (0 : Int32)))).2) (by decide) ?_
                refine gI X272 hx (hb hby at_286) rfl ?_
                refine gk X272 hx 1 (hb hby at_288) rfl ?_
                refine cY X272 hx 300 (hb hby at_289) (feq (by decide : ¬ ((3 : Int32) = (1 : Int32)))).2 (by decide) ?_
                refine gI X272 hx (hb hby at_300) rfl ?_
                refine gk X272 hx 2 (hb hby at_302) rfl ?_
                refine cY X272 hx 321 (hb hby at_303) (feq (by decide : ¬ ((3 : Int32) = (2 : Int32)))).2 (by decide) ?_
                refine gI X272 hx (hb hby at_321) rfl ?_
                refine gk X272 hx 3 (hb hby at_323) rfl ?_
                refine cN X272 hx (hb hby at_324) (teq (rfl : (3 : Int32) = (3 : Int32))).2 ?_
                refine gL X272 hx (hb hby at_327) rfl ?_
                refine gL X272 hx (hb hby at_329) rfl ?_
                refine kS (W := 0) (C := 4) (S := 17) X272 hx hZ hown (wd hw 43 rfl) (wd hw 44 rfl) (wd hw 28 rfl) (wd hw 45 rfl) (rmMN l Z a0 hw [] y1 y2 T270.heap n0) pd_5 (hb hby at_331) e272 hml (by exact ⟨rfl, rfl, rfl, rfl⟩) (by decide) fun v276 T276 L276 Lc276 X276 hQ276 l276 => ?_
                obtain ⟨rfl, Nq276, e276⟩ := hQ276
                have N276 := l276 N272 Nq276
                refine gL X276 hx (hb hby at_334) rfl ?_
                refine gL X276 hx (hb hby at_336) rfl ?_
                refine kS (W := 2) (C := 4) (S := 17) X276 hx hZ hown (wd hw 46 rfl) (wd hw 47 rfl) (wd hw 28 rfl) (wd hw 48 rfl) (rmMX l Z a0 hw [] y1 y2 T270.heap n0) pd_5 (hb hby at_338) e276 hml (by exact ⟨rfl, rfl, rfl, rfl⟩) (by decide) fun v277 T277 L277 Lc277 X277 hQ277 l277 => ?_
                obtain ⟨rfl, Nq277, e277⟩ := hQ277
                have N277 := l277 N276 Nq277
                refine gL X277 hx (hb hby at_341) rfl ?_
                refine kS (W := 2) (C := 4) (S := 17) X277 hx hZ hown (wd hw 43 rfl) (wd hw 44 rfl) (wd hw 28 rfl) (wd hw 45 rfl) (rmMN l Z a0 hw [] (mxL y1 y2) y3 T270.heap n0) pd_5 (hb hby at_343) e277 hml (by exact ⟨rfl, rfl, rfl, rfl⟩) (by decide) fun v278 T278 L278 Lc278 X278 hQ278 l278 => ?_
                obtain ⟨rfl, Nq278, e278⟩ := hQ278
                have N278 := l278 N277 Nq278
                show Go p e below _ (T278.setTop (mkF m 346 #[vi i0, vi i1, vi i2, vi i3, vi i4, vi i5, vi (Int32.ofNat 3), vi (Int32.ofNat 4), vi b8, vr v9, vr m1, .val (.double (FP.l2d u1)), .second, vi (3 : Int32), vi (1 : Int32), .val (.long y1), .second, .val (.long y2), .second, .val (.long y3), .second, .val (.long (0 : Int64)), .second, uu, uu, uu, uu, uu, uu, uu, uu] [(.long (mnL (mxL y1 y2) y3)), (.long (mnL y1 y2))]))
                refine kS (W := 0) (C := 4) (S := 17) X278 hx hZ hown (wd hw 46 rfl) (wd hw 47 rfl) (wd hw 28 rfl) (wd hw 48 rfl) (rmMX l Z a0 hw [] (mnL y1 y2) (mnL (mxL y1 y2) y3) T270.heap n0) pd_5 (hb hby at_346) e278 hml (by exact ⟨rfl, rfl, rfl, rfl⟩) (by decide) fun v279 T279 L279 Lc279 X279 hQ279 l279 => ?_
                obtain ⟨rfl, Nq279, e279⟩ := hQ279
                have N279 := l279 N278 Nq279
                refine gM X279 hx #[vi i0, vi i1, vi i2, vi i3, vi i4, vi i5, vi (Int32.ofNat 3), vi (Int32.ofNat 4), vi b8, vr v9, vr m1, .val (.double (FP.l2d u1)), .second, vi (3 : Int32), vi (1 : Int32), .val (.long y1), .second, .val (.long y2), .second, .val (.long y3), .second, .val (.long (0 : Int64)), .second, uu, uu, .val (.long (mxL (mnL y1 y2) (mnL (mxL y1 y2) y3))), .second, uu, uu, uu, uu] (hb hby at_349) rfl ?_
                refine gL X279 hx (hb hby at_351) rfl ?_
                refine gq (XS.l2dS X279.here hx rfl (hb hby at_353) rfl rfl) rfl ?_
                refine gE X279 hx #[vi i0, vi i1, vi i2, vi i3, vi i4, vi i5, vi (Int32.ofNat 3), vi (Int32.ofNat 4), vi b8, vr v9, vr m1, .val (.double (FP.l2d u1)), .second, vi (3 : Int32), vi (1 : Int32), .val (.long y1), .second, .val (.long y2), .second, .val (.long y3), .second, .val (.long (0 : Int64)), .second, .val (.double (FP.l2d (mxL (mnL y1 y2) (mnL (mxL y1 y2) y3)))), .second, .val (.long (mxL (mnL y1 y2) (mnL (mxL y1 y2) y3))), .second, uu, uu, uu, uu] (hb hby at_354) rfl ?_
                refine gg X279 hx 425 (hb hby at_356) (by decide) ?_
                refine gD X279 hx (hb hby at_425) rfl ?_
                refine gD X279 hx (hb hby at_427) rfl ?_
                refine gq (XS.dcmpS X279.here hx rfl (hb hby at_429) rfl rfl) rfl ?_
                show Go p e below _ (T279.setTop (mkF m 430 #[vi i0, vi i1, vi i2, vi i3, vi i4, vi i5, vi (Int32.ofNat 3), vi (Int32.ofNat 4), vi b8, vr v9, vr m1, .val (.double (FP.l2d u1)), .second, vi (3 : Int32), vi (1 : Int32), .val (.long y1), .second, .val (.long y2), .second, .val (.long y3), .second, .val (.long (0 : Int64)), .second, .val (.double (FP.l2d (mxL (mnL y1 y2) (mnL (mxL y1 y2) y3)))), .second, .val (.long (mxL (mnL y1 y2) (mnL (mxL y1 y2) y3))), .second, uu, uu, uu, uu] [(.int (cmpValue (FP.dcmp (FP.l2d u1) (FP.l2d (mxL (mnL y1 y2) (mnL (mxL y1 y2) y3)))) .l))]))
                rw [show (cmpValue (FP.dcmp (FP.l2d u1) (FP.l2d (mxL (mnL y1 y2) (mnL (mxL y1 y2) y3)))) .l) = 0 from eq0 (by rw [med3 pm4 so4]) (l2d_fin _).noNaN]
                refine zN X279 hx (hb hby at_430) ((if0 _ _).trans (teq (rfl : (0 : Int32) = (0 : Int32))).2) ?_
                refine gk X279 hx 1 (hb hby at_433) rfl ?_
                refine gg X279 hx 438 (hb hby at_434) (by decide) ?_
                exact Go.ret1 X279 hx Bd.returns Bd.notSynchronized (by first | rfl | decide) (Or.inl ⟨rfl, by simp, _, rfl⟩) (hb hby at_438) (by decide) (by decide) (by first | (rw [e279]; exact ⟨rfl, N279⟩) | exact ⟨rfl, N279⟩)
              ·
                refine cN X270 hx (hb hby at_166) (tlt ((o_lt (a := 4) (by decide) (by omega)).2 (by omega) : (4 : Int32) < (Int32.ofNat nn))).2.2.2 ?_
                replace t5 : 4 < nn := by omega
                refine gA X270 hx (hb hby at_169) rfl rfl ?_
                refine gA X270 hx (hb hby at_171) rfl rfl ?_
                refine gk X270 hx 4 (hb hby at_173) rfl ?_
                refine gLA X270 hx hZ rfl V_v9 ⟨by decide, by decide⟩ (.long y4) rfl (hb hby at_174) ?_
                show Go p e below _ (T270.setTop (mkF m 175 #[vi i0, vi i1, vi i2, vi i3, vi i4, vi i5, vi (Int32.ofNat 3), vi (Int32.ofNat nn), vi b8, vr v9, vr m1, uu, uu, uu, uu, uu, uu, uu, uu, uu, uu, uu, uu, uu, uu, uu, uu, uu, uu, uu, uu] [(.long y4), (.ref m1)]))
                refine gq (XS.l2dS X270.here hx rfl (hb hby at_175) rfl rfl) rfl ?_
                refine kV (W := 0) (C := 4) (S := 17) X270 hx hZ hown (wd hw 30 rfl) (wd hw 31 rfl) (wd hw 33 rfl) (wd hw 32 rfl) (wd hw 7 rfl) (wd hw 34 rfl) (notFace_of_selects (args := #[]) (mvT hZ (wd hw 33 rfl))) E_m1 (rmAF l Z a0 hw [] m1 aA aS cA cS 3 1 [y3, y1, y2] xs4 y4 (2 : Int32) y1 T270.heap n0 E_m1 F_arrived_m1 F_sorted_m1 F_held_m1 F_next_m1 V_aA (arv_eq V_aS (by rw [len0 (l := ys4) (by omega), List.append_nil])) ne_aA_aS g_m1 g_aA g_aS (by decide) rfl (by decide) (by decide) q4 (fun z hz => (allI q1 (allI q2 (allI q3 (allZ0)))) z (pm4.mem_iff.1 hz)) so4 (by omega) rfl (pm4.mem_iff.2 (List.mem_of_getElem? (i := 0) rfl)) q1) pd_2 (hb hby at_176) rfl hml (by exact ⟨rfl, rfl, rfl, rfl⟩) (by decide) fun v281 T281 L281 Lc281 X281 hQ281 l281 => ?_
                obtain ⟨xs5, ys5, zs, rfl, Nq281, K281, f1, f2, f3, f4, V1, V2, pq, so5, hy5, px, hl5⟩ := hQ281
                have pm5 : xs5.Perm [y2, y3, y4] := perm_old (W := [y2, y3]) pq px pm4
                have N281 := l281 N270 Nq281
                replace V_v9 := V_v9.keep K281 (ninS ne_v9_m1 (ninS ne_v9_aA (ninS ne_v9_aS nin0)))
                replace E_m1 := E_m1.keep K281
                replace Z0 := Nat.le_trans Z0 K281.1
                clear F_arrived_m1 F_sorted_m1 F_held_m1 F_next_m1
                have F_arrived_m1 := f1
                have F_sorted_m1 := f2
                have F_held_m1 := f3
                have F_next_m1 := f4
                clear f1 f2 f3 f4
                clear V_aA V_aS
                have V_aA := V1
                have V_aS := V2
                clear V1 V2
                rw [← hl5] at F_held_m1
                have hj : nn = 5 := by omega
                subst hj
                show Go p e below _ (T281.setTop (mkF m 179 #[vi i0, vi i1, vi i2, vi i3, vi i4, vi i5, vi (Int32.ofNat 3), vi (Int32.ofNat 5), vi b8, vr v9, vr m1, uu, uu, uu, uu, uu, uu, uu, uu, uu, uu, uu, uu, uu, uu, uu, uu, uu, uu, uu, uu] []))
                obtain ⟨u0, r0, hr0, hs0⟩ := lenS hl5
                obtain ⟨u1, r1, hr1, hs1⟩ := lenS hs0
                obtain ⟨u2, r2, hr2, hs2⟩ := lenS hs1
                have hxs : xs5 = [u0, u1, u2] := by rw [hr0, hr1, hr2, len0 hs2]
                rw [hxs] at pm5 so5 V_aS
                have bA : ∀ z ∈ [u0, u1, u2], BdI z := fun z hz => (allI q2 (allI q3 (allI q4 (allZ0)))) z (pm5.mem_iff.1 hz)
                have hlen : ([u0, u1, u2] ++ ys5).length = 3 := by rw [List.length_append]; have q := hy5; rw [hxs] at q; exact q
                replace F_held_m1 : Fld Z T281.heap m1 "com/example/oneiros/oneiros/SlidingMedian" "held" "I" (.int (Int32.ofNat 3)) := by rw [hl5] at F_held_m1; exact F_held_m1
                refine gA X281 hx (hb hby at_179) rfl rfl ?_
                refine kV (W := 0) (C := 4) (S := 17) X281 hx hZ hown (wd hw 19 rfl) (wd hw 20 rfl) (wd hw 22 rfl) (wd hw 21 rfl) (wd hw 7 rfl) (wd hw 23 rfl) (notFace_of_selects (args := #[]) (mvT hZ (wd hw 22 rfl))) E_m1 (rmGT l Z a0 hw [] m1 aS cS 3 3 ([u0, u1, u2] ++ ys5) (FP.l2d u1) T281.heap n0 F_sorted_m1 F_held_m1 V_aS (Or.inr (Or.inr (Or.inr (Or.inl ⟨rfl, by decide, hlen, _, rfl, rfl⟩)))) (by decide)) pd_3 (hb hby at_181) rfl hml (by exact ⟨rfl, rfl, rfl, rfl⟩) (by decide) fun v282 T282 L282 Lc282 X282 hQ282 l282 => ?_
                obtain ⟨rfl, Nq282, e282⟩ := hQ282
                have N282 := l282 N281 Nq282
                refine gE X282 hx #[vi i0, vi i1, vi i2, vi i3, vi i4, vi i5, vi (Int32.ofNat 3), vi (Int32.ofNat 5), vi b8, vr v9, vr m1, .val (.double (FP.l2d u1)), .second, uu, uu, uu, uu, uu, uu, uu, uu, uu, uu, uu, uu, uu, uu, uu, uu, uu, uu] (hb hby at_184) rfl ?_
                refine gI X282 hx (hb hby at_186) rfl ?_
                refine gI X282 hx (hb hby at_188) rfl ?_
                refine kS (W := 0) (C := 4) (S := 17) X282 hx hZ hown (wd hw 26 rfl) (wd hw 27 rfl) (wd hw 28 rfl) (wd hw 29 rfl) (rmMI l Z a0 hw [] 5 3 T281.heap n0 (by decide)) pd_4 (hb hby at_190) e282 hml (by exact ⟨rfl, rfl, rfl, rfl⟩) (by decide) fun v283 T283 L283 Lc283 X283 hQ283 l283 => ?_
                obtain ⟨rfl, Nq283, e283⟩ := hQ283
                have N283 := l283 N282 Nq283
                show Go p e below _ (T283.setTop (mkF m 193 #[vi i0, vi i1, vi i2, vi i3, vi i4, vi i5, vi (Int32.ofNat 3), vi (Int32.ofNat 5), vi b8, vr v9, vr m1, .val (.double (FP.l2d u1)), .second, uu, uu, uu, uu, uu, uu, uu, uu, uu, uu, uu, uu, uu, uu, uu, uu, uu, uu] [(.int (Int32.ofNat (min 5 3)))]))
                rw [show Int32.ofNat (min 5 3) = (3 : Int32) from rfl]
                refine gT X283 hx #[vi i0, vi i1, vi i2, vi i3, vi i4, vi i5, vi (Int32.ofNat 3), vi (Int32.ofNat 5), vi b8, vr v9, vr m1, .val (.double (FP.l2d u1)), .second, vi (3 : Int32), uu, uu, uu, uu, uu, uu, uu, uu, uu, uu, uu, uu, uu, uu, uu, uu, uu] (hb hby at_193) rfl ?_
                refine gI X283 hx (hb hby at_195) rfl ?_
                refine gI X283 hx (hb hby at_197) rfl ?_
                refine gq (XS.isub X283.here hx rfl (hb hby at_199) rfl) rfl ?_
                show Go p e below _ (T283.setTop (mkF m 200 #[vi i0, vi i1, vi i2, vi i3, vi i4, vi i5, vi (Int32.ofNat 3), vi (Int32.ofNat 5), vi b8, vr v9, vr m1, .val (.double (FP.l2d u1)), .second, vi (3 : Int32), uu, uu, uu, uu, uu, uu, uu, uu, uu, uu, uu, uu, uu, uu, uu, uu, uu] [(.int ((Int32.ofNat 5) - (3 : Int32)))]))
                rw [show ((Int32.ofNat 5) - (3 : Int32)) = (2 : Int32) from by decide]
                refine gT X283 hx #[vi i0, vi i1, vi i2, vi i3, vi i4, vi i5, vi (Int32.ofNat 3), vi (Int32.ofNat 5), vi b8, vr v9, vr m1, .val (.double (FP.l2d u1)), .second, vi (3 : Int32), vi (2 : Int32), uu, uu, uu, uu, uu, uu, uu, uu, uu, uu, uu, uu, uu, uu, uu, uu] (hb hby at_200) rfl ?_
                refine gI X283 hx (hb hby at_202) rfl ?_
                refine zN X283 hx (hb hby at_204) ((if0 _ _).trans (tlt (by decide : (0 : Int32) < (3 : Int32))).2.2.2) ?_
                refine gA X283 hx (hb hby at_207) rfl rfl ?_
                refine gI X283 hx (hb hby at_209) rfl ?_
                refine gLA X283 hx hZ e283 V_v9 (by decide) (.long y2) rfl (hb hby at_211) ?_
                refine gg X283 hx 216 (hb hby at_212) (by decide) ?_
                refine gM X283 hx #[vi i0, vi i1, vi i2, vi i3, vi i4, vi i5, vi (Int32.ofNat 3), vi (Int32.ofNat 5), vi b8, vr v9, vr m1, .val (.double (FP.l2d u1)), .second, vi (3 : Int32), vi (2 : Int32), .val (.long y2), .second, uu, uu, uu, uu, uu, uu, uu, uu, uu, uu, uu, uu, uu, uu] (hb hby at_216) rfl ?_
                refine gI X283 hx (hb hby at_218) rfl ?_
                refine gk X283 hx 1 (hb hby at_220) rfl ?_
                refine cN X283 hx (hb hby at_221) (tlt (by decide : (1 : Int32) < (3 : Int32))).2.2.2 ?_
                refine gA X283 hx (hb hby at_224) rfl rfl ?_
                refine gI X283 hx (hb hby at_226) rfl ?_
                refine gk X283 hx 1 (hb hby at_228) rfl ?_
                refine gq (XS.iadd X283.here hx rfl (hb hby at_229) rfl) rfl ?_
                refine gLA X283 hx hZ e283 V_v9 (by decide) (.long y3) rfl (hb hby at_230) ?_
                refine gg X283 hx 235 (hb hby at_231) (by decide) ?_
                refine gM X283 hx #[vi i0, vi i1, vi i2, vi i3, vi i4, vi i5, vi (Int32.ofNat 3), vi (Int32.ofNat 5), vi b8, vr v9, vr m1, .val (.double (FP.l2d u1)), .second, vi (3 : Int32), vi (2 : Int32), .val (.long y2), .second, .val (.long y3), .second, uu, uu, uu, uu, uu, uu, uu, uu, uu, uu, uu, uu] (hb hby at_235) rfl ?_
                refine gI X283 hx (hb hby at_237) rfl ?_
                refine gk X283 hx 2 (hb hby at_239) rfl ?_
                refine cN X283 hx (hb hby at_240) (tlt (by decide : (2 : Int32) < (3 : Int32))).2.2.2 ?_
                refine gA X283 hx (hb hby at_243) rfl rfl ?_
                refine gI X283 hx (hb hby at_245) rfl ?_
                refine gk X283 hx 2 (hb hby at_247) rfl ?_
                refine gq (XS.iadd X283.here hx rfl (hb hby at_248) rfl) rfl ?_
                refine gLA X283 hx hZ e283 V_v9 (by decide) (.long y4) rfl (hb hby at_249) ?_
                refine gg X283 hx 254 (hb hby at_250) (by decide) ?_
                refine gM X283 hx #[vi i0, vi i1, vi i2, vi i3, vi i4, vi i5, vi (Int32.ofNat 3), vi (Int32.ofNat 5), vi b8, vr v9, vr m1, .val (.double (FP.l2d u1)), .second, vi (3 : Int32), vi (2 : Int32), .val (.long y2), .second, .val (.long y3), .second, .val (.long y4), .second, uu, uu, uu, uu, uu, uu, uu, uu, uu, uu] (hb hby at_254) rfl ?_
                refine gI X283 hx (hb hby at_256) rfl ?_
                refine gk X283 hx 3 (hb hby at_258) rfl ?_
                show Go p e below _ (T283.setTop (mkF m 259 #[vi i0, vi i1, vi i2, vi i3, vi i4, vi i5, vi (Int32.ofNat 3), vi (Int32.ofNat 5), vi b8, vr v9, vr m1, .val (.double (FP.l2d u1)), .second, vi (3 : Int32), vi (2 : Int32), .val (.long y2), .second, .val (.long y3), .second, .val (.long y4), .second, uu, uu, uu, uu, uu, uu, uu, uu, uu, uu] [(.int (3 : Int32)), (.int (3 : Int32))]))
                refine cY X283 hx 272 (hb hby at_259) (flt (by decide : ¬ ((3 : Int32) < (3 : Int32)))).2.2.2 (by decide) ?_
                refine Go.by (fun t => XS.lconst X283.here hx rfl (hb hby at_272)) ?_
                show Go p e below _ (T283.setTop (mkF m 273 #[vi i0, vi i1, vi i2, vi i3, vi i4, vi i5, vi (Int32.ofNat 3), vi (Int32.ofNat 5), vi b8, vr v9, vr m1, .val (.double (FP.l2d u1)), .second, vi (3 : Int32), vi (2 : Int32), .val (.long y2), .second, .val (.long y3), .second, .val (.long y4), .second, uu, uu, uu, uu, uu, uu, uu, uu, uu, uu] [(.long (0 : Int64))]))
                refine gM X283 hx #[vi i0, vi i1, vi i2, vi i3, vi i4, vi i5, vi (Int32.ofNat 3), vi (Int32.ofNat 5), vi b8, vr v9, vr m1, .val (.double (FP.l2d u1)), .second, vi (3 : Int32), vi (2 : Int32), .val (.long y2), .second, .val (.long y3), .second, .val (.long y4), .second, .val (.long (0 : Int64)), .second, uu, uu, uu, uu, uu, uu, uu, uu] (hb hby at_273) rfl ?_
                refine gI X283 hx (hb hby at_275) rfl ?_
                refine zY X283 hx 286 (hb hby at_277) ((if0 _ _).trans (feq (by decide : ¬ ((3 : Int32) = (0 : Int32)))).2) (by decide) ?_
                refine gI X283 hx (hb hby at_286) rfl ?_
                refine gk X283 hx 1 (hb hby at_288) rfl ?_
                refine cY X283 hx 300 (hb hby at_289) (feq (by decide : ¬ ((3 : Int32) = (1 : Int32)))).2 (by decide) ?_
                refine gI X283 hx (hb hby at_300) rfl ?_
                refine gk X283 hx 2 (hb hby at_302) rfl ?_
                refine cY X283 hx 321 (hb hby at_303) (feq (by decide : ¬ ((3 : Int32) = (2 : Int32)))).2 (by decide) ?_
                refine gI X283 hx (hb hby at_321) rfl ?_
                refine gk X283 hx 3 (hb hby at_323) rfl ?_
                refine cN X283 hx (hb hby at_324) (teq (rfl : (3 : Int32) = (3 : Int32))).2 ?_
                refine gL X283 hx (hb hby at_327) rfl ?_
                refine gL X283 hx (hb hby at_329) rfl ?_
                refine kS (W := 0) (C := 4) (S := 17) X283 hx hZ hown (wd hw 43 rfl) (wd hw 44 rfl) (wd hw 28 rfl) (wd hw 45 rfl) (rmMN l Z a0 hw [] y2 y3 T281.heap n0) pd_5 (hb hby at_331) e283 hml (by exact ⟨rfl, rfl, rfl, rfl⟩) (by decide) fun v287 T287 L287 Lc287 X287 hQ287 l287 => ?_
                obtain ⟨rfl, Nq287, e287⟩ := hQ287
                have N287 := l287 N283 Nq287
                refine gL X287 hx (hb hby at_334) rfl ?_
                refine gL X287 hx (hb hby at_336) rfl ?_
                refine kS (W := 2) (C := 4) (S := 17) X287 hx hZ hown (wd hw 46 rfl) (wd hw 47 rfl) (wd hw 28 rfl) (wd hw 48 rfl) (rmMX l Z a0 hw [] y2 y3 T281.heap n0) pd_5 (hb hby at_338) e287 hml (by exact ⟨rfl, rfl, rfl, rfl⟩) (by decide) fun v288 T288 L288 Lc288 X288 hQ288 l288 => ?_
                obtain ⟨rfl, Nq288, e288⟩ := hQ288
                have N288 := l288 N287 Nq288
                refine gL X288 hx (hb hby at_341) rfl ?_
                refine kS (W := 2) (C := 4) (S := 17) X288 hx hZ hown (wd hw 43 rfl) (wd hw 44 rfl) (wd hw 28 rfl) (wd hw 45 rfl) (rmMN l Z a0 hw [] (mxL y2 y3) y4 T281.heap n0) pd_5 (hb hby at_343) e288 hml (by exact ⟨rfl, rfl, rfl, rfl⟩) (by decide) fun v289 T289 L289 Lc289 X289 hQ289 l289 => ?_
                obtain ⟨rfl, Nq289, e289⟩ := hQ289
                have N289 := l289 N288 Nq289
                show Go p e below _ (T289.setTop (mkF m 346 #[vi i0, vi i1, vi i2, vi i3, vi i4, vi i5, vi (Int32.ofNat 3), vi (Int32.ofNat 5), vi b8, vr v9, vr m1, .val (.double (FP.l2d u1)), .second, vi (3 : Int32), vi (2 : Int32), .val (.long y2), .second, .val (.long y3), .second, .val (.long y4), .second, .val (.long (0 : Int64)), .second, uu, uu, uu, uu, uu, uu, uu, uu] [(.long (mnL (mxL y2 y3) y4)), (.long (mnL y2 y3))]))
                refine kS (W := 0) (C := 4) (S := 17) X289 hx hZ hown (wd hw 46 rfl) (wd hw 47 rfl) (wd hw 28 rfl) (wd hw 48 rfl) (rmMX l Z a0 hw [] (mnL y2 y3) (mnL (mxL y2 y3) y4) T281.heap n0) pd_5 (hb hby at_346) e289 hml (by exact ⟨rfl, rfl, rfl, rfl⟩) (by decide) fun v290 T290 L290 Lc290 X290 hQ290 l290 => ?_
                obtain ⟨rfl, Nq290, e290⟩ := hQ290
                have N290 := l290 N289 Nq290
                refine gM X290 hx #[vi i0, vi i1, vi i2, vi i3, vi i4, vi i5, vi (Int32.ofNat 3), vi (Int32.ofNat 5), vi b8, vr v9, vr m1, .val (.double (FP.l2d u1)), .second, vi (3 : Int32), vi (2 : Int32), .val (.long y2), .second, .val (.long y3), .second, .val (.long y4), .second, .val (.long (0 : Int64)), .second, uu, uu, .val (.long (mxL (mnL y2 y3) (mnL (mxL y2 y3) y4))), .second, uu, uu, uu, uu] (hb hby at_349) rfl ?_
                refine gL X290 hx (hb hby at_351) rfl ?_
                refine gq (XS.l2dS X290.here hx rfl (hb hby at_353) rfl rfl) rfl ?_
                refine gE X290 hx #[vi i0, vi i1, vi i2, vi i3, vi i4, vi i5, vi (Int32.ofNat 3), vi (Int32.ofNat 5), vi b8, vr v9, vr m1, .val (.double (FP.l2d u1)), .second, vi (3 : Int32), vi (2 : Int32), .val (.long y2), .second, .val (.long y3), .second, .val (.long y4), .second, .val (.long (0 : Int64)), .second, .val (.double (FP.l2d (mxL (mnL y2 y3) (mnL (mxL y2 y3) y4)))), .second, .val (.long (mxL (mnL y2 y3) (mnL (mxL y2 y3) y4))), .second, uu, uu, uu, uu] (hb hby at_354) rfl ?_
                refine gg X290 hx 425 (hb hby at_356) (by decide) ?_
                refine gD X290 hx (hb hby at_425) rfl ?_
                refine gD X290 hx (hb hby at_427) rfl ?_
                refine gq (XS.dcmpS X290.here hx rfl (hb hby at_429) rfl rfl) rfl ?_
                show Go p e below _ (T290.setTop (mkF m 430 #[vi i0, vi i1, vi i2, vi i3, vi i4, vi i5, vi (Int32.ofNat 3), vi (Int32.ofNat 5), vi b8, vr v9, vr m1, .val (.double (FP.l2d u1)), .second, vi (3 : Int32), vi (2 : Int32), .val (.long y2), .second, .val (.long y3), .second, .val (.long y4), .second, .val (.long (0 : Int64)), .second, .val (.double (FP.l2d (mxL (mnL y2 y3) (mnL (mxL y2 y3) y4)))), .second, .val (.long (mxL (mnL y2 y3) (mnL (mxL y2 y3) y4))), .second, uu, uu, uu, uu] [(.int (cmpValue (FP.dcmp (FP.l2d u1) (FP.l2d (mxL (mnL y2 y3) (mnL (mxL y2 y3) y4)))) .l))]))
                rw [show (cmpValue (FP.dcmp (FP.l2d u1) (FP.l2d (mxL (mnL y2 y3) (mnL (mxL y2 y3) y4)))) .l) = 0 from eq0 (by rw [med3 pm5 so5]) (l2d_fin _).noNaN]
                refine zN X290 hx (hb hby at_430) ((if0 _ _).trans (teq (rfl : (0 : Int32) = (0 : Int32))).2) ?_
                refine gk X290 hx 1 (hb hby at_433) rfl ?_
                refine gg X290 hx 438 (hb hby at_434) (by decide) ?_
                exact Go.ret1 X290 hx Bd.returns Bd.notSynchronized (by first | rfl | decide) (Or.inl ⟨rfl, by simp, _, rfl⟩) (hb hby at_438) (by decide) (by decide) (by first | (rw [e290]; exact ⟨rfl, N290⟩) | exact ⟨rfl, N290⟩)
    ·
      show Go p e below _ (T186.setTop (mkF m 100 #[vi i0, vi i1, vi i2, vi i3, vi i4, vi i5, vi (Int32.ofNat 4), vi (Int32.ofNat nn), vi b8, vr v9, vr m1, uu, uu, uu, uu, uu, uu, uu, uu, uu, uu, uu, uu, uu, uu, uu, uu, uu, uu, uu, uu] []))
      refine gI X186 hx (hb hby at_100) rfl ?_
      by_cases hj : nn = 0
      ·
        refine zY X186 hx 115 (hb hby at_102) ((if0 _ _).trans (flt (fun q => absurd ((o_lt (a := 0) (by decide) (by omega)).1 q) (by omega) : ¬ ((0 : Int32) < (Int32.ofNat nn)))).2.2.2) (by decide) ?_
        refine gI X186 hx (hb hby at_115) rfl ?_
        refine gk X186 hx 1 (hb hby at_117) rfl ?_
        refine cY X186 hx 131 (hb hby at_118) (flt (fun q => absurd ((o_lt (a := 1) (by decide) (by omega)).1 q) (by omega) : ¬ ((1 : Int32) < (Int32.ofNat nn)))).2.2.2 (by decide) ?_
        refine gI X186 hx (hb hby at_131) rfl ?_
        refine gk X186 hx 2 (hb hby at_133) rfl ?_
        refine cY X186 hx 147 (hb hby at_134) (flt (fun q => absurd ((o_lt (a := 2) (by decide) (by omega)).1 q) (by omega) : ¬ ((2 : Int32) < (Int32.ofNat nn)))).2.2.2 (by decide) ?_
        refine gI X186 hx (hb hby at_147) rfl ?_
        refine gk X186 hx 3 (hb hby at_149) rfl ?_
        refine cY X186 hx 163 (hb hby at_150) (flt (fun q => absurd ((o_lt (a := 3) (by decide) (by omega)).1 q) (by omega) : ¬ ((3 : Int32) < (Int32.ofNat nn)))).2.2.2 (by decide) ?_
        refine gI X186 hx (hb hby at_163) rfl ?_
        refine gk X186 hx 4 (hb hby at_165) rfl ?_
        refine cY X186 hx 179 (hb hby at_166) (flt (fun q => absurd ((o_lt (a := 4) (by decide) (by omega)).1 q) (by omega) : ¬ ((4 : Int32) < (Int32.ofNat nn)))).2.2.2 (by decide) ?_
        subst hj
        show Go p e below _ (T186.setTop (mkF m 179 #[vi i0, vi i1, vi i2, vi i3, vi i4, vi i5, vi (Int32.ofNat 4), vi (Int32.ofNat 0), vi b8, vr v9, vr m1, uu, uu, uu, uu, uu, uu, uu, uu, uu, uu, uu, uu, uu, uu, uu, uu, uu, uu, uu, uu] []))
        refine gA X186 hx (hb hby at_179) rfl rfl ?_
        refine kV (W := 0) (C := 4) (S := 17) X186 hx hZ hown (wd hw 19 rfl) (wd hw 20 rfl) (wd hw 22 rfl) (wd hw 21 rfl) (wd hw 7 rfl) (wd hw 23 rfl) (notFace_of_selects (args := #[]) (mvT hZ (wd hw 22 rfl))) E_m1 (rmGT l Z a0 hw [] m1 aS cS 4 0 (List.replicate 4 (0 : Int64)) FP.dconst0 T186.heap n0 F_sorted_m1 F_held_m1 V_aS (Or.inl ⟨rfl, rfl⟩) (by decide)) pd_3 (hb hby at_181) rfl hml (by exact ⟨rfl, rfl, rfl, rfl⟩) (by decide) fun v291 T291 L291 Lc291 X291 hQ291 l291 => ?_
        obtain ⟨rfl, Nq291, e291⟩ := hQ291
        have N291 := l291 N186 Nq291
        refine gE X291 hx #[vi i0, vi i1, vi i2, vi i3, vi i4, vi i5, vi (Int32.ofNat 4), vi (Int32.ofNat 0), vi b8, vr v9, vr m1, .val (.double FP.dconst0), .second, uu, uu, uu, uu, uu, uu, uu, uu, uu, uu, uu, uu, uu, uu, uu, uu, uu, uu] (hb hby at_184) rfl ?_
        refine gI X291 hx (hb hby at_186) rfl ?_
        refine gI X291 hx (hb hby at_188) rfl ?_
        refine kS (W := 0) (C := 4) (S := 17) X291 hx hZ hown (wd hw 26 rfl) (wd hw 27 rfl) (wd hw 28 rfl) (wd hw 29 rfl) (rmMI l Z a0 hw [] 0 4 T186.heap n0 (by decide)) pd_4 (hb hby at_190) e291 hml (by exact ⟨rfl, rfl, rfl, rfl⟩) (by decide) fun v292 T292 L292 Lc292 X292 hQ292 l292 => ?_
        obtain ⟨rfl, Nq292, e292⟩ := hQ292
        have N292 := l292 N291 Nq292
        show Go p e below _ (T292.setTop (mkF m 193 #[vi i0, vi i1, vi i2, vi i3, vi i4, vi i5, vi (Int32.ofNat 4), vi (Int32.ofNat 0), vi b8, vr v9, vr m1, .val (.double FP.dconst0), .second, uu, uu, uu, uu, uu, uu, uu, uu, uu, uu, uu, uu, uu, uu, uu, uu, uu, uu] [(.int (Int32.ofNat (min 0 4)))]))
        rw [show Int32.ofNat (min 0 4) = (0 : Int32) from rfl]
        refine gT X292 hx #[vi i0, vi i1, vi i2, vi i3, vi i4, vi i5, vi (Int32.ofNat 4), vi (Int32.ofNat 0), vi b8, vr v9, vr m1, .val (.double FP.dconst0), .second, vi (0 : Int32), uu, uu, uu, uu, uu, uu, uu, uu, uu, uu, uu, uu, uu, uu, uu, uu, uu] (hb hby at_193) rfl ?_
        refine gI X292 hx (hb hby at_195) rfl ?_
        refine gI X292 hx (hb hby at_197) rfl ?_
        refine gq (XS.isub X292.here hx rfl (hb hby at_199) rfl) rfl ?_
        show Go p e below _ (T292.setTop (mkF m 200 #[vi i0, vi i1, vi i2, vi i3, vi i4, vi i5, vi (Int32.ofNat 4), vi (Int32.ofNat 0), vi b8, vr v9, vr m1, .val (.double FP.dconst0), .second, vi (0 : Int32), uu, uu, uu, uu, uu, uu, uu, uu, uu, uu, uu, uu, uu, uu, uu, uu, uu] [(.int ((Int32.ofNat 0) - (0 : Int32)))]))
        rw [show ((Int32.ofNat 0) - (0 : Int32)) = (0 : Int32) from by decide]
        refine gT X292 hx #[vi i0, vi i1, vi i2, vi i3, vi i4, vi i5, vi (Int32.ofNat 4), vi (Int32.ofNat 0), vi b8, vr v9, vr m1, .val (.double FP.dconst0), .second, vi (0 : Int32), vi (0 : Int32), uu, uu, uu, uu, uu, uu, uu, uu, uu, uu, uu, uu, uu, uu, uu, uu] (hb hby at_200) rfl ?_
        refine gI X292 hx (hb hby at_202) rfl ?_
        refine zY X292 hx 215 (hb hby at_204) ((if0 _ _).trans (flt (by decide : ¬ ((0 : Int32) < (0 : Int32)))).2.2.2) (by decide) ?_
        refine Go.by (fun t => XS.lconst X292.here hx rfl (hb hby at_215)) ?_
        show Go p e below _ (T292.setTop (mkF m 216 #[vi i0, vi i1, vi i2, vi i3, vi i4, vi i5, vi (Int32.ofNat 4), vi (Int32.ofNat 0), vi b8, vr v9, vr m1, .val (.double FP.dconst0), .second, vi (0 : Int32), vi (0 : Int32), uu, uu, uu, uu, uu, uu, uu, uu, uu, uu, uu, uu, uu, uu, uu, uu] [(.long (0 : Int64))]))
        refine gM X292 hx #[vi i0, vi i1, vi i2, vi i3, vi i4, vi i5, vi (Int32.ofNat 4), vi (Int32.ofNat 0), vi b8, vr v9, vr m1, .val (.double FP.dconst0), .second, vi (0 : Int32), vi (0 : Int32), .val (.long (0 : Int64)), .second, uu, uu, uu, uu, uu, uu, uu, uu, uu, uu, uu, uu, uu, uu] (hb hby at_216) rfl ?_
        refine gI X292 hx (hb hby at_218) rfl ?_
        refine gk X292 hx 1 (hb hby at_220) rfl ?_
        refine cY X292 hx 234 (hb hby at_221) (flt (by decide : ¬ ((1 : Int32) < (0 : Int32)))).2.2.2 (by decide) ?_
        refine Go.by (fun t => XS.lconst X292.here hx rfl (hb hby at_234)) ?_
        show Go p e below _ (T292.setTop (mkF m 235 #[vi i0, vi i1, vi i2, vi i3, vi i4, vi i5, vi (Int32.ofNat 4), vi (Int32.ofNat 0), vi b8, vr v9, vr m1, .val (.double FP.dconst0), .second, vi (0 : Int32), vi (0 : Int32), .val (.long (0 : Int64)), .second, uu, uu, uu, uu, uu, uu, uu, uu, uu, uu, uu, uu, uu, uu] [(.long (0 : Int64))]))
        refine gM X292 hx #[vi i0, vi i1, vi i2, vi i3, vi i4, vi i5, vi (Int32.ofNat 4), vi (Int32.ofNat 0), vi b8, vr v9, vr m1, .val (.double FP.dconst0), .second, vi (0 : Int32), vi (0 : Int32), .val (.long (0 : Int64)), .second, .val (.long (0 : Int64)), .second, uu, uu, uu, uu, uu, uu, uu, uu, uu, uu, uu, uu] (hb hby at_235) rfl ?_
        refine gI X292 hx (hb hby at_237) rfl ?_
        refine gk X292 hx 2 (hb hby at_239) rfl ?_
        refine cY X292 hx 253 (hb hby at_240) (flt (by decide : ¬ ((2 : Int32) < (0 : Int32)))).2.2.2 (by decide) ?_
        refine Go.by (fun t => XS.lconst X292.here hx rfl (hb hby at_253)) ?_
        show Go p e below _ (T292.setTop (mkF m 254 #[vi i0, vi i1, vi i2, vi i3, vi i4, vi i5, vi (Int32.ofNat 4), vi (Int32.ofNat 0), vi b8, vr v9, vr m1, .val (.double FP.dconst0), .second, vi (0 : Int32), vi (0 : Int32), .val (.long (0 : Int64)), .second, .val (.long (0 : Int64)), .second, uu, uu, uu, uu, uu, uu, uu, uu, uu, uu, uu, uu] [(.long (0 : Int64))]))
        refine gM X292 hx #[vi i0, vi i1, vi i2, vi i3, vi i4, vi i5, vi (Int32.ofNat 4), vi (Int32.ofNat 0), vi b8, vr v9, vr m1, .val (.double FP.dconst0), .second, vi (0 : Int32), vi (0 : Int32), .val (.long (0 : Int64)), .second, .val (.long (0 : Int64)), .second, .val (.long (0 : Int64)), .second, uu, uu, uu, uu, uu, uu, uu, uu, uu, uu] (hb hby at_254) rfl ?_
        refine gI X292 hx (hb hby at_256) rfl ?_
        refine gk X292 hx 3 (hb hby at_258) rfl ?_
        refine cY X292 hx 272 (hb hby at_259) (flt (by decide : ¬ ((3 : Int32) < (0 : Int32)))).2.2.2 (by decide) ?_
        refine Go.by (fun t => XS.lconst X292.here hx rfl (hb hby at_272)) ?_
        show Go p e below _ (T292.setTop (mkF m 273 #[vi i0, vi i1, vi i2, vi i3, vi i4, vi i5, vi (Int32.ofNat 4), vi (Int32.ofNat 0), vi b8, vr v9, vr m1, .val (.double FP.dconst0), .second, vi (0 : Int32), vi (0 : Int32), .val (.long (0 : Int64)), .second, .val (.long (0 : Int64)), .second, .val (.long (0 : Int64)), .second, uu, uu, uu, uu, uu, uu, uu, uu, uu, uu] [(.long (0 : Int64))]))
        refine gM X292 hx #[vi i0, vi i1, vi i2, vi i3, vi i4, vi i5, vi (Int32.ofNat 4), vi (Int32.ofNat 0), vi b8, vr v9, vr m1, .val (.double FP.dconst0), .second, vi (0 : Int32), vi (0 : Int32), .val (.long (0 : Int64)), .second, .val (.long (0 : Int64)), .second, .val (.long (0 : Int64)), .second, .val (.long (0 : Int64)), .second, uu, uu, uu, uu, uu, uu, uu, uu] (hb hby at_273) rfl ?_
        refine gI X292 hx (hb hby at_275) rfl ?_
        refine zN X292 hx (hb hby at_277) ((if0 _ _).trans (teq (rfl : (0 : Int32) = (0 : Int32))).2) ?_
        refine Go.by (fun t => XS.dconst0 X292.here hx rfl (hb hby at_280) rfl) ?_
        show Go p e below _ (T292.setTop (mkF m 281 #[vi i0, vi i1, vi i2, vi i3, vi i4, vi i5, vi (Int32.ofNat 4), vi (Int32.ofNat 0), vi b8, vr v9, vr m1, .val (.double FP.dconst0), .second, vi (0 : Int32), vi (0 : Int32), .val (.long (0 : Int64)), .second, .val (.long (0 : Int64)), .second, .val (.long (0 : Int64)), .second, .val (.long (0 : Int64)), .second, uu, uu, uu, uu, uu, uu, uu, uu] [(.double FP.dconst0)]))
        refine gE X292 hx #[vi i0, vi i1, vi i2, vi i3, vi i4, vi i5, vi (Int32.ofNat 4), vi (Int32.ofNat 0), vi b8, vr v9, vr m1, .val (.double FP.dconst0), .second, vi (0 : Int32), vi (0 : Int32), .val (.long (0 : Int64)), .second, .val (.long (0 : Int64)), .second, .val (.long (0 : Int64)), .second, .val (.long (0 : Int64)), .second, .val (.double FP.dconst0), .second, uu, uu, uu, uu, uu, uu] (hb hby at_281) rfl ?_
        refine gg X292 hx 425 (hb hby at_283) (by decide) ?_
        refine gD X292 hx (hb hby at_425) rfl ?_
        refine gD X292 hx (hb hby at_427) rfl ?_
        refine gq (XS.dcmpS X292.here hx rfl (hb hby at_429) rfl rfl) rfl ?_
        show Go p e below _ (T292.setTop (mkF m 430 #[vi i0, vi i1, vi i2, vi i3, vi i4, vi i5, vi (Int32.ofNat 4), vi (Int32.ofNat 0), vi b8, vr v9, vr m1, .val (.double FP.dconst0), .second, vi (0 : Int32), vi (0 : Int32), .val (.long (0 : Int64)), .second, .val (.long (0 : Int64)), .second, .val (.long (0 : Int64)), .second, .val (.long (0 : Int64)), .second, .val (.double FP.dconst0), .second, uu, uu, uu, uu, uu, uu] [(.int (cmpValue (FP.dcmp FP.dconst0 FP.dconst0) .l))]))
        rw [show (cmpValue (FP.dcmp FP.dconst0 FP.dconst0) .l) = 0 from eq0 (rfl) (by unfold NoNaN64; decide)]
        refine zN X292 hx (hb hby at_430) ((if0 _ _).trans (teq (rfl : (0 : Int32) = (0 : Int32))).2) ?_
        refine gk X292 hx 1 (hb hby at_433) rfl ?_
        refine gg X292 hx 438 (hb hby at_434) (by decide) ?_
        exact Go.ret1 X292 hx Bd.returns Bd.notSynchronized (by first | rfl | decide) (Or.inl ⟨rfl, by simp, _, rfl⟩) (hb hby at_438) (by decide) (by decide) (by first | (rw [e292]; exact ⟨rfl, N292⟩) | exact ⟨rfl, N292⟩)
      ·
        refine zN X186 hx (hb hby at_102) ((if0 _ _).trans (tlt ((o_lt (a := 0) (by decide) (by omega)).2 (by omega) : (0 : Int32) < (Int32.ofNat nn))).2.2.2) ?_
        replace t5 : 0 < nn := by omega
        refine gA X186 hx (hb hby at_105) rfl rfl ?_
        refine gA X186 hx (hb hby at_107) rfl rfl ?_
        refine gk X186 hx 0 (hb hby at_109) rfl ?_
        refine gLA X186 hx hZ rfl V_v9 ⟨by decide, by decide⟩ (.long y0) rfl (hb hby at_110) ?_
        refine gq (XS.l2dS X186.here hx rfl (hb hby at_111) rfl rfl) rfl ?_
        have V_aS' : Arv Z T186.heap aS cS .double (Int32.ofNat 4) (([] ++ (0 : Int64) :: List.replicate 3 0).map Dv) (.double 0) := V_aS
        have V_aA' : Arv Z T186.heap aA cA .double (Int32.ofNat 4) ([(0 : Int64), 0, 0, 0].map Dv) (.double 0) := V_aA
        refine kV (W := 0) (C := 4) (S := 17) X186 hx hZ hown (wd hw 30 rfl) (wd hw 31 rfl) (wd hw 33 rfl) (wd hw 32 rfl) (wd hw 7 rfl) (wd hw 34 rfl) (notFace_of_selects (args := #[]) (mvT hZ (wd hw 33 rfl))) E_m1 (rmAN l Z a0 hw [] m1 aA aS cA cS 4 0 [(0 : Int64), 0, 0, 0] [] y0 (1 : Int32) 0 (List.replicate 3 0) T186.heap n0 E_m1 F_arrived_m1 F_sorted_m1 F_held_m1 F_next_m1 V_aA' V_aS' ne_aA_aS g_m1 g_aA g_aS (by decide) rfl (by decide) (by decide) q0 (fun _ h => nomatch h) (show Srt [] from List.Pairwise.nil) rfl) pd_2 (hb hby at_112) rfl hml (by exact ⟨rfl, rfl, rfl, rfl⟩) (by decide) fun v294 T294 L294 Lc294 X294 hQ294 l294 => ?_
        obtain ⟨xs1, ys1, zs, rfl, Nq294, K294, f1, f2, f3, f4, V1, V2, pq, so1, hy1, hzz, hl1'⟩ := hQ294
        rw [hzz] at pq
        have pm1 : xs1.Perm [y0] := perm_new (W := []) pq (List.Perm.refl _)
        have hl1 : xs1.length = 1 := hl1'
        have N294 := l294 N186 Nq294
        replace V_v9 := V_v9.keep K294 (ninS ne_v9_m1 (ninS ne_v9_aA (ninS ne_v9_aS nin0)))
        replace E_m1 := E_m1.keep K294
        replace Z0 := Nat.le_trans Z0 K294.1
        clear F_arrived_m1 F_sorted_m1 F_held_m1 F_next_m1
        have F_arrived_m1 := f1
        have F_sorted_m1 := f2
        have F_held_m1 := f3
        have F_next_m1 := f4
        clear f1 f2 f3 f4
        clear V_aA V_aS
        have V_aA := V1
        have V_aS := V2
        clear V1 V2
        rw [← hl1'] at F_held_m1
        refine gI X294 hx (hb hby at_115) rfl ?_
        refine gk X294 hx 1 (hb hby at_117) rfl ?_
        by_cases hj : nn = 1
        ·
          refine cY X294 hx 131 (hb hby at_118) (flt (fun q => absurd ((o_lt (a := 1) (by decide) (by omega)).1 q) (by omega) : ¬ ((1 : Int32) < (Int32.ofNat nn)))).2.2.2 (by decide) ?_
          refine gI X294 hx (hb hby at_131) rfl ?_
          refine gk X294 hx 2 (hb hby at_133) rfl ?_
          refine cY X294 hx 147 (hb hby at_134) (flt (fun q => absurd ((o_lt (a := 2) (by decide) (by omega)).1 q) (by omega) : ¬ ((2 : Int32) < (Int32.ofNat nn)))).2.2.2 (by decide) ?_
          refine gI X294 hx (hb hby at_147) rfl ?_
          refine gk X294 hx 3 (hb hby at_149) rfl ?_
          refine cY X294 hx 163 (hb hby at_150) (flt (fun q => absurd ((o_lt (a := 3) (by decide) (by omega)).1 q) (by omega) : ¬ ((3 : Int32) < (Int32.ofNat nn)))).2.2.2 (by decide) ?_
          refine gI X294 hx (hb hby at_163) rfl ?_
          refine gk X294 hx 4 (hb hby at_165) rfl ?_
          refine cY X294 hx 179 (hb hby at_166) (flt (fun q => absurd ((o_lt (a := 4) (by decide) (by omega)).1 q) (by omega) : ¬ ((4 : Int32) < (Int32.ofNat nn)))).2.2.2 (by decide) ?_
          show Go p e below _ (T294.setTop (mkF m 179 #[vi i0, vi i1, vi i2, vi i3, vi i4, vi i5, vi (Int32.ofNat 4), vi (Int32.ofNat nn), vi b8, vr v9, vr m1, uu, uu, uu, uu, uu, uu, uu, uu, uu, uu, uu, uu, uu, uu, uu, uu, uu, uu, uu, uu] []))
          subst hj
          show Go p e below _ (T294.setTop (mkF m 179 #[vi i0, vi i1, vi i2, vi i3, vi i4, vi i5, vi (Int32.ofNat 4), vi (Int32.ofNat 1), vi b8, vr v9, vr m1, uu, uu, uu, uu, uu, uu, uu, uu, uu, uu, uu, uu, uu, uu, uu, uu, uu, uu, uu, uu] []))
          obtain ⟨u0, r0, hr0, hs0⟩ := lenS hl1
          have hxs : xs1 = [u0] := by rw [hr0, len0 hs0]
          rw [hxs] at pm1 so1 V_aS
          have bA : ∀ z ∈ [u0], BdI z := fun z hz => (allI q0 (allZ0)) z (pm1.mem_iff.1 hz)
          have hlen : ([u0] ++ ys1).length = 4 := by rw [List.length_append]; have q := hy1; rw [hxs] at q; exact q
          replace F_held_m1 : Fld Z T294.heap m1 "com/example/oneiros/oneiros/SlidingMedian" "held" "I" (.int (Int32.ofNat 1)) := by rw [hl1] at F_held_m1; exact F_held_m1
          refine gA X294 hx (hb hby at_179) rfl rfl ?_
          refine kV (W := 0) (C := 4) (S := 17) X294 hx hZ hown (wd hw 19 rfl) (wd hw 20 rfl) (wd hw 22 rfl) (wd hw 21 rfl) (wd hw 7 rfl) (wd hw 23 rfl) (notFace_of_selects (args := #[]) (mvT hZ (wd hw 22 rfl))) E_m1 (rmGT l Z a0 hw [] m1 aS cS 4 1 ([u0] ++ ys1) (FP.l2d u0) T294.heap n0 F_sorted_m1 F_held_m1 V_aS (Or.inr (Or.inl ⟨rfl, by decide, hlen, _, rfl, rfl⟩)) (by decide)) pd_3 (hb hby at_181) rfl hml (by exact ⟨rfl, rfl, rfl, rfl⟩) (by decide) fun v295 T295 L295 Lc295 X295 hQ295 l295 => ?_
          obtain ⟨rfl, Nq295, e295⟩ := hQ295
          have N295 := l295 N294 Nq295
          refine gE X295 hx #[vi i0, vi i1, vi i2, vi i3, vi i4, vi i5, vi (Int32.ofNat 4), vi (Int32.ofNat 1), vi b8, vr v9, vr m1, .val (.double (FP.l2d u0)), .second, uu, uu, uu, uu, uu, uu, uu, uu, uu, uu, uu, uu, uu, uu, uu, uu, uu, uu] (hb hby at_184) rfl ?_
          refine gI X295 hx (hb hby at_186) rfl ?_
          refine gI X295 hx (hb hby at_188) rfl ?_
          refine kS (W := 0) (C := 4) (S := 17) X295 hx hZ hown (wd hw 26 rfl) (wd hw 27 rfl) (wd hw 28 rfl) (wd hw 29 rfl) (rmMI l Z a0 hw [] 1 4 T294.heap n0 (by decide)) pd_4 (hb hby at_190) e295 hml (by exact ⟨rfl, rfl, rfl, rfl⟩) (by decide) fun v296 T296 L296 Lc296 X296 hQ296 l296 => ?_
          obtain ⟨rfl, Nq296, e296⟩ := hQ296
          have N296 := l296 N295 Nq296
          show Go p e below _ (T296.setTop (mkF m 193 #[vi i0, vi i1, vi i2, vi i3, vi i4, vi i5, vi (Int32.ofNat 4), vi (Int32.ofNat 1), vi b8, vr v9, vr m1, .val (.double (FP.l2d u0)), .second, uu, uu, uu, uu, uu, uu, uu, uu, uu, uu, uu, uu, uu, uu, uu, uu, uu, uu] [(.int (Int32.ofNat (min 1 4)))]))
          rw [show Int32.ofNat (min 1 4) = (1 : Int32) from rfl]
          refine gT X296 hx #[vi i0, vi i1, vi i2, vi i3, vi i4, vi i5, vi (Int32.ofNat 4), vi (Int32.ofNat 1), vi b8, vr v9, vr m1, .val (.double (FP.l2d u0)), .second, vi (1 : Int32), uu, uu, uu, uu, uu, uu, uu, uu, uu, uu, uu, uu, uu, uu, uu, uu, uu] (hb hby at_193) rfl ?_
          refine gI X296 hx (hb hby at_195) rfl ?_
          refine gI X296 hx (hb hby at_197) rfl ?_
          refine gq (XS.isub X296.here hx rfl (hb hby at_199) rfl) rfl ?_
          show Go p e below _ (T296.setTop (mkF m 200 #[vi i0, vi i1, vi i2, vi i3, vi i4, vi i5, vi (Int32.ofNat 4), vi (Int32.ofNat 1), vi b8, vr v9, vr m1, .val (.double (FP.l2d u0)), .second, vi (1 : Int32), uu, uu, uu, uu, uu, uu, uu, uu, uu, uu, uu, uu, uu, uu, uu, uu, uu] [(.int ((Int32.ofNat 1) - (1 : Int32)))]))
          rw [show ((Int32.ofNat 1) - (1 : Int32)) = (0 : Int32) from by decide]
          refine gT X296 hx #[vi i0, vi i1, vi i2, vi i3, vi i4, vi i5, vi (Int32.ofNat 4), vi (Int32.ofNat 1), vi b8, vr v9, vr m1, .val (.double (FP.l2d u0)), .second, vi (1 : Int32), vi (0 : Int32), uu, uu, uu, uu, uu, uu, uu, uu, uu, uu, uu, uu, uu, uu, uu, uu] (hb hby at_200) rfl ?_
          refine gI X296 hx (hb hby at_202) rfl ?_
          refine zN X296 hx (hb hby at_204) ((if0 _ _).trans (tlt (by decide : (0 : Int32) < (1 : Int32))).2.2.2) ?_
          refine gA X296 hx (hb hby at_207) rfl rfl ?_
          refine gI X296 hx (hb hby at_209) rfl ?_
          refine gLA X296 hx hZ e296 V_v9 (by decide) (.long y0) rfl (hb hby at_211) ?_
          refine gg X296 hx 216 (hb hby at_212) (by decide) ?_
          refine gM X296 hx #[vi i0, vi i1, vi i2, vi i3, vi i4, vi i5, vi (Int32.ofNat 4), vi (Int32.ofNat 1), vi b8, vr v9, vr m1, .val (.double (FP.l2d u0)), .second, vi (1 : Int32), vi (0 : Int32), .val (.long y0), .second, uu, uu, uu, uu, uu, uu, uu, uu, uu, uu, uu, uu, uu, uu] (hb hby at_216) rfl ?_
          refine gI X296 hx (hb hby at_218) rfl ?_
          refine gk X296 hx 1 (hb hby at_220) rfl ?_
          refine cY X296 hx 234 (hb hby at_221) (flt (by decide : ¬ ((1 : Int32) < (1 : Int32)))).2.2.2 (by decide) ?_
          refine Go.by (fun t => XS.lconst X296.here hx rfl (hb hby at_234)) ?_
          show Go p e below _ (T296.setTop (mkF m 235 #[vi i0, vi i1, vi i2, vi i3, vi i4, vi i5, vi (Int32.ofNat 4), vi (Int32.ofNat 1), vi b8, vr v9, vr m1, .val (.double (FP.l2d u0)), .second, vi (1 : Int32), vi (0 : Int32), .val (.long y0), .second, uu, uu, uu, uu, uu, uu, uu, uu, uu, uu, uu, uu, uu, uu] [(.long (0 : Int64))]))
          refine gM X296 hx #[vi i0, vi i1, vi i2, vi i3, vi i4, vi i5, vi (Int32.ofNat 4), vi (Int32.ofNat 1), vi b8, vr v9, vr m1, .val (.double (FP.l2d u0)), .second, vi (1 : Int32), vi (0 : Int32), .val (.long y0), .second, .val (.long (0 : Int64)), .second, uu, uu, uu, uu, uu, uu, uu, uu, uu, uu, uu, uu] (hb hby at_235) rfl ?_
          refine gI X296 hx (hb hby at_237) rfl ?_
          refine gk X296 hx 2 (hb hby at_239) rfl ?_
          refine cY X296 hx 253 (hb hby at_240) (flt (by decide : ¬ ((2 : Int32) < (1 : Int32)))).2.2.2 (by decide) ?_
          refine Go.by (fun t => XS.lconst X296.here hx rfl (hb hby at_253)) ?_
          show Go p e below _ (T296.setTop (mkF m 254 #[vi i0, vi i1, vi i2, vi i3, vi i4, vi i5, vi (Int32.ofNat 4), vi (Int32.ofNat 1), vi b8, vr v9, vr m1, .val (.double (FP.l2d u0)), .second, vi (1 : Int32), vi (0 : Int32), .val (.long y0), .second, .val (.long (0 : Int64)), .second, uu, uu, uu, uu, uu, uu, uu, uu, uu, uu, uu, uu] [(.long (0 : Int64))]))
          refine gM X296 hx #[vi i0, vi i1, vi i2, vi i3, vi i4, vi i5, vi (Int32.ofNat 4), vi (Int32.ofNat 1), vi b8, vr v9, vr m1, .val (.double (FP.l2d u0)), .second, vi (1 : Int32), vi (0 : Int32), .val (.long y0), .second, .val (.long (0 : Int64)), .second, .val (.long (0 : Int64)), .second, uu, uu, uu, uu, uu, uu, uu, uu, uu, uu] (hb hby at_254) rfl ?_
          refine gI X296 hx (hb hby at_256) rfl ?_
          refine gk X296 hx 3 (hb hby at_258) rfl ?_
          refine cY X296 hx 272 (hb hby at_259) (flt (by decide : ¬ ((3 : Int32) < (1 : Int32)))).2.2.2 (by decide) ?_
          refine Go.by (fun t => XS.lconst X296.here hx rfl (hb hby at_272)) ?_
          show Go p e below _ (T296.setTop (mkF m 273 #[vi i0, vi i1, vi i2, vi i3, vi i4, vi i5, vi (Int32.ofNat 4), vi (Int32.ofNat 1), vi b8, vr v9, vr m1, .val (.double (FP.l2d u0)), .second, vi (1 : Int32), vi (0 : Int32), .val (.long y0), .second, .val (.long (0 : Int64)), .second, .val (.long (0 : Int64)), .second, uu, uu, uu, uu, uu, uu, uu, uu, uu, uu] [(.long (0 : Int64))]))
          refine gM X296 hx #[vi i0, vi i1, vi i2, vi i3, vi i4, vi i5, vi (Int32.ofNat 4), vi (Int32.ofNat 1), vi b8, vr v9, vr m1, .val (.double (FP.l2d u0)), .second, vi (1 : Int32), vi (0 : Int32), .val (.long y0), .second, .val (.long (0 : Int64)), .second, .val (.long (0 : Int64)), .second, .val (.long (0 : Int64)), .second, uu, uu, uu, uu, uu, uu, uu, uu] (hb hby at_273) rfl ?_
          refine gI X296 hx (hb hby at_275) rfl ?_
          refine zY X296 hx 286 (hb hby at_277) ((if0 _ _).trans (feq (by decide : ¬ ((1 : Int32) = (0 : Int32)))).2) (by decide) ?_
          refine gI X296 hx (hb hby at_286) rfl ?_
          refine gk X296 hx 1 (hb hby at_288) rfl ?_
          refine cN X296 hx (hb hby at_289) (teq (rfl : (1 : Int32) = (1 : Int32))).2 ?_
          refine gL X296 hx (hb hby at_292) rfl ?_
          refine gq (XS.l2dS X296.here hx rfl (hb hby at_294) rfl rfl) rfl ?_
          refine gE X296 hx #[vi i0, vi i1, vi i2, vi i3, vi i4, vi i5, vi (Int32.ofNat 4), vi (Int32.ofNat 1), vi b8, vr v9, vr m1, .val (.double (FP.l2d u0)), .second, vi (1 : Int32), vi (0 : Int32), .val (.long y0), .second, .val (.long (0 : Int64)), .second, .val (.long (0 : Int64)), .second, .val (.long (0 : Int64)), .second, .val (.double (FP.l2d y0)), .second, uu, uu, uu, uu, uu, uu] (hb hby at_295) rfl ?_
          refine gg X296 hx 425 (hb hby at_297) (by decide) ?_
          refine gD X296 hx (hb hby at_425) rfl ?_
          refine gD X296 hx (hb hby at_427) rfl ?_
          refine gq (XS.dcmpS X296.here hx rfl (hb hby at_429) rfl rfl) rfl ?_
          show Go p e below _ (T296.setTop (mkF m 430 #[vi i0, vi i1, vi i2, vi i3, vi i4, vi i5, vi (Int32.ofNat 4), vi (Int32.ofNat 1), vi b8, vr v9, vr m1, .val (.double (FP.l2d u0)), .second, vi (1 : Int32), vi (0 : Int32), .val (.long y0), .second, .val (.long (0 : Int64)), .second, .val (.long (0 : Int64)), .second, .val (.long (0 : Int64)), .second, .val (.double (FP.l2d y0)), .second, uu, uu, uu, uu, uu, uu] [(.int (cmpValue (FP.dcmp (FP.l2d u0) (FP.l2d y0)) .l))]))
          rw [show (cmpValue (FP.dcmp (FP.l2d u0) (FP.l2d y0)) .l) = 0 from eq0 (congrArg FP.l2d (List.cons.inj (med1 pm1)).1) (l2d_fin _).noNaN]
          refine zN X296 hx (hb hby at_430) ((if0 _ _).trans (teq (rfl : (0 : Int32) = (0 : Int32))).2) ?_
          refine gk X296 hx 1 (hb hby at_433) rfl ?_
          refine gg X296 hx 438 (hb hby at_434) (by decide) ?_
          exact Go.ret1 X296 hx Bd.returns Bd.notSynchronized (by first | rfl | decide) (Or.inl ⟨rfl, by simp, _, rfl⟩) (hb hby at_438) (by decide) (by decide) (by first | (rw [e296]; exact ⟨rfl, N296⟩) | exact ⟨rfl, N296⟩)
        ·
          refine cN X294 hx (hb hby at_118) (tlt ((o_lt (a := 1) (by decide) (by omega)).2 (by omega) : (1 : Int32) < (Int32.ofNat nn))).2.2.2 ?_
          replace t5 : 1 < nn := by omega
          refine gA X294 hx (hb hby at_121) rfl rfl ?_
          refine gA X294 hx (hb hby at_123) rfl rfl ?_
          refine gk X294 hx 1 (hb hby at_125) rfl ?_
          refine gLA X294 hx hZ rfl V_v9 ⟨by decide, by decide⟩ (.long y1) rfl (hb hby at_126) ?_
          refine gq (XS.l2dS X294.here hx rfl (hb hby at_127) rfl rfl) rfl ?_
          obtain ⟨z1, s1, hz1, hzl1⟩ := lenS (l := ys1) (n := 2) (by omega)
          rw [hz1] at V_aS
          refine kV (W := 0) (C := 4) (S := 17) X294 hx hZ hown (wd hw 30 rfl) (wd hw 31 rfl) (wd hw 33 rfl) (wd hw 32 rfl) (wd hw 7 rfl) (wd hw 34 rfl) (notFace_of_selects (args := #[]) (mvT hZ (wd hw 33 rfl))) E_m1 (rmAN l Z a0 hw [] m1 aA aS cA cS 4 1 [y0, 0, 0, 0] xs1 y1 (2 : Int32) z1 s1 T294.heap n0 E_m1 F_arrived_m1 F_sorted_m1 F_held_m1 F_next_m1 V_aA V_aS ne_aA_aS g_m1 g_aA g_aS (by decide) rfl (by decide) (by decide) q1 (fun z hz => (allI q0 (allZ0)) z (pm1.mem_iff.1 hz)) so1 (by omega)) pd_2 (hb hby at_128) rfl hml (by exact ⟨rfl, rfl, rfl, rfl⟩) (by decide) fun v299 T299 L299 Lc299 X299 hQ299 l299 => ?_
          obtain ⟨xs2, ys2, zs, rfl, Nq299, K299, f1, f2, f3, f4, V1, V2, pq, so2, hy2, hzz, hl2'⟩ := hQ299
          rw [hzz] at pq
          have pm2 : xs2.Perm [y0, y1] := perm_new (W := [y0]) pq pm1
          have hl2 : xs2.length = 2 := by rw [hl2', hl1]
          have N299 := l299 N294 Nq299
          replace V_v9 := V_v9.keep K299 (ninS ne_v9_m1 (ninS ne_v9_aA (ninS ne_v9_aS nin0)))
          replace E_m1 := E_m1.keep K299
          replace Z0 := Nat.le_trans Z0 K299.1
          clear F_arrived_m1 F_sorted_m1 F_held_m1 F_next_m1
          have F_arrived_m1 := f1
          have F_sorted_m1 := f2
          have F_held_m1 := f3
          have F_next_m1 := f4
          clear f1 f2 f3 f4
          clear V_aA V_aS
          have V_aA := V1
          have V_aS := V2
          clear V1 V2
          rw [← hl2'] at F_held_m1
          refine gI X299 hx (hb hby at_131) rfl ?_
          refine gk X299 hx 2 (hb hby at_133) rfl ?_
          by_cases hj : nn = 2
          ·
            refine cY X299 hx 147 (hb hby at_134) (flt (fun q => absurd ((o_lt (a := 2) (by decide) (by omega)).1 q) (by omega) : ¬ ((2 : Int32) < (Int32.ofNat nn)))).2.2.2 (by decide) ?_
            show Go p e below _ (T299.setTop (mkF m 147 #[vi i0, vi i1, vi i2, vi i3, vi i4, vi i5, vi (Int32.ofNat 4), vi (Int32.ofNat nn), vi b8, vr v9, vr m1, uu, uu, uu, uu, uu, uu, uu, uu, uu, uu, uu, uu, uu, uu, uu, uu, uu, uu, uu, uu] []))
            refine gI X299 hx (hb hby at_147) rfl ?_
            refine gk X299 hx 3 (hb hby at_149) rfl ?_
            refine cY X299 hx 163 (hb hby at_150) (flt (fun q => absurd ((o_lt (a := 3) (by decide) (by omega)).1 q) (by omega) : ¬ ((3 : Int32) < (Int32.ofNat nn)))).2.2.2 (by decide) ?_
            refine gI X299 hx (hb hby at_163) rfl ?_
            refine gk X299 hx 4 (hb hby at_165) rfl ?_
            refine cY X299 hx 179 (hb hby at_166) (flt (fun q => absurd ((o_lt (a := 4) (by decide) (by omega)).1 q) (by omega) : ¬ ((4 : Int32) < (Int32.ofNat nn)))).2.2.2 (by decide) ?_
            subst hj
            show Go p e below _ (T299.setTop (mkF m 179 #[vi i0, vi i1, vi i2, vi i3, vi i4, vi i5, vi (Int32.ofNat 4), vi (Int32.ofNat 2), vi b8, vr v9, vr m1, uu, uu, uu, uu, uu, uu, uu, uu, uu, uu, uu, uu, uu, uu, uu, uu, uu, uu, uu, uu] []))
            obtain ⟨u0, r0, hr0, hs0⟩ := lenS hl2
            obtain ⟨u1, r1, hr1, hs1⟩ := lenS hs0
            have hxs : xs2 = [u0, u1] := by rw [hr0, hr1, len0 hs1]
            rw [hxs] at pm2 so2 V_aS
            have bA : ∀ z ∈ [u0, u1], BdI z := fun z hz => (allI q0 (allI q1 (allZ0))) z (pm2.mem_iff.1 hz)
            have hlen : ([u0, u1] ++ ys2).length = 4 := by rw [List.length_append]; have q := hy2; rw [hxs] at q; exact q
            replace F_held_m1 : Fld Z T299.heap m1 "com/example/oneiros/oneiros/SlidingMedian" "held" "I" (.int (Int32.ofNat 2)) := by rw [hl2] at F_held_m1; exact F_held_m1
            refine gA X299 hx (hb hby at_179) rfl rfl ?_
            refine kV (W := 0) (C := 4) (S := 17) X299 hx hZ hown (wd hw 19 rfl) (wd hw 20 rfl) (wd hw 22 rfl) (wd hw 21 rfl) (wd hw 7 rfl) (wd hw 23 rfl) (notFace_of_selects (args := #[]) (mvT hZ (wd hw 22 rfl))) E_m1 (rmGT l Z a0 hw [] m1 aS cS 4 2 ([u0, u1] ++ ys2) (FP.ddiv (FP.l2d (u0 + u1)) 4611686018427387904) T299.heap n0 F_sorted_m1 F_held_m1 V_aS (Or.inr (Or.inr (Or.inl ⟨rfl, by decide, hlen, _, _, rfl, rfl, (bA u0 (List.mem_of_getElem? (i := 0) rfl)), (bA u1 (List.mem_of_getElem? (i := 1) rfl)), rfl⟩))) (by decide)) pd_3 (hb hby at_181) rfl hml (by exact ⟨rfl, rfl, rfl, rfl⟩) (by decide) fun v300 T300 L300 Lc300 X300 hQ300 l300 => ?_
            obtain ⟨rfl, Nq300, e300⟩ := hQ300
            have N300 := l300 N299 Nq300
            refine gE X300 hx #[vi i0, vi i1, vi i2, vi i3, vi i4, vi i5, vi (Int32.ofNat 4), vi (Int32.ofNat 2), vi b8, vr v9, vr m1, .val (.double (FP.ddiv (FP.l2d (u0 + u1)) 4611686018427387904)), .second, uu, uu, uu, uu, uu, uu, uu, uu, uu, uu, uu, uu, uu, uu, uu, uu, uu, uu] (hb hby at_184) rfl ?_
            refine gI X300 hx (hb hby at_186) rfl ?_
            refine gI X300 hx (hb hby at_188) rfl ?_
            refine kS (W := 0) (C := 4) (S := 17) X300 hx hZ hown (wd hw 26 rfl) (wd hw 27 rfl) (wd hw 28 rfl) (wd hw 29 rfl) (rmMI l Z a0 hw [] 2 4 T299.heap n0 (by decide)) pd_4 (hb hby at_190) e300 hml (by exact ⟨rfl, rfl, rfl, rfl⟩) (by decide) fun v301 T301 L301 Lc301 X301 hQ301 l301 => ?_
            obtain ⟨rfl, Nq301, e301⟩ := hQ301
            have N301 := l301 N300 Nq301
            show Go p e below _ (T301.setTop (mkF m 193 #[vi i0, vi i1, vi i2, vi i3, vi i4, vi i5, vi (Int32.ofNat 4), vi (Int32.ofNat 2), vi b8, vr v9, vr m1, .val (.double (FP.ddiv (FP.l2d (u0 + u1)) 4611686018427387904)), .second, uu, uu, uu, uu, uu, uu, uu, uu, uu, uu, uu, uu, uu, uu, uu, uu, uu, uu] [(.int (Int32.ofNat (min 2 4)))]))
            rw [show Int32.ofNat (min 2 4) = (2 : Int32) from rfl]
            refine gT X301 hx #[vi i0, vi i1, vi i2, vi i3, vi i4, vi i5, vi (Int32.ofNat 4), vi (Int32.ofNat 2), vi b8, vr v9, vr m1, .val (.double (FP.ddiv (FP.l2d (u0 + u1)) 4611686018427387904)), .second, vi (2 : Int32), uu, uu, uu, uu, uu, uu, uu, uu, uu, uu, uu, uu, uu, uu, uu, uu, uu] (hb hby at_193) rfl ?_
            refine gI X301 hx (hb hby at_195) rfl ?_
            refine gI X301 hx (hb hby at_197) rfl ?_
            refine gq (XS.isub X301.here hx rfl (hb hby at_199) rfl) rfl ?_
            show Go p e below _ (T301.setTop (mkF m 200 #[vi i0, vi i1, vi i2, vi i3, vi i4, vi i5, vi (Int32.ofNat 4), vi (Int32.ofNat 2), vi b8, vr v9, vr m1, .val (.double (FP.ddiv (FP.l2d (u0 + u1)) 4611686018427387904)), .second, vi (2 : Int32), uu, uu, uu, uu, uu, uu, uu, uu, uu, uu, uu, uu, uu, uu, uu, uu, uu] [(.int ((Int32.ofNat 2) - (2 : Int32)))]))
            rw [show ((Int32.ofNat 2) - (2 : Int32)) = (0 : Int32) from by decide]
            refine gT X301 hx #[vi i0, vi i1, vi i2, vi i3, vi i4, vi i5, vi (Int32.ofNat 4), vi (Int32.ofNat 2), vi b8, vr v9, vr m1, .val (.double (FP.ddiv (FP.l2d (u0 + u1)) 4611686018427387904)), .second, vi (2 : Int32), vi (0 : Int32), uu, uu, uu, uu, uu, uu, uu, uu, uu, uu, uu, uu, uu, uu, uu, uu] (hb hby at_200) rfl ?_
            refine gI X301 hx (hb hby at_202) rfl ?_
            refine zN X301 hx (hb hby at_204) ((if0 _ _).trans (tlt (by decide : (0 : Int32) < (2 : Int32))).2.2.2) ?_
            refine gA X301 hx (hb hby at_207) rfl rfl ?_
            refine gI X301 hx (hb hby at_209) rfl ?_
            refine gLA X301 hx hZ e301 V_v9 (by decide) (.long y0) rfl (hb hby at_211) ?_
            refine gg X301 hx 216 (hb hby at_212) (by decide) ?_
            refine gM X301 hx #[vi i0, vi i1, vi i2, vi i3, vi i4, vi i5, vi (Int32.ofNat 4), vi (Int32.ofNat 2), vi b8, vr v9, vr m1, .val (.double (FP.ddiv (FP.l2d (u0 + u1)) 4611686018427387904)), .second, vi (2 : Int32), vi (0 : Int32), .val (.long y0), .second, uu, uu, uu, uu, uu, uu, uu, uu, uu, uu, uu, uu, uu, uu] (hb hby at_216) rfl ?_
            refine gI X301 hx (hb hby at_218) rfl ?_
            refine gk X301 hx 1 (hb hby at_220) rfl ?_
            refine cN X301 hx (hb hby at_221) (tlt (by decide : (1 : Int32) < (2 : Int32))).2.2.2 ?_
            refine gA X301 hx (hb hby at_224) rfl rfl ?_
            refine gI X301 hx (hb hby at_226) rfl ?_
            refine gk X301 hx 1 (hb hby at_228) rfl ?_
            refine gq (XS.iadd X301.here hx rfl (hb hby at_229) rfl) rfl ?_
            refine gLA X301 hx hZ e301 V_v9 (by decide) (.long y1) rfl (hb hby at_230) ?_
            refine gg X301 hx 235 (hb hby at_231) (by decide) ?_
            refine gM X301 hx #[vi i0, vi i1, vi i2, vi i3, vi i4, vi i5, vi (Int32.ofNat 4), vi (Int32.ofNat 2), vi b8, vr v9, vr m1, .val (.double (FP.ddiv (FP.l2d (u0 + u1)) 4611686018427387904)), .second, vi (2 : Int32), vi (0 : Int32), .val (.long y0), .second, .val (.long y1), .second, uu, uu, uu, uu, uu, uu, uu, uu, uu, uu, uu, uu] (hb hby at_235) rfl ?_
            refine gI X301 hx (hb hby at_237) rfl ?_
            refine gk X301 hx 2 (hb hby at_239) rfl ?_
            refine cY X301 hx 253 (hb hby at_240) (flt (by decide : ¬ ((2 : Int32) < (2 : Int32)))).2.2.2 (by decide) ?_
            refine Go.by (fun t => XS.lconst X301.here hx rfl (hb hby at_253)) ?_
            show Go p e below _ (T301.setTop (mkF m 254 #[vi i0, vi i1, vi i2, vi i3, vi i4, vi i5, vi (Int32.ofNat 4), vi (Int32.ofNat 2), vi b8, vr v9, vr m1, .val (.double (FP.ddiv (FP.l2d (u0 + u1)) 4611686018427387904)), .second, vi (2 : Int32), vi (0 : Int32), .val (.long y0), .second, .val (.long y1), .second, uu, uu, uu, uu, uu, uu, uu, uu, uu, uu, uu, uu] [(.long (0 : Int64))]))
            refine gM X301 hx #[vi i0, vi i1, vi i2, vi i3, vi i4, vi i5, vi (Int32.ofNat 4), vi (Int32.ofNat 2), vi b8, vr v9, vr m1, .val (.double (FP.ddiv (FP.l2d (u0 + u1)) 4611686018427387904)), .second, vi (2 : Int32), vi (0 : Int32), .val (.long y0), .second, .val (.long y1), .second, .val (.long (0 : Int64)), .second, uu, uu, uu, uu, uu, uu, uu, uu, uu, uu] (hb hby at_254) rfl ?_
            refine gI X301 hx (hb hby at_256) rfl ?_
            refine gk X301 hx 3 (hb hby at_258) rfl ?_
            refine cY X301 hx 272 (hb hby at_259) (flt (by decide : ¬ ((3 : Int32) < (2 : Int32)))).2.2.2 (by decide) ?_
            refine Go.by (fun t => XS.lconst X301.here hx rfl (hb hby at_272)) ?_
            show Go p e below _ (T301.setTop (mkF m 273 #[vi i0, vi i1, vi i2, vi i3, vi i4, vi i5, vi (Int32.ofNat 4), vi (Int32.ofNat 2), vi b8, vr v9, vr m1, .val (.double (FP.ddiv (FP.l2d (u0 + u1)) 4611686018427387904)), .second, vi (2 : Int32), vi (0 : Int32), .val (.long y0), .second, .val (.long y1), .second, .val (.long (0 : Int64)), .second, uu, uu, uu, uu, uu, uu, uu, uu, uu, uu] [(.long (0 : Int64))]))
            refine gM X301 hx #[vi i0, vi i1, vi i2, vi i3, vi i4, vi i5, vi (Int32.ofNat 4), vi (Int32.ofNat 2), vi b8, vr v9, vr m1, .val (.double (FP.ddiv (FP.l2d (u0 + u1)) 4611686018427387904)), .second, vi (2 : Int32), vi (0 : Int32), .val (.long y0), .second, .val (.long y1), .second, .val (.long (0 : Int64)), .second, .val (.long (0 : Int64)), .second, uu, uu, uu, uu, uu, uu, uu, uu] (hb hby at_273) rfl ?_
            refine gI X301 hx (hb hby at_275) rfl ?_
            refine zY X301 hx 286 (hb hby at_277) ((if0 _ _).trans (feq (by decide : ¬ ((2 : Int32) = (0 : Int32)))).2) (by decide) ?_
            refine gI X301 hx (hb hby at_286) rfl ?_
            refine gk X301 hx 1 (hb hby at_288) rfl ?_
            refine cY X301 hx 300 (hb hby at_289) (feq (by decide : ¬ ((2 : Int32) = (1 : Int32)))).2 (by decide) ?_
            refine gI X301 hx (hb hby at_300) rfl ?_
            refine gk X301 hx 2 (hb hby at_302) rfl ?_
            refine cN X301 hx (hb hby at_303) (teq (rfl : (2 : Int32) = (2 : Int32))).2 ?_
            refine gL X301 hx (hb hby at_306) rfl ?_
            refine gL X301 hx (hb hby at_308) rfl ?_
            refine gq (XS.ladd X301.here hx rfl (hb hby at_310) rfl) rfl ?_
            refine gq (XS.l2dS X301.here hx rfl (hb hby at_311) rfl rfl) rfl ?_
            refine Go.by (fun t => X301.ldc2DoubleC hx hown (mvT hZ (wd hw 42 rfl)) (g := (mkF m 312 #[vi i0, vi i1, vi i2, vi i3, vi i4, vi i5, vi (Int32.ofNat 4), vi (Int32.ofNat 2), vi b8, vr v9, vr m1, .val (.double (FP.ddiv (FP.l2d (u0 + u1)) 4611686018427387904)), .second, vi (2 : Int32), vi (0 : Int32), .val (.long y0), .second, .val (.long y1), .second, .val (.long (0 : Int64)), .second, .val (.long (0 : Int64)), .second, uu, uu, uu, uu, uu, uu, uu, uu] [(.double (FP.l2d (y0 + y1)))])) rfl (hb hby at_312) t) ?_
            show Go p e below _ (T301.setTop (mkF m 315 #[vi i0, vi i1, vi i2, vi i3, vi i4, vi i5, vi (Int32.ofNat 4), vi (Int32.ofNat 2), vi b8, vr v9, vr m1, .val (.double (FP.ddiv (FP.l2d (u0 + u1)) 4611686018427387904)), .second, vi (2 : Int32), vi (0 : Int32), .val (.long y0), .second, .val (.long y1), .second, .val (.long (0 : Int64)), .second, .val (.long (0 : Int64)), .second, uu, uu, uu, uu, uu, uu, uu, uu] [(.double (4611686018427387904 : UInt64)), (.double (FP.l2d (y0 + y1)))]))
            refine gq (XS.ddivS X301.here hx rfl (hb hby at_315) rfl nn_div rfl) rfl ?_
            refine gE X301 hx #[vi i0, vi i1, vi i2, vi i3, vi i4, vi i5, vi (Int32.ofNat 4), vi (Int32.ofNat 2), vi b8, vr v9, vr m1, .val (.double (FP.ddiv (FP.l2d (u0 + u1)) 4611686018427387904)), .second, vi (2 : Int32), vi (0 : Int32), .val (.long y0), .second, .val (.long y1), .second, .val (.long (0 : Int64)), .second, .val (.long (0 : Int64)), .second, .val (.double (FP.ddiv (FP.l2d (y0 + y1)) (4611686018427387904 : UInt64))), .second, uu, uu, uu, uu, uu, uu] (hb hby at_316) rfl ?_
            refine gg X301 hx 425 (hb hby at_318) (by decide) ?_
            refine gD X301 hx (hb hby at_425) rfl ?_
            refine gD X301 hx (hb hby at_427) rfl ?_
            refine gq (XS.dcmpS X301.here hx rfl (hb hby at_429) rfl rfl) rfl ?_
            show Go p e below _ (T301.setTop (mkF m 430 #[vi i0, vi i1, vi i2, vi i3, vi i4, vi i5, vi (Int32.ofNat 4), vi (Int32.ofNat 2), vi b8, vr v9, vr m1, .val (.double (FP.ddiv (FP.l2d (u0 + u1)) 4611686018427387904)), .second, vi (2 : Int32), vi (0 : Int32), .val (.long y0), .second, .val (.long y1), .second, .val (.long (0 : Int64)), .second, .val (.long (0 : Int64)), .second, .val (.double (FP.ddiv (FP.l2d (y0 + y1)) (4611686018427387904 : UInt64))), .second, uu, uu, uu, uu, uu, uu] [(.int (cmpValue (FP.dcmp (FP.ddiv (FP.l2d (u0 + u1)) 4611686018427387904) (FP.ddiv (FP.l2d (y0 + y1)) (4611686018427387904 : UInt64))) .l))]))
            rw [show (cmpValue (FP.dcmp (FP.ddiv (FP.l2d (u0 + u1)) 4611686018427387904) (FP.ddiv (FP.l2d (y0 + y1)) (4611686018427387904 : UInt64))) .l) = 0 from eq0 (by rw [med2 pm2 q0 q1 (bA u0 (List.mem_of_getElem? (i := 0) rfl)) (bA u1 (List.mem_of_getElem? (i := 1) rfl))]) nn_div]
            refine zN X301 hx (hb hby at_430) ((if0 _ _).trans (teq (rfl : (0 : Int32) = (0 : Int32))).2) ?_
            refine gk X301 hx 1 (hb hby at_433) rfl ?_
            refine gg X301 hx 438 (hb hby at_434) (by decide) ?_
            exact Go.ret1 X301 hx Bd.returns Bd.notSynchronized (by first | rfl | decide) (Or.inl ⟨rfl, by simp, _, rfl⟩) (hb hby at_438) (by decide) (by decide) (by first | (rw [e301]; exact ⟨rfl, N301⟩) | exact ⟨rfl, N301⟩)
          ·
            refine cN X299 hx (hb hby at_134) (tlt ((o_lt (a := 2) (by decide) (by omega)).2 (by omega) : (2 : Int32) < (Int32.ofNat nn))).2.2.2 ?_
            show Go p e below _ (T299.setTop (mkF m 137 #[vi i0, vi i1, vi i2, vi i3, vi i4, vi i5, vi (Int32.ofNat 4), vi (Int32.ofNat nn), vi b8, vr v9, vr m1, uu, uu, uu, uu, uu, uu, uu, uu, uu, uu, uu, uu, uu, uu, uu, uu, uu, uu, uu, uu] []))
            replace t5 : 2 < nn := by omega
            refine gA X299 hx (hb hby at_137) rfl rfl ?_
            refine gA X299 hx (hb hby at_139) rfl rfl ?_
            refine gk X299 hx 2 (hb hby at_141) rfl ?_
            refine gLA X299 hx hZ rfl V_v9 ⟨by decide, by decide⟩ (.long y2) rfl (hb hby at_142) ?_
            refine gq (XS.l2dS X299.here hx rfl (hb hby at_143) rfl rfl) rfl ?_
            obtain ⟨z2, s2, hz2, hzl2⟩ := lenS (l := ys2) (n := 1) (by omega)
            rw [hz2] at V_aS
            refine kV (W := 0) (C := 4) (S := 17) X299 hx hZ hown (wd hw 30 rfl) (wd hw 31 rfl) (wd hw 33 rfl) (wd hw 32 rfl) (wd hw 7 rfl) (wd hw 34 rfl) (notFace_of_selects (args := #[]) (mvT hZ (wd hw 33 rfl))) E_m1 (rmAN l Z a0 hw [] m1 aA aS cA cS 4 2 [y0, y1, 0, 0] xs2 y2 (3 : Int32) z2 s2 T299.heap n0 E_m1 F_arrived_m1 F_sorted_m1 F_held_m1 F_next_m1 V_aA V_aS ne_aA_aS g_m1 g_aA g_aS (by decide) rfl (by decide) (by decide) q2 (fun z hz => (allI q0 (allI q1 (allZ0))) z (pm2.mem_iff.1 hz)) so2 (by omega)) pd_2 (hb hby at_144) rfl hml (by exact ⟨rfl, rfl, rfl, rfl⟩) (by decide) fun v305 T305 L305 Lc305 X305 hQ305 l305 => ?_
            obtain ⟨xs3, ys3, zs, rfl, Nq305, K305, f1, f2, f3, f4, V1, V2, pq, so3, hy3, hzz, hl3'⟩ := hQ305
            rw [hzz] at pq
            have pm3 : xs3.Perm [y0, y1, y2] := perm_new (W := [y0, y1]) pq pm2
            have hl3 : xs3.length = 3 := by rw [hl3', hl2]
            have N305 := l305 N299 Nq305
            replace V_v9 := V_v9.keep K305 (ninS ne_v9_m1 (ninS ne_v9_aA (ninS ne_v9_aS nin0)))
            replace E_m1 := E_m1.keep K305
            replace Z0 := Nat.le_trans Z0 K305.1
            clear F_arrived_m1 F_sorted_m1 F_held_m1 F_next_m1
            have F_arrived_m1 := f1
            have F_sorted_m1 := f2
            have F_held_m1 := f3
            have F_next_m1 := f4
            clear f1 f2 f3 f4
            clear V_aA V_aS
            have V_aA := V1
            have V_aS := V2
            clear V1 V2
            rw [← hl3'] at F_held_m1
            refine gI X305 hx (hb hby at_147) rfl ?_
            refine gk X305 hx 3 (hb hby at_149) rfl ?_
            by_cases hj : nn = 3
            ·
              refine cY X305 hx 163 (hb hby at_150) (flt (fun q => absurd ((o_lt (a := 3) (by decide) (by omega)).1 q) (by omega) : ¬ ((3 : Int32) < (Int32.ofNat nn)))).2.2.2 (by decide) ?_
              refine gI X305 hx (hb hby at_163) rfl ?_
              refine gk X305 hx 4 (hb hby at_165) rfl ?_
              refine cY X305 hx 179 (hb hby at_166) (flt (fun q => absurd ((o_lt (a := 4) (by decide) (by omega)).1 q) (by omega) : ¬ ((4 : Int32) < (Int32.ofNat nn)))).2.2.2 (by decide) ?_
              subst hj
              show Go p e below _ (T305.setTop (mkF m 179 #[vi i0, vi i1, vi i2, vi i3, vi i4, vi i5, vi (Int32.ofNat 4), vi (Int32.ofNat 3), vi b8, vr v9, vr m1, uu, uu, uu, uu, uu, uu, uu, uu, uu, uu, uu, uu, uu, uu, uu, uu, uu, uu, uu, uu] []))
              obtain ⟨u0, r0, hr0, hs0⟩ := lenS hl3
              obtain ⟨u1, r1, hr1, hs1⟩ := lenS hs0
              obtain ⟨u2, r2, hr2, hs2⟩ := lenS hs1
              have hxs : xs3 = [u0, u1, u2] := by rw [hr0, hr1, hr2, len0 hs2]
              rw [hxs] at pm3 so3 V_aS
              have bA : ∀ z ∈ [u0, u1, u2], BdI z := fun z hz => (allI q0 (allI q1 (allI q2 (allZ0)))) z (pm3.mem_iff.1 hz)
              have hlen : ([u0, u1, u2] ++ ys3).length = 4 := by rw [List.length_append]; have q := hy3; rw [hxs] at q; exact q
              replace F_held_m1 : Fld Z T305.heap m1 "com/example/oneiros/oneiros/SlidingMedian" "held" "I" (.int (Int32.ofNat 3)) := by rw [hl3] at F_held_m1; exact F_held_m1
              refine gA X305 hx (hb hby at_179) rfl rfl ?_
              refine kV (W := 0) (C := 4) (S := 17) X305 hx hZ hown (wd hw 19 rfl) (wd hw 20 rfl) (wd hw 22 rfl) (wd hw 21 rfl) (wd hw 7 rfl) (wd hw 23 rfl) (notFace_of_selects (args := #[]) (mvT hZ (wd hw 22 rfl))) E_m1 (rmGT l Z a0 hw [] m1 aS cS 4 3 ([u0, u1, u2] ++ ys3) (FP.l2d u1) T305.heap n0 F_sorted_m1 F_held_m1 V_aS (Or.inr (Or.inr (Or.inr (Or.inl ⟨rfl, by decide, hlen, _, rfl, rfl⟩)))) (by decide)) pd_3 (hb hby at_181) rfl hml (by exact ⟨rfl, rfl, rfl, rfl⟩) (by decide) fun v306 T306 L306 Lc306 X306 hQ306 l306 => ?_
              obtain ⟨rfl, Nq306, e306⟩ := hQ306
              have N306 := l306 N305 Nq306
              refine gE X306 hx #[vi i0, vi i1, vi i2, vi i3, vi i4, vi i5, vi (Int32.ofNat 4), vi (Int32.ofNat 3), vi b8, vr v9, vr m1, .val (.double (FP.l2d u1)), .second, uu, uu, uu, uu, uu, uu, uu, uu, uu, uu, uu, uu, uu, uu, uu, uu, uu, uu] (hb hby at_184) rfl ?_
              refine gI X306 hx (hb hby at_186) rfl ?_
              refine gI X306 hx (hb hby at_188) rfl ?_
              refine kS (W := 0) (C := 4) (S := 17) X306 hx hZ hown (wd hw 26 rfl) (wd hw 27 rfl) (wd hw 28 rfl) (wd hw 29 rfl) (rmMI l Z a0 hw [] 3 4 T305.heap n0 (by decide)) pd_4 (hb hby at_190) e306 hml (by exact ⟨rfl, rfl, rfl, rfl⟩) (by decide) fun v307 T307 L307 Lc307 X307 hQ307 l307 => ?_
              obtain ⟨rfl, Nq307, e307⟩ := hQ307
              have N307 := l307 N306 Nq307
              show Go p e below _ (T307.setTop (mkF m 193 #[vi i0, vi i1, vi i2, vi i3, vi i4, vi i5, vi (Int32.ofNat 4), vi (Int32.ofNat 3), vi b8, vr v9, vr m1, .val (.double (FP.l2d u1)), .second, uu, uu, uu, uu, uu, uu, uu, uu, uu, uu, uu, uu, uu, uu, uu, uu, uu, uu] [(.int (Int32.ofNat (min 3 4)))]))
              rw [show Int32.ofNat (min 3 4) = (3 : Int32) from rfl]
              refine gT X307 hx #[vi i0, vi i1, vi i2, vi i3, vi i4, vi i5, vi (Int32.ofNat 4), vi (Int32.ofNat 3), vi b8, vr v9, vr m1, .val (.double (FP.l2d u1)), .second, vi (3 : Int32), uu, uu, uu, uu, uu, uu, uu, uu, uu, uu, uu, uu, uu, uu, uu, uu, uu] (hb hby at_193) rfl ?_
              refine gI X307 hx (hb hby at_195) rfl ?_
              refine gI X307 hx (hb hby at_197) rfl ?_
              refine gq (XS.isub X307.here hx rfl (hb hby at_199) rfl) rfl ?_
              show Go p e below _ (T307.setTop (mkF m 200 #[vi i0, vi i1, vi i2, vi i3, vi i4, vi i5, vi (Int32.ofNat 4), vi (Int32.ofNat 3), vi b8, vr v9, vr m1, .val (.double (FP.l2d u1)), .second, vi (3 : Int32), uu, uu, uu, uu, uu, uu, uu, uu, uu, uu, uu, uu, uu, uu, uu, uu, uu] [(.int ((Int32.ofNat 3) - (3 : Int32)))]))
              rw [show ((Int32.ofNat 3) - (3 : Int32)) = (0 : Int32) from by decide]
              refine gT X307 hx #[vi i0, vi i1, vi i2, vi i3, vi i4, vi i5, vi (Int32.ofNat 4), vi (Int32.ofNat 3), vi b8, vr v9, vr m1, .val (.double (FP.l2d u1)), .second, vi (3 : Int32), vi (0 : Int32), uu, uu, uu, uu, uu, uu, uu, uu, uu, uu, uu, uu, uu, uu, uu, uu] (hb hby at_200) rfl ?_
              refine gI X307 hx (hb hby at_202) rfl ?_
              refine zN X307 hx (hb hby at_204) ((if0 _ _).trans (tlt (by decide : (0 : Int32) < (3 : Int32))).2.2.2) ?_
              refine gA X307 hx (hb hby at_207) rfl rfl ?_
              refine gI X307 hx (hb hby at_209) rfl ?_
              refine gLA X307 hx hZ e307 V_v9 (by decide) (.long y0) rfl (hb hby at_211) ?_
              refine gg X307 hx 216 (hb hby at_212) (by decide) ?_
              refine gM X307 hx #[vi i0, vi i1, vi i2, vi i3, vi i4, vi i5, vi (Int32.ofNat 4), vi (Int32.ofNat 3), vi b8, vr v9, vr m1, .val (.double (FP.l2d u1)), .second, vi (3 : Int32), vi (0 : Int32), .val (.long y0), .second, uu, uu, uu, uu, uu, uu, uu, uu, uu, uu, uu, uu, uu, uu] (hb hby at_216) rfl ?_
              refine gI X307 hx (hb hby at_218) rfl ?_
              refine gk X307 hx 1 (hb hby at_220) rfl ?_
              refine cN X307 hx (hb hby at_221) (tlt (by decide : (1 : Int32) < (3 : Int32))).2.2.2 ?_
              refine gA X307 hx (hb hby at_224) rfl rfl ?_
              refine gI X307 hx (hb hby at_226) rfl ?_
              refine gk X307 hx 1 (hb hby at_228) rfl ?_
              refine gq (XS.iadd X307.here hx rfl (hb hby at_229) rfl) rfl ?_
              refine gLA X307 hx hZ e307 V_v9 (by decide) (.long y1) rfl (hb hby at_230) ?_
              refine gg X307 hx 235 (hb hby at_231) (by decide) ?_
              refine gM X307 hx #[vi i0, vi i1, vi i2, vi i3, vi i4, vi i5, vi (Int32.ofNat 4), vi (Int32.ofNat 3), vi b8, vr v9, vr m1, .val (.double (FP.l2d u1)), .second, vi (3 : Int32), vi (0 : Int32), .val (.long y0), .second, .val (.long y1), .second, uu, uu, uu, uu, uu, uu, uu, uu, uu, uu, uu, uu] (hb hby at_235) rfl ?_
              refine gI X307 hx (hb hby at_237) rfl ?_
              refine gk X307 hx 2 (hb hby at_239) rfl ?_
              refine cN X307 hx (hb hby at_240) (tlt (by decide : (2 : Int32) < (3 : Int32))).2.2.2 ?_
              refine gA X307 hx (hb hby at_243) rfl rfl ?_
              refine gI X307 hx (hb hby at_245) rfl ?_
              refine gk X307 hx 2 (hb hby at_247) rfl ?_
              refine gq (XS.iadd X307.here hx rfl (hb hby at_248) rfl) rfl ?_
              refine gLA X307 hx hZ e307 V_v9 (by decide) (.long y2) rfl (hb hby at_249) ?_
              refine gg X307 hx 254 (hb hby at_250) (by decide) ?_
              refine gM X307 hx #[vi i0, vi i1, vi i2, vi i3, vi i4, vi i5, vi (Int32.ofNat 4), vi (Int32.ofNat 3), vi b8, vr v9, vr m1, .val (.double (FP.l2d u1)), .second, vi (3 : Int32), vi (0 : Int32), .val (.long y0), .second, .val (.long y1), .second, .val (.long y2), .second, uu, uu, uu, uu, uu, uu, uu, uu, uu, uu] (hb hby at_254) rfl ?_
              refine gI X307 hx (hb hby at_256) rfl ?_
              refine gk X307 hx 3 (hb hby at_258) rfl ?_
              show Go p e below _ (T307.setTop (mkF m 259 #[vi i0, vi i1, vi i2, vi i3, vi i4, vi i5, vi (Int32.ofNat 4), vi (Int32.ofNat 3), vi b8, vr v9, vr m1, .val (.double (FP.l2d u1)), .second, vi (3 : Int32), vi (0 : Int32), .val (.long y0), .second, .val (.long y1), .second, .val (.long y2), .second, uu, uu, uu, uu, uu, uu, uu, uu, uu, uu] [(.int (3 : Int32)), (.int (3 : Int32))]))
              refine cY X307 hx 272 (hb hby at_259) (flt (by decide : ¬ ((3 : Int32) < (3 : Int32)))).2.2.2 (by decide) ?_
              refine Go.by (fun t => XS.lconst X307.here hx rfl (hb hby at_272)) ?_
              show Go p e below _ (T307.setTop (mkF m 273 #[vi i0, vi i1, vi i2, vi i3, vi i4, vi i5, vi (Int32.ofNat 4), vi (Int32.ofNat 3), vi b8, vr v9, vr m1, .val (.double (FP.l2d u1)), .second, vi (3 : Int32), vi (0 : Int32), .val (.long y0), .second, .val (.long y1), .second, .val (.long y2), .second, uu, uu, uu, uu, uu, uu, uu, uu, uu, uu] [(.long (0 : Int64))]))
              refine gM X307 hx #[vi i0, vi i1, vi i2, vi i3, vi i4, vi i5, vi (Int32.ofNat 4), vi (Int32.ofNat 3), vi b8, vr v9, vr m1, .val (.double (FP.l2d u1)), .second, vi (3 : Int32), vi (0 : Int32), .val (.long y0), .second, .val (.long y1), .second, .val (.long y2), .second, .val (.long (0 : Int64)), .second, uu, uu, uu, uu, uu, uu, uu, uu] (hb hby at_273) rfl ?_
              refine gI X307 hx (hb hby at_275) rfl ?_
              refine zY X307 hx 286 (hb hby at_277) ((if0 _ _).trans (feq (by decide : ¬ ((3 : Int32) = (0 : Int32)))).2) (by decide) ?_
              refine gI X307 hx (hb hby at_286) rfl ?_
              refine gk X307 hx 1 (hb hby at_288) rfl ?_
              refine cY X307 hx 300 (hb hby at_289) (feq (by decide : ¬ ((3 : Int32) = (1 : Int32)))).2 (by decide) ?_
              refine gI X307 hx (hb hby at_300) rfl ?_
              refine gk X307 hx 2 (hb hby at_302) rfl ?_
              refine cY X307 hx 321 (hb hby at_303) (feq (by decide : ¬ ((3 : Int32) = (2 : Int32)))).2 (by decide) ?_
              refine gI X307 hx (hb hby at_321) rfl ?_
              refine gk X307 hx 3 (hb hby at_323) rfl ?_
              refine cN X307 hx (hb hby at_324) (teq (rfl : (3 : Int32) = (3 : Int32))).2 ?_
              refine gL X307 hx (hb hby at_327) rfl ?_
              refine gL X307 hx (hb hby at_329) rfl ?_
              refine kS (W := 0) (C := 4) (S := 17) X307 hx hZ hown (wd hw 43 rfl) (wd hw 44 rfl) (wd hw 28 rfl) (wd hw 45 rfl) (rmMN l Z a0 hw [] y0 y1 T305.heap n0) pd_5 (hb hby at_331) e307 hml (by exact ⟨rfl, rfl, rfl, rfl⟩) (by decide) fun v311 T311 L311 Lc311 X311 hQ311 l311 => ?_
              obtain ⟨rfl, Nq311, e311⟩ := hQ311
              have N311 := l311 N307 Nq311
              refine gL X311 hx (hb hby at_334) rfl ?_
              refine gL X311 hx (hb hby at_336) rfl ?_
              refine kS (W := 2) (C := 4) (S := 17) X311 hx hZ hown (wd hw 46 rfl) (wd hw 47 rfl) (wd hw 28 rfl) (wd hw 48 rfl) (rmMX l Z a0 hw [] y0 y1 T305.heap n0) pd_5 (hb hby at_338) e311 hml (by exact ⟨rfl, rfl, rfl, rfl⟩) (by decide) fun v312 T312 L312 Lc312 X312 hQ312 l312 => ?_
              obtain ⟨rfl, Nq312, e312⟩ := hQ312
              have N312 := l312 N311 Nq312
              refine gL X312 hx (hb hby at_341) rfl ?_
              refine kS (W := 2) (C := 4) (S := 17) X312 hx hZ hown (wd hw 43 rfl) (wd hw 44 rfl) (wd hw 28 rfl) (wd hw 45 rfl) (rmMN l Z a0 hw [] (mxL y0 y1) y2 T305.heap n0) pd_5 (hb hby at_343) e312 hml (by exact ⟨rfl, rfl, rfl, rfl⟩) (by decide) fun v313 T313 L313 Lc313 X313 hQ313 l313 => ?_
              obtain ⟨rfl, Nq313, e313⟩ := hQ313
              have N313 := l313 N312 Nq313
              show Go p e below _ (T313.setTop (mkF m 346 #[vi i0, vi i1, vi i2, vi i3, vi i4, vi i5, vi (Int32.ofNat 4), vi (Int32.ofNat 3), vi b8, vr v9, vr m1, .val (.double (FP.l2d u1)), .second, vi (3 : Int32), vi (0 : Int32), .val (.long y0), .second, .val (.long y1), .second, .val (.long y2), .second, .val (.long (0 : Int64)), .second, uu, uu, uu, uu, uu, uu, uu, uu] [(.long (mnL (mxL y0 y1) y2)), (.long (mnL y0 y1))]))
              refine kS (W := 0) (C := 4) (S := 17) X313 hx hZ hown (wd hw 46 rfl) (wd hw 47 rfl) (wd hw 28 rfl) (wd hw 48 rfl) (rmMX l Z a0 hw [] (mnL y0 y1) (mnL (mxL y0 y1) y2) T305.heap n0) pd_5 (hb hby at_346) e313 hml (by exact ⟨rfl, rfl, rfl, rfl⟩) (by decide) fun v314 T314 L314 Lc314 X314 hQ314 l314 => ?_
              obtain ⟨rfl, Nq314, e314⟩ := hQ314
              have N314 := l314 N313 Nq314
              refine gM X314 hx #[vi i0, vi i1, vi i2, vi i3, vi i4, vi i5, vi (Int32.ofNat 4), vi (Int32.ofNat 3), vi b8, vr v9, vr m1, .val (.double (FP.l2d u1)), .second, vi (3 : Int32), vi (0 : Int32), .val (.long y0), .second, .val (.long y1), .second, .val (.long y2), .second, .val (.long (0 : Int64)), .second, uu, uu, .val (.long (mxL (mnL y0 y1) (mnL (mxL y0 y1) y2))), .second, uu, uu, uu, uu] (hb hby at_349) rfl ?_
              refine gL X314 hx (hb hby at_351) rfl ?_
              refine gq (XS.l2dS X314.here hx rfl (hb hby at_353) rfl rfl) rfl ?_
              refine gE X314 hx #[vi i0, vi i1, vi i2, vi i3, vi i4, vi i5, vi (Int32.ofNat 4), vi (Int32.ofNat 3), vi b8, vr v9, vr m1, .val (.double (FP.l2d u1)), .second, vi (3 : Int32), vi (0 : Int32), .val (.long y0), .second, .val (.long y1), .second, .val (.long y2), .second, .val (.long (0 : Int64)), .second, .val (.double (FP.l2d (mxL (mnL y0 y1) (mnL (mxL y0 y1) y2)))), .second, .val (.long (mxL (mnL y0 y1) (mnL (mxL y0 y1) y2))), .second, uu, uu, uu, uu] (hb hby at_354) rfl ?_
              refine gg X314 hx 425 (hb hby at_356) (by decide) ?_
              refine gD X314 hx (hb hby at_425) rfl ?_
              refine gD X314 hx (hb hby at_427) rfl ?_
              refine gq (XS.dcmpS X314.here hx rfl (hb hby at_429) rfl rfl) rfl ?_
              show Go p e below _ (T314.setTop (mkF m 430 #[vi i0, vi i1, vi i2, vi i3, vi i4, vi i5, vi (Int32.ofNat 4), vi (Int32.ofNat 3), vi b8, vr v9, vr m1, .val (.double (FP.l2d u1)), .second, vi (3 : Int32), vi (0 : Int32), .val (.long y0), .second, .val (.long y1), .second, .val (.long y2), .second, .val (.long (0 : Int64)), .second, .val (.double (FP.l2d (mxL (mnL y0 y1) (mnL (mxL y0 y1) y2)))), .second, .val (.long (mxL (mnL y0 y1) (mnL (mxL y0 y1) y2))), .second, uu, uu, uu, uu] [(.int (cmpValue (FP.dcmp (FP.l2d u1) (FP.l2d (mxL (mnL y0 y1) (mnL (mxL y0 y1) y2)))) .l))]))
              rw [show (cmpValue (FP.dcmp (FP.l2d u1) (FP.l2d (mxL (mnL y0 y1) (mnL (mxL y0 y1) y2)))) .l) = 0 from eq0 (by rw [med3 pm3 so3]) (l2d_fin _).noNaN]
              refine zN X314 hx (hb hby at_430) ((if0 _ _).trans (teq (rfl : (0 : Int32) = (0 : Int32))).2) ?_
              refine gk X314 hx 1 (hb hby at_433) rfl ?_
              refine gg X314 hx 438 (hb hby at_434) (by decide) ?_
              exact Go.ret1 X314 hx Bd.returns Bd.notSynchronized (by first | rfl | decide) (Or.inl ⟨rfl, by simp, _, rfl⟩) (hb hby at_438) (by decide) (by decide) (by first | (rw [e314]; exact ⟨rfl, N314⟩) | exact ⟨rfl, N314⟩)
            ·
              refine cN X305 hx (hb hby at_150) (tlt ((o_lt (a := 3) (by decide) (by omega)).2 (by omega) : (3 : Int32) < (Int32.ofNat nn))).2.2.2 ?_
              replace t5 : 3 < nn := by omega
              refine gA X305 hx (hb hby at_153) rfl rfl ?_
              refine gA X305 hx (hb hby at_155) rfl rfl ?_
              refine gk X305 hx 3 (hb hby at_157) rfl ?_
              refine gLA X305 hx hZ rfl V_v9 ⟨by decide, by decide⟩ (.long y3) rfl (hb hby at_158) ?_
              refine gq (XS.l2dS X305.here hx rfl (hb hby at_159) rfl rfl) rfl ?_
              obtain ⟨z3, s3, hz3, hzl3⟩ := lenS (l := ys3) (n := 0) (by omega)
              rw [hz3] at V_aS
              refine kV (W := 0) (C := 4) (S := 17) X305 hx hZ hown (wd hw 30 rfl) (wd hw 31 rfl) (wd hw 33 rfl) (wd hw 32 rfl) (wd hw 7 rfl) (wd hw 34 rfl) (notFace_of_selects (args := #[]) (mvT hZ (wd hw 33 rfl))) E_m1 (rmAN l Z a0 hw [] m1 aA aS cA cS 4 3 [y0, y1, y2, 0] xs3 y3 (0 : Int32) z3 s3 T305.heap n0 E_m1 F_arrived_m1 F_sorted_m1 F_held_m1 F_next_m1 V_aA V_aS ne_aA_aS g_m1 g_aA g_aS (by decide) rfl (by decide) (by decide) q3 (fun z hz => (allI q0 (allI q1 (allI q2 (allZ0)))) z (pm3.mem_iff.1 hz)) so3 (by omega)) pd_2 (hb hby at_160) rfl hml (by exact ⟨rfl, rfl, rfl, rfl⟩) (by decide) fun v316 T316 L316 Lc316 X316 hQ316 l316 => ?_
              obtain ⟨xs4, ys4, zs, rfl, Nq316, K316, f1, f2, f3, f4, V1, V2, pq, so4, hy4, hzz, hl4'⟩ := hQ316
              rw [hzz] at pq
              have pm4 : xs4.Perm [y0, y1, y2, y3] := perm_new (W := [y0, y1, y2]) pq pm3
              have hl4 : xs4.length = 4 := by rw [hl4', hl3]
              have N316 := l316 N305 Nq316
              replace V_v9 := V_v9.keep K316 (ninS ne_v9_m1 (ninS ne_v9_aA (ninS ne_v9_aS nin0)))
              replace E_m1 := E_m1.keep K316
              replace Z0 := Nat.le_trans Z0 K316.1
              clear F_arrived_m1 F_sorted_m1 F_held_m1 F_next_m1
              have F_arrived_m1 := f1
              have F_sorted_m1 := f2
              have F_held_m1 := f3
              have F_next_m1 := f4
              clear f1 f2 f3 f4
              clear V_aA V_aS
              have V_aA := V1
              have V_aS := V2
              clear V1 V2
              rw [← hl4'] at F_held_m1
              refine gI X316 hx (hb hby at_163) rfl ?_
              refine gk X316 hx 4 (hb hby at_165) rfl ?_
              by_cases hj : nn = 4
              ·
                refine cY X316 hx 179 (hb hby at_166) (flt (fun q => absurd ((o_lt (a := 4) (by decide) (by omega)).1 q) (by omega) : ¬ ((4 : Int32) < (Int32.ofNat nn)))).2.2.2 (by decide) ?_
                subst hj
                show Go p e below _ (T316.setTop (mkF m 179 #[vi i0, vi i1, vi i2, vi i3, vi i4, vi i5, vi (Int32.ofNat 4), vi (Int32.ofNat 4), vi b8, vr v9, vr m1, uu, uu, uu, uu, uu, uu, uu, uu, uu, uu, uu, uu, uu, uu, uu, uu, uu, uu, uu, uu] []))
                obtain ⟨u0, r0, hr0, hs0⟩ := lenS hl4
                obtain ⟨u1, r1, hr1, hs1⟩ := lenS hs0
                obtain ⟨u2, r2, hr2, hs2⟩ := lenS hs1
                obtain ⟨u3, r3, hr3, hs3⟩ := lenS hs2
                have hxs : xs4 = [u0, u1, u2, u3] := by rw [hr0, hr1, hr2, hr3, len0 hs3]
                rw [hxs] at pm4 so4 V_aS
                have bA : ∀ z ∈ [u0, u1, u2, u3], BdI z := fun z hz => (allI q0 (allI q1 (allI q2 (allI q3 (allZ0))))) z (pm4.mem_iff.1 hz)
                have hlen : ([u0, u1, u2, u3] ++ ys4).length = 4 := by rw [List.length_append]; have q := hy4; rw [hxs] at q; exact q
                replace F_held_m1 : Fld Z T316.heap m1 "com/example/oneiros/oneiros/SlidingMedian" "held" "I" (.int (Int32.ofNat 4)) := by rw [hl4] at F_held_m1; exact F_held_m1
                refine gA X316 hx (hb hby at_179) rfl rfl ?_
                refine kV (W := 0) (C := 4) (S := 17) X316 hx hZ hown (wd hw 19 rfl) (wd hw 20 rfl) (wd hw 22 rfl) (wd hw 21 rfl) (wd hw 7 rfl) (wd hw 23 rfl) (notFace_of_selects (args := #[]) (mvT hZ (wd hw 22 rfl))) E_m1 (rmGT l Z a0 hw [] m1 aS cS 4 4 ([u0, u1, u2, u3] ++ ys4) (FP.ddiv (FP.l2d (u1 + u2)) 4611686018427387904) T316.heap n0 F_sorted_m1 F_held_m1 V_aS (Or.inr (Or.inr (Or.inr (Or.inr ⟨rfl, by decide, hlen, _, _, rfl, rfl, (bA u1 (List.mem_of_getElem? (i := 1) rfl)), (bA u2 (List.mem_of_getElem? (i := 2) rfl)), rfl⟩)))) (by decide)) pd_3 (hb hby at_181) rfl hml (by exact ⟨rfl, rfl, rfl, rfl⟩) (by decide) fun v317 T317 L317 Lc317 X317 hQ317 l317 => ?_
                obtain ⟨rfl, Nq317, e317⟩ := hQ317
                have N317 := l317 N316 Nq317
                refine gE X317 hx #[vi i0, vi i1, vi i2, vi i3, vi i4, vi i5, vi (Int32.ofNat 4), vi (Int32.ofNat 4), vi b8, vr v9, vr m1, .val (.double (FP.ddiv (FP.l2d (u1 + u2)) 4611686018427387904)), .second, uu, uu, uu, uu, uu, uu, uu, uu, uu, uu, uu, uu, uu, uu, uu, uu, uu, uu] (hb hby at_184) rfl ?_
                refine gI X317 hx (hb hby at_186) rfl ?_
                refine gI X317 hx (hb hby at_188) rfl ?_
                refine kS (W := 0) (C := 4) (S := 17) X317 hx hZ hown (wd hw 26 rfl) (wd hw 27 rfl) (wd hw 28 rfl) (wd hw 29 rfl) (rmMI l Z a0 hw [] 4 4 T316.heap n0 (by decide)) pd_4 (hb hby at_190) e317 hml (by exact ⟨rfl, rfl, rfl, rfl⟩) (by decide) fun v318 T318 L318 Lc318 X318 hQ318 l318 => ?_
                obtain ⟨rfl, Nq318, e318⟩ := hQ318
                have N318 := l318 N317 Nq318
                show Go p e below _ (T318.setTop (mkF m 193 #[vi i0, vi i1, vi i2, vi i3, vi i4, vi i5, vi (Int32.ofNat 4), vi (Int32.ofNat 4), vi b8, vr v9, vr m1, .val (.double (FP.ddiv (FP.l2d (u1 + u2)) 4611686018427387904)), .second, uu, uu, uu, uu, uu, uu, uu, uu, uu, uu, uu, uu, uu, uu, uu, uu, uu, uu] [(.int (Int32.ofNat (min 4 4)))]))
                rw [show Int32.ofNat (min 4 4) = (4 : Int32) from rfl]
                refine gT X318 hx #[vi i0, vi i1, vi i2, vi i3, vi i4, vi i5, vi (Int32.ofNat 4), vi (Int32.ofNat 4), vi b8, vr v9, vr m1, .val (.double (FP.ddiv (FP.l2d (u1 + u2)) 4611686018427387904)), .second, vi (4 : Int32), uu, uu, uu, uu, uu, uu, uu, uu, uu, uu, uu, uu, uu, uu, uu, uu, uu] (hb hby at_193) rfl ?_
                refine gI X318 hx (hb hby at_195) rfl ?_
                refine gI X318 hx (hb hby at_197) rfl ?_
                refine gq (XS.isub X318.here hx rfl (hb hby at_199) rfl) rfl ?_
                show Go p e below _ (T318.setTop (mkF m 200 #[vi i0, vi i1, vi i2, vi i3, vi i4, vi i5, vi (Int32.ofNat 4), vi (Int32.ofNat 4), vi b8, vr v9, vr m1, .val (.double (FP.ddiv (FP.l2d (u1 + u2)) 4611686018427387904)), .second, vi (4 : Int32), uu, uu, uu, uu, uu, uu, uu, uu, uu, uu, uu, uu, uu, uu, uu, uu, uu] [(.int ((Int32.ofNat 4) - (4 : Int32)))]))
                rw [show ((Int32.ofNat 4) - (4 : Int32)) = (0 : Int32) from by decide]
                refine gT X318 hx #[vi i0, vi i1, vi i2, vi i3, vi i4, vi i5, vi (Int32.ofNat 4), vi (Int32.ofNat 4), vi b8, vr v9, vr m1, .val (.double (FP.ddiv (FP.l2d (u1 + u2)) 4611686018427387904)), .second, vi (4 : Int32), vi (0 : Int32), uu, uu, uu, uu, uu, uu, uu, uu, uu, uu, uu, uu, uu, uu, uu, uu] (hb hby at_200) rfl ?_
                refine gI X318 hx (hb hby at_202) rfl ?_
                refine zN X318 hx (hb hby at_204) ((if0 _ _).trans (tlt (by decide : (0 : Int32) < (4 : Int32))).2.2.2) ?_
                refine gA X318 hx (hb hby at_207) rfl rfl ?_
                refine gI X318 hx (hb hby at_209) rfl ?_
                refine gLA X318 hx hZ e318 V_v9 (by decide) (.long y0) rfl (hb hby at_211) ?_
                refine gg X318 hx 216 (hb hby at_212) (by decide) ?_
                refine gM X318 hx #[vi i0, vi i1, vi i2, vi i3, vi i4, vi i5, vi (Int32.ofNat 4), vi (Int32.ofNat 4), vi b8, vr v9, vr m1, .val (.double (FP.ddiv (FP.l2d (u1 + u2)) 4611686018427387904)), .second, vi (4 : Int32), vi (0 : Int32), .val (.long y0), .second, uu, uu, uu, uu, uu, uu, uu, uu, uu, uu, uu, uu, uu, uu] (hb hby at_216) rfl ?_
                refine gI X318 hx (hb hby at_218) rfl ?_
                refine gk X318 hx 1 (hb hby at_220) rfl ?_
                refine cN X318 hx (hb hby at_221) (tlt (by decide : (1 : Int32) < (4 : Int32))).2.2.2 ?_
                refine gA X318 hx (hb hby at_224) rfl rfl ?_
                refine gI X318 hx (hb hby at_226) rfl ?_
                refine gk X318 hx 1 (hb hby at_228) rfl ?_
                refine gq (XS.iadd X318.here hx rfl (hb hby at_229) rfl) rfl ?_
                refine gLA X318 hx hZ e318 V_v9 (by decide) (.long y1) rfl (hb hby at_230) ?_
                refine gg X318 hx 235 (hb hby at_231) (by decide) ?_
                refine gM X318 hx #[vi i0, vi i1, vi i2, vi i3, vi i4, vi i5, vi (Int32.ofNat 4), vi (Int32.ofNat 4), vi b8, vr v9, vr m1, .val (.double (FP.ddiv (FP.l2d (u1 + u2)) 4611686018427387904)), .second, vi (4 : Int32), vi (0 : Int32), .val (.long y0), .second, .val (.long y1), .second, uu, uu, uu, uu, uu, uu, uu, uu, uu, uu, uu, uu] (hb hby at_235) rfl ?_
                refine gI X318 hx (hb hby at_237) rfl ?_
                refine gk X318 hx 2 (hb hby at_239) rfl ?_
                refine cN X318 hx (hb hby at_240) (tlt (by decide : (2 : Int32) < (4 : Int32))).2.2.2 ?_
                refine gA X318 hx (hb hby at_243) rfl rfl ?_
                refine gI X318 hx (hb hby at_245) rfl ?_
                refine gk X318 hx 2 (hb hby at_247) rfl ?_
                refine gq (XS.iadd X318.here hx rfl (hb hby at_248) rfl) rfl ?_
                refine gLA X318 hx hZ e318 V_v9 (by decide) (.long y2) rfl (hb hby at_249) ?_
                refine gg X318 hx 254 (hb hby at_250) (by decide) ?_
                refine gM X318 hx #[vi i0, vi i1, vi i2, vi i3, vi i4, vi i5, vi (Int32.ofNat 4), vi (Int32.ofNat 4), vi b8, vr v9, vr m1, .val (.double (FP.ddiv (FP.l2d (u1 + u2)) 4611686018427387904)), .second, vi (4 : Int32), vi (0 : Int32), .val (.long y0), .second, .val (.long y1), .second, .val (.long y2), .second, uu, uu, uu, uu, uu, uu, uu, uu, uu, uu] (hb hby at_254) rfl ?_
                refine gI X318 hx (hb hby at_256) rfl ?_
                refine gk X318 hx 3 (hb hby at_258) rfl ?_
                show Go p e below _ (T318.setTop (mkF m 259 #[vi i0, vi i1, vi i2, vi i3, vi i4, vi i5, vi (Int32.ofNat 4), vi (Int32.ofNat 4), vi b8, vr v9, vr m1, .val (.double (FP.ddiv (FP.l2d (u1 + u2)) 4611686018427387904)), .second, vi (4 : Int32), vi (0 : Int32), .val (.long y0), .second, .val (.long y1), .second, .val (.long y2), .second, uu, uu, uu, uu, uu, uu, uu, uu, uu, uu] [(.int (3 : Int32)), (.int (4 : Int32))]))
                refine cN X318 hx (hb hby at_259) (tlt (by decide : (3 : Int32) < (4 : Int32))).2.2.2 ?_
                refine gA X318 hx (hb hby at_262) rfl rfl ?_
                refine gI X318 hx (hb hby at_264) rfl ?_
                refine gk X318 hx 3 (hb hby at_266) rfl ?_
                refine gq (XS.iadd X318.here hx rfl (hb hby at_267) rfl) rfl ?_
                refine gLA X318 hx hZ e318 V_v9 (by decide) (.long y3) rfl (hb hby at_268) ?_
                refine gg X318 hx 273 (hb hby at_269) (by decide) ?_
                refine gM X318 hx #[vi i0, vi i1, vi i2, vi i3, vi i4, vi i5, vi (Int32.ofNat 4), vi (Int32.ofNat 4), vi b8, vr v9, vr m1, .val (.double (FP.ddiv (FP.l2d (u1 + u2)) 4611686018427387904)), .second, vi (4 : Int32), vi (0 : Int32), .val (.long y0), .second, .val (.long y1), .second, .val (.long y2), .second, .val (.long y3), .second, uu, uu, uu, uu, uu, uu, uu, uu] (hb hby at_273) rfl ?_
                refine gI X318 hx (hb hby at_275) rfl ?_
                refine zY X318 hx 286 (hb hby at_277) ((if0 _ _).trans (feq (by decide : ¬ ((4 : Int32) = (0 : Int32)))).2) (by decide) ?_
                refine gI X318 hx (hb hby at_286) rfl ?_
                refine gk X318 hx 1 (hb hby at_288) rfl ?_
                refine cY X318 hx 300 (hb hby at_289) (feq (by decide : ¬ ((4 : Int32) = (1 : Int32)))).2 (by decide) ?_
                refine gI X318 hx (hb hby at_300) rfl ?_
                refine gk X318 hx 2 (hb hby at_302) rfl ?_
                refine cY X318 hx 321 (hb hby at_303) (feq (by decide : ¬ ((4 : Int32) = (2 : Int32)))).2 (by decide) ?_
                refine gI X318 hx (hb hby at_321) rfl ?_
                refine gk X318 hx 3 (hb hby at_323) rfl ?_
                refine cY X318 hx 359 (hb hby at_324) (feq (by decide : ¬ ((4 : Int32) = (3 : Int32)))).2 (by decide) ?_
                refine gL X318 hx (hb hby at_359) rfl ?_
                refine gL X318 hx (hb hby at_361) rfl ?_
                refine kS (W := 0) (C := 4) (S := 17) X318 hx hZ hown (wd hw 46 rfl) (wd hw 47 rfl) (wd hw 28 rfl) (wd hw 48 rfl) (rmMX l Z a0 hw [] y0 y1 T316.heap n0) pd_5 (hb hby at_363) e318 hml (by exact ⟨rfl, rfl, rfl, rfl⟩) (by decide) fun v323 T323 L323 Lc323 X323 hQ323 l323 => ?_
                obtain ⟨rfl, Nq323, e323⟩ := hQ323
                have N323 := l323 N318 Nq323
                refine gL X323 hx (hb hby at_366) rfl ?_
                refine gL X323 hx (hb hby at_368) rfl ?_
                show Go p e below _ (T323.setTop (mkF m 370 #[vi i0, vi i1, vi i2, vi i3, vi i4, vi i5, vi (Int32.ofNat 4), vi (Int32.ofNat 4), vi b8, vr v9, vr m1, .val (.double (FP.ddiv (FP.l2d (u1 + u2)) 4611686018427387904)), .second, vi (4 : Int32), vi (0 : Int32), .val (.long y0), .second, .val (.long y1), .second, .val (.long y2), .second, .val (.long y3), .second, uu, uu, uu, uu, uu, uu, uu, uu] [(.long y3), (.long y2), (.long (mxL y0 y1))]))
                refine kS (W := 2) (C := 4) (S := 17) X323 hx hZ hown (wd hw 46 rfl) (wd hw 47 rfl) (wd hw 28 rfl) (wd hw 48 rfl) (rmMX l Z a0 hw [] y2 y3 T316.heap n0) pd_5 (hb hby at_370) e323 hml (by exact ⟨rfl, rfl, rfl, rfl⟩) (by decide) fun v324 T324 L324 Lc324 X324 hQ324 l324 => ?_
                obtain ⟨rfl, Nq324, e324⟩ := hQ324
                have N324 := l324 N323 Nq324
                refine kS (W := 0) (C := 4) (S := 17) X324 hx hZ hown (wd hw 46 rfl) (wd hw 47 rfl) (wd hw 28 rfl) (wd hw 48 rfl) (rmMX l Z a0 hw [] (mxL y0 y1) (mxL y2 y3) T316.heap n0) pd_5 (hb hby at_373) e324 hml (by exact ⟨rfl, rfl, rfl, rfl⟩) (by decide) fun v325 T325 L325 Lc325 X325 hQ325 l325 => ?_
                obtain ⟨rfl, Nq325, e325⟩ := hQ325
                have N325 := l325 N324 Nq325
                refine gM X325 hx #[vi i0, vi i1, vi i2, vi i3, vi i4, vi i5, vi (Int32.ofNat 4), vi (Int32.ofNat 4), vi b8, vr v9, vr m1, .val (.double (FP.ddiv (FP.l2d (u1 + u2)) 4611686018427387904)), .second, vi (4 : Int32), vi (0 : Int32), .val (.long y0), .second, .val (.long y1), .second, .val (.long y2), .second, .val (.long y3), .second, uu, uu, .val (.long (mxL (mxL y0 y1) (mxL y2 y3))), .second, uu, uu, uu, uu] (hb hby at_376) rfl ?_
                refine gL X325 hx (hb hby at_378) rfl ?_
                refine gL X325 hx (hb hby at_380) rfl ?_
                refine kS (W := 0) (C := 4) (S := 17) X325 hx hZ hown (wd hw 43 rfl) (wd hw 44 rfl) (wd hw 28 rfl) (wd hw 45 rfl) (rmMN l Z a0 hw [] y0 y1 T316.heap n0) pd_5 (hb hby at_382) e325 hml (by exact ⟨rfl, rfl, rfl, rfl⟩) (by decide) fun v326 T326 L326 Lc326 X326 hQ326 l326 => ?_
                obtain ⟨rfl, Nq326, e326⟩ := hQ326
                have N326 := l326 N325 Nq326
                refine gL X326 hx (hb hby at_385) rfl ?_
                refine gL X326 hx (hb hby at_387) rfl ?_
                refine kS (W := 2) (C := 4) (S := 17) X326 hx hZ hown (wd hw 43 rfl) (wd hw 44 rfl) (wd hw 28 rfl) (wd hw 45 rfl) (rmMN l Z a0 hw [] y2 y3 T316.heap n0) pd_5 (hb hby at_389) e326 hml (by exact ⟨rfl, rfl, rfl, rfl⟩) (by decide) fun v327 T327 L327 Lc327 X327 hQ327 l327 => ?_
                obtain ⟨rfl, Nq327, e327⟩ := hQ327
                have N327 := l327 N326 Nq327
                refine kS (W := 0) (C := 4) (S := 17) X327 hx hZ hown (wd hw 43 rfl) (wd hw 44 rfl) (wd hw 28 rfl) (wd hw 45 rfl) (rmMN l Z a0 hw [] (mnL y0 y1) (mnL y2 y3) T316.heap n0) pd_5 (hb hby at_392) e327 hml (by exact ⟨rfl, rfl, rfl, rfl⟩) (by decide) fun v328 T328 L328 Lc328 X328 hQ328 l328 => ?_
                obtain ⟨rfl, Nq328, e328⟩ := hQ328
                have N328 := l328 N327 Nq328
                refine gM X328 hx #[vi i0, vi i1, vi i2, vi i3, vi i4, vi i5, vi (Int32.ofNat 4), vi (Int32.ofNat 4), vi b8, vr v9, vr m1, .val (.double (FP.ddiv (FP.l2d (u1 + u2)) 4611686018427387904)), .second, vi (4 : Int32), vi (0 : Int32), .val (.long y0), .second, .val (.long y1), .second, .val (.long y2), .second, .val (.long y3), .second, uu, uu, .val (.long (mxL (mxL y0 y1) (mxL y2 y3))), .second, .val (.long (mnL (mnL y0 y1) (mnL y2 y3))), .second, uu, uu] (hb hby at_395) rfl ?_
                refine gL X328 hx (hb hby at_397) rfl ?_
                refine gL X328 hx (hb hby at_399) rfl ?_
                refine gq (XS.ladd X328.here hx rfl (hb hby at_401) rfl) rfl ?_
                refine gL X328 hx (hb hby at_402) rfl ?_
                refine gq (XS.ladd X328.here hx rfl (hb hby at_404) rfl) rfl ?_
                refine gL X328 hx (hb hby at_405) rfl ?_
                refine gq (XS.ladd X328.here hx rfl (hb hby at_407) rfl) rfl ?_
                refine gL X328 hx (hb hby at_408) rfl ?_
                refine gq (XS.lsub X328.here hx rfl (hb hby at_410) rfl) rfl ?_
                refine gL X328 hx (hb hby at_411) rfl ?_
                refine gq (XS.lsub X328.here hx rfl (hb hby at_413) rfl) rfl ?_
                refine gM X328 hx #[vi i0, vi i1, vi i2, vi i3, vi i4, vi i5, vi (Int32.ofNat 4), vi (Int32.ofNat 4), vi b8, vr v9, vr m1, .val (.double (FP.ddiv (FP.l2d (u1 + u2)) 4611686018427387904)), .second, vi (4 : Int32), vi (0 : Int32), .val (.long y0), .second, .val (.long y1), .second, .val (.long y2), .second, .val (.long y3), .second, uu, uu, .val (.long (mxL (mxL y0 y1) (mxL y2 y3))), .second, .val (.long (mnL (mnL y0 y1) (mnL y2 y3))), .second, .val (.long (((((y0 + y1) + y2) + y3) - (mxL (mxL y0 y1) (mxL y2 y3))) - (mnL (mnL y0 y1) (mnL y2 y3)))), .second] (hb hby at_414) rfl ?_
                refine gL X328 hx (hb hby at_416) rfl ?_
                show Go p e below _ (T328.setTop (mkF m 418 #[vi i0, vi i1, vi i2, vi i3, vi i4, vi i5, vi (Int32.ofNat 4), vi (Int32.ofNat 4), vi b8, vr v9, vr m1, .val (.double (FP.ddiv (FP.l2d (u1 + u2)) 4611686018427387904)), .second, vi (4 : Int32), vi (0 : Int32), .val (.long y0), .second, .val (.long y1), .second, .val (.long y2), .second, .val (.long y3), .second, uu, uu, .val (.long (mxL (mxL y0 y1) (mxL y2 y3))), .second, .val (.long (mnL (mnL y0 y1) (mnL y2 y3))), .second, .val (.long (((((y0 + y1) + y2) + y3) - (mxL (mxL y0 y1) (mxL y2 y3))) - (mnL (mnL y0 y1) (mnL y2 y3)))), .second] [(.long (((((y0 + y1) + y2) + y3) - (mxL (mxL y0 y1) (mxL y2 y3))) - (mnL (mnL y0 y1) (mnL y2 y3))))]))
                refine gq (XS.l2dS X328.here hx rfl (hb hby at_418) rfl rfl) rfl ?_
                refine Go.by (fun t => X328.ldc2DoubleC hx hown (mvT hZ (wd hw 42 rfl)) (g := (mkF m 419 #[vi i0, vi i1, vi i2, vi i3, vi i4, vi i5, vi (Int32.ofNat 4), vi (Int32.ofNat 4), vi b8, vr v9, vr m1, .val (.double (FP.ddiv (FP.l2d (u1 + u2)) 4611686018427387904)), .second, vi (4 : Int32), vi (0 : Int32), .val (.long y0), .second, .val (.long y1), .second, .val (.long y2), .second, .val (.long y3), .second, uu, uu, .val (.long (mxL (mxL y0 y1) (mxL y2 y3))), .second, .val (.long (mnL (mnL y0 y1) (mnL y2 y3))), .second, .val (.long (((((y0 + y1) + y2) + y3) - (mxL (mxL y0 y1) (mxL y2 y3))) - (mnL (mnL y0 y1) (mnL y2 y3)))), .second] [(.double (FP.l2d (((((y0 + y1) + y2) + y3) - (mxL (mxL y0 y1) (mxL y2 y3))) - (mnL (mnL y0 y1) (mnL y2 y3)))))])) rfl (hb hby at_419) t) ?_
                show Go p e below _ (T328.setTop (mkF m 422 #[vi i0, vi i1, vi i2, vi i3, vi i4, vi i5, vi (Int32.ofNat 4), vi (Int32.ofNat 4), vi b8, vr v9, vr m1, .val (.double (FP.ddiv (FP.l2d (u1 + u2)) 4611686018427387904)), .second, vi (4 : Int32), vi (0 : Int32), .val (.long y0), .second, .val (.long y1), .second, .val (.long y2), .second, .val (.long y3), .second, uu, uu, .val (.long (mxL (mxL y0 y1) (mxL y2 y3))), .second, .val (.long (mnL (mnL y0 y1) (mnL y2 y3))), .second, .val (.long (((((y0 + y1) + y2) + y3) - (mxL (mxL y0 y1) (mxL y2 y3))) - (mnL (mnL y0 y1) (mnL y2 y3)))), .second] [(.double (4611686018427387904 : UInt64)), (.double (FP.l2d (((((y0 + y1) + y2) + y3) - (mxL (mxL y0 y1) (mxL y2 y3))) - (mnL (mnL y0 y1) (mnL y2 y3)))))]))
                refine gq (XS.ddivS X328.here hx rfl (hb hby at_422) rfl nn_div rfl) rfl ?_
                refine gE X328 hx #[vi i0, vi i1, vi i2, vi i3, vi i4, vi i5, vi (Int32.ofNat 4), vi (Int32.ofNat 4), vi b8, vr v9, vr m1, .val (.double (FP.ddiv (FP.l2d (u1 + u2)) 4611686018427387904)), .second, vi (4 : Int32), vi (0 : Int32), .val (.long y0), .second, .val (.long y1), .second, .val (.long y2), .second, .val (.long y3), .second, .val (.double (FP.ddiv (FP.l2d (((((y0 + y1) + y2) + y3) - (mxL (mxL y0 y1) (mxL y2 y3))) - (mnL (mnL y0 y1) (mnL y2 y3)))) (4611686018427387904 : UInt64))), .second, .val (.long (mxL (mxL y0 y1) (mxL y2 y3))), .second, .val (.long (mnL (mnL y0 y1) (mnL y2 y3))), .second, .val (.long (((((y0 + y1) + y2) + y3) - (mxL (mxL y0 y1) (mxL y2 y3))) - (mnL (mnL y0 y1) (mnL y2 y3)))), .second] (hb hby at_423) rfl ?_
                refine gD X328 hx (hb hby at_425) rfl ?_
                refine gD X328 hx (hb hby at_427) rfl ?_
                refine gq (XS.dcmpS X328.here hx rfl (hb hby at_429) rfl rfl) rfl ?_
                show Go p e below _ (T328.setTop (mkF m 430 #[vi i0, vi i1, vi i2, vi i3, vi i4, vi i5, vi (Int32.ofNat 4), vi (Int32.ofNat 4), vi b8, vr v9, vr m1, .val (.double (FP.ddiv (FP.l2d (u1 + u2)) 4611686018427387904)), .second, vi (4 : Int32), vi (0 : Int32), .val (.long y0), .second, .val (.long y1), .second, .val (.long y2), .second, .val (.long y3), .second, .val (.double (FP.ddiv (FP.l2d (((((y0 + y1) + y2) + y3) - (mxL (mxL y0 y1) (mxL y2 y3))) - (mnL (mnL y0 y1) (mnL y2 y3)))) (4611686018427387904 : UInt64))), .second, .val (.long (mxL (mxL y0 y1) (mxL y2 y3))), .second, .val (.long (mnL (mnL y0 y1) (mnL y2 y3))), .second, .val (.long (((((y0 + y1) + y2) + y3) - (mxL (mxL y0 y1) (mxL y2 y3))) - (mnL (mnL y0 y1) (mnL y2 y3)))), .second] [(.int (cmpValue (FP.dcmp (FP.ddiv (FP.l2d (u1 + u2)) 4611686018427387904) (FP.ddiv (FP.l2d (((((y0 + y1) + y2) + y3) - (mxL (mxL y0 y1) (mxL y2 y3))) - (mnL (mnL y0 y1) (mnL y2 y3)))) (4611686018427387904 : UInt64))) .l))]))
                rw [show (cmpValue (FP.dcmp (FP.ddiv (FP.l2d (u1 + u2)) 4611686018427387904) (FP.ddiv (FP.l2d (((((y0 + y1) + y2) + y3) - (mxL (mxL y0 y1) (mxL y2 y3))) - (mnL (mnL y0 y1) (mnL y2 y3)))) (4611686018427387904 : UInt64))) .l) = 0 from eq0 (by rw [med4 pm4 so4 (bA u0 (List.mem_of_getElem? (i := 0) rfl)) (bA u1 (List.mem_of_getElem? (i := 1) rfl)) (bA u2 (List.mem_of_getElem? (i := 2) rfl)) (bA u3 (List.mem_of_getElem? (i := 3) rfl)) q0 q1 q2 q3]) nn_div]
                refine zN X328 hx (hb hby at_430) ((if0 _ _).trans (teq (rfl : (0 : Int32) = (0 : Int32))).2) ?_
                refine gk X328 hx 1 (hb hby at_433) rfl ?_
                refine gg X328 hx 438 (hb hby at_434) (by decide) ?_
                exact Go.ret1 X328 hx Bd.returns Bd.notSynchronized (by first | rfl | decide) (Or.inl ⟨rfl, by simp, _, rfl⟩) (hb hby at_438) (by decide) (by decide) (by first | (rw [e328]; exact ⟨rfl, N328⟩) | exact ⟨rfl, N328⟩)
              ·
                refine cN X316 hx (hb hby at_166) (tlt ((o_lt (a := 4) (by decide) (by omega)).2 (by omega) : (4 : Int32) < (Int32.ofNat nn))).2.2.2 ?_
                replace t5 : 4 < nn := by omega
                refine gA X316 hx (hb hby at_169) rfl rfl ?_
                refine gA X316 hx (hb hby at_171) rfl rfl ?_
                refine gk X316 hx 4 (hb hby at_173) rfl ?_
                refine gLA X316 hx hZ rfl V_v9 ⟨by decide, by decide⟩ (.long y4) rfl (hb hby at_174) ?_
                show Go p e below _ (T316.setTop (mkF m 175 #[vi i0, vi i1, vi i2, vi i3, vi i4, vi i5, vi (Int32.ofNat 4), vi (Int32.ofNat nn), vi b8, vr v9, vr m1, uu, uu, uu, uu, uu, uu, uu, uu, uu, uu, uu, uu, uu, uu, uu, uu, uu, uu, uu, uu] [(.long y4), (.ref m1)]))
                refine gq (XS.l2dS X316.here hx rfl (hb hby at_175) rfl rfl) rfl ?_
                refine kV (W := 0) (C := 4) (S := 17) X316 hx hZ hown (wd hw 30 rfl) (wd hw 31 rfl) (wd hw 33 rfl) (wd hw 32 rfl) (wd hw 7 rfl) (wd hw 34 rfl) (notFace_of_selects (args := #[]) (mvT hZ (wd hw 33 rfl))) E_m1 (rmAF l Z a0 hw [] m1 aA aS cA cS 4 0 [y0, y1, y2, y3] xs4 y4 (1 : Int32) y0 T316.heap n0 E_m1 F_arrived_m1 F_sorted_m1 F_held_m1 F_next_m1 V_aA (arv_eq V_aS (by rw [len0 (l := ys4) (by omega), List.append_nil])) ne_aA_aS g_m1 g_aA g_aS (by decide) rfl (by decide) (by decide) q4 (fun z hz => (allI q0 (allI q1 (allI q2 (allI q3 (allZ0))))) z (pm4.mem_iff.1 hz)) so4 (by omega) rfl (pm4.mem_iff.2 (List.mem_of_getElem? (i := 0) rfl)) q0) pd_2 (hb hby at_176) rfl hml (by exact ⟨rfl, rfl, rfl, rfl⟩) (by decide) fun v330 T330 L330 Lc330 X330 hQ330 l330 => ?_
                obtain ⟨xs5, ys5, zs, rfl, Nq330, K330, f1, f2, f3, f4, V1, V2, pq, so5, hy5, px, hl5⟩ := hQ330
                have pm5 : xs5.Perm [y1, y2, y3, y4] := perm_old (W := [y1, y2, y3]) pq px pm4
                have N330 := l330 N316 Nq330
                replace V_v9 := V_v9.keep K330 (ninS ne_v9_m1 (ninS ne_v9_aA (ninS ne_v9_aS nin0)))
                replace E_m1 := E_m1.keep K330
                replace Z0 := Nat.le_trans Z0 K330.1
                clear F_arrived_m1 F_sorted_m1 F_held_m1 F_next_m1
                have F_arrived_m1 := f1
                have F_sorted_m1 := f2
                have F_held_m1 := f3
                have F_next_m1 := f4
                clear f1 f2 f3 f4
                clear V_aA V_aS
                have V_aA := V1
                have V_aS := V2
                clear V1 V2
                rw [← hl5] at F_held_m1
                have hj : nn = 5 := by omega
                subst hj
                show Go p e below _ (T330.setTop (mkF m 179 #[vi i0, vi i1, vi i2, vi i3, vi i4, vi i5, vi (Int32.ofNat 4), vi (Int32.ofNat 5), vi b8, vr v9, vr m1, uu, uu, uu, uu, uu, uu, uu, uu, uu, uu, uu, uu, uu, uu, uu, uu, uu, uu, uu, uu] []))
                obtain ⟨u0, r0, hr0, hs0⟩ := lenS hl5
                obtain ⟨u1, r1, hr1, hs1⟩ := lenS hs0
                obtain ⟨u2, r2, hr2, hs2⟩ := lenS hs1
                obtain ⟨u3, r3, hr3, hs3⟩ := lenS hs2
                have hxs : xs5 = [u0, u1, u2, u3] := by rw [hr0, hr1, hr2, hr3, len0 hs3]
                rw [hxs] at pm5 so5 V_aS
                have bA : ∀ z ∈ [u0, u1, u2, u3], BdI z := fun z hz => (allI q1 (allI q2 (allI q3 (allI q4 (allZ0))))) z (pm5.mem_iff.1 hz)
                have hlen : ([u0, u1, u2, u3] ++ ys5).length = 4 := by rw [List.length_append]; have q := hy5; rw [hxs] at q; exact q
                replace F_held_m1 : Fld Z T330.heap m1 "com/example/oneiros/oneiros/SlidingMedian" "held" "I" (.int (Int32.ofNat 4)) := by rw [hl5] at F_held_m1; exact F_held_m1
                refine gA X330 hx (hb hby at_179) rfl rfl ?_
                refine kV (W := 0) (C := 4) (S := 17) X330 hx hZ hown (wd hw 19 rfl) (wd hw 20 rfl) (wd hw 22 rfl) (wd hw 21 rfl) (wd hw 7 rfl) (wd hw 23 rfl) (notFace_of_selects (args := #[]) (mvT hZ (wd hw 22 rfl))) E_m1 (rmGT l Z a0 hw [] m1 aS cS 4 4 ([u0, u1, u2, u3] ++ ys5) (FP.ddiv (FP.l2d (u1 + u2)) 4611686018427387904) T330.heap n0 F_sorted_m1 F_held_m1 V_aS (Or.inr (Or.inr (Or.inr (Or.inr ⟨rfl, by decide, hlen, _, _, rfl, rfl, (bA u1 (List.mem_of_getElem? (i := 1) rfl)), (bA u2 (List.mem_of_getElem? (i := 2) rfl)), rfl⟩)))) (by decide)) pd_3 (hb hby at_181) rfl hml (by exact ⟨rfl, rfl, rfl, rfl⟩) (by decide) fun v331 T331 L331 Lc331 X331 hQ331 l331 => ?_
                obtain ⟨rfl, Nq331, e331⟩ := hQ331
                have N331 := l331 N330 Nq331
                refine gE X331 hx #[vi i0, vi i1, vi i2, vi i3, vi i4, vi i5, vi (Int32.ofNat 4), vi (Int32.ofNat 5), vi b8, vr v9, vr m1, .val (.double (FP.ddiv (FP.l2d (u1 + u2)) 4611686018427387904)), .second, uu, uu, uu, uu, uu, uu, uu, uu, uu, uu, uu, uu, uu, uu, uu, uu, uu, uu] (hb hby at_184) rfl ?_
                refine gI X331 hx (hb hby at_186) rfl ?_
                refine gI X331 hx (hb hby at_188) rfl ?_
                refine kS (W := 0) (C := 4) (S := 17) X331 hx hZ hown (wd hw 26 rfl) (wd hw 27 rfl) (wd hw 28 rfl) (wd hw 29 rfl) (rmMI l Z a0 hw [] 5 4 T330.heap n0 (by decide)) pd_4 (hb hby at_190) e331 hml (by exact ⟨rfl, rfl, rfl, rfl⟩) (by decide) fun v332 T332 L332 Lc332 X332 hQ332 l332 => ?_
                obtain ⟨rfl, Nq332, e332⟩ := hQ332
                have N332 := l332 N331 Nq332
                show Go p e below _ (T332.setTop (mkF m 193 #[vi i0, vi i1, vi i2, vi i3, vi i4, vi i5, vi (Int32.ofNat 4), vi (Int32.ofNat 5), vi b8, vr v9, vr m1, .val (.double (FP.ddiv (FP.l2d (u1 + u2)) 4611686018427387904)), .second, uu, uu, uu, uu, uu, uu, uu, uu, uu, uu, uu, uu, uu, uu, uu, uu, uu, uu] [(.int (Int32.ofNat (min 5 4)))]))
                rw [show Int32.ofNat (min 5 4) = (4 : Int32) from rfl]
                refine gT X332 hx #[vi i0, vi i1, vi i2, vi i3, vi i4, vi i5, vi (Int32.ofNat 4), vi (Int32.ofNat 5), vi b8, vr v9, vr m1, .val (.double (FP.ddiv (FP.l2d (u1 + u2)) 4611686018427387904)), .second, vi (4 : Int32), uu, uu, uu, uu, uu, uu, uu, uu, uu, uu, uu, uu, uu, uu, uu, uu, uu] (hb hby at_193) rfl ?_
                refine gI X332 hx (hb hby at_195) rfl ?_
                refine gI X332 hx (hb hby at_197) rfl ?_
                refine gq (XS.isub X332.here hx rfl (hb hby at_199) rfl) rfl ?_
                show Go p e below _ (T332.setTop (mkF m 200 #[vi i0, vi i1, vi i2, vi i3, vi i4, vi i5, vi (Int32.ofNat 4), vi (Int32.ofNat 5), vi b8, vr v9, vr m1, .val (.double (FP.ddiv (FP.l2d (u1 + u2)) 4611686018427387904)), .second, vi (4 : Int32), uu, uu, uu, uu, uu, uu, uu, uu, uu, uu, uu, uu, uu, uu, uu, uu, uu] [(.int ((Int32.ofNat 5) - (4 : Int32)))]))
                rw [show ((Int32.ofNat 5) - (4 : Int32)) = (1 : Int32) from by decide]
                refine gT X332 hx #[vi i0, vi i1, vi i2, vi i3, vi i4, vi i5, vi (Int32.ofNat 4), vi (Int32.ofNat 5), vi b8, vr v9, vr m1, .val (.double (FP.ddiv (FP.l2d (u1 + u2)) 4611686018427387904)), .second, vi (4 : Int32), vi (1 : Int32), uu, uu, uu, uu, uu, uu, uu, uu, uu, uu, uu, uu, uu, uu, uu, uu] (hb hby at_200) rfl ?_
                refine gI X332 hx (hb hby at_202) rfl ?_
                refine zN X332 hx (hb hby at_204) ((if0 _ _).trans (tlt (by decide : (0 : Int32) < (4 : Int32))).2.2.2) ?_
                refine gA X332 hx (hb hby at_207) rfl rfl ?_
                refine gI X332 hx (hb hby at_209) rfl ?_
                refine gLA X332 hx hZ e332 V_v9 (by decide) (.long y1) rfl (hb hby at_211) ?_
                refine gg X332 hx 216 (hb hby at_212) (by decide) ?_
                refine gM X332 hx #[vi i0, vi i1, vi i2, vi i3, vi i4, vi i5, vi (Int32.ofNat 4), vi (Int32.ofNat 5), vi b8, vr v9, vr m1, .val (.double (FP.ddiv (FP.l2d (u1 + u2)) 4611686018427387904)), .second, vi (4 : Int32), vi (1 : Int32), .val (.long y1), .second, uu, uu, uu, uu, uu, uu, uu, uu, uu, uu, uu, uu, uu, uu] (hb hby at_216) rfl ?_
                refine gI X332 hx (hb hby at_218) rfl ?_
                refine gk X332 hx 1 (hb hby at_220) rfl ?_
                refine cN X332 hx (hb hby at_221) (tlt (by decide : (1 : Int32) < (4 : Int32))).2.2.2 ?_
                refine gA X332 hx (hb hby at_224) rfl rfl ?_
                refine gI X332 hx (hb hby at_226) rfl ?_
                refine gk X332 hx 1 (hb hby at_228) rfl ?_
                refine gq (XS.iadd X332.here hx rfl (hb hby at_229) rfl) rfl ?_
                refine gLA X332 hx hZ e332 V_v9 (by decide) (.long y2) rfl (hb hby at_230) ?_
                refine gg X332 hx 235 (hb hby at_231) (by decide) ?_
                refine gM X332 hx #[vi i0, vi i1, vi i2, vi i3, vi i4, vi i5, vi (Int32.ofNat 4), vi (Int32.ofNat 5), vi b8, vr v9, vr m1, .val (.double (FP.ddiv (FP.l2d (u1 + u2)) 4611686018427387904)), .second, vi (4 : Int32), vi (1 : Int32), .val (.long y1), .second, .val (.long y2), .second, uu, uu, uu, uu, uu, uu, uu, uu, uu, uu, uu, uu] (hb hby at_235) rfl ?_
                refine gI X332 hx (hb hby at_237) rfl ?_
                refine gk X332 hx 2 (hb hby at_239) rfl ?_
                refine cN X332 hx (hb hby at_240) (tlt (by decide : (2 : Int32) < (4 : Int32))).2.2.2 ?_
                refine gA X332 hx (hb hby at_243) rfl rfl ?_
                refine gI X332 hx (hb hby at_245) rfl ?_
                refine gk X332 hx 2 (hb hby at_247) rfl ?_
                refine gq (XS.iadd X332.here hx rfl (hb hby at_248) rfl) rfl ?_
                refine gLA X332 hx hZ e332 V_v9 (by decide) (.long y3) rfl (hb hby at_249) ?_
                refine gg X332 hx 254 (hb hby at_250) (by decide) ?_
                refine gM X332 hx #[vi i0, vi i1, vi i2, vi i3, vi i4, vi i5, vi (Int32.ofNat 4), vi (Int32.ofNat 5), vi b8, vr v9, vr m1, .val (.double (FP.ddiv (FP.l2d (u1 + u2)) 4611686018427387904)), .second, vi (4 : Int32), vi (1 : Int32), .val (.long y1), .second, .val (.long y2), .second, .val (.long y3), .second, uu, uu, uu, uu, uu, uu, uu, uu, uu, uu] (hb hby at_254) rfl ?_
                refine gI X332 hx (hb hby at_256) rfl ?_
                refine gk X332 hx 3 (hb hby at_258) rfl ?_
                show Go p e below _ (T332.setTop (mkF m 259 #[vi i0, vi i1, vi i2, vi i3, vi i4, vi i5, vi (Int32.ofNat 4), vi (Int32.ofNat 5), vi b8, vr v9, vr m1, .val (.double (FP.ddiv (FP.l2d (u1 + u2)) 4611686018427387904)), .second, vi (4 : Int32), vi (1 : Int32), .val (.long y1), .second, .val (.long y2), .second, .val (.long y3), .second, uu, uu, uu, uu, uu, uu, uu, uu, uu, uu] [(.int (3 : Int32)), (.int (4 : Int32))]))
                refine cN X332 hx (hb hby at_259) (tlt (by decide : (3 : Int32) < (4 : Int32))).2.2.2 ?_
                refine gA X332 hx (hb hby at_262) rfl rfl ?_
                refine gI X332 hx (hb hby at_264) rfl ?_
                refine gk X332 hx 3 (hb hby at_266) rfl ?_
                refine gq (XS.iadd X332.here hx rfl (hb hby at_267) rfl) rfl ?_
                refine gLA X332 hx hZ e332 V_v9 (by decide) (.long y4) rfl (hb hby at_268) ?_
                refine gg X332 hx 273 (hb hby at_269) (by decide) ?_
                refine gM X332 hx #[vi i0, vi i1, vi i2, vi i3, vi i4, vi i5, vi (Int32.ofNat 4), vi (Int32.ofNat 5), vi b8, vr v9, vr m1, .val (.double (FP.ddiv (FP.l2d (u1 + u2)) 4611686018427387904)), .second, vi (4 : Int32), vi (1 : Int32), .val (.long y1), .second, .val (.long y2), .second, .val (.long y3), .second, .val (.long y4), .second, uu, uu, uu, uu, uu, uu, uu, uu] (hb hby at_273) rfl ?_
                refine gI X332 hx (hb hby at_275) rfl ?_
                refine zY X332 hx 286 (hb hby at_277) ((if0 _ _).trans (feq (by decide : ¬ ((4 : Int32) = (0 : Int32)))).2) (by decide) ?_
                refine gI X332 hx (hb hby at_286) rfl ?_
                refine gk X332 hx 1 (hb hby at_288) rfl ?_
                refine cY X332 hx 300 (hb hby at_289) (feq (by decide : ¬ ((4 : Int32) = (1 : Int32)))).2 (by decide) ?_
                refine gI X332 hx (hb hby at_300) rfl ?_
                refine gk X332 hx 2 (hb hby at_302) rfl ?_
                refine cY X332 hx 321 (hb hby at_303) (feq (by decide : ¬ ((4 : Int32) = (2 : Int32)))).2 (by decide) ?_
                refine gI X332 hx (hb hby at_321) rfl ?_
                refine gk X332 hx 3 (hb hby at_323) rfl ?_
                refine cY X332 hx 359 (hb hby at_324) (feq (by decide : ¬ ((4 : Int32) = (3 : Int32)))).2 (by decide) ?_
                refine gL X332 hx (hb hby at_359) rfl ?_
                refine gL X332 hx (hb hby at_361) rfl ?_
                refine kS (W := 0) (C := 4) (S := 17) X332 hx hZ hown (wd hw 46 rfl) (wd hw 47 rfl) (wd hw 28 rfl) (wd hw 48 rfl) (rmMX l Z a0 hw [] y1 y2 T330.heap n0) pd_5 (hb hby at_363) e332 hml (by exact ⟨rfl, rfl, rfl, rfl⟩) (by decide) fun v337 T337 L337 Lc337 X337 hQ337 l337 => ?_
                obtain ⟨rfl, Nq337, e337⟩ := hQ337
                have N337 := l337 N332 Nq337
                refine gL X337 hx (hb hby at_366) rfl ?_
                refine gL X337 hx (hb hby at_368) rfl ?_
                show Go p e below _ (T337.setTop (mkF m 370 #[vi i0, vi i1, vi i2, vi i3, vi i4, vi i5, vi (Int32.ofNat 4), vi (Int32.ofNat 5), vi b8, vr v9, vr m1, .val (.double (FP.ddiv (FP.l2d (u1 + u2)) 4611686018427387904)), .second, vi (4 : Int32), vi (1 : Int32), .val (.long y1), .second, .val (.long y2), .second, .val (.long y3), .second, .val (.long y4), .second, uu, uu, uu, uu, uu, uu, uu, uu] [(.long y4), (.long y3), (.long (mxL y1 y2))]))
                refine kS (W := 2) (C := 4) (S := 17) X337 hx hZ hown (wd hw 46 rfl) (wd hw 47 rfl) (wd hw 28 rfl) (wd hw 48 rfl) (rmMX l Z a0 hw [] y3 y4 T330.heap n0) pd_5 (hb hby at_370) e337 hml (by exact ⟨rfl, rfl, rfl, rfl⟩) (by decide) fun v338 T338 L338 Lc338 X338 hQ338 l338 => ?_
                obtain ⟨rfl, Nq338, e338⟩ := hQ338
                have N338 := l338 N337 Nq338
                refine kS (W := 0) (C := 4) (S := 17) X338 hx hZ hown (wd hw 46 rfl) (wd hw 47 rfl) (wd hw 28 rfl) (wd hw 48 rfl) (rmMX l Z a0 hw [] (mxL y1 y2) (mxL y3 y4) T330.heap n0) pd_5 (hb hby at_373) e338 hml (by exact ⟨rfl, rfl, rfl, rfl⟩) (by decide) fun v339 T339 L339 Lc339 X339 hQ339 l339 => ?_
                obtain ⟨rfl, Nq339, e339⟩ := hQ339
                have N339 := l339 N338 Nq339
                refine gM X339 hx #[vi i0, vi i1, vi i2, vi i3, vi i4, vi i5, vi (Int32.ofNat 4), vi (Int32.ofNat 5), vi b8, vr v9, vr m1, .val (.double (FP.ddiv (FP.l2d (u1 + u2)) 4611686018427387904)), .second, vi (4 : Int32), vi (1 : Int32), .val (.long y1), .second, .val (.long y2), .second, .val (.long y3), .second, .val (.long y4), .second, uu, uu, .val (.long (mxL (mxL y1 y2) (mxL y3 y4))), .second, uu, uu, uu, uu] (hb hby at_376) rfl ?_
                refine gL X339 hx (hb hby at_378) rfl ?_
                refine gL X339 hx (hb hby at_380) rfl ?_
                refine kS (W := 0) (C := 4) (S := 17) X339 hx hZ hown (wd hw 43 rfl) (wd hw 44 rfl) (wd hw 28 rfl) (wd hw 45 rfl) (rmMN l Z a0 hw [] y1 y2 T330.heap n0) pd_5 (hb hby at_382) e339 hml (by exact ⟨rfl, rfl, rfl, rfl⟩) (by decide) fun v340 T340 L340 Lc340 X340 hQ340 l340 => ?_
                obtain ⟨rfl, Nq340, e340⟩ := hQ340
                have N340 := l340 N339 Nq340
                refine gL X340 hx (hb hby at_385) rfl ?_
                refine gL X340 hx (hb hby at_387) rfl ?_
                refine kS (W := 2) (C := 4) (S := 17) X340 hx hZ hown (wd hw 43 rfl) (wd hw 44 rfl) (wd hw 28 rfl) (wd hw 45 rfl) (rmMN l Z a0 hw [] y3 y4 T330.heap n0) pd_5 (hb hby at_389) e340 hml (by exact ⟨rfl, rfl, rfl, rfl⟩) (by decide) fun v341 T341 L341 Lc341 X341 hQ341 l341 => ?_
                obtain ⟨rfl, Nq341, e341⟩ := hQ341
                have N341 := l341 N340 Nq341
                refine kS (W := 0) (C := 4) (S := 17) X341 hx hZ hown (wd hw 43 rfl) (wd hw 44 rfl) (wd hw 28 rfl) (wd hw 45 rfl) (rmMN l Z a0 hw [] (mnL y1 y2) (mnL y3 y4) T330.heap n0) pd_5 (hb hby at_392) e341 hml (by exact ⟨rfl, rfl, rfl, rfl⟩) (by decide) fun v342 T342 L342 Lc342 X342 hQ342 l342 => ?_
                obtain ⟨rfl, Nq342, e342⟩ := hQ342
                have N342 := l342 N341 Nq342
                refine gM X342 hx #[vi i0, vi i1, vi i2, vi i3, vi i4, vi i5, vi (Int32.ofNat 4), vi (Int32.ofNat 5), vi b8, vr v9, vr m1, .val (.double (FP.ddiv (FP.l2d (u1 + u2)) 4611686018427387904)), .second, vi (4 : Int32), vi (1 : Int32), .val (.long y1), .second, .val (.long y2), .second, .val (.long y3), .second, .val (.long y4), .second, uu, uu, .val (.long (mxL (mxL y1 y2) (mxL y3 y4))), .second, .val (.long (mnL (mnL y1 y2) (mnL y3 y4))), .second, uu, uu] (hb hby at_395) rfl ?_
                refine gL X342 hx (hb hby at_397) rfl ?_
                refine gL X342 hx (hb hby at_399) rfl ?_
                refine gq (XS.ladd X342.here hx rfl (hb hby at_401) rfl) rfl ?_
                refine gL X342 hx (hb hby at_402) rfl ?_
                refine gq (XS.ladd X342.here hx rfl (hb hby at_404) rfl) rfl ?_
                refine gL X342 hx (hb hby at_405) rfl ?_
                refine gq (XS.ladd X342.here hx rfl (hb hby at_407) rfl) rfl ?_
                refine gL X342 hx (hb hby at_408) rfl ?_
                refine gq (XS.lsub X342.here hx rfl (hb hby at_410) rfl) rfl ?_
                refine gL X342 hx (hb hby at_411) rfl ?_
                refine gq (XS.lsub X342.here hx rfl (hb hby at_413) rfl) rfl ?_
                refine gM X342 hx #[vi i0, vi i1, vi i2, vi i3, vi i4, vi i5, vi (Int32.ofNat 4), vi (Int32.ofNat 5), vi b8, vr v9, vr m1, .val (.double (FP.ddiv (FP.l2d (u1 + u2)) 4611686018427387904)), .second, vi (4 : Int32), vi (1 : Int32), .val (.long y1), .second, .val (.long y2), .second, .val (.long y3), .second, .val (.long y4), .second, uu, uu, .val (.long (mxL (mxL y1 y2) (mxL y3 y4))), .second, .val (.long (mnL (mnL y1 y2) (mnL y3 y4))), .second, .val (.long (((((y1 + y2) + y3) + y4) - (mxL (mxL y1 y2) (mxL y3 y4))) - (mnL (mnL y1 y2) (mnL y3 y4)))), .second] (hb hby at_414) rfl ?_
                refine gL X342 hx (hb hby at_416) rfl ?_
                show Go p e below _ (T342.setTop (mkF m 418 #[vi i0, vi i1, vi i2, vi i3, vi i4, vi i5, vi (Int32.ofNat 4), vi (Int32.ofNat 5), vi b8, vr v9, vr m1, .val (.double (FP.ddiv (FP.l2d (u1 + u2)) 4611686018427387904)), .second, vi (4 : Int32), vi (1 : Int32), .val (.long y1), .second, .val (.long y2), .second, .val (.long y3), .second, .val (.long y4), .second, uu, uu, .val (.long (mxL (mxL y1 y2) (mxL y3 y4))), .second, .val (.long (mnL (mnL y1 y2) (mnL y3 y4))), .second, .val (.long (((((y1 + y2) + y3) + y4) - (mxL (mxL y1 y2) (mxL y3 y4))) - (mnL (mnL y1 y2) (mnL y3 y4)))), .second] [(.long (((((y1 + y2) + y3) + y4) - (mxL (mxL y1 y2) (mxL y3 y4))) - (mnL (mnL y1 y2) (mnL y3 y4))))]))
                refine gq (XS.l2dS X342.here hx rfl (hb hby at_418) rfl rfl) rfl ?_
                refine Go.by (fun t => X342.ldc2DoubleC hx hown (mvT hZ (wd hw 42 rfl)) (g := (mkF m 419 #[vi i0, vi i1, vi i2, vi i3, vi i4, vi i5, vi (Int32.ofNat 4), vi (Int32.ofNat 5), vi b8, vr v9, vr m1, .val (.double (FP.ddiv (FP.l2d (u1 + u2)) 4611686018427387904)), .second, vi (4 : Int32), vi (1 : Int32), .val (.long y1), .second, .val (.long y2), .second, .val (.long y3), .second, .val (.long y4), .second, uu, uu, .val (.long (mxL (mxL y1 y2) (mxL y3 y4))), .second, .val (.long (mnL (mnL y1 y2) (mnL y3 y4))), .second, .val (.long (((((y1 + y2) + y3) + y4) - (mxL (mxL y1 y2) (mxL y3 y4))) - (mnL (mnL y1 y2) (mnL y3 y4)))), .second] [(.double (FP.l2d (((((y1 + y2) + y3) + y4) - (mxL (mxL y1 y2) (mxL y3 y4))) - (mnL (mnL y1 y2) (mnL y3 y4)))))])) rfl (hb hby at_419) t) ?_
                show Go p e below _ (T342.setTop (mkF m 422 #[vi i0, vi i1, vi i2, vi i3, vi i4, vi i5, vi (Int32.ofNat 4), vi (Int32.ofNat 5), vi b8, vr v9, vr m1, .val (.double (FP.ddiv (FP.l2d (u1 + u2)) 4611686018427387904)), .second, vi (4 : Int32), vi (1 : Int32), .val (.long y1), .second, .val (.long y2), .second, .val (.long y3), .second, .val (.long y4), .second, uu, uu, .val (.long (mxL (mxL y1 y2) (mxL y3 y4))), .second, .val (.long (mnL (mnL y1 y2) (mnL y3 y4))), .second, .val (.long (((((y1 + y2) + y3) + y4) - (mxL (mxL y1 y2) (mxL y3 y4))) - (mnL (mnL y1 y2) (mnL y3 y4)))), .second] [(.double (4611686018427387904 : UInt64)), (.double (FP.l2d (((((y1 + y2) + y3) + y4) - (mxL (mxL y1 y2) (mxL y3 y4))) - (mnL (mnL y1 y2) (mnL y3 y4)))))]))
                refine gq (XS.ddivS X342.here hx rfl (hb hby at_422) rfl nn_div rfl) rfl ?_
                refine gE X342 hx #[vi i0, vi i1, vi i2, vi i3, vi i4, vi i5, vi (Int32.ofNat 4), vi (Int32.ofNat 5), vi b8, vr v9, vr m1, .val (.double (FP.ddiv (FP.l2d (u1 + u2)) 4611686018427387904)), .second, vi (4 : Int32), vi (1 : Int32), .val (.long y1), .second, .val (.long y2), .second, .val (.long y3), .second, .val (.long y4), .second, .val (.double (FP.ddiv (FP.l2d (((((y1 + y2) + y3) + y4) - (mxL (mxL y1 y2) (mxL y3 y4))) - (mnL (mnL y1 y2) (mnL y3 y4)))) (4611686018427387904 : UInt64))), .second, .val (.long (mxL (mxL y1 y2) (mxL y3 y4))), .second, .val (.long (mnL (mnL y1 y2) (mnL y3 y4))), .second, .val (.long (((((y1 + y2) + y3) + y4) - (mxL (mxL y1 y2) (mxL y3 y4))) - (mnL (mnL y1 y2) (mnL y3 y4)))), .second] (hb hby at_423) rfl ?_
                refine gD X342 hx (hb hby at_425) rfl ?_
                refine gD X342 hx (hb hby at_427) rfl ?_
                refine gq (XS.dcmpS X342.here hx rfl (hb hby at_429) rfl rfl) rfl ?_
                show Go p e below _ (T342.setTop (mkF m 430 #[vi i0, vi i1, vi i2, vi i3, vi i4, vi i5, vi (Int32.ofNat 4), vi (Int32.ofNat 5), vi b8, vr v9, vr m1, .val (.double (FP.ddiv (FP.l2d (u1 + u2)) 4611686018427387904)), .second, vi (4 : Int32), vi (1 : Int32), .val (.long y1), .second, .val (.long y2), .second, .val (.long y3), .second, .val (.long y4), .second, .val (.double (FP.ddiv (FP.l2d (((((y1 + y2) + y3) + y4) - (mxL (mxL y1 y2) (mxL y3 y4))) - (mnL (mnL y1 y2) (mnL y3 y4)))) (4611686018427387904 : UInt64))), .second, .val (.long (mxL (mxL y1 y2) (mxL y3 y4))), .second, .val (.long (mnL (mnL y1 y2) (mnL y3 y4))), .second, .val (.long (((((y1 + y2) + y3) + y4) - (mxL (mxL y1 y2) (mxL y3 y4))) - (mnL (mnL y1 y2) (mnL y3 y4)))), .second] [(.int (cmpValue (FP.dcmp (FP.ddiv (FP.l2d (u1 + u2)) 4611686018427387904) (FP.ddiv (FP.l2d (((((y1 + y2) + y3) + y4) - (mxL (mxL y1 y2) (mxL y3 y4))) - (mnL (mnL y1 y2) (mnL y3 y4)))) (4611686018427387904 : UInt64))) .l))]))
                rw [show (cmpValue (FP.dcmp (FP.ddiv (FP.l2d (u1 + u2)) 4611686018427387904) (FP.ddiv (FP.l2d (((((y1 + y2) + y3) + y4) - (mxL (mxL y1 y2) (mxL y3 y4))) - (mnL (mnL y1 y2) (mnL y3 y4)))) (4611686018427387904 : UInt64))) .l) = 0 from eq0 (by rw [med4 pm5 so5 (bA u0 (List.mem_of_getElem? (i := 0) rfl)) (bA u1 (List.mem_of_getElem? (i := 1) rfl)) (bA u2 (List.mem_of_getElem? (i := 2) rfl)) (bA u3 (List.mem_of_getElem? (i := 3) rfl)) q1 q2 q3 q4]) nn_div]
                refine zN X342 hx (hb hby at_430) ((if0 _ _).trans (teq (rfl : (0 : Int32) = (0 : Int32))).2) ?_
                refine gk X342 hx 1 (hb hby at_433) rfl ?_
                refine gg X342 hx 438 (hb hby at_434) (by decide) ?_
                exact Go.ret1 X342 hx Bd.returns Bd.notSynchronized (by first | rfl | decide) (Or.inl ⟨rfl, by simp, _, rfl⟩) (hb hby at_438) (by decide) (by decide) (by first | (rw [e342]; exact ⟨rfl, N342⟩) | exact ⟨rfl, N342⟩)
  · by_cases h32 : (i0 &&& (32 : Int32)) = 0
    ·
      refine zY X0 hx 29 (hb hby at_22) ((if0 _ _).trans (teq h32).1) (by decide) ?_
      refine gk X0 hx 0 (hb hby at_29) rfl ?_
      exact tail 0 trivial
    ·
      refine zN X0 hx (hb hby at_22) ((if0 _ _).trans (feq h32).1) ?_
      refine gk X0 hx 1 (hb hby at_25) rfl ?_
      refine gg X0 hx 30 (hb hby at_26) (by decide) ?_
      exact tail 1 trivial
set_option maxRecDepth 65536 in
set_option maxHeartbeats 40000000 in
theorem comes_1 {Post : Tables → Env → Array Value → State → Outcome → State → Prop} (hpost : ∀ tb e args s v u, (limb_1_1.after args s (.returned v) u = true ∧ limb_1_2.after args s (.returned v) u = true ∧ True) → FrameEnd s (.returned v) u (Jvm.fieldLocs frame_1_writes args s ++ Jvm.arrayLocs frame_1_arrays args s ++ Jvm.staticLocs frame_1_statics s) 16 128 → Post tb e args s (.returned v) u) :
    ArmFor flags0 classFile x code maxLocals ret World_1 tables_1 room_1 Calls_1 rest_1 Pre_1 Post := by
  intro l hfl _ _ p e ha hc hk s m args below hf hA hF happ hP
  obtain ⟨hcalls, hrest, hpre⟩ := hP
  obtain ⟨-, -, -, hnamed, -, -, -, hat⟩ := (Spec.applies_iff hf).mp happ
  obtain ⟨hg, hn⟩ := and_e (Cond.before_iff.mp (show (Jvm.Cond.and given_1 narrow_1).before args s = true from hpre))
  obtain ⟨hcount, hgs⟩ := and_e hg
  obtain ⟨w0, w1, w2, w3, w4, w5, rfl⟩ : ∃ w0 w1 w2 w3 w4 w5 : Value, args = #[w0, w1, w2, w3, w4, w5] := by
    have hs : args.size = 6 := by simpa [Cond.value, given_1] using hcount
    obtain ⟨L⟩ := args
    match L, hs with
    | [w0, w1, w2, w3, w4, w5], _ => exact ⟨w0, w1, w2, w3, w4, w5, rfl⟩
  have hw := fun d (hd : d ∈ tables_1) => atoms_spec (ws := Jvm.Cond.code x code maxLocals ret :: tables_1) hat d (List.mem_cons_of_mem _ hd)
  have hfit : Fit s := fun {y c} hc i hi => by
    obtain ⟨ha, rfl⟩ := Array.getElem?_eq_some_iff.mp hc
    have q := List.all_eq_true.mp ((Array.all_eq_true_iff_forall_mem.mp hF) _ (Array.getElem_mem ha)) i (List.mem_range.mpr hi)
    simpa [Array.getElem?_eq_getElem hi] using q
  obtain ⟨ga0, gb0⟩ := and_e hgs
  obtain ⟨i0, ei0⟩ := is_v ga0
  obtain rfl : w0 = (.int i0) := Option.some.inj ei0
  obtain ⟨ga1, gb1⟩ := and_e gb0
  obtain ⟨i1, ei1⟩ := is_v ga1
  obtain rfl : w1 = (.int i1) := Option.some.inj ei1
  obtain ⟨ga2, gb2⟩ := and_e gb1
  obtain ⟨i2, ei2⟩ := is_v ga2
  obtain rfl : w2 = (.int i2) := Option.some.inj ei2
  obtain ⟨ga3, gb3⟩ := and_e gb2
  obtain ⟨i3, ei3⟩ := is_v ga3
  obtain rfl : w3 = (.int i3) := Option.some.inj ei3
  obtain ⟨ga4, gb4⟩ := and_e gb3
  obtain ⟨i4, ei4⟩ := is_v ga4
  obtain rfl : w4 = (.int i4) := Option.some.inj ei4
  obtain ⟨i5, ei5⟩ := is_v gb4
  obtain rfl : w5 = (.int i5) := Option.some.inj ei5
  obtain ⟨ca, hca, ecap⟩ := cap_ex i0
  obtain ⟨nn, hnn, enn⟩ := cnt_ex ((i0.toUInt32 >>> ((2 : Int32) &&& 31).toUInt32).toInt32)
  obtain ⟨n, o, h1, h2, h3, _, L, rfl, ⟨rfl, N⟩, hq⟩ := rm0 l s _ hw tables_1 i0 i1 i2 i3 i4 i5 ca nn s.heap s.heap.size (Nat.le_refl _) hca ecap hnn enn p e ha hc hk s m _ below hf ((Spec.applies_iff_loose hf).mp happ).1 ⟨rfl, State.Warmed39.refl s, rfl⟩ trivial
  refine ⟨n, _, h1, h2, h3, hpost _ _ _ _ _ _ ⟨Cond.after_iff.mpr rfl, Cond.after_iff.mpr (eq_i res_at (Term.int_eval (1)) rfl), trivial⟩ ⟨hq.1, hq.2.1, (hq.2.2.sift fun y hy => Or.inr (N y hy)).mono (by decide) (by decide)⟩⟩
theorem main_1_1 : Claimed_1_1 := comes_1 fun _ _ _ _ _ _ h hF => ⟨h.1, hF⟩
theorem main_1_2 : Claimed_1_2 := comes_1 fun _ _ _ _ _ _ h hF => ⟨h.2.1, hF⟩
end Jvm.Pilot.@@N@@
namespace Jvm.Pilot.@@N@@
open Jvm Jvm.ClassFile Sem Op Lib Jvm.Free Jvm.Stand Jvm.Pilot.@@N@@.Jvm.D
/-! MADE BY PROGRAM (witnessworld.py) out of the Statement's table words and the real class files: 15 classes; the members and pool entries that the words name. The judged class is class 1, her method 1. -/
namespace start1
open Jvm.ClassFile
def u (s : String) : CpInfo := .utf8 (stringToUtf16 s)
/-- a pool by its gaps: so many unusable entries, then the entry; so many at the end -/
def gap : Nat → List CpInfo → List CpInfo
  | 0, r => r
  | n + 1, r => .unusable :: gap n r
def poolList (es : List (Nat × CpInfo)) (last : Nat) : List CpInfo := es.foldr (fun e r => gap e.1 (e.2 :: r)) (gap last [])
def pool (es : List (Nat × CpInfo)) (last : Nat) : Array CpInfo := ⟨poolList es last⟩
def fileOf (pool : Array CpInfo) (this : Nat) (attrs : Array Attribute := #[]) (ms : Array MethodInfo := #[]) (fl : Nat := 33) (sup : Nat := 0) (ifs : Array Nat := #[]) (fds : Array FieldInfo := #[]) : ClassFile where
  minorVersion := 0
  majorVersion := 65
  constantPool := pool
  accessFlags := fl
  thisClass := this
  superClass := sup
  interfaces := ifs
  fields := fds
  methods := ms
  attributes := attrs
def plain (name : String) (sup : Option ClassId) : Class where
  name := name
  kind := .ordinary
  loader := none
  accessFlags := 33
  super := sup
  interfaces := #[]
  cf := none
  fields := #[]
  methods := #[]
  instanceTypes := #[]
  staticTypes := #[]
  resolved := #[]
  callSites := []
  init := .initialized
  statics := none
  mirror := none

def pool0 : Array CpInfo := pool [(5, u "<init>"), (0, u "()V"), (1, .class_ 10), (1, u "java/lang/Object")] 113

def k0c0 : Code := { maxStack := 0, maxLocals := 1, code := object_method_1_code, exceptionTable := #[], attributes := #[] }
def k0m0 : Method := { name := "<init>", desc := "()V", sig := { parameters := [], returnType := none }, accessFlags := 1, code := some k0c0 }
/-- java/lang/Object -/
def k0 : Class := { plain "java/lang/Object" none with
  accessFlags := 33
  interfaces := #[]
  cf := some (fileOf pool0 8 #[] #[{ accessFlags := 1, nameIndex := 5, descriptorIndex := 6, attributes := #[] }] 33 0 #[] #[])
  fields := #[]
  methods := #[k0m0]
  instanceTypes := #[]
  staticTypes := #[]
  resolved := Array.replicate 124 none
  statics := none }

def pool1 : Array CpInfo := pool [(2, .class_ 4), (1, u "java/lang/Object"), (0, u "<init>"), (0, u "()V"), (0, .methodref 8 9), (0, .class_ 10), (0, .nameAndType 11 12), (0, u "com/example/oneiros/oneiros/SlidingMedianGetPinLaw"), (0, u "pick"), (0, u "(ZI)J"), (0, .class_ 14), (0, u "com/example/oneiros/oneiros/SlidingMedian"), (0, .methodref 13 16), (0, .nameAndType 5 17), (0, u "(I)V"), (0, .methodref 13 19), (0, .nameAndType 20 21), (0, u "add"), (0, u "(D)V"), (0, .methodref 13 23), (0, .nameAndType 24 25), (0, u "get"), (0, u "()D"), (0, .methodref 27 28), (0, .class_ 29), (0, .nameAndType 30 31), (0, u "java/lang/Math"), (0, u "min"), (0, u "(II)I"), (0, .double 4611686018427387904), (1, .methodref 27 35), (0, .nameAndType 30 36), (0, u "(JJ)J"), (0, .methodref 27 38), (0, .nameAndType 39 36), (0, u "max"), (2, u "law"), (0, u "(IIIIII)Z")] 5

def k1m0 : Method := { name := "<init>", desc := "()V", sig := { parameters := [], returnType := none }, accessFlags := 1, code := none }
def k1c1 : Code := { maxStack := 6, maxLocals := 31, code := code, exceptionTable := #[], attributes := #[] }
def k1m1 : Method := { name := "law", desc := "(IIIIII)Z", sig := { parameters := [.int, .int, .int, .int, .int, .int], returnType := some .boolean }, accessFlags := 9, code := some k1c1 }
def k1c2 : Code := { maxStack := 2, maxLocals := 2, code := method_3_code, exceptionTable := #[], attributes := #[] }
def k1m2 : Method := { name := "pick", desc := "(ZI)J", sig := { parameters := [.boolean, .int], returnType := some .long }, accessFlags := 10, code := some k1c2 }
/-- com/example/oneiros/oneiros/SlidingMedianGetPinLaw -/
def k1 : Class := { plain "com/example/oneiros/oneiros/SlidingMedianGetPinLaw" (some 0) with
  accessFlags := 49
  interfaces := #[]
  cf := some (fileOf pool1 8 #[] #[{ accessFlags := 1, nameIndex := 5, descriptorIndex := 6, attributes := #[] }, { accessFlags := 9, nameIndex := 42, descriptorIndex := 43, attributes := #[] }, { accessFlags := 10, nameIndex := 11, descriptorIndex := 12, attributes := #[] }] 49 2 #[] #[])
  fields := #[]
  methods := #[k1m0, k1m1, k1m2]
  instanceTypes := #[]
  staticTypes := #[]
  resolved := Array.replicate 49 none
  statics := none }

def pool2 : Array CpInfo := pool [(1, .methodref 2 3), (0, .class_ 4), (0, .nameAndType 5 6), (0, u "java/lang/Object"), (0, u "<init>"), (0, u "()V"), (0, .fieldref 8 9), (0, .class_ 10), (0, .nameAndType 11 12), (0, u "com/example/oneiros/oneiros/SlidingMedian"), (0, u "arrived"), (0, u "[D"), (0, .fieldref 8 14), (0, .nameAndType 15 12), (0, u "sorted"), (0, .fieldref 8 17), (0, .nameAndType 18 19), (0, u "held"), (0, u "I"), (0, .double 4611686018427387904), (1, .fieldref 8 23), (0, .nameAndType 24 19), (0, u "next"), (0, .methodref 26 27), (0, .class_ 28), (0, .nameAndType 29 30), (0, u "java/lang/System"), (0, u "arraycopy"), (0, u "(Ljava/lang/Object;ILjava/lang/Object;II)V"), (0, u "(I)V"), (2, u "get"), (0, u "()D"), (1, u "add"), (0, u "(D)V")] 2

def k2c0 : Code := { maxStack := 2, maxLocals := 2, code := prog_27_method_1_code, exceptionTable := #[], attributes := #[] }
def k2m0 : Method := { name := "<init>", desc := "(I)V", sig := { parameters := [.int], returnType := none }, accessFlags := 0, code := some k2c0 }
def k2c1 : Code := { maxStack := 5, maxLocals := 3, code := prog_27_method_2_code, exceptionTable := #[], attributes := #[] }
def k2m1 : Method := { name := "get", desc := "()D", sig := { parameters := [], returnType := some .double }, accessFlags := 0, code := some k2c1 }
def k2c2 : Code := { maxStack := 6, maxLocals := 5, code := prog_27_method_3_code, exceptionTable := #[], attributes := #[] }
def k2m2 : Method := { name := "add", desc := "(D)V", sig := { parameters := [.double], returnType := none }, accessFlags := 0, code := some k2c2 }
/-- com/example/oneiros/oneiros/SlidingMedian -/
def k2 : Class := { plain "com/example/oneiros/oneiros/SlidingMedian" (some 0) with
  accessFlags := 48
  interfaces := #[]
  cf := some (fileOf pool2 8 #[] #[{ accessFlags := 0, nameIndex := 5, descriptorIndex := 31, attributes := #[] }, { accessFlags := 0, nameIndex := 34, descriptorIndex := 35, attributes := #[] }, { accessFlags := 0, nameIndex := 37, descriptorIndex := 38, attributes := #[] }] 48 2 #[] #[{ accessFlags := 18, nameIndex := 11, descriptorIndex := 12, attributes := #[] }, { accessFlags := 18, nameIndex := 15, descriptorIndex := 12, attributes := #[] }, { accessFlags := 2, nameIndex := 18, descriptorIndex := 19, attributes := #[] }, { accessFlags := 2, nameIndex := 24, descriptorIndex := 19, attributes := #[] }])
  fields := #[{ name := "arrived", type := (.array .double), accessFlags := 18, slot := 0, constantValue := 0 }, { name := "sorted", type := (.array .double), accessFlags := 18, slot := 1, constantValue := 0 }, { name := "held", type := .int, accessFlags := 2, slot := 2, constantValue := 0 }, { name := "next", type := .int, accessFlags := 2, slot := 3, constantValue := 0 }]
  methods := #[k2m0, k2m1, k2m2]
  instanceTypes := #[(.array .double), (.array .double), .int, .int]
  staticTypes := #[]
  resolved := Array.replicate 41 none
  statics := none }

def pool3 : Array CpInfo := pool [(1, .class_ 2), (0, u "java/lang/Math"), (1, .class_ 6), (1, u "java/lang/Object"), (0, u "<init>"), (0, u "()V"), (89, .class_ 100), (1, u "java/lang/Math$RandomNumberGeneratorHolder"), (20, u "(JJ)J"), (50, u "negativeZeroFloatBits"), (0, u "J"), (2, u "negativeZeroDoubleBits"), (21, u "max"), (2, u "min"), (43, u "$assertionsDisabled"), (0, u "Z"), (88, u "(II)I"), (2, u "twoToTheDoubleScaleDown"), (0, u "D"), (4, u "twoToTheDoubleScaleUp"), (9, u "E"), (3, u "PI"), (2, u "TAU"), (2, u "DEGREES_TO_RADIANS"), (0, u "RADIANS_TO_DEGREES")] 94

def k3m0 : Method := { name := "<init>", desc := "()V", sig := { parameters := [], returnType := none }, accessFlags := 2, code := none }
def k3c1 : Code := { maxStack := 4, maxLocals := 4, code := jdk_29_method_66_code, exceptionTable := #[], attributes := #[] }
def k3m1 : Method := { name := "max", desc := "(JJ)J", sig := { parameters := [.long, .long], returnType := some .long }, accessFlags := 9, code := some k3c1 }
def k3c2 : Code := { maxStack := 2, maxLocals := 2, code := jdk_29_method_69_code, exceptionTable := #[], attributes := #[] }
def k3m2 : Method := { name := "min", desc := "(II)I", sig := { parameters := [.int, .int], returnType := some .int }, accessFlags := 9, code := some k3c2 }
def k3c3 : Code := { maxStack := 4, maxLocals := 4, code := jdk_29_method_70_code, exceptionTable := #[], attributes := #[] }
def k3m3 : Method := { name := "min", desc := "(JJ)J", sig := { parameters := [.long, .long], returnType := some .long }, accessFlags := 9, code := some k3c3 }
/-- java/lang/Math -/
def k3 : Class := { plain "java/lang/Math" (some 0) with
  accessFlags := 49
  interfaces := #[]
  cf := some (fileOf pool3 1 #[.nestMembers #[98]] #[{ accessFlags := 2, nameIndex := 7, descriptorIndex := 8, attributes := #[] }, { accessFlags := 9, nameIndex := 198, descriptorIndex := 121, attributes := #[] }, { accessFlags := 9, nameIndex := 201, descriptorIndex := 335, attributes := #[] }, { accessFlags := 9, nameIndex := 201, descriptorIndex := 121, attributes := #[] }] 49 4 #[] #[{ accessFlags := 25, nameIndex := 354, descriptorIndex := 339, attributes := #[] }, { accessFlags := 25, nameIndex := 358, descriptorIndex := 339, attributes := #[] }, { accessFlags := 25, nameIndex := 361, descriptorIndex := 339, attributes := #[] }, { accessFlags := 26, nameIndex := 364, descriptorIndex := 339, attributes := #[] }, { accessFlags := 26, nameIndex := 365, descriptorIndex := 339, attributes := #[] }, { accessFlags := 26, nameIndex := 172, descriptorIndex := 173, attributes := #[] }, { accessFlags := 26, nameIndex := 176, descriptorIndex := 173, attributes := #[] }, { accessFlags := 8, nameIndex := 344, descriptorIndex := 339, attributes := #[] }, { accessFlags := 8, nameIndex := 338, descriptorIndex := 339, attributes := #[] }, { accessFlags := 4120, nameIndex := 245, descriptorIndex := 246, attributes := #[] }])
  fields := #[{ name := "E", type := .double, accessFlags := 25, slot := 0, constantValue := 0 }, { name := "PI", type := .double, accessFlags := 25, slot := 1, constantValue := 0 }, { name := "TAU", type := .double, accessFlags := 25, slot := 2, constantValue := 0 }, { name := "DEGREES_TO_RADIANS", type := .double, accessFlags := 26, slot := 3, constantValue := 0 }, { name := "RADIANS_TO_DEGREES", type := .double, accessFlags := 26, slot := 4, constantValue := 0 }, { name := "negativeZeroFloatBits", type := .long, accessFlags := 26, slot := 5, constantValue := 0 }, { name := "negativeZeroDoubleBits", type := .long, accessFlags := 26, slot := 6, constantValue := 0 }, { name := "twoToTheDoubleScaleUp", type := .double, accessFlags := 8, slot := 7, constantValue := 0 }, { name := "twoToTheDoubleScaleDown", type := .double, accessFlags := 8, slot := 8, constantValue := 0 }, { name := "$assertionsDisabled", type := .boolean, accessFlags := 4120, slot := 9, constantValue := 0 }]
  methods := #[k3m0, k3m1, k3m2, k3m3]
  instanceTypes := #[]
  staticTypes := #[.double, .double, .double, .double, .double, .long, .long, .double, .double, .boolean]
  resolved := Array.replicate 460 none
  statics := none }

def pool4 : Array CpInfo := pool [(2, .class_ 4), (1, u "java/lang/Object"), (0, u "<init>"), (0, u "()V"), (1, .class_ 10), (1, u "java/lang/System"), (0, u "allowSecurityManager"), (0, u "I"), (16, u "cons"), (0, u "Ljava/io/Console;"), (77, .class_ 110), (1, u "java/lang/System$CallersHolder"), (43, u "initialErrStream"), (0, u "Ljava/io/PrintStream;"), (19, u "security"), (0, u "Ljava/lang/SecurityManager;"), (31, .class_ 209), (0, u "java/lang/System$1"), (7, u "props"), (0, u "Ljava/util/Properties;"), (2, u "lineSeparator"), (0, u "Ljava/lang/String;"), (96, .class_ 321), (1, u "java/lang/System$LoggerFinder"), (5, .class_ 328), (0, u "java/lang/System$Logger"), (67, u "err"), (2, u "out"), (91, u "notSupportedJnuEncoding"), (15, u "in"), (17, u "initialIn"), (0, u "Ljava/io/InputStream;"), (35, u "bootLayer"), (0, u "Ljava/lang/ModuleLayer;"), (99, .class_ 664), (0, u "java/lang/System$2"), (9, u "NEVER"), (2, u "MAYBE"), (49, u "arraycopy"), (0, u "(Ljava/lang/Object;ILjava/lang/Object;II)V"), (72, .class_ 802), (0, u "java/lang/System$Logger$Level")] 31

def k4m0 : Method := { name := "<init>", desc := "()V", sig := { parameters := [], returnType := none }, accessFlags := 2, code := none }
def k4m1 : Method := { name := "arraycopy", desc := "(Ljava/lang/Object;ILjava/lang/Object;II)V", sig := { parameters := [(.object "java/lang/Object"), .int, (.object "java/lang/Object"), .int, .int], returnType := none }, accessFlags := 265, code := none }
/-- java/lang/System -/
def k4 : Class := { plain "java/lang/System" (some 0) with
  accessFlags := 49
  interfaces := #[]
  cf := some (fileOf pool4 8 #[.nestMembers #[319, 327, 801, 108, 663, 208]] #[{ accessFlags := 2, nameIndex := 5, descriptorIndex := 6, attributes := #[] }, { accessFlags := 265, nameIndex := 727, descriptorIndex := 728, attributes := #[] }] 49 2 #[] #[{ accessFlags := 25, nameIndex := 507, descriptorIndex := 526, attributes := #[] }, { accessFlags := 25, nameIndex := 399, descriptorIndex := 155, attributes := #[] }, { accessFlags := 25, nameIndex := 396, descriptorIndex := 155, attributes := #[] }, { accessFlags := 10, nameIndex := 525, descriptorIndex := 526, attributes := #[] }, { accessFlags := 26, nameIndex := 674, descriptorIndex := 12, attributes := #[] }, { accessFlags := 26, nameIndex := 677, descriptorIndex := 12, attributes := #[] }, { accessFlags := 10, nameIndex := 11, descriptorIndex := 12, attributes := #[] }, { accessFlags := 74, nameIndex := 175, descriptorIndex := 176, attributes := #[] }, { accessFlags := 10, nameIndex := 491, descriptorIndex := 222, attributes := #[] }, { accessFlags := 74, nameIndex := 29, descriptorIndex := 30, attributes := #[] }, { accessFlags := 74, nameIndex := 154, descriptorIndex := 155, attributes := #[] }, { accessFlags := 10, nameIndex := 217, descriptorIndex := 218, attributes := #[] }, { accessFlags := 10, nameIndex := 221, descriptorIndex := 222, attributes := #[] }, { accessFlags := 8, nameIndex := 562, descriptorIndex := 563, attributes := #[] }])
  fields := #[{ name := "in", type := (.object "java/io/InputStream"), accessFlags := 25, slot := 0, constantValue := 0 }, { name := "out", type := (.object "java/io/PrintStream"), accessFlags := 25, slot := 1, constantValue := 0 }, { name := "err", type := (.object "java/io/PrintStream"), accessFlags := 25, slot := 2, constantValue := 0 }, { name := "initialIn", type := (.object "java/io/InputStream"), accessFlags := 10, slot := 3, constantValue := 0 }, { name := "NEVER", type := .int, accessFlags := 26, slot := 4, constantValue := 0 }, { name := "MAYBE", type := .int, accessFlags := 26, slot := 5, constantValue := 0 }, { name := "allowSecurityManager", type := .int, accessFlags := 10, slot := 6, constantValue := 0 }, { name := "security", type := (.object "java/lang/SecurityManager"), accessFlags := 74, slot := 7, constantValue := 0 }, { name := "notSupportedJnuEncoding", type := (.object "java/lang/String"), accessFlags := 10, slot := 8, constantValue := 0 }, { name := "cons", type := (.object "java/io/Console"), accessFlags := 74, slot := 9, constantValue := 0 }, { name := "initialErrStream", type := (.object "java/io/PrintStream"), accessFlags := 74, slot := 10, constantValue := 0 }, { name := "props", type := (.object "java/util/Properties"), accessFlags := 10, slot := 11, constantValue := 0 }, { name := "lineSeparator", type := (.object "java/lang/String"), accessFlags := 10, slot := 12, constantValue := 0 }, { name := "bootLayer", type := (.object "java/lang/ModuleLayer"), accessFlags := 8, slot := 13, constantValue := 0 }]
  methods := #[k4m0, k4m1]
  instanceTypes := #[]
  staticTypes := #[(.object "java/io/InputStream"), (.object "java/io/PrintStream"), (.object "java/io/PrintStream"), (.object "java/io/InputStream"), .int, .int, .int, (.object "java/lang/SecurityManager"), (.object "java/lang/String"), (.object "java/io/Console"), (.object "java/io/PrintStream"), (.object "java/util/Properties"), (.object "java/lang/String"), (.object "java/lang/ModuleLayer")]
  resolved := Array.replicate 834 none
  statics := none }

def pool5 : Array CpInfo := pool [(1, u "java/lang/Cloneable"), (0, .class_ 1), (0, u "java/lang/Object"), (0, .class_ 3)] 3

/-- java/lang/Cloneable -/
def k5 : Class := { plain "java/lang/Cloneable" (some 0) with
  accessFlags := 1537
  interfaces := #[]
  cf := some (fileOf pool5 2 #[] #[] 1537 4 #[] #[])
  fields := #[]
  methods := #[]
  instanceTypes := #[]
  staticTypes := #[]
  resolved := Array.replicate 8 none
  statics := none }

def pool6 : Array CpInfo := pool [(1, u "java/io/Serializable"), (0, .class_ 1), (0, u "java/lang/Object"), (0, .class_ 3)] 3

/-- java/io/Serializable -/
def k6 : Class := { plain "java/io/Serializable" (some 0) with
  accessFlags := 1537
  interfaces := #[]
  cf := some (fileOf pool6 2 #[] #[] 1537 4 #[] #[])
  fields := #[]
  methods := #[]
  instanceTypes := #[]
  staticTypes := #[]
  resolved := Array.replicate 8 none
  statics := none }

/-- the primitive byte -/
def k7 : Class := { plain "byte" none with kind := .primitive 'B', accessFlags := 0x411 }
/-- [B -/
def k8 : Class := { plain "[B" (some 0) with kind := .array 7 .byte, interfaces := #[5, 6], accessFlags := 1041 }

/-- the primitive double -/
def k9 : Class := { plain "double" none with kind := .primitive 'D', accessFlags := 0x411 }
/-- [D -/
def k10 : Class := { plain "[D" (some 0) with kind := .array 9 .double, interfaces := #[5, 6], accessFlags := 1041 }

/-- the primitive int -/
def k11 : Class := { plain "int" none with kind := .primitive 'I', accessFlags := 0x411 }
/-- [I -/
def k12 : Class := { plain "[I" (some 0) with kind := .array 11 .int, interfaces := #[5, 6], accessFlags := 1041 }

/-- the primitive long -/
def k13 : Class := { plain "long" none with kind := .primitive 'J', accessFlags := 0x411 }
/-- [J -/
def k14 : Class := { plain "[J" (some 0) with kind := .array 13 .long, interfaces := #[5, 6], accessFlags := 1041 }

def heap : Heap := #[]
def classes : Array Class := #[k0, k1, k2, k3, k4, k5, k6, k7, k8, k9, k10, k11, k12, k13, k14]
def interned : List (Array UInt16 × Addr) := []
def slotsUsed : Nat := 0
def theMethod : MethodId := ⟨1, 1⟩
def args0 : Array Value := #[.int 5, .int 7, .int 2, .int 9, .int 4, .int 1]
def aboutOver (below : List Frame) : State where
  vm := { classes := classes, interned := interned.toArray }
  heap := heap
  slotsUsed := slotsUsed
  threads := #[{ frames := .invoking theMethod args0 :: below }]
def below0 : List Frame := [.native { method := ⟨0, 0⟩, args := #[] }]
def about1 : State := aboutOver below0
def p0 : Program := .bare "" "" ""
def e0 : Env := launch0.env 0 0 0
theorem w_frames : about1.frames = Frame.invoking theMethod args0 :: below0 := rfl
set_option maxRecDepth 65536 in
theorem w_args : argsFit about1.vm theMethod args0 = true := by decide +kernel
set_option maxRecDepth 65536 in
theorem w_heap : heapFits about1 = true := by decide +kernel
set_option maxRecDepth 65536 in
theorem w_runnable : about1.curStatus? = some .runnable := by decide +kernel
set_option maxRecDepth 65536 in
theorem w_alone : about1.alone = true := by decide +kernel
set_option maxRecDepth 65536 in
theorem w_named : about1.methodNamed? x = some theMethod := by decide +kernel
set_option maxRecDepth 65536 in
theorem w_hears : about1.hears theMethod below0 = true := by decide +kernel
set_option maxRecDepth 65536 in
theorem w_ripe : about1.ripe theMethod args0 below0 = true := by decide +kernel
theorem w_running : about1.status = .running := rfl
set_option maxRecDepth 65536 in
theorem w_room : about1.hasRoom e0.platform room_1 = true :=
  launch0.hasRoom_least _ room_1 (by decide +kernel) (by decide +kernel) (by decide +kernel) (by decide +kernel) (by decide +kernel) (by decide +kernel)
theorem allAtoms_all (ts : List Jvm.Cond) (a : Array Jvm.Value) (st : Jvm.State) : (allAtoms ts).before a st = ts.all (fun c => c.before a st) := by
  induction ts with
  | nil => rfl
  | cons c t ih =>
    show (Jvm.Cond.and c (allAtoms t)).before a st = _
    rw [Jvm.Cond.before_and, ih, List.all_cons]
def words1 : List Jvm.Cond := Jvm.Cond.code x code maxLocals ret :: tables_1
/-- a 'code' word, met by the world's own term for the bytes: nothing is compared byte by byte -/
theorem code_word {y : MethodName} {bytes : ByteArray} {mx : Nat} {rt : Option FieldType} {a : Array Value} {s : State} {m : MethodId} {meth : Method} {c : Code} (h1 : s.methodNamed? y = some m) (h2 : s.vm.method? m = some meth) (h3 : meth.code = some c) (h4 : c.code = bytes)
    (h5 : (c.maxLocals == mx && c.exceptionTable.isEmpty && decide (c.maxStack ≤ mostOperands) && decide (meth.sig.returnType = rt) && !meth.locks && decide (parseMethodDescriptor y.desc = some meth.sig)) = true) : (Jvm.Cond.code y bytes mx rt).before a s = true := by
  simp only [Bool.and_eq_true, beq_iff_eq, Bool.not_eq_true', decide_eq_true_eq] at h5
  obtain ⟨⟨⟨⟨⟨g1, g2⟩, g3⟩, g4⟩, g5⟩, g6⟩ := h5
  simp [Cond.before, Cond.holds, Cond.value, h1, h2, h3, h4, g1, g2, g3, g4, g5, g6]
def isCode : Jvm.Cond → Bool
  | .code _ _ _ _ => true
  | _ => false
theorem all_split {L : List Jvm.Cond} {P : Jvm.Cond → Bool} (h1 : L.all (fun c => isCode c || P c) = true) (h2 : ∀ c ∈ L.filter isCode, P c = true) : L.all P = true := by
  refine List.all_eq_true.mpr fun c hc => ?_
  have h := List.all_eq_true.mp h1 c hc
  rcases Bool.eq_false_or_eq_true (isCode c) with hi | hi
  · exact h2 c (List.mem_filter.mpr ⟨hc, hi⟩)
  · simpa [hi] using h
set_option maxRecDepth 65536 in
theorem w_c0 : (Jvm.Cond.code x code maxLocals ret).before args0 about1 = true := code_word (m := ⟨1, 1⟩) (meth := k1m1) (c := k1c1) (by decide +kernel) rfl rfl rfl (by decide +kernel)
set_option maxRecDepth 65536 in
theorem w_c1 : (Jvm.Cond.code ({ cls := "com/example/oneiros/oneiros/SlidingMedianGetPinLaw", name := "pick", desc := "(ZI)J" } : Jvm.MethodName) method_3_code (2 : Nat) (Option.some Jvm.ClassFile.FieldType.long)).before args0 about1 = true := code_word (m := ⟨1, 2⟩) (meth := k1m2) (c := k1c2) (by decide +kernel) rfl rfl rfl (by decide +kernel)
set_option maxRecDepth 65536 in
theorem w_c2 : (Jvm.Cond.code ({ cls := "com/example/oneiros/oneiros/SlidingMedian", name := "<init>", desc := "(I)V" } : Jvm.MethodName) prog_27_method_1_code (2 : Nat) (Option.none : Option Jvm.ClassFile.FieldType)).before args0 about1 = true := code_word (m := ⟨2, 0⟩) (meth := k2m0) (c := k2c0) (by decide +kernel) rfl rfl rfl (by decide +kernel)
set_option maxRecDepth 65536 in
theorem w_c3 : (Jvm.Cond.code ({ cls := "java/lang/Object", name := "<init>", desc := "()V" } : Jvm.MethodName) object_method_1_code (1 : Nat) (Option.none : Option Jvm.ClassFile.FieldType)).before args0 about1 = true := code_word (m := ⟨0, 0⟩) (meth := k0m0) (c := k0c0) (by decide +kernel) rfl rfl rfl (by decide +kernel)
set_option maxRecDepth 65536 in
theorem w_c4 : (Jvm.Cond.code ({ cls := "com/example/oneiros/oneiros/SlidingMedian", name := "get", desc := "()D" } : Jvm.MethodName) prog_27_method_2_code (3 : Nat) (Option.some Jvm.ClassFile.FieldType.double)).before args0 about1 = true := code_word (m := ⟨2, 1⟩) (meth := k2m1) (c := k2c1) (by decide +kernel) rfl rfl rfl (by decide +kernel)
set_option maxRecDepth 65536 in
theorem w_c5 : (Jvm.Cond.code ({ cls := "java/lang/Math", name := "min", desc := "(II)I" } : Jvm.MethodName) jdk_29_method_69_code (2 : Nat) (Option.some Jvm.ClassFile.FieldType.int)).before args0 about1 = true := code_word (m := ⟨3, 2⟩) (meth := k3m2) (c := k3c2) (by decide +kernel) rfl rfl rfl (by decide +kernel)
set_option maxRecDepth 65536 in
theorem w_c6 : (Jvm.Cond.code ({ cls := "com/example/oneiros/oneiros/SlidingMedian", name := "add", desc := "(D)V" } : Jvm.MethodName) prog_27_method_3_code (5 : Nat) (Option.none : Option Jvm.ClassFile.FieldType)).before args0 about1 = true := code_word (m := ⟨2, 2⟩) (meth := k2m2) (c := k2c2) (by decide +kernel) rfl rfl rfl (by decide +kernel)
set_option maxRecDepth 65536 in
theorem w_c7 : (Jvm.Cond.code ({ cls := "java/lang/Math", name := "min", desc := "(JJ)J" } : Jvm.MethodName) jdk_29_method_70_code (4 : Nat) (Option.some Jvm.ClassFile.FieldType.long)).before args0 about1 = true := code_word (m := ⟨3, 3⟩) (meth := k3m3) (c := k3c3) (by decide +kernel) rfl rfl rfl (by decide +kernel)
set_option maxRecDepth 65536 in
theorem w_c8 : (Jvm.Cond.code ({ cls := "java/lang/Math", name := "max", desc := "(JJ)J" } : Jvm.MethodName) jdk_29_method_66_code (4 : Nat) (Option.some Jvm.ClassFile.FieldType.long)).before args0 about1 = true := code_word (m := ⟨3, 1⟩) (meth := k3m1) (c := k3c1) (by decide +kernel) rfl rfl rfl (by decide +kernel)
def codes1 : List Jvm.Cond := [Jvm.Cond.code x code maxLocals ret, Jvm.Cond.code ({ cls := "com/example/oneiros/oneiros/SlidingMedianGetPinLaw", name := "pick", desc := "(ZI)J" } : Jvm.MethodName) method_3_code (2 : Nat) (Option.some Jvm.ClassFile.FieldType.long), Jvm.Cond.code ({ cls := "com/example/oneiros/oneiros/SlidingMedian", name := "<init>", desc := "(I)V" } : Jvm.MethodName) prog_27_method_1_code (2 : Nat) (Option.none : Option Jvm.ClassFile.FieldType), Jvm.Cond.code ({ cls := "java/lang/Object", name := "<init>", desc := "()V" } : Jvm.MethodName) object_method_1_code (1 : Nat) (Option.none : Option Jvm.ClassFile.FieldType), Jvm.Cond.code ({ cls := "com/example/oneiros/oneiros/SlidingMedian", name := "get", desc := "()D" } : Jvm.MethodName) prog_27_method_2_code (3 : Nat) (Option.some Jvm.ClassFile.FieldType.double), Jvm.Cond.code ({ cls := "java/lang/Math", name := "min", desc := "(II)I" } : Jvm.MethodName) jdk_29_method_69_code (2 : Nat) (Option.some Jvm.ClassFile.FieldType.int), Jvm.Cond.code ({ cls := "com/example/oneiros/oneiros/SlidingMedian", name := "add", desc := "(D)V" } : Jvm.MethodName) prog_27_method_3_code (5 : Nat) (Option.none : Option Jvm.ClassFile.FieldType), Jvm.Cond.code ({ cls := "java/lang/Math", name := "min", desc := "(JJ)J" } : Jvm.MethodName) jdk_29_method_70_code (4 : Nat) (Option.some Jvm.ClassFile.FieldType.long), Jvm.Cond.code ({ cls := "java/lang/Math", name := "max", desc := "(JJ)J" } : Jvm.MethodName) jdk_29_method_66_code (4 : Nat) (Option.some Jvm.ClassFile.FieldType.long)]
set_option maxRecDepth 65536 in
theorem codes_eq : words1.filter isCode = codes1 := rfl
theorem w_codes : ∀ c ∈ words1.filter isCode, c.before args0 about1 = true := by
  rw [codes_eq]
  intro c hc
  simp only [codes1, List.mem_cons, List.not_mem_nil, or_false] at hc
  rcases hc with rfl | rfl | rfl | rfl | rfl | rfl | rfl | rfl | rfl
  · exact w_c0
  · exact w_c1
  · exact w_c2
  · exact w_c3
  · exact w_c4
  · exact w_c5
  · exact w_c6
  · exact w_c7
  · exact w_c8
set_option maxRecDepth 65536 in
theorem w_t1 : (words1.take 24).all (fun c => isCode c || c.before args0 about1) = true := by decide +kernel
set_option maxRecDepth 65536 in
theorem w_t2 : ((words1.drop 24).take 24).all (fun c => isCode c || c.before args0 about1) = true := by decide +kernel
set_option maxRecDepth 65536 in
theorem w_t3 : ((words1.drop 24).drop 24).all (fun c => isCode c || c.before args0 about1) = true := by decide +kernel
theorem w_tables : (allAtoms (Jvm.Cond.code x code maxLocals ret :: tables_1)).before args0 about1 = true := by
  rw [allAtoms_all]
  show words1.all (fun c => c.before args0 about1) = true
  refine all_split ?_ w_codes
  rw [← List.take_append_drop 24 words1, List.all_append, w_t1, ← List.take_append_drop 24 (words1.drop 24), List.all_append, w_t2, w_t3]
  rfl
set_option maxRecDepth 65536 in
theorem w_case : (Jvm.Cond.and given_1 narrow_1).before args0 about1 = true := by decide +kernel
theorem w_applies : (headSpec (Jvm.Cond.code x code maxLocals ret :: tables_1) room_1).applies x e0.platform about1 = true :=
  (Spec.applies_iff w_frames).mpr ⟨w_running, w_runnable, w_alone, w_named, w_hears, w_ripe, w_room, w_tables⟩
theorem atStart : AtStart classFile x code maxLocals ret World_1 tables_1 room_1 Calls_1 rest_1 Pre_1 launch0 p0 e0 about1 theMethod args0 below0 :=
  ⟨lists_1, trivial, launch0.admits_env _ _ _, launch0.least_env, fairChoices_fair.cas, fairChoices_fair.clock, w_frames, w_args, w_heap, w_applies, trivial, trivial, w_case⟩
end start1
theorem witness_1 : WitnessClaimed_1 := ⟨start1.p0, start1.e0, start1.about1, start1.theMethod, start1.args0, start1.below0, start1.atStart⟩
end Jvm.Pilot.@@N@@
