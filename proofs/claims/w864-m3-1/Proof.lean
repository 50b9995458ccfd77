import JvmDerived
import JvmDerived.Pilot.@@N@@Statement
import JvmDerived.Pilot.@@N@@Code
set_option linter.unusedVariables false
set_option linter.unusedSimpArgs false

namespace Jvm.Pilot.@@N@@
open Jvm Jvm.ClassFile Sem Op Lib Jvm.Free Jvm.Stand Jvm.LawKit Jvm.RoadKit Bundle Jvm.Pilot.@@N@@.Jvm.D
abbrev vi (x : Int32) : Slot := .val (.int x)
abbrev vr (a : Addr) : Slot := .val (.ref a)
abbrev uu : Slot := .unset
/-- the goal of a walk: from S the run ends, and G holds there -/
def Go (p : Program) (e : Env) (below : List Frame) (G : State → Outcome → Prop) (S : State) : Prop :=
  ∃ s₂ o, Steps p.tables e below S s₂ ∧ s₂.status = .running ∧ Ended s₂ below o ∧ G s₂ o
theorem Go.by {p : Program} {e : Env} {below : List Frame} {G : State → Outcome → Prop} {S S' : State} (h : ∀ t, Steps p.tables e below S' t → Steps p.tables e below S t) (k : Go p e below G S') : Go p e below G S := by
  obtain ⟨s₂, o, h1, h2⟩ := k
  exact ⟨s₂, o, h _ h1, h2⟩
/-- a contract: the body called with A at the heap h0 returns, Q holds then -/
abbrev CT (l : Launch) (x : MethodName) (code : ByteArray) (ml : Nat) (ret : Option FieldType) (ws : List Cond) (R : Room) (A : Array Value) (Z : State) (h0 : Heap) (Q : Option Value → Heap → List Loc → Prop) : Prop :=
  MetFree l x (head1 (Cond.code x code ml ret :: ws) R) (fun a U => a = A ∧ Z.Warmed39 U.vm ∧ U.heap = h0) (fun _ _ _ _ _ => True) (fun _ U o U' => ∃ v L, o = .returned v ∧ Q v U'.heap L ∧ FrameEnd U o U' L R.cells R.slots)
/-- what a body's end says -/
def End (Q : Option Value → Heap → List Loc → Prop) (s : State) (cells slots : Nat) (s₂ : State) (o : Outcome) : Prop := ∃ v L, o = .returned v ∧ Q v s₂.heap L ∧ FrameEnd s o s₂ L cells slots
section
variable {p : Program} {l : Launch} {e : Env} {R : Room} {s : State} {m : MethodId} {args : Array Value} {below : List Frame} {meth : Method} {c : Code} {T : State} {locs : List Loc} {cells slots C S : Nat} {Q : Option Value → Heap → List Loc → Prop}
theorem Go.ret1 (X : Stand p l e R s m args below meth c T locs cells slots) (hx : p.tables.exec = Jvm.exec) {pc : Nat} {Ls : Array Slot} {w : Value} {t : FieldType} {i : Instr} {rest : List Value} (hret : meth.sig.returnType = some t) (hlk : meth.locks = false) (hn : narrow t w = w)
    (hi : (i = .ireturn ∧ (t = .int ∨ t = .boolean ∨ t = .byte ∨ t = .char ∨ t = .short) ∧ ∃ z, w = .int z) ∨ (i = .lreturn ∧ t = .long ∧ ∃ z, w = .long z) ∨ (i = .dreturn ∧ t = .double ∧ ∃ z, w = .double z) ∨ (i = .freturn ∧ t = .float ∧ ∃ z, w = .float z) ∨ (i = .areturn ∧ t.isReference = true ∧ w.isRef = true))
    (hd : decode c.code pc = .ok (i, 1)) (hc : cells ≤ C) (hs : slots ≤ S) (hQ : Q (some w) T.heap locs) : Go p e below (End Q s C S) (T.setTop (mkF m pc Ls (w :: rest))) := by
  obtain ⟨fs, hr, hrun, hended, hW, hsame⟩ := X.leave (v := some w) (fun h => by rw [hret] at h; cases h) hlk
  exact ⟨_, _, retOut X hx hret hn hi hd hr, hrun, hended, _, _, rfl, hQ, ⟨_, rfl⟩, hW, hsame.mono hc hs⟩
theorem Go.ret0 (X : Stand p l e R s m args below meth c T locs cells slots) (hx : p.tables.exec = Jvm.exec) {pc : Nat} {Ls : Array Slot} (hret : meth.sig.returnType = none) (hlk : meth.locks = false)
    (hd : decode c.code pc = .ok (.return_, 1)) (hc : cells ≤ C) (hs : slots ≤ S) (hQ : Q none T.heap locs) : Go p e below (End Q s C S) (T.setTop (mkF m pc Ls [])) := by
  obtain ⟨fs, hr, hrun, hended, hW, hsame⟩ := X.leave (v := none) (fun _ => rfl) hlk
  exact ⟨_, _, X.returnOut hx hret hd hr, hrun, hended, _, _, rfl, hQ, ⟨_, rfl⟩, hW, hsame.mono hc hs⟩
theorem Go.start {cn nm ds : String} {ws : List Cond} {code : ByteArray} {ml : Nat} {ret : Option FieldType} {A : Array Value} {Z : State} {h0 : Heap} (pf : plainFor ⟨cn, nm, ds⟩ = true) (Ls : Array Slot) (n0 : Nat) (hL : argsToLocals A ml = Ls)
    (body : ∀ p e s m below meth c s₁, BodyLoose p l ⟨cn, nm, ds⟩ (head1 (Cond.code ⟨cn, nm, ds⟩ code ml ret :: ws) R) code ml ret e s m A below meth c s₁ → p.tables.exec = Jvm.exec → c.code = code → c.maxLocals = ml → Z.Warmed39 s.vm → s.vm.findClass cn = some m.cls → Stand p l e R s m A below meth c s₁ [] 0 0 → s₁.heap = h0 → Fr n0 [] → Go p e below (End Q s R.cells R.slots) (s₁.setTop (mkF m 0 Ls []))) :
    CT l ⟨cn, nm, ds⟩ code ml ret ws R A Z h0 Q := by
  refine MetFree.of_bodySF pf hisR ?_
  intro p e s m args below meth c s₁ Bd hml hP hK
  obtain ⟨rfl, hZ, hh⟩ := hP
  subst hL
  exact body p e s m below meth c s₁ Bd Bd.exec Bd.bytes hml hZ (findClass_of_methodNamed Bd.named) (Stand.of_body Bd) (by rw [← hh, Bd.state]; rfl) (Fr.nil n0)
theorem Stand.num (X : Stand p l e R s m args below meth c T locs cells slots) (hc : cells = C) (hs : slots = S) : Stand p l e R s m args below meth c T locs C S := by subst hc hs; exact X
theorem Stand.more (X : Stand p l e R s m args below meth c T locs cells slots) (hc : cells ≤ C) (hs : slots ≤ S) : Stand p l e R s m args below meth c T locs C S :=
  { X with same := X.same.mono hc hs }
theorem arv_neT {Z : State} {h : Heap} {a b : Addr} {k1 k2 : ClassId} {t1 t2 : FieldType} {z1 z2 : Int32} {v1 v2 : List Value} {d1 d2 : Value} (A : Arv Z h a k1 t1 z1 v1 d1) (B : Arv Z h b k2 t2 z2 v2 d2) (hne : t1 ≠ t2) : a ≠ b := fun e => by
  subst e
  obtain ⟨c1, ⟨p1, ⟨-, q1, r1, u1, w1⟩, -⟩, -⟩ := A
  obtain ⟨c2, ⟨p2, ⟨-, q2, r2, u2, w2⟩, -⟩, -⟩ := B
  cases p1.symm.trans p2
  cases r1.symm.trans r2
  have := w1.symm.trans w2
  injection this with _ e
  exact hne e
theorem selSelf {s : State} {a1 : Array Value} {y : MethodName} {K : String} (hsel : (Cond.selects K y y).before a1 s = true) (hpriv : s.PrivateAt y) (hinst : (Cond.instanceMethod y).before a1 s = true) (hy : y.cls ≠ "java/lang/invoke/MethodHandle" ∧ y.cls ≠ "java/lang/invoke/VarHandle") : (Cond.selects y.cls y y).before a1 s = true := by
  obtain ⟨c2, r2, m2, -, -, q3, -, kP, hkP, hkPi⟩ := Cond.selects_spec hsel
  exact selects_self_of_private (findClass_of_methodNamed q3) hkP hkPi hpriv hinst hy
theorem faceOf {s : State} {a1 : Array Value} {y z z' : MethodName} {K : String} (hsel : (Cond.selects K z z').before a1 s = true) (hz : z'.cls = y.cls) : NotFace s y := fun r0 h0 => by
  obtain ⟨c2, r2, m2, -, -, q3, -, kP, hkP, hkPi⟩ := Cond.selects_spec hsel
  have h1 := findClass_of_methodNamed h0
  have h2 := findClass_of_methodNamed q3
  rw [hz] at h2
  have e : r0.cls = m2.cls := Option.some.inj (h1.symm.trans h2)
  exact ⟨kP, by rw [e]; exact hkP, hkPi⟩
theorem sameSelf {s : State} {a1 : Array Value} {y z z' : MethodName} {K : String} (hinst : (Cond.instanceMethod y).before a1 s = true) (hsel : (Cond.selects K z z').before a1 s = true) (hz : z'.cls = y.cls) (hy : y.cls ≠ "java/lang/invoke/MethodHandle" ∧ y.cls ≠ "java/lang/invoke/VarHandle") : (Cond.sameMethod y.cls y.cls y.name y.desc).before a1 s = true := by
  obtain ⟨mk, methM, hnamed, hmethM, -, -⟩ := Cond.instanceMethod_spec hinst
  have hfound : s.methodFound? y.cls y.name y.desc = some mk := State.methodFound?_of_named hnamed hy
  obtain ⟨c2, r2, m2, -, -, q3, -, kP, hkP, hkPi⟩ := Cond.selects_spec hsel
  have hc := findClass_of_methodNamed q3
  rw [hz] at hc
  have hn : s.methodNamed? { cls := y.cls, name := y.name, desc := y.desc } = some mk := hnamed
  simp only [Cond.before, Cond.holds, Cond.value, hfound, hn, hc, hkP]
  simp [hkPi]
def DecAll (c : ByteArray) (l : List (Nat × Instr × Nat)) : Prop := ∀ x ∈ l, decode c x.1 = .ok (x.2.1, x.2.2)
theorem dB {c : Code} {b : ByteArray} (h : c.code = b) {l : List (Nat × Instr × Nat)} (H : DecAll b l) (i : Nat) {pc : Nat} {j : Instr} {k : Nat} (hi : l[i]? = some (pc, j, k)) : decode c.code pc = .ok (j, k) := by
  rw [h]; exact H (pc, j, k) (List.mem_of_getElem? hi)
theorem wd {a0 : Array Value} {Z : State} (hw : ∀ d ∈ tables_1, d.before a0 Z = true) (i : Nat) {d : Cond} (h : tables_1[i]? = some d) : d.before a0 Z = true := hw _ (List.mem_of_getElem? h)
abbrev HW (a0 : Array Value) (Z : State) : Prop := ∀ d ∈ tables_1, d.before a0 Z = true
theorem cat_ref {r : Value} (h : r.isRef = true) : r.category = 1 := by rcases ref_cases h with rfl | ⟨_, rfl⟩ <;> rfl
theorem fit_ref {C : String} {r : Value} (h : r.isRef = true) : fits (.object C) r = true := by rcases ref_cases h with rfl | ⟨_, rfl⟩ <;> rfl
theorem nar_ref {t : FieldType} {r : Value} (h : r.isRef = true) : narrow t r = r := by cases r <;> cases t <;> simp_all [Value.isRef, narrow]
end
section
variable {p : Program} {l : Launch} {e : Env} {R : Room} {s Z T : State} {m : MethodId} {args a0 : Array Value} {below : List Frame} {meth : Method} {c : Code} {locs : List Loc} {cells slots pc q C S : Nat} {G : State → Outcome → Prop} {Ls L' : Array Slot} {st st' rest argsL : List Value} {h : Heap} {v w : Value} {x y z : Int32} {a b : Addr} {own : String} {index : Nat} {t : FieldType} {n : Int32} {vs : List Value} {dv : Value} {kk : ClassId} {ret : Option FieldType} {maxL ml W : Nat} {bytes : ByteArray} {rm : Room} {Q : Option Value → Heap → List Loc → Prop} {ps : List FieldType} {rt : Option FieldType} {yy zz : MethodName} {j : Int32} {i : Nat} {i₀ o : Int} {cd : ClassFile.Cond} {k : Fin 4} {k₀ : Nat} {C0 : String}
theorem gi (X : Stand p l e R s m args below meth c T locs cells slots) (hx : p.tables.exec = Jvm.exec) (hd : decode c.code pc = .ok (.iload_n k, 1)) (hl : Ls[k.val]? = some (.val (.int x))) (K : Go p e below G (T.setTop (mkF m (pc + 1) Ls (.int x :: st)))) : Go p e below G (T.setTop (mkF m pc Ls st)) := Go.by (fun _ => XS.iloadN X.here hx rfl hd hl) K
theorem gI (X : Stand p l e R s m args below meth c T locs cells slots) (hx : p.tables.exec = Jvm.exec) (hd : decode c.code pc = .ok (.iload k₀, 2)) (hl : Ls[k₀]? = some (.val (.int x))) (K : Go p e below G (T.setTop (mkF m (pc + 2) Ls (.int x :: st)))) : Go p e below G (T.setTop (mkF m pc Ls st)) := Go.by (fun _ => XS.iload X.here hx rfl hd hl) K
theorem ga (X : Stand p l e R s m args below meth c T locs cells slots) (hx : p.tables.exec = Jvm.exec) (hd : decode c.code pc = .ok (.aload_n k, 1)) (hl : Ls[k.val]? = some (.val v)) (hv : v.isRef = true) (K : Go p e below G (T.setTop (mkF m (pc + 1) Ls (v :: st)))) : Go p e below G (T.setTop (mkF m pc Ls st)) := Go.by (fun _ => XS.aloadN X.here hx rfl hd hl hv) K
theorem gA (X : Stand p l e R s m args below meth c T locs cells slots) (hx : p.tables.exec = Jvm.exec) (hd : decode c.code pc = .ok (.aload k₀, 2)) (hl : Ls[k₀]? = some (.val v)) (hv : v.isRef = true) (K : Go p e below G (T.setTop (mkF m (pc + 2) Ls (v :: st)))) : Go p e below G (T.setTop (mkF m pc Ls st)) := Go.by (fun _ => XS.aload X.here hx rfl hd hl hv) K
theorem gk (X : Stand p l e R s m args below meth c T locs cells slots) (hx : p.tables.exec = Jvm.exec) (x : Int32) (hd : decode c.code pc = .ok (.iconst i₀, 1)) (hv : Int32.ofInt i₀ = x) (K : Go p e below G (T.setTop (mkF m (pc + 1) Ls (.int x :: st)))) : Go p e below G (T.setTop (mkF m pc Ls st)) := by subst hv; exact Go.by (fun _ => XS.iconst X.here hx rfl hd) K
theorem gs (X : Stand p l e R s m args below meth c T locs cells slots) (hx : p.tables.exec = Jvm.exec) (x : Int32) (hd : decode c.code pc = .ok (.sipush i₀, 3)) (hv : (Int16.ofInt i₀).toInt32 = x) (K : Go p e below G (T.setTop (mkF m (pc + 3) Ls (.int x :: st)))) : Go p e below G (T.setTop (mkF m pc Ls st)) := by subst hv; exact Go.by (fun _ => XS.sipush X.here hx rfl hd) K
theorem gb (X : Stand p l e R s m args below meth c T locs cells slots) (hx : p.tables.exec = Jvm.exec) (x : Int32) (hd : decode c.code pc = .ok (.bipush i₀, 2)) (hv : (Int8.ofInt i₀).toInt32 = x) (K : Go p e below G (T.setTop (mkF m (pc + 2) Ls (.int x :: st)))) : Go p e below G (T.setTop (mkF m pc Ls st)) := by subst hv; exact Go.by (fun _ => XS.bipush X.here hx rfl hd) K
theorem gt (X : Stand p l e R s m args below meth c T locs cells slots) (hx : p.tables.exec = Jvm.exec) (L' : Array Slot) (hd : decode c.code pc = .ok (.istore_n k, 1)) (hl : storeLocals Ls k.val (.int x) = some L') (K : Go p e below G (T.setTop (mkF m (pc + 1) L' st))) : Go p e below G (T.setTop (mkF m pc Ls (.int x :: st))) := Go.by (fun _ => XS.istoreN X.here hx rfl hd rfl hl) K
theorem gT (X : Stand p l e R s m args below meth c T locs cells slots) (hx : p.tables.exec = Jvm.exec) (L' : Array Slot) (hd : decode c.code pc = .ok (.istore k₀, 2)) (hl : storeLocals Ls k₀ (.int x) = some L') (K : Go p e below G (T.setTop (mkF m (pc + 2) L' st))) : Go p e below G (T.setTop (mkF m pc Ls (.int x :: st))) := Go.by (fun _ => XS.istore X.here hx rfl hd rfl hl) K
theorem gu (X : Stand p l e R s m args below meth c T locs cells slots) (hx : p.tables.exec = Jvm.exec) (L' : Array Slot) (hd : decode c.code pc = .ok (.astore_n k, 1)) (hv : v.isRef = true) (hl : storeLocals Ls k.val (v) = some L') (K : Go p e below G (T.setTop (mkF m (pc + 1) L' st))) : Go p e below G (T.setTop (mkF m pc Ls (v :: st))) := Go.by (fun _ => XS.astoreN X.here hx rfl hd rfl hv hl) K
theorem gU (X : Stand p l e R s m args below meth c T locs cells slots) (hx : p.tables.exec = Jvm.exec) (L' : Array Slot) (hd : decode c.code pc = .ok (.astore k₀, 2)) (hv : v.isRef = true) (hl : storeLocals Ls k₀ (v) = some L') (K : Go p e below G (T.setTop (mkF m (pc + 2) L' st))) : Go p e below G (T.setTop (mkF m pc Ls (v :: st))) := Go.by (fun _ => XS.astore X.here hx rfl hd rfl hv hl) K
theorem gn (X : Stand p l e R s m args below meth c T locs cells slots) (hx : p.tables.exec = Jvm.exec) (L' : Array Slot) (hd : decode c.code pc = .ok (.iinc k₀ i₀, 3)) (hl : Ls[k₀]? = some (.val (.int x))) (hl' : storeLocals Ls k₀ (.int (x + Int32.ofInt i₀)) = some L') (K : Go p e below G (T.setTop (mkF m (pc + 3) L' st))) : Go p e below G (T.setTop (mkF m pc Ls st)) := Go.by (fun _ => XS.iinc X.here hx rfl hd hl hl') K
theorem gg (X : Stand p l e R s m args below meth c T locs cells slots) (hx : p.tables.exec = Jvm.exec) (q : Nat) (hd : decode c.code pc = .ok (.goto i₀, 3)) (ho : (pc : Int) + i₀ = (q : Int)) (K : Go p e below G (T.setTop (mkF m q Ls st))) : Go p e below G (T.setTop (mkF m pc Ls st)) := Go.by (fun _ => XS.goto X.here hx rfl (pc0 := pc) rfl hd (by omega) (by omega)) K
theorem zY (X : Stand p l e R s m args below meth c T locs cells slots) (hx : p.tables.exec = Jvm.exec) (q : Nat) (hd : decode c.code pc = .ok (.ifCond cd i₀, 3)) (hc : ifCond.holds cd x = true) (ho : (pc : Int) + i₀ = (q : Int)) (K : Go p e below G (T.setTop (mkF m q Ls st))) : Go p e below G (T.setTop (mkF m pc Ls (.int x :: st))) := Go.by (fun _ => XS.ifYes X.here hx rfl (pc0 := pc) rfl hd rfl hc (by omega) (by omega)) K
theorem zN (X : Stand p l e R s m args below meth c T locs cells slots) (hx : p.tables.exec = Jvm.exec) (hd : decode c.code pc = .ok (.ifCond cd i₀, 3)) (hc : ifCond.holds cd x = false) (K : Go p e below G (T.setTop (mkF m (pc + 3) Ls st))) : Go p e below G (T.setTop (mkF m pc Ls (.int x :: st))) := Go.by (fun _ => XS.ifNo X.here hx rfl hd rfl hc) K
theorem cY (X : Stand p l e R s m args below meth c T locs cells slots) (hx : p.tables.exec = Jvm.exec) (q : Nat) (hd : decode c.code pc = .ok (.if_icmp cd i₀, 3)) (hc : if_icmp.holds cd x y = true) (ho : (pc : Int) + i₀ = (q : Int)) (K : Go p e below G (T.setTop (mkF m q Ls st))) : Go p e below G (T.setTop (mkF m pc Ls (.int y :: .int x :: st))) := Go.by (fun _ => XS.icmpYes X.here hx rfl (pc0 := pc) rfl hd rfl hc (by omega) (by omega)) K
theorem cN (X : Stand p l e R s m args below meth c T locs cells slots) (hx : p.tables.exec = Jvm.exec) (hd : decode c.code pc = .ok (.if_icmp cd i₀, 3)) (hc : if_icmp.holds cd x y = false) (K : Go p e below G (T.setTop (mkF m (pc + 3) Ls st))) : Go p e below G (T.setTop (mkF m pc Ls (.int y :: .int x :: st))) := Go.by (fun _ => XS.icmpNo X.here hx rfl hd rfl hc) K
theorem gq {S' : State} (hh : ∀ {u}, Steps p.tables e below S' u → Steps p.tables e below (T.setTop (mkF m pc Ls st)) u) (eS : S' = T.setTop (mkF m (pc + 1) Ls st')) (K : Go p e below G (T.setTop (mkF m (pc + 1) Ls st'))) : Go p e below G (T.setTop (mkF m pc Ls st)) := Go.by (fun _ => hh) (eS ▸ K)
theorem gF (X : Stand p l e R s m args below meth c T locs cells slots) (hx : p.tables.exec = Jvm.exec) (hZ : Z.Warmed39 s.vm) (hown : s.vm.findClass own = some m.cls) {R0 O nm d : String} (w1 : (Cond.fieldLink own index R0 nm d).before a0 Z = true) (via : Via Z R0 O nm d) (eT : T.heap = h) (F : Fld Z h a O nm d v) (hd : decode c.code pc = .ok (.getfield index, 3)) (K : ∀ T', Stand p l e R s m args below meth c T' locs cells slots → T'.heap = h → Go p e below G (T'.setTop (mkF m (pc + 3) Ls (v :: st)))) : Go p e below G (T.setTop (mkF m pc Ls (.ref a :: st))) := by
  obtain ⟨T', X', e', k⟩ := getF X hx hZ hown (host := "") (Or.inl w1) via eT F (g := mkF m pc Ls (.ref a :: st)) rfl rfl hd
  exact Go.by k (K T' X' e')
theorem gS (X : Stand p l e R s m args below meth c T locs cells slots) (hx : p.tables.exec = Jvm.exec) (hZ : Z.Warmed39 s.vm) (hown : s.vm.findClass own = some m.cls) {O nm d : String} (w1 : (Cond.fieldLink own index O nm d).before a0 Z = true) (eT : T.heap = h) (F : Sta Z h O nm d v) (hd : decode c.code pc = .ok (.getstatic index, 3)) (K : ∀ T', Stand p l e R s m args below meth c T' locs cells slots → T'.heap = h → Go p e below G (T'.setTop (mkF m (pc + 3) Ls (v :: st)))) : Go p e below G (T.setTop (mkF m pc Ls st)) := by
  obtain ⟨T', X', e', k⟩ := getS2 X hx hZ hown (host := "") (Or.inl w1) Via.refl eT F (g := mkF m pc Ls st) rfl hd
  exact Go.by k (K T' X' e')
theorem gB (X : Stand p l e R s m args below meth c T locs cells slots) (hx : p.tables.exec = Jvm.exec) (hZ : Z.Warmed39 s.vm) (eT : T.heap = h) (V : Arv Z h a kk .byte n vs dv) (inb : ¬ j < 0 ∧ j < n) (v : Value) (hat : vs.getD j.toNatClampNeg dv = v) (hd : decode c.code pc = .ok (.baload, 1)) (K : Go p e below G (T.setTop (mkF m (pc + 1) Ls (v :: st)))) : Go p e below G (T.setTop (mkF m pc Ls (.int j :: .ref a :: st))) := by
  obtain ⟨cl, A, q', S', M, H, G'⟩ := id V
  have in' := inb_of S' inb
  subst eT
  exact Go.by (fun t => X.baloadBytes hx (j := j) (v := v) A.1 (State.isArrayOf_alike hZ.alike A.2.1) A.2.2 in' (H.at in' hat) (g := mkF m pc Ls (.int j :: .ref a :: st)) rfl rfl hd t) K
theorem gC (X : Stand p l e R s m args below meth c T locs cells slots) (hx : p.tables.exec = Jvm.exec) (hZ : Z.Warmed39 s.vm) (eT : T.heap = h) (V : Arv Z h a kk .char n vs dv) (inb : ¬ j < 0 ∧ j < n) (v : Value) (hat : vs.getD j.toNatClampNeg dv = v) (hd : decode c.code pc = .ok (.caload, 1)) (K : Go p e below G (T.setTop (mkF m (pc + 1) Ls (v :: st)))) : Go p e below G (T.setTop (mkF m pc Ls (.int j :: .ref a :: st))) := by
  obtain ⟨cl, A, q', S', M, H, G'⟩ := id V
  have in' := inb_of S' inb
  subst eT
  exact Go.by (fun t => X.caload hx (j := j) (v := v) A.1 (State.isArrayOf_alike hZ.alike A.2.1) A.2.2 in' (H.at in' hat) (g := mkF m pc Ls (.int j :: .ref a :: st)) rfl rfl hd t) K
theorem gN (X : Stand p l e R s m args below meth c T locs cells slots) (hx : p.tables.exec = Jvm.exec) (hZ : Z.Warmed39 s.vm) (eT : T.heap = h) (V : Arv Z h a kk t n vs dv) (hd : decode c.code pc = .ok (.arraylength, 1)) (K : Go p e below G (T.setTop (mkF m (pc + 1) Ls (.int n :: st)))) : Go p e below G (T.setTop (mkF m pc Ls (.ref a :: st))) := by
  obtain ⟨cl, A, q', S', M, H, G'⟩ := id V
  subst eT
  refine Go.by (fun t' => X.arraylength hx A.1 (State.isArrayOf_alike hZ.alike A.2.1) (g := mkF m pc Ls (.ref a :: st)) rfl rfl hd t') ?_
  rw [len_of S' M]
  exact K
theorem sC (X : Stand p l e R s m args below meth c T locs cells slots) (hx : p.tables.exec = Jvm.exec) (hZ : Z.Warmed39 s.vm) (eT : T.heap = h) (V : Arv Z h a kk .char n vs dv) (inb : ¬ j < 0 ∧ j < n) (i : Nat) (hi : j.toNatClampNeg = i) (hl : i < vs.length) (y : Int32) (hv : nar .char x = y) (hd : decode c.code pc = .ok (.castore, 1)) (K : ∀ T' h', Stand p l e R s m args below meth c T' (locs ++ [⟨a, j.toNatClampNeg⟩]) cells slots → T'.heap = h' → Wr h h' a j.toNatClampNeg (.int y) → Arv Z h' a kk .char n (vs.set i (.int y)) dv → Go p e below G (T'.setTop (mkF m (pc + 1) Ls st))) : Go p e below G (T.setTop (mkF m pc Ls (.int x :: .int j :: .ref a :: st))) := by
  subst hv
  obtain ⟨cl, A, q', S', M, H, G'⟩ := id V
  obtain ⟨T', h', X', e', W, k⟩ := stC X hx hZ eT A (j := j) (inb_of S' inb) (g := mkF m pc Ls (.int x :: .int j :: .ref a :: st)) rfl rfl hd
  have V' := Arv.set A q' S' M H G' (fits_nar_char _) W i hi hl
  exact Go.by k (K T' h' X' e' W V')
theorem sB (X : Stand p l e R s m args below meth c T locs cells slots) (hx : p.tables.exec = Jvm.exec) (hZ : Z.Warmed39 s.vm) (eT : T.heap = h) (V : Arv Z h a kk .byte n vs dv) (inb : ¬ j < 0 ∧ j < n) (i : Nat) (hi : j.toNatClampNeg = i) (hl : i < vs.length) (y : Int32) (hv : nar .byte x = y) (hd : decode c.code pc = .ok (.bastore, 1)) (K : ∀ T' h', Stand p l e R s m args below meth c T' (locs ++ [⟨a, j.toNatClampNeg⟩]) cells slots → T'.heap = h' → Wr h h' a j.toNatClampNeg (.int y) → Arv Z h' a kk .byte n (vs.set i (.int y)) dv → Go p e below G (T'.setTop (mkF m (pc + 1) Ls st))) : Go p e below G (T.setTop (mkF m pc Ls (.int x :: .int j :: .ref a :: st))) := by
  subst hv
  obtain ⟨cl, A, q', S', M, H, G'⟩ := id V
  obtain ⟨T', h', X', e', W, k⟩ := stB X hx hZ eT A (j := j) (inb_of S' inb) (g := mkF m pc Ls (.int x :: .int j :: .ref a :: st)) rfl rfl hd
  have V' := Arv.set A q' S' M H G' (fits_nar_byte _) W i hi hl
  exact Go.by k (K T' h' X' e' W V')
theorem kS (X : Stand p l e R s m args below meth c T locs cells slots) (hx : p.tables.exec = Jvm.exec) (hZ : Z.Warmed39 s.vm) (hown : s.vm.findClass own = some m.cls) (w1 : (Cond.methodLink own index yy).before a0 Z = true) (w2 : (Cond.static yy).before a0 Z = true) (w3 : (Cond.initialized yy.cls).before a0 Z = true) (w4 : (Cond.code yy bytes maxL ret).before a0 Z = true) (M : CT l yy bytes maxL ret [] rm argsL.toArray Z h Q) (pd : parseMethodDescriptor yy.desc = some ⟨ps, rt⟩) (hd : decode c.code pc = .ok (.invokestatic index, 3)) (eT : T.heap = h) (hml : c.maxLocals = ml) (hs : st = argsL.reverse ++ rest ∧ Ls.size = ml ∧ argsL.length = ps.length ∧ (rest.map fun v => v.category).sum = W) (hr : rm.frames + 1 ≤ R.frames ∧ W + (maxL + 11) + rm.locals ≤ R.locals ∧ (cells + rm.cells = C ∧ C ≤ R.cells) ∧ (slots + rm.slots = S ∧ S ≤ R.slots) ∧ (yy.cls ≠ "java/lang/invoke/MethodHandle" ∧ yy.cls ≠ "java/lang/invoke/VarHandle")) (K : ∀ v T' L' Lc, Stand p l e R s m args below meth c T' L' C S → Q v T'.heap Lc → (∀ {n0}, Fr n0 locs → Fr n0 Lc → Fr n0 L') → Go p e below G (T'.setTop (mkF m (pc + 3) Ls (v.toList ++ rest)))) : Go p e below G (T.setTop (mkF m pc Ls st)) := by
  obtain ⟨r1, r2, r3, r4, r5⟩ := hr
  obtain ⟨hst, hz, hn, hW⟩ := hs
  obtain ⟨v, _, ⟨T', L', k', n'⟩, -, X', ⟨Lc, hQ, q1, q2, q3⟩, k⟩ := Jvm.LawKit.callS X hx hown (mvT hZ w1) (mvT hZ w2) (mvT hZ w3) (mvT hZ w4) r5 (backOf (W := W) M hZ w4 w3 r1 r2) (g := mkF m pc Ls st) rfl (by rw [hml]; exact hz) (lenOf pd hn) hst (by show 2 * 0 + _ ≤ W; omega) hd (fun _ _ => ⟨rfl, eT, by show cells + _ ≤ _; rw [r3.1]; exact r3.2, by show slots + _ ≤ _; rw [r4.1]; exact r4.2⟩)
  dsimp only [Pt.U, Pt.locs, Pt.cells, Pt.slots] at X' q1 q2 q3 k hQ
  exact Go.by (fun t => k t) (K v T' L' Lc (Stand.num X' (q2.trans r3.1) (q3.trans r4.1)) hQ (fun f1 f2 => q1 ▸ Fr.app f1 f2))
theorem kI (X : Stand p l e R s m args below meth c T locs cells slots) (hx : p.tables.exec = Jvm.exec) (hZ : Z.Warmed39 s.vm) (hown : s.vm.findClass own = some m.cls) (w1 : (Cond.methodLink own index yy).before a0 Z = true) (w2 : (Cond.instanceMethod yy).before a0 Z = true) (w3 : (Cond.initialized yy.cls).before a0 Z = true) (w4 : (Cond.code yy bytes maxL none).before a0 Z = true) (M : CT l yy bytes maxL none [] rm (.ref b :: argsL).toArray Z h Q) (pd : parseMethodDescriptor yy.desc = some ⟨ps, rt⟩) (hd : decode c.code pc = .ok (.invokespecial index, 3)) (eT : T.heap = h) (hml : c.maxLocals = ml) (hs : st = argsL.reverse ++ .ref b :: rest ∧ Ls.size = ml ∧ argsL.length = ps.length ∧ (rest.map fun v => v.category).sum = W) (hr : rm.frames + 1 ≤ R.frames ∧ W + (maxL + 11) + rm.locals ≤ R.locals ∧ (cells + rm.cells = C ∧ C ≤ R.cells) ∧ (slots + rm.slots = S ∧ S ≤ R.slots) ∧ (yy.cls ≠ "java/lang/invoke/MethodHandle" ∧ yy.cls ≠ "java/lang/invoke/VarHandle") ∧ yy.name = "<init>") (K : ∀ v T' L' Lc, Stand p l e R s m args below meth c T' L' C S → Q v T'.heap Lc → (∀ {n0}, Fr n0 locs → Fr n0 Lc → Fr n0 L') → Go p e below G (T'.setTop (mkF m (pc + 3) Ls (v.toList ++ rest)))) : Go p e below G (T.setTop (mkF m pc Ls st)) := by
  obtain ⟨r1, r2, r3, r4, r5, r6⟩ := hr
  obtain ⟨hst, hz, hn, hW⟩ := hs
  obtain ⟨v, _, ⟨T', L', k', n'⟩, -, X', ⟨Lc, hQ, q1, q2, q3⟩, k⟩ := X.specialBack hx r6 hown (mvT hZ w1) (mvT hZ w2) (mvT hZ w4) r5 (backOf (W := W) M hZ w4 w3 r1 r2) (g := mkF m pc Ls st) rfl (by rw [hml]; exact hz) (Steps.refl _) (a := b) (lenOf pd hn) hst (by show 2 * 0 + _ ≤ W; omega) hd (fun _ _ => ⟨rfl, eT, by show cells + _ ≤ _; rw [r3.1]; exact r3.2, by show slots + _ ≤ _; rw [r4.1]; exact r4.2⟩)
  dsimp only [Pt.U, Pt.locs, Pt.cells, Pt.slots] at X' q1 q2 q3 k hQ
  exact Go.by (fun t => k.trans) (K v T' L' Lc (Stand.num X' (q2.trans r3.1) (q3.trans r4.1)) hQ (fun f1 f2 => q1 ▸ Fr.app f1 f2))
theorem kV (X : Stand p l e R s m args below meth c T locs cells slots) (hx : p.tables.exec = Jvm.exec) (hZ : Z.Warmed39 s.vm) (hown : s.vm.findClass own = some m.cls) (w1 : (Cond.methodLink own index yy).before a0 Z = true) (w2 : (Cond.declares yy).before a0 Z = true) (w3 : (Cond.selects C0 yy zz).before a0 Z = true) (w4 : (Cond.instanceMethod zz).before a0 Z = true) (w5 : (Cond.initialized zz.cls).before a0 Z = true) (w6 : (Cond.code zz bytes maxL ret).before a0 Z = true) (nf : NotFace s yy) (E : Exa Z h b C0) (M : CT l zz bytes maxL ret [] rm (.ref b :: argsL).toArray Z h Q) (pd : parseMethodDescriptor yy.desc = some ⟨ps, rt⟩) (hd : decode c.code pc = .ok (.invokevirtual index, 3)) (eT : T.heap = h) (hml : c.maxLocals = ml) (hs : st = argsL.reverse ++ .ref b :: rest ∧ Ls.size = ml ∧ argsL.length = ps.length ∧ (rest.map fun v => v.category).sum = W) (hr : rm.frames + 1 ≤ R.frames ∧ W + (maxL + 11) + rm.locals ≤ R.locals ∧ (cells + rm.cells = C ∧ C ≤ R.cells) ∧ (slots + rm.slots = S ∧ S ≤ R.slots) ∧ (yy.cls ≠ "java/lang/invoke/MethodHandle" ∧ yy.cls ≠ "java/lang/invoke/VarHandle")) (K : ∀ v T' L' Lc, Stand p l e R s m args below meth c T' L' C S → Q v T'.heap Lc → (∀ {n0}, Fr n0 locs → Fr n0 Lc → Fr n0 L') → Go p e below G (T'.setTop (mkF m (pc + 3) Ls (v.toList ++ rest)))) : Go p e below G (T.setTop (mkF m pc Ls st)) := by
  obtain ⟨cq, kq, qa, qb, qc⟩ := isOf hZ eT E
  obtain ⟨r1, r2, r3, r4, r5⟩ := hr
  obtain ⟨hst, hz, hn, hW⟩ := hs
  obtain ⟨v, _, ⟨T', L', k', n'⟩, -, X', ⟨Lc, hQ, q1, q2, q3⟩, k⟩ := X.virtualBack hx hown (mvT hZ w1) (mvT hZ w2) nf (mvT hZ w3) (mvT hZ w4) r5 (backOf (W := W) M hZ w6 w5 r1 r2) qa qc (g := mkF m pc Ls st) rfl (by rw [hml]; exact hz) (Steps.refl _) (lenOf pd hn) hst (by show 2 * 0 + _ ≤ W; omega) hd (fun _ _ => ⟨rfl, eT, by show cells + _ ≤ _; rw [r3.1]; exact r3.2, by show slots + _ ≤ _; rw [r4.1]; exact r4.2⟩)
  dsimp only [Pt.U, Pt.locs, Pt.cells, Pt.slots] at X' q1 q2 q3 k hQ
  exact Go.by (fun t => k.trans) (K v T' L' Lc (Stand.num X' (q2.trans r3.1) (q3.trans r4.1)) hQ (fun f1 f2 => q1 ▸ Fr.app f1 f2))
theorem kP (X : Stand p l e R s m args below meth c T locs cells slots) (hx : p.tables.exec = Jvm.exec) (hZ : Z.Warmed39 s.vm) (hown : s.vm.findClass own = some m.cls) (w1 : (Cond.methodLink own index yy).before a0 Z = true) (w2 : (Cond.instanceMethod yy).before a0 Z = true) (w3 : (Cond.selects yy.cls yy yy).before a0 Z = true) (w4 : (Cond.privateMethod yy).before a0 Z = true) (w5 : (Cond.initialized yy.cls).before a0 Z = true) (w6 : (Cond.code yy bytes maxL ret).before a0 Z = true) (E : Exa Z h b C0) (M : CT l yy bytes maxL ret [] rm (.ref b :: argsL).toArray Z h Q) (pd : parseMethodDescriptor yy.desc = some ⟨ps, rt⟩) (hd : decode c.code pc = .ok (.invokevirtual index, 3)) (eT : T.heap = h) (hml : c.maxLocals = ml) (hs : st = argsL.reverse ++ .ref b :: rest ∧ Ls.size = ml ∧ argsL.length = ps.length ∧ (rest.map fun v => v.category).sum = W) (hr : rm.frames + 1 ≤ R.frames ∧ W + (maxL + 11) + rm.locals ≤ R.locals ∧ (cells + rm.cells = C ∧ C ≤ R.cells) ∧ (slots + rm.slots = S ∧ S ≤ R.slots) ∧ (yy.cls ≠ "java/lang/invoke/MethodHandle" ∧ yy.cls ≠ "java/lang/invoke/VarHandle")) (K : ∀ v T' L' Lc, Stand p l e R s m args below meth c T' L' C S → Q v T'.heap Lc → (∀ {n0}, Fr n0 locs → Fr n0 Lc → Fr n0 L') → Go p e below G (T'.setTop (mkF m (pc + 3) Ls (v.toList ++ rest)))) : Go p e below G (T.setTop (mkF m pc Ls st)) := by
  obtain ⟨cq, qb, qc⟩ := E.cell
  obtain ⟨r1, r2, r3, r4, r5⟩ := hr
  obtain ⟨hst, hz, hn, hW⟩ := hs
  obtain ⟨v, _, ⟨T', L', k', n'⟩, -, X', ⟨Lc, hQ, q1, q2, q3⟩, k⟩ := X.privateBack hx hown (mvT hZ w1) (mvT hZ w2) (mvT hZ w3) (Cond.privateMethod_at (mvP hZ w4 (args := #[]))) (mvT hZ w6) r5 (backOf (W := W) M hZ w6 w5 r1 r2) (g := mkF m pc Ls st) rfl (by rw [hml]; exact hz) (Steps.refl _) (a := b) (by rw [eT]; exact qb) qc (lenOf pd hn) hst (by show 2 * 0 + _ ≤ W; omega) hd (fun _ _ => ⟨rfl, eT, by show cells + _ ≤ _; rw [r3.1]; exact r3.2, by show slots + _ ≤ _; rw [r4.1]; exact r4.2⟩)
  dsimp only [Pt.U, Pt.locs, Pt.cells, Pt.slots] at X' q1 q2 q3 k hQ
  exact Go.by (fun t => k.trans) (K v T' L' Lc (Stand.num X' (q2.trans r3.1) (q3.trans r4.1)) hQ (fun f1 f2 => q1 ▸ Fr.app f1 f2))
end
section
variable {p : Program} {l : Launch} {e : Env} {R : Room} {s Z T : State} {m : MethodId} {args a0 : Array Value} {below : List Frame} {meth : Method} {c : Code} {locs : List Loc} {cells slots pc q C S : Nat} {G : State → Outcome → Prop} {Ls L' : Array Slot} {st st' rest argsL : List Value} {h : Heap} {v w : Value} {x y z : Int32} {a b : Addr} {own : String} {index : Nat} {t : FieldType} {n : Int32} {vs : List Value} {dv : Value} {kk : ClassId} {ret : Option FieldType} {maxL ml W : Nat} {bytes : ByteArray} {rm : Room} {Q : Option Value → Heap → List Loc → Prop} {ps : List FieldType} {rt : Option FieldType} {yy zz : MethodName} {j : Int32} {i : Nat} {i₀ o : Int} {cd : ClassFile.Cond} {k : Fin 4} {k₀ : Nat} {xl : Int64} {xd : UInt64}
theorem gl (X : Stand p l e R s m args below meth c T locs cells slots) (hx : p.tables.exec = Jvm.exec) (hd : decode c.code pc = .ok (.lload_n k, 1)) (hl : Ls[k.val]? = some (.val (.long xl))) (K : Go p e below G (T.setTop (mkF m (pc + 1) Ls (.long xl :: st)))) : Go p e below G (T.setTop (mkF m pc Ls st)) := Go.by (fun _ => XS.lloadN X.here hx rfl hd hl) K
theorem gL (X : Stand p l e R s m args below meth c T locs cells slots) (hx : p.tables.exec = Jvm.exec) (hd : decode c.code pc = .ok (.lload k₀, 2)) (hl : Ls[k₀]? = some (.val (.long xl))) (K : Go p e below G (T.setTop (mkF m (pc + 2) Ls (.long xl :: st)))) : Go p e below G (T.setTop (mkF m pc Ls st)) := Go.by (fun _ => XS.lload X.here hx rfl hd hl) K
theorem gd (X : Stand p l e R s m args below meth c T locs cells slots) (hx : p.tables.exec = Jvm.exec) (hd : decode c.code pc = .ok (.dload_n k, 1)) (hl : Ls[k.val]? = some (.val (.double xd))) (K : Go p e below G (T.setTop (mkF m (pc + 1) Ls (.double xd :: st)))) : Go p e below G (T.setTop (mkF m pc Ls st)) := Go.by (fun _ => XS.dloadN X.here hx rfl hd hl) K
theorem gD (X : Stand p l e R s m args below meth c T locs cells slots) (hx : p.tables.exec = Jvm.exec) (hd : decode c.code pc = .ok (.dload k₀, 2)) (hl : Ls[k₀]? = some (.val (.double xd))) (K : Go p e below G (T.setTop (mkF m (pc + 2) Ls (.double xd :: st)))) : Go p e below G (T.setTop (mkF m pc Ls st)) := Go.by (fun _ => XS.dload X.here hx rfl hd hl) K
theorem gm (X : Stand p l e R s m args below meth c T locs cells slots) (hx : p.tables.exec = Jvm.exec) (L' : Array Slot) (hd : decode c.code pc = .ok (.lstore_n k, 1)) (hl : storeLocals Ls k.val (.long xl) = some L') (K : Go p e below G (T.setTop (mkF m (pc + 1) L' st))) : Go p e below G (T.setTop (mkF m pc Ls (.long xl :: st))) := Go.by (fun _ => XS.lstoreN X.here hx rfl hd rfl hl) K
theorem gM (X : Stand p l e R s m args below meth c T locs cells slots) (hx : p.tables.exec = Jvm.exec) (L' : Array Slot) (hd : decode c.code pc = .ok (.lstore k₀, 2)) (hl : storeLocals Ls k₀ (.long xl) = some L') (K : Go p e below G (T.setTop (mkF m (pc + 2) L' st))) : Go p e below G (T.setTop (mkF m pc Ls (.long xl :: st))) := Go.by (fun _ => XS.lstore X.here hx rfl hd rfl hl) K
theorem ge (X : Stand p l e R s m args below meth c T locs cells slots) (hx : p.tables.exec = Jvm.exec) (L' : Array Slot) (hd : decode c.code pc = .ok (.dstore_n k, 1)) (hl : storeLocals Ls k.val (.double xd) = some L') (K : Go p e below G (T.setTop (mkF m (pc + 1) L' st))) : Go p e below G (T.setTop (mkF m pc Ls (.double xd :: st))) := Go.by (fun _ => XS.dstoreN X.here hx rfl hd rfl hl) K
theorem gE (X : Stand p l e R s m args below meth c T locs cells slots) (hx : p.tables.exec = Jvm.exec) (L' : Array Slot) (hd : decode c.code pc = .ok (.dstore k₀, 2)) (hl : storeLocals Ls k₀ (.double xd) = some L') (K : Go p e below G (T.setTop (mkF m (pc + 2) L' st))) : Go p e below G (T.setTop (mkF m pc Ls (.double xd :: st))) := Go.by (fun _ => XS.dstore X.here hx rfl hd rfl hl) K
theorem gDA (X : Stand p l e R s m args below meth c T locs cells slots) (hx : p.tables.exec = Jvm.exec) (hZ : Z.Warmed39 s.vm) (eT : T.heap = h) (V : Arv Z h a kk .double n vs dv) (inb : ¬ j < 0 ∧ j < n) (v : Value) (hat : vs.getD j.toNatClampNeg dv = v) (hd : decode c.code pc = .ok (.daload, 1)) (K : Go p e below G (T.setTop (mkF m (pc + 1) Ls (v :: st)))) : Go p e below G (T.setTop (mkF m pc Ls (.int j :: .ref a :: st))) := by
  obtain ⟨cl, A, q', S', M, H, G'⟩ := id V
  have in' := inb_of S' inb
  subst eT
  exact Go.by (fun t => X.daload hx (j := j) (v := v) A.1 (State.isArrayOf_alike hZ.alike A.2.1) A.2.2 in' (H.at in' hat) (g := mkF m pc Ls (.int j :: .ref a :: st)) rfl rfl hd t) K
theorem gLA (X : Stand p l e R s m args below meth c T locs cells slots) (hx : p.tables.exec = Jvm.exec) (hZ : Z.Warmed39 s.vm) (eT : T.heap = h) (V : Arv Z h a kk .long n vs dv) (inb : ¬ j < 0 ∧ j < n) (v : Value) (hat : vs.getD j.toNatClampNeg dv = v) (hd : decode c.code pc = .ok (.laload, 1)) (K : Go p e below G (T.setTop (mkF m (pc + 1) Ls (v :: st)))) : Go p e below G (T.setTop (mkF m pc Ls (.int j :: .ref a :: st))) := by
  obtain ⟨cl, A, q', S', M, H, G'⟩ := id V
  have in' := inb_of S' inb
  subst eT
  exact Go.by (fun t => X.laload hx (j := j) (v := v) A.1 (State.isArrayOf_alike hZ.alike A.2.1) A.2.2 in' (H.at in' hat) (g := mkF m pc Ls (.int j :: .ref a :: st)) rfl rfl hd t) K
theorem gIA (X : Stand p l e R s m args below meth c T locs cells slots) (hx : p.tables.exec = Jvm.exec) (hZ : Z.Warmed39 s.vm) (eT : T.heap = h) (V : Arv Z h a kk .int n vs dv) (inb : ¬ j < 0 ∧ j < n) (v : Value) (hat : vs.getD j.toNatClampNeg dv = v) (hd : decode c.code pc = .ok (.iaload, 1)) (K : Go p e below G (T.setTop (mkF m (pc + 1) Ls (v :: st)))) : Go p e below G (T.setTop (mkF m pc Ls (.int j :: .ref a :: st))) := by
  obtain ⟨cl, A, q', S', M, H, G'⟩ := id V
  have in' := inb_of S' inb
  subst eT
  exact Go.by (fun t => X.iaload hx (j := j) (v := v) A.1 (State.isArrayOf_alike hZ.alike A.2.1) A.2.2 in' (H.at in' hat) (g := mkF m pc Ls (.int j :: .ref a :: st)) rfl rfl hd t) K
theorem gZ (X : Stand p l e R s m args below meth c T locs cells slots) (hx : p.tables.exec = Jvm.exec) (hZ : Z.Warmed39 s.vm) (eT : T.heap = h) (V : Arv Z h a kk .boolean n vs dv) (inb : ¬ j < 0 ∧ j < n) (v : Value) (hat : vs.getD j.toNatClampNeg dv = v) (hd : decode c.code pc = .ok (.baload, 1)) (K : Go p e below G (T.setTop (mkF m (pc + 1) Ls (v :: st)))) : Go p e below G (T.setTop (mkF m pc Ls (.int j :: .ref a :: st))) := by
  obtain ⟨cl, A, q', S', M, H, G'⟩ := id V
  have in' := inb_of S' inb
  subst eT
  exact Go.by (fun t => X.baloadBooleans hx (j := j) (v := v) A.1 (State.isArrayOf_alike hZ.alike A.2.1) A.2.2 in' (H.at in' hat) (g := mkF m pc Ls (.int j :: .ref a :: st)) rfl rfl hd t) K
theorem sD (X : Stand p l e R s m args below meth c T locs cells slots) (hx : p.tables.exec = Jvm.exec) (hZ : Z.Warmed39 s.vm) (eT : T.heap = h) (V : Arv Z h a kk .double n vs dv) (inb : ¬ j < 0 ∧ j < n) (i : Nat) (hi : j.toNatClampNeg = i) (hl : i < vs.length) (hd : decode c.code pc = .ok (.dastore, 1)) (K : ∀ T' h', Stand p l e R s m args below meth c T' (locs ++ [⟨a, j.toNatClampNeg⟩]) cells slots → T'.heap = h' → Wr h h' a j.toNatClampNeg (.double xd) → Arv Z h' a kk .double n (vs.set i (.double xd)) dv → Go p e below G (T'.setTop (mkF m (pc + 1) Ls st))) : Go p e below G (T.setTop (mkF m pc Ls (.double xd :: .int j :: .ref a :: st))) := by
  obtain ⟨cl, A, q', S', M, H, G'⟩ := id V
  obtain ⟨T', h', X', e', W, k⟩ := stD X hx hZ eT A (j := j) (inb_of S' inb) (g := mkF m pc Ls (.double xd :: .int j :: .ref a :: st)) rfl rfl hd
  exact Go.by k (K T' h' X' e' W (Arv.set A q' S' M H G' rfl W i hi hl))
theorem sL (X : Stand p l e R s m args below meth c T locs cells slots) (hx : p.tables.exec = Jvm.exec) (hZ : Z.Warmed39 s.vm) (eT : T.heap = h) (V : Arv Z h a kk .long n vs dv) (inb : ¬ j < 0 ∧ j < n) (i : Nat) (hi : j.toNatClampNeg = i) (hl : i < vs.length) (hd : decode c.code pc = .ok (.lastore, 1)) (K : ∀ T' h', Stand p l e R s m args below meth c T' (locs ++ [⟨a, j.toNatClampNeg⟩]) cells slots → T'.heap = h' → Wr h h' a j.toNatClampNeg (.long xl) → Arv Z h' a kk .long n (vs.set i (.long xl)) dv → Go p e below G (T'.setTop (mkF m (pc + 1) Ls st))) : Go p e below G (T.setTop (mkF m pc Ls (.long xl :: .int j :: .ref a :: st))) := by
  obtain ⟨cl, A, q', S', M, H, G'⟩ := id V
  obtain ⟨T', h', X', e', W, k⟩ := stJ X hx hZ eT A (j := j) (inb_of S' inb) (g := mkF m pc Ls (.long xl :: .int j :: .ref a :: st)) rfl rfl hd
  exact Go.by k (K T' h' X' e' W (Arv.set A q' S' M H G' rfl W i hi hl))
theorem sZ (X : Stand p l e R s m args below meth c T locs cells slots) (hx : p.tables.exec = Jvm.exec) (hZ : Z.Warmed39 s.vm) (eT : T.heap = h) (V : Arv Z h a kk .boolean n vs dv) (inb : ¬ j < 0 ∧ j < n) (i : Nat) (hi : j.toNatClampNeg = i) (hl : i < vs.length) (y : Int32) (hv : nar .boolean x = y) (hd : decode c.code pc = .ok (.bastore, 1)) (K : ∀ T' h', Stand p l e R s m args below meth c T' (locs ++ [⟨a, j.toNatClampNeg⟩]) cells slots → T'.heap = h' → Wr h h' a j.toNatClampNeg (.int y) → Arv Z h' a kk .boolean n (vs.set i (.int y)) dv → Go p e below G (T'.setTop (mkF m (pc + 1) Ls st))) : Go p e below G (T.setTop (mkF m pc Ls (.int x :: .int j :: .ref a :: st))) := by
  subst hv
  obtain ⟨cl, A, q', S', M, H, G'⟩ := id V
  obtain ⟨T', h', X', e', W, k⟩ := stZ X hx hZ eT A (j := j) (inb_of S' inb) (g := mkF m pc Ls (.int x :: .int j :: .ref a :: st)) rfl rfl hd
  exact Go.by k (K T' h' X' e' W (Arv.set A q' S' M H G' (fits_nar_bool _) W i hi hl))
end
theorem and255_chars (x : Int32) : ¬ nar .char ((x &&& (255 : Int32)).toUInt32.toUInt16.toUInt32.toInt32) < 0 ∧ ¬ (255 : Int32) < nar .char ((x &&& (255 : Int32)).toUInt32.toUInt16.toUInt32.toInt32) := by
  have t : ∀ k : Fin 256, ¬ nar .char ((Int32.ofNat k.val).toUInt32.toUInt16.toUInt32.toInt32) < 0 ∧ ¬ (255 : Int32) < nar .char ((Int32.ofNat k.val).toUInt32.toUInt16.toUInt32.toInt32) := by decide +kernel
  have h : (x &&& 255).toBitVec.toNat < 256 := by
    simp only [Int32.toBitVec_and, BitVec.toNat_and]
    exact Nat.lt_succ_of_le Nat.and_le_right
  have e : (x &&& 255) = Int32.ofNat (x &&& 255).toBitVec.toNat := by
    apply Int32.toBitVec_inj.mp
    show _ = BitVec.ofNat 32 _
    rw [BitVec.ofNat_toNat]; simp
  rw [e]
  exact t ⟨_, h⟩
theorem up (cs : List Int32) (h : ∀ c ∈ cs, ¬ c < 0 ∧ ¬ (255 : Int32) < c) : ∀ c ∈ cs, ¬ c < 0 ∧ ¬ (65535 : Int32) < c := fun c hc => ⟨(h c hc).1, fun q => (h c hc).2 (by rw [Int32.lt_iff_toInt_lt] at q ⊢; have e1 : (65535 : Int32).toInt = 65535 := rfl; have e2 : (255 : Int32).toInt = 255 := rfl; omega)⟩
theorem all1 {P : Int32 → Prop} {x : Int32} (h : P x) : ∀ c ∈ [x], P c := fun c hc => by cases List.mem_singleton.mp hc; exact h
theorem allC {P : Int32 → Prop} {x : Int32} {L : List Int32} (h : P x) (r : ∀ c ∈ L, P c) : ∀ c ∈ x :: L, P c := fun c hc => (List.mem_cons.mp hc).elim (fun u => u ▸ h) (r c)
theorem allN {P : Int32 → Prop} : ∀ c ∈ ([] : List Int32), P c := fun _ q => nomatch q
theorem pn_0 : plainName "com/example/oneiros/oneiros/SpreadMeanOfPinLaw" = true := by first | (simp [plainName, overriddenIn]; done) | decide +kernel
theorem pd_0 : parseMethodDescriptor "([D)D" = some ⟨[(.array .double)], some .double⟩ := by decide +kernel
def LI1 : List (Nat × Instr × Nat) := [(0, .aload_n 0, 1), (1, .iconst 0, 1), (2, .daload, 1), (3, .dstore_n 1, 1), (4, .dconst 0, 1), (5, .dstore_n 3, 1), (6, .aload_n 0, 1), (7, .astore 5, 2), (9, .aload 5, 2), (11, .arraylength, 1), (12, .istore 6, 2), (14, .iconst 0, 1), (15, .istore 7, 2), (17, .iload 7, 2), (19, .iload 6, 2), (21, .if_icmp .ge 23, 3), (24, .aload 5, 2), (26, .iload 7, 2), (28, .daload, 1), (29, .dstore 8, 2), (31, .dload_n 3, 1), (32, .dload 8, 2), (34, .dload_n 1, 1), (35, .dsub, 1), (36, .dadd, 1), (37, .dstore_n 3, 1), (38, .iinc 7 1, 3), (41, .goto (-24), 3), (44, .dload_n 1, 1), (45, .dload_n 3, 1), (46, .aload_n 0, 1), (47, .arraylength, 1), (48, .i2d, 1), (49, .ddiv, 1), (50, .dadd, 1), (51, .dreturn, 1)]
theorem D1 : DecAll prog_28_method_5_code LI1 := by unfold DecAll; decide +kernel
theorem pn_1 : plainName "com/example/oneiros/oneiros/Spread" = true := by first | (simp [plainName, overriddenIn]; done) | decide +kernel
open Jvm.FP Jvm.Free.Fl
theorem o_int {n : Nat} (h : n < 2147483648) : (Int32.ofNat n).toInt = n := Int32.toInt_ofNat_of_lt h
theorem o_nat {n : Nat} (h : n < 2147483648) : (Int32.ofNat n).toNatClampNeg = n := by
  have := o_int h; simp only [Int32.toNatClampNeg, this]; omega
theorem o_nn {n : Nat} (h : n < 2147483648) : ¬ Int32.ofNat n < 0 := by
  rw [Int32.lt_iff_toInt_lt, o_int h]; have : (0 : Int32).toInt = 0 := rfl; omega
theorem o_lt {a b : Nat} (ha : a < 2147483648) (hb : b < 2147483648) : Int32.ofNat a < Int32.ofNat b ↔ a < b := by
  rw [Int32.lt_iff_toInt_lt, o_int ha, o_int hb]; omega
theorem o_in {a b : Nat} (h : a < b) (hb : b < 2147483648) : ¬ Int32.ofNat a < 0 ∧ Int32.ofNat a < Int32.ofNat b := ⟨o_nn (by omega), (o_lt (by omega) hb).2 h⟩
theorem o_ne {a b : Nat} (h : a < b) (hb : b < 2147483648) : ¬ Int32.ofNat a = Int32.ofNat b := fun e => by
  have := congrArg Int32.toInt e; rw [o_int (by omega), o_int hb] at this; omega
theorem o_add (a b : Nat) : Int32.ofNat a + Int32.ofNat b = Int32.ofNat (a + b) := (Int32.ofNat_add a b).symm
theorem o_one (a : Nat) : Int32.ofNat a + (1 : Int32) = Int32.ofNat (a + 1) := o_add a 1
theorem o_sub {a b : Nat} (h : b ≤ a) (ha : a < 2147483648) : Int32.ofNat a - Int32.ofNat b = Int32.ofNat (a - b) := by
  have e : a = (a - b) + b := by omega
  rw [show Int32.ofNat a = Int32.ofNat (a - b) + Int32.ofNat b by rw [o_add, ← e]]
  simp
abbrev Dv (x : Int64) : Value := .double (FP.l2d x)
def BdI (x : Int64) : Prop := -2147483649 < x.toInt ∧ x.toInt < 2147483648
theorem BdI.b53 {x : Int64} (h : BdI x) : B53 x := by unfold B53; unfold BdI at h; omega
theorem add_int {a b : Int64} (ha : -4611686018427387904 ≤ a.toInt ∧ a.toInt ≤ 4611686018427387903) (hb : -4611686018427387904 ≤ b.toInt ∧ b.toInt ≤ 4611686018427387903) : (a + b).toInt = a.toInt + b.toInt := by
  rw [Int64.toInt_add, Int.bmod_def]; split <;> omega
theorem sub_int {a b : Int64} (ha : -4611686018427387904 ≤ a.toInt ∧ a.toInt ≤ 4611686018427387903) (hb : -4611686018427387904 ≤ b.toInt ∧ b.toInt ≤ 4611686018427387903) : (a - b).toInt = a.toInt - b.toInt := by
  rw [Int64.toInt_sub, Int.bmod_def]; split <;> omega
theorem bd_i2l (z : Int32) : BdI z.toInt64 := by
  unfold BdI
  rw [Int32.toInt_toInt64]
  have h1 := z.toInt_lt
  have h2 := z.le_toInt
  omega
theorem and_nat (z : Int32) (M : Nat) (hM : M < 2147483648) : ∃ j, j ≤ M ∧ z &&& Int32.ofNat M = Int32.ofNat j := by
  refine ⟨(z &&& Int32.ofNat M).toBitVec.toNat, ?_, ?_⟩
  · rw [Int32.toBitVec_and, BitVec.toNat_and]
    refine Nat.le_trans Nat.and_le_right ?_
    show M % 2 ^ 32 ≤ M
    exact Nat.mod_le _ _
  · apply Int32.toBitVec_inj.mp
    apply BitVec.eq_of_toNat_eq
    show _ = _ % 2 ^ 32
    rw [Nat.mod_eq_of_lt (BitVec.isLt _)]
/-- a double's value, in units of 2^-1074 -/
abbrev zv (x : UInt64) : Int := Core.zval Core.b64 (Core.val64 x)
/-- 2^-6 in those units -/
def WW : Int := ((2 ^ 1068 : Nat) : Int)
theorem one_W : (Core.one64 : Int) = 64 * WW := by
  unfold WW Core.one64
  rw [show (2 : Nat) ^ 1074 = 64 * 2 ^ 1068 by decide +kernel, Int.natCast_mul]; rfl
theorem W_pos : 0 < WW := by unfold WW; exact Int.natCast_pos.mpr (Nat.two_pow_pos _)
theorem qm64 : Core.b64.qmin = -1074 := by decide +kernel
theorem qM64 : Core.b64.qmax = 971 := by decide +kernel
theorem zv_l2d {a : Int64} (h : B53 a) : zv (FP.l2d a) = a.toInt * (64 * WW) := by rw [← one_W]; exact Core.DInt_zval (Core.l2d_whole h)
theorem sg_mul (s : Bool) (c k : Nat) : Core.signed s (c * k) = Core.signed s c * (k : Int) := Core.signed_mul s c k
theorem sg_abs (s : Bool) (c : Nat) : (Core.signed s c).natAbs = c := Core.natAbs_signed s c
/-- every m / 64 with |m| < 2^53 is a double -/
theorem rep {m : Int} (h : -9007199254740992 < m ∧ m < 9007199254740992) : ∃ V, Core.fits Core.b64 V ∧ V ≠ .nan ∧ Core.zval Core.b64 V = m * WW := by
  by_cases hm : m = 0
  · refine ⟨.fin false 0 Core.b64.qmin, Core.zero_fits Core.good_b64 false, Core.Datum.noConfusion, ?_⟩
    rw [hm, Int.zero_mul]
    show Core.signed false (Core.inUnits 0 _ _) = 0
    unfold Core.inUnits
    rw [Nat.zero_mul]; rfl
  · have e : (Int64.ofInt m).toInt = m := Int64.toInt_ofInt_of_le (by omega) (by omega)
    have hB : B53 (Int64.ofInt m) := by unfold B53; rw [e]; exact h
    have hz := zv_l2d hB
    rw [e] at hz
    obtain ⟨c, q, hs⟩ := Core.l2d_shape (Int64.ofInt m)
    have hf := Core.val64_fits (FP.l2d (Int64.ofInt m))
    unfold zv at hz
    rw [show Core.val64 (FP.l2d (Int64.ofInt m)) = _ from hs] at hz hf
    rw [e] at hz hf
    obtain ⟨hc, hq1, hq2, hcan⟩ := hf
    have hz' : Core.signed (decide (m < 0)) (c * 2 ^ (q - Core.b64.qmin).toNat) = m * (64 * WW) := hz
    have hc53 : c < 2 ^ 53 := hc
    have hab := congrArg Int.natAbs hz'
    rw [sg_abs, Int.natAbs_mul, ← one_W] at hab
    have hab' : c * 2 ^ (q - Core.b64.qmin).toNat = m.natAbs * 2 ^ 1074 := hab
    have hq6 : Core.b64.qmin + 6 ≤ q := by
      apply Int.le_of_not_gt
      intro hlt
      have h5 : (q - Core.b64.qmin).toNat ≤ 5 := by omega
      have l1 : c * 2 ^ (q - Core.b64.qmin).toNat < 2 ^ 53 * 2 ^ 5 := Nat.mul_lt_mul_of_lt_of_le hc53 (Nat.pow_le_pow_right (by decide) h5) (Nat.two_pow_pos _)
      have l2 : 2 ^ 1074 ≤ m.natAbs * 2 ^ 1074 := Nat.le_mul_of_pos_left _ (by omega)
      have l3 : (2 : Nat) ^ 53 * 2 ^ 5 ≤ 2 ^ 1074 := by rw [← Nat.pow_add]; exact Nat.pow_le_pow_right (by decide) (by decide)
      rw [hab'] at l1
      exact absurd (Nat.lt_of_le_of_lt l2 l1) (Nat.not_lt.mpr l3)
    refine ⟨.fin (decide (m < 0)) c (q - 6), ⟨hc, by omega, by omega, Or.inr (hcan.resolve_left (by omega))⟩, Core.Datum.noConfusion, ?_⟩
    show Core.signed (decide (m < 0)) (c * 2 ^ (q - 6 - Core.b64.qmin).toNat) = m * WW
    have e2 : (q - Core.b64.qmin).toNat = (q - 6 - Core.b64.qmin).toNat + 6 := by omega
    rw [e2, Nat.pow_add, ← Nat.mul_assoc, sg_mul] at hz'
    have : ((2 ^ 6 : Nat) : Int) = 64 := by decide
    rw [this] at hz'
    have h3 : 64 * Core.signed (decide (m < 0)) (c * 2 ^ (q - 6 - Core.b64.qmin).toNat) = 64 * (m * WW) := by rw [Int.mul_comm]; rw [hz']; rw [← Int.mul_assoc, ← Int.mul_assoc, Int.mul_comm m 64]
    exact Int.eq_of_mul_eq_mul_left (by decide) h3
theorem add_le {x y : UInt64} (hx : Core.DFin x) (hy : Core.DFin y) {m : Int} (hm : -9007199254740992 < m ∧ m < 9007199254740992) (h : zv x + zv y ≤ m * WW) : zv (FP.dadd x y) ≤ m * WW := by
  obtain ⟨V, fV, nV, zV⟩ := rep hm
  show Core.zval Core.b64 (Core.val64 (Core.dadd x y)) ≤ _
  rw [Core.val64_dadd, ← zV]
  exact Core.sum_le Core.good_b64 hx hy (Core.val64_fits x) (Core.val64_fits y) fV nV (by rw [zV]; exact h)
theorem add_ge {x y : UInt64} (hx : Core.DFin x) (hy : Core.DFin y) {m : Int} (hm : -9007199254740992 < m ∧ m < 9007199254740992) (h : m * WW ≤ zv x + zv y) : m * WW ≤ zv (FP.dadd x y) := by
  obtain ⟨V, fV, nV, zV⟩ := rep hm
  show _ ≤ Core.zval Core.b64 (Core.val64 (Core.dadd x y))
  rw [Core.val64_dadd, ← zV]
  exact Core.sum_ge Core.good_b64 hx hy (Core.val64_fits x) (Core.val64_fits y) fV nV (by rw [zV]; exact h)
/-- the quotient of two whole numbers, the second positive: its shape -/
theorem div_shape {S n : Int64} (hS : B53 S) (hn : B53 n) (n0 : 0 < n.toInt) : ∃ c d : Nat, ∃ q r : Int, 0 < d ∧ Core.b64.qmin ≤ q ∧ Core.b64.qmin ≤ r ∧ c * 2 ^ (q - Core.b64.qmin).toNat = S.toInt.natAbs * Core.one64 ∧ d * 2 ^ (r - Core.b64.qmin).toNat = n.toInt.natAbs * Core.one64 ∧ Core.val64 (FP.ddiv (FP.l2d S) (FP.l2d n)) = Core.roundRatio Core.b64 (decide (S.toInt < 0)) c d (q - r) := by
  obtain ⟨c, q, hs⟩ := Core.l2d_shape S
  obtain ⟨d, r, ht⟩ := Core.l2d_shape n
  have zS := Core.DInt_zval (Core.l2d_whole hS)
  have zn := Core.DInt_zval (Core.l2d_whole hn)
  have fS := Core.val64_fits (FP.l2d S)
  have fn := Core.val64_fits (FP.l2d n)
  have hs' : Core.val64 (FP.l2d S) = .fin (decide (S.toInt < 0)) c q := hs
  have ht' : Core.val64 (FP.l2d n) = .fin (decide (n.toInt < 0)) d r := ht
  have zS' : Core.zval Core.b64 (Core.val64 (FP.l2d S)) = S.toInt * (Core.one64 : Int) := zS
  have zn' : Core.zval Core.b64 (Core.val64 (FP.l2d n)) = n.toInt * (Core.one64 : Int) := zn
  rw [hs'] at zS' fS
  rw [ht'] at zn' fn
  have eS : Core.signed (decide (S.toInt < 0)) (c * 2 ^ (q - Core.b64.qmin).toNat) = S.toInt * (Core.one64 : Int) := zS'
  have en : Core.signed (decide (n.toInt < 0)) (d * 2 ^ (r - Core.b64.qmin).toNat) = n.toInt * (Core.one64 : Int) := zn'
  have aS := congrArg Int.natAbs eS
  have an := congrArg Int.natAbs en
  rw [sg_abs, Int.natAbs_mul] at aS an
  have hd : 0 < d := by
    rcases Nat.eq_zero_or_pos d with h | h
    · rw [h, Nat.zero_mul] at an
      have := Core.one64_pos
      have h2 : 0 < n.toInt.natAbs * Core.one64 := Nat.mul_pos (by omega) this
      have h3 : (0 : Nat) = n.toInt.natAbs * Core.one64 := an
      omega
    · exact h
  refine ⟨c, d, q, r, hd, fS.2.1, fn.2.1, aS, an, ?_⟩
  show Core.val64 (Core.ddiv (FP.l2d S) (FP.l2d n)) = _
  rw [Core.val64_ddiv, hs', ht']
  show (if d = 0 then _ else Core.roundRatio Core.b64 ((decide (S.toInt < 0)) != (decide (n.toInt < 0))) c d (q - r)) = _
  rw [if_neg (by omega), show decide (n.toInt < 0) = false from decide_eq_false (by omega)]
  cases decide (S.toInt < 0) <;> rfl
theorem units_q {c d : Nat} {q r : Int} {A B : Nat} (hq : Core.b64.qmin ≤ q) (hr : Core.b64.qmin ≤ r) (hc : c * 2 ^ (q - Core.b64.qmin).toNat = A * Core.one64) (hd : d * 2 ^ (r - Core.b64.qmin).toNat = B * Core.one64) (k : Nat) : Core.inUnits c (q - r) (2 * Core.b64.qmin - r) = A * Core.one64 * Core.one64 ∧ k * 2 ^ (Core.b64.qmin - (2 * Core.b64.qmin - r)).toNat * d = k * B * Core.one64 := by
  constructor
  · unfold Core.inUnits
    have e : (q - r - (2 * Core.b64.qmin - r)).toNat = (q - Core.b64.qmin).toNat + (-Core.b64.qmin).toNat := by have := qm64; omega
    rw [e, Nat.pow_add, ← Nat.mul_assoc, hc, Core.pow_qmin64]
  · have e : (Core.b64.qmin - (2 * Core.b64.qmin - r)).toNat = (r - Core.b64.qmin).toNat := by omega
    rw [e, Nat.mul_assoc, Nat.mul_comm _ d, hd, ← Nat.mul_assoc]
theorem div_mag_le {S n : Int64} (hS : B53 S) (hn : B53 n) (n0 : 0 < n.toInt) {V : Core.Datum} (fV : Core.fits Core.b64 V) (nV : V ≠ .nan) (h : S.toInt.natAbs * Core.one64 ≤ Core.zmag Core.b64 V * n.toInt.natAbs) : Core.zmag Core.b64 (Core.val64 (FP.ddiv (FP.l2d S) (FP.l2d n))) ≤ Core.zmag Core.b64 V := by
  obtain ⟨c, d, q, r, hd, hq, hr, hc, hdd, e⟩ := div_shape hS hn n0
  rw [e]
  have u := units_q hq hr hc hdd (Core.zmag Core.b64 V)
  refine Core.zmag_roundRatio_le Core.good_b64 hd fV nV (e0 := 2 * Core.b64.qmin - r) (by omega) (by have := qm64; omega) ?_
  rw [u.1, u.2]
  exact Nat.mul_le_mul_right _ h
theorem div_mag_ge {S n : Int64} (hS : B53 S) (hn : B53 n) (n0 : 0 < n.toInt) {V : Core.Datum} (fV : Core.fits Core.b64 V) (h : Core.zmag Core.b64 V * n.toInt.natAbs ≤ S.toInt.natAbs * Core.one64) : Core.zmag Core.b64 V ≤ Core.zmag Core.b64 (Core.val64 (FP.ddiv (FP.l2d S) (FP.l2d n))) := by
  obtain ⟨c, d, q, r, hd, hq, hr, hc, hdd, e⟩ := div_shape hS hn n0
  rw [e]
  have u := units_q hq hr hc hdd (Core.zmag Core.b64 V)
  refine Core.zmag_roundRatio_ge Core.good_b64 hd fV (e0 := 2 * Core.b64.qmin - r) (by omega) (by have := qm64; omega) ?_
  rw [u.1, u.2]
  exact Nat.mul_le_mul_right _ h
theorem div_sgn {S n : Int64} (hS : B53 S) (hn : B53 n) (n0 : 0 < n.toInt) : zv (FP.ddiv (FP.l2d S) (FP.l2d n)) = Core.signed (decide (S.toInt < 0)) (Core.zmag Core.b64 (Core.val64 (FP.ddiv (FP.l2d S) (FP.l2d n)))) := by
  obtain ⟨c, d, q, r, hd, hq, hr, hc, hdd, e⟩ := div_shape hS hn n0
  show Core.signed (Core.sgn (Core.val64 _)) _ = _
  rw [show Core.sgn (Core.val64 (FP.ddiv (FP.l2d S) (FP.l2d n))) = decide (S.toInt < 0) by rw [e]; exact Core.sgn_roundRatio ..]
theorem sgf (c : Nat) : Core.signed false c = (c : Int) := rfl
theorem sgt (c : Nat) : Core.signed true c = -(c : Int) := rfl
/-- zval's size -/
theorem zv_abs (V : Core.Datum) : (Core.zval Core.b64 V).natAbs = Core.zmag Core.b64 V := sg_abs _ _
theorem div_le {S n : Int64} (hS : B53 S) (hn : B53 n) (n0 : 0 < n.toInt) {m : Int} (hm : -9007199254740992 < m ∧ m < 9007199254740992) (h : S.toInt * 64 ≤ m * n.toInt) : zv (FP.ddiv (FP.l2d S) (FP.l2d n)) ≤ m * WW := by
  obtain ⟨V, fV, nV, zV⟩ := rep hm
  have hab := zv_abs V
  rw [zV] at hab
  have hW := W_pos
  have hone := one_W
  rw [div_sgn hS hn n0]
  by_cases hs : S.toInt < 0
  · rw [show decide (S.toInt < 0) = true from decide_eq_true hs, sgt]
    by_cases m0 : 0 ≤ m
    · have : 0 ≤ m * WW := Int.mul_nonneg m0 (Int.le_of_lt hW)
      omega
    · have hm1 : (m * WW).natAbs = m.natAbs * WW.natAbs := Int.natAbs_mul _ _
      have hz : Core.zmag Core.b64 V ≤ Core.zmag Core.b64 (Core.val64 (FP.ddiv (FP.l2d S) (FP.l2d n))) := by
        refine div_mag_ge hS hn n0 fV ?_
        apply Int.ofNat_le.mp
        rw [Int.natCast_mul, Int.natCast_mul, hone, ← hab]
        have a1 : (((m * WW).natAbs : Nat) : Int) = -(m * WW) := by
          have : m * WW ≤ 0 := Int.mul_nonpos_of_nonpos_of_nonneg (by omega) (Int.le_of_lt hW)
          omega
        have a2 : ((n.toInt.natAbs : Nat) : Int) = n.toInt := by omega
        have a3 : ((S.toInt.natAbs : Nat) : Int) = -S.toInt := by omega
        rw [a1, a2, a3]
        have := Int.mul_le_mul_of_nonneg_right h (Int.le_of_lt hW)
        have e1 : -(m * WW) * n.toInt = -(m * n.toInt * WW) := by rw [Int.neg_mul, Int.mul_assoc, Int.mul_comm WW, ← Int.mul_assoc]
        have e2 : -S.toInt * (64 * WW) = -(S.toInt * 64 * WW) := by rw [Int.neg_mul, Int.mul_assoc]
        rw [e1, e2]; omega
      have : (((m * WW).natAbs : Nat) : Int) = -(m * WW) := by
        have : m * WW ≤ 0 := Int.mul_nonpos_of_nonpos_of_nonneg (by omega) (Int.le_of_lt hW)
        omega
      omega
  · rw [show decide (S.toInt < 0) = false from decide_eq_false hs, sgf]
    have m0 : 0 ≤ m := by
      apply Int.le_of_not_gt
      intro hlt
      have : m * n.toInt < 0 := Int.mul_neg_of_neg_of_pos hlt n0
      omega
    have hmw : 0 ≤ m * WW := Int.mul_nonneg m0 (Int.le_of_lt hW)
    have hz : Core.zmag Core.b64 (Core.val64 (FP.ddiv (FP.l2d S) (FP.l2d n))) ≤ Core.zmag Core.b64 V := by
      refine div_mag_le hS hn n0 fV nV ?_
      apply Int.ofNat_le.mp
      rw [Int.natCast_mul, Int.natCast_mul, hone, ← hab]
      have a1 : (((m * WW).natAbs : Nat) : Int) = m * WW := by omega
      have a2 : ((n.toInt.natAbs : Nat) : Int) = n.toInt := by omega
      have a3 : ((S.toInt.natAbs : Nat) : Int) = S.toInt := by omega
      rw [a1, a2, a3]
      have := Int.mul_le_mul_of_nonneg_right h (Int.le_of_lt hW)
      have e1 : m * WW * n.toInt = m * n.toInt * WW := by rw [Int.mul_assoc, Int.mul_comm WW, ← Int.mul_assoc]
      have e2 : S.toInt * (64 * WW) = S.toInt * 64 * WW := by rw [Int.mul_assoc]
      rw [e1, e2]; exact this
    omega
theorem div_ge {S n : Int64} (hS : B53 S) (hn : B53 n) (n0 : 0 < n.toInt) {m : Int} (hm : -9007199254740992 < m ∧ m < 9007199254740992) (h : m * n.toInt ≤ S.toInt * 64) : m * WW ≤ zv (FP.ddiv (FP.l2d S) (FP.l2d n)) := by
  obtain ⟨V, fV, nV, zV⟩ := rep hm
  have hab := zv_abs V
  rw [zV] at hab
  have hW := W_pos
  have hone := one_W
  rw [div_sgn hS hn n0]
  by_cases hs : S.toInt < 0
  · rw [show decide (S.toInt < 0) = true from decide_eq_true hs, sgt]
    have m0 : m < 0 := by
      apply Int.lt_of_not_ge
      intro hge
      have : 0 ≤ m * n.toInt := Int.mul_nonneg hge (Int.le_of_lt n0)
      omega
    have hmw : m * WW ≤ 0 := Int.mul_nonpos_of_nonpos_of_nonneg (by omega) (Int.le_of_lt hW)
    have hz : Core.zmag Core.b64 (Core.val64 (FP.ddiv (FP.l2d S) (FP.l2d n))) ≤ Core.zmag Core.b64 V := by
      refine div_mag_le hS hn n0 fV nV ?_
      apply Int.ofNat_le.mp
      rw [Int.natCast_mul, Int.natCast_mul, hone, ← hab]
      have a1 : (((m * WW).natAbs : Nat) : Int) = -(m * WW) := by omega
      have a2 : ((n.toInt.natAbs : Nat) : Int) = n.toInt := by omega
      have a3 : ((S.toInt.natAbs : Nat) : Int) = -S.toInt := by omega
      rw [a1, a2, a3]
      have := Int.mul_le_mul_of_nonneg_right h (Int.le_of_lt hW)
      have e1 : -(m * WW) * n.toInt = -(m * n.toInt * WW) := by rw [Int.neg_mul, Int.mul_assoc, Int.mul_comm WW, ← Int.mul_assoc]
      have e2 : -S.toInt * (64 * WW) = -(S.toInt * 64 * WW) := by rw [Int.neg_mul, Int.mul_assoc]
      rw [e1, e2]; omega
    omega
  · rw [show decide (S.toInt < 0) = false from decide_eq_false hs, sgf]
    by_cases m0 : m < 0
    · have : m * WW ≤ 0 := Int.mul_nonpos_of_nonpos_of_nonneg (by omega) (Int.le_of_lt hW)
      omega
    · have hmw : 0 ≤ m * WW := Int.mul_nonneg (by omega) (Int.le_of_lt hW)
      have hz : Core.zmag Core.b64 V ≤ Core.zmag Core.b64 (Core.val64 (FP.ddiv (FP.l2d S) (FP.l2d n))) := by
        refine div_mag_ge hS hn n0 fV ?_
        apply Int.ofNat_le.mp
        rw [Int.natCast_mul, Int.natCast_mul, hone, ← hab]
        have a1 : (((m * WW).natAbs : Nat) : Int) = m * WW := by omega
        have a2 : ((n.toInt.natAbs : Nat) : Int) = n.toInt := by omega
        have a3 : ((S.toInt.natAbs : Nat) : Int) = S.toInt := by omega
        rw [a1, a2, a3]
        have := Int.mul_le_mul_of_nonneg_right h (Int.le_of_lt hW)
        have e1 : m * WW * n.toInt = m * n.toInt * WW := by rw [Int.mul_assoc, Int.mul_comm WW, ← Int.mul_assoc]
        have e2 : S.toInt * (64 * WW) = S.toInt * 64 * WW := by rw [Int.mul_assoc]
        rw [e1, e2]; exact this
      omega
/-- a double between two such numbers is finite -/
theorem fin_bd {x : UInt64} (hn : Core.val64 x ≠ .nan) {m k : Int} (hm : -9007199254740992 < m ∧ m < 9007199254740992) (hk : -9007199254740992 < k ∧ k < 9007199254740992) (h1 : m * WW ≤ zv x) (h2 : zv x ≤ k * WW) : Core.DFin x := by
  cases hx : Core.val64 x with
  | nan => exact absurd hx hn
  | fin s c q => exact ⟨s, c, q, hx⟩
  | inf s =>
    exfalso
    have hz : (zv x).natAbs = Core.b64.tails * 2 ^ (Core.b64.exps - 2) := by rw [zv_abs, hx]; rfl
    have big : 9007199254740992 * 2 ^ 1068 < Core.b64.tails * 2 ^ (Core.b64.exps - 2) := by decide +kernel
    have hW := W_pos
    have w1 : k * WW ≤ 9007199254740992 * WW := Int.mul_le_mul_of_nonneg_right (by omega) (Int.le_of_lt hW)
    have w2 : -9007199254740992 * WW ≤ m * WW := Int.mul_le_mul_of_nonneg_right (by omega) (Int.le_of_lt hW)
    have wn : ((9007199254740992 * 2 ^ 1068 : Nat) : Int) = 9007199254740992 * WW := by unfold WW; rw [Int.natCast_mul]; rfl
    have b2 := Int.ofNat_lt.mpr big
    rw [wn] at b2
    omega
theorem nan_ne {x : UInt64} (h : NoNaN64 x) : Core.val64 x ≠ .nan := (Core.notNaN_iff x).mp (noNaN64_no.mp h)
theorem cmp_lt {x y : UInt64} (hx : NoNaN64 x) (hy : NoNaN64 y) (h : zv x < zv y) (o : CmpOp) : cmpValue (FP.dcmp x y) o = -1 := by
  have e : FP.dcmp x y = some (compare (zv x) (zv y)) := Core.dcmp_zval (nan_ne hx) (nan_ne hy)
  rw [e, show compare (zv x) (zv y) = .lt from by rw [Core.compare_ite, if_pos h]]
  cases o <;> rfl
theorem cmp_eq {x y : UInt64} (hx : NoNaN64 x) (hy : NoNaN64 y) (h : zv x = zv y) (o : CmpOp) : cmpValue (FP.dcmp x y) o = 0 := by
  have e : FP.dcmp x y = some (compare (zv x) (zv y)) := Core.dcmp_zval (nan_ne hx) (nan_ne hy)
  rw [e, show compare (zv x) (zv y) = .eq from by rw [Core.compare_ite, if_neg (by omega), if_pos h]]
  cases o <;> rfl
theorem fl2d (a : Int64) : Core.DFin (FP.l2d a) := fin64_core.mp (l2d_fin a)
theorem B_of {x : Int64} (h : -1000000000000 < x.toInt ∧ x.toInt < 1000000000000) : B53 x := by unfold B53; omega
theorem nz_n {n : Int64} (h : n = 1 ∨ n = 2 ∨ n = 3) : Nz64 (FP.l2d n) := by
  rcases h with rfl | rfl | rfl <;> (unfold Nz64; decide +kernel)
theorem n_int {n : Int64} (h : n = 1 ∨ n = 2 ∨ n = 3) : 0 < n.toInt ∧ n.toInt < 4 := by
  rcases h with rfl | rfl | rfl <;> decide
theorem nn_q {S n : Int64} (h : n = 1 ∨ n = 2 ∨ n = 3) : NoNaN64 (FP.ddiv (FP.l2d S) (FP.l2d n)) := ddiv_out (l2d_fin S).noNaN (l2d_fin n) (nz_n h)
theorem nn_m {a S n : Int64} (h : n = 1 ∨ n = 2 ∨ n = 3) : NoNaN64 (FP.dadd (FP.l2d a) (FP.ddiv (FP.l2d S) (FP.l2d n))) := dadd_out' (l2d_fin a) (nn_q h)
theorem mean_bd {a S n : Int64} (hn : n = 1 ∨ n = 2 ∨ n = 3) (ha : BdI a) (hS : -1000000000000 < S.toInt ∧ S.toInt < 1000000000000) {k1 k2 : Int} (r1 : -1000000000000000 < k1 ∧ k1 < 1000000000000000) (r2 : -1000000000000000 < k2 ∧ k2 < 1000000000000000) (h1 : k1 * n.toInt ≤ S.toInt * 64) (h2 : S.toInt * 64 ≤ k2 * n.toInt) :
    (64 * a.toInt + k1) * WW ≤ zv (FP.dadd (FP.l2d a) (FP.ddiv (FP.l2d S) (FP.l2d n))) ∧ zv (FP.dadd (FP.l2d a) (FP.ddiv (FP.l2d S) (FP.l2d n))) ≤ (64 * a.toInt + k2) * WW := by
  have hn' := n_int hn
  have bn : B53 n := B_of (by omega)
  have dge := div_ge (B_of hS) bn hn'.1 (m := k1) (by omega) h1
  have dle := div_le (B_of hS) bn hn'.1 (m := k2) (by omega) h2
  have fq := fin_bd (nan_ne (nn_q (S := S) hn)) (m := k1) (k := k2) (by omega) (by omega) dge dle
  have za := zv_l2d ha.b53
  unfold BdI at ha
  have e : ∀ k : Int, (64 * a.toInt + k) * WW = a.toInt * (64 * WW) + k * WW := fun k => by rw [Int.add_mul, Int.mul_comm 64, Int.mul_assoc]
  refine ⟨add_ge (fl2d a) fq (by omega) ?_, add_le (fl2d a) fq (by omega) ?_⟩
  · rw [e, za]; omega
  · rw [e, za]; omega
theorem mean_fin {a S n : Int64} (hn : n = 1 ∨ n = 2 ∨ n = 3) (ha : BdI a) {k1 k2 : Int} (r1 : -1000000000000000 < k1 ∧ k1 < 1000000000000000) (r2 : -1000000000000000 < k2 ∧ k2 < 1000000000000000) (h : (64 * a.toInt + k1) * WW ≤ zv (FP.dadd (FP.l2d a) (FP.ddiv (FP.l2d S) (FP.l2d n))) ∧ zv (FP.dadd (FP.l2d a) (FP.ddiv (FP.l2d S) (FP.l2d n))) ≤ (64 * a.toInt + k2) * WW) : Core.DFin (FP.dadd (FP.l2d a) (FP.ddiv (FP.l2d S) (FP.l2d n))) := by
  unfold BdI at ha
  exact fin_bd (nan_ne (nn_m hn)) (by omega) (by omega) h.1 h.2
theorem val_two : Core.val64 4611686018427387904 = .fin false (2 ^ 52) (-51) := by decide +kernel
theorem zmag_two : Core.zmag Core.b64 (.fin false (2 ^ 52) (-51)) = 2 * Core.one64 := by decide +kernel
theorem two_fits : Core.fits Core.b64 (.fin false (2 ^ 52) (-51)) := by rw [← val_two]; exact Core.val64_fits _
theorem fin_two : Core.DFin 4611686018427387904 := ⟨_, _, _, val_two⟩
theorem mul_two {x : UInt64} (hx : Core.DFin x) {k : Int} (hk : -1000000000000000 < k ∧ k < 1000000000000000) (h : zv x = k * WW) : zv (FP.dmul 4611686018427387904 x) = (2 * k) * WW := by
  obtain ⟨V, fV, nV, zV⟩ := rep (m := 2 * k) (by omega)
  obtain ⟨t, d, r, hv⟩ := hx
  have fx := Core.val64_fits x
  rw [hv] at fx
  obtain ⟨p1, p2, p3⟩ := Core.product_units two_fits fx
  have hz : Core.signed t (Core.zmag Core.b64 (.fin t d r)) = k * WW := by have := h; unfold zv at this; rw [hv] at this; exact this
  have key : Core.signed (false != t) (Core.inUnits (2 ^ 52 * d) (-51 + r) (2 * Core.b64.qmin)) = (2 * k * WW) * (Core.one64 : Int) := by
    rw [p3, zmag_two, show (false != t) = t by cases t <;> rfl, Nat.mul_comm, sg_mul, hz, Int.natCast_mul]
    rw [show ((2 : Nat) : Int) = 2 from rfl, ← Int.mul_assoc, Int.mul_comm (k * WW) 2, Int.mul_assoc 2 k WW]
  have e0 : (Core.b64.qmin - 2 * Core.b64.qmin).toNat = (-Core.b64.qmin).toNat := by omega
  have l1 := Core.zval_round_le Core.good_b64 (s := (false != t)) (c := 2 ^ 52 * d) (q := -51 + r) (e0 := 2 * Core.b64.qmin) fV nV (by have := qm64; omega) p2 (by rw [key, e0, Core.pow_qmin64, zV]; exact Int.le_refl _)
  have l2 := Core.zval_round_ge Core.good_b64 (s := (false != t)) (c := 2 ^ 52 * d) (q := -51 + r) (e0 := 2 * Core.b64.qmin) fV nV (by have := qm64; omega) p2 (by rw [key, e0, Core.pow_qmin64, zV]; exact Int.le_refl _)
  show Core.zval Core.b64 (Core.val64 (Core.dmul 4611686018427387904 x)) = _
  rw [Core.val64_dmul, val_two, hv, p1, ← zV]
  omega
theorem nn_two {x : UInt64} (hx : Core.DFin x) : NoNaN64 (FP.dmul 4611686018427387904 x) := dmul_out (fin64_core.mpr fin_two) (fin64_core.mpr hx)
/-- one value -/
theorem T1 {a S : Int64} (ha : BdI a) (hS : S.toInt = 0) : cmpValue (FP.dcmp (FP.dadd (FP.l2d a) (FP.ddiv (FP.l2d S) (FP.l2d 1))) (FP.l2d a)) .l = 0 := by
  have h := mean_bd (n := 1) (S := S) (Or.inl rfl) ha (by omega) (k1 := 0) (k2 := 0) (by decide) (by decide) (by rw [hS]; decide) (by rw [hS]; decide)
  refine cmp_eq (nn_m (Or.inl rfl)) (l2d_fin a).noNaN ?_ .l
  rw [zv_l2d ha.b53]
  have e : (64 * a.toInt + 0) * WW = a.toInt * (64 * WW) := by rw [Int.add_zero, Int.mul_comm 64, Int.mul_assoc]
  rw [e] at h
  omega
/-- two values -/
theorem T2 {a b S t : Int64} (ha : BdI a) (hb : BdI b) (hS : S.toInt = b.toInt - a.toInt) (ht : t.toInt = a.toInt + b.toInt) : Core.DFin (FP.dadd (FP.l2d a) (FP.ddiv (FP.l2d S) (FP.l2d 2))) ∧ cmpValue (FP.dcmp (FP.dmul 4611686018427387904 (FP.dadd (FP.l2d a) (FP.ddiv (FP.l2d S) (FP.l2d 2)))) (FP.l2d t)) .l = 0 := by
  have n2 : (2 : Int64).toInt = 2 := rfl
  unfold BdI at hb
  have ha' := ha
  unfold BdI at ha'
  have h := mean_bd (n := 2) (S := S) (Or.inr (Or.inl rfl)) ha (by omega) (k1 := 32 * S.toInt) (k2 := 32 * S.toInt) (by omega) (by omega) (by rw [n2]; omega) (by rw [n2]; omega)
  have hf := mean_fin (Or.inr (Or.inl rfl)) ha (k1 := 32 * S.toInt) (k2 := 32 * S.toInt) (by omega) (by omega) h
  have hz : zv (FP.dadd (FP.l2d a) (FP.ddiv (FP.l2d S) (FP.l2d 2))) = (64 * a.toInt + 32 * S.toInt) * WW := by omega
  have hm := mul_two hf (by omega) hz
  refine ⟨hf, cmp_eq (nn_two hf) (l2d_fin t).noNaN ?_ .l⟩
  rw [hm, zv_l2d (B_of (by omega)), ht, hS]
  rw [show 2 * (64 * a.toInt + 32 * (b.toInt - a.toInt)) = (a.toInt + b.toInt) * 64 by omega, Int.mul_assoc]
/-- three values, a whole mean -/
theorem T30 {a S q : Int64} (ha : BdI a) (hS : -1000000000000 < S.toInt ∧ S.toInt < 1000000000000) (hq : 3 * (q.toInt - a.toInt) = S.toInt) : cmpValue (FP.dcmp (FP.dadd (FP.l2d a) (FP.ddiv (FP.l2d S) (FP.l2d 3))) (FP.l2d q)) .l = 0 := by
  have n3 : (3 : Int64).toInt = 3 := rfl
  have ha' := ha
  unfold BdI at ha'
  have h := mean_bd (n := 3) (S := S) (Or.inr (Or.inr rfl)) ha hS (k1 := 64 * (q.toInt - a.toInt)) (k2 := 64 * (q.toInt - a.toInt)) (by omega) (by omega) (by rw [n3]; omega) (by rw [n3]; omega)
  refine cmp_eq (nn_m (Or.inr (Or.inr rfl))) (l2d_fin q).noNaN ?_ .l
  rw [zv_l2d (B_of (by omega))]
  rw [show 64 * a.toInt + 64 * (q.toInt - a.toInt) = q.toInt * 64 by omega, Int.mul_assoc] at h
  omega
/-- a whole number and a constant of j / 64 -/
theorem lo_c {q : Int64} (hq : -1000000000000 < q.toInt ∧ q.toInt < 1000000000000) {C : UInt64} (hC : Core.DFin C) {j : Int} (hj : 0 ≤ j ∧ j < 100) (h : zv C = j * WW) : zv (FP.dadd (FP.l2d q) C) = (64 * q.toInt + j) * WW ∧ NoNaN64 (FP.dadd (FP.l2d q) C) := by
  have e : (64 * q.toInt + j) * WW = q.toInt * (64 * WW) + j * WW := by rw [Int.add_mul, Int.mul_comm 64, Int.mul_assoc]
  have zq := zv_l2d (B_of hq)
  have l1 := add_le (fl2d q) hC (m := 64 * q.toInt + j) (by omega) (by rw [e, zq, h]; exact Int.le_refl _)
  have l2 := add_ge (fl2d q) hC (m := 64 * q.toInt + j) (by omega) (by rw [e, zq, h]; exact Int.le_refl _)
  exact ⟨by omega, dadd_out (l2d_fin q).noNaN (fin64_core.mpr hC)⟩
/-- three values, the mean between two bounds -/
theorem T3 {a S q : Int64} (ha : BdI a) (hS : -1000000000000 < S.toInt ∧ S.toInt < 1000000000000) (hq : -1000000000000 < q.toInt ∧ q.toInt < 1000000000000) {r j1 j2 k1 k2 : Int} (hr : 3 * (q.toInt - a.toInt) + r = S.toInt) (c1 : k1 * 3 ≤ r * 64) (c2 : r * 64 ≤ k2 * 3) (d1 : 0 ≤ j1 ∧ j1 < k1) (d2 : k2 < j2 ∧ j2 < 100) (d3 : 0 ≤ r ∧ r < 3) {C1 C2 : UInt64} (f1 : Core.DFin C1) (f2 : Core.DFin C2) (z1 : zv C1 = j1 * WW) (z2 : zv C2 = j2 * WW) :
    cmpValue (FP.dcmp (FP.dadd (FP.l2d q) C1) (FP.dadd (FP.l2d a) (FP.ddiv (FP.l2d S) (FP.l2d 3)))) .g = -1 ∧ cmpValue (FP.dcmp (FP.dadd (FP.l2d a) (FP.ddiv (FP.l2d S) (FP.l2d 3))) (FP.dadd (FP.l2d q) C2)) .g = -1 := by
  have n3 : (3 : Int64).toInt = 3 := rfl
  have ha' := ha
  unfold BdI at ha'
  have h := mean_bd (n := 3) (S := S) (Or.inr (Or.inr rfl)) ha hS (k1 := 64 * (q.toInt - a.toInt) + k1) (k2 := 64 * (q.toInt - a.toInt) + k2) (by omega) (by omega) (by rw [n3]; omega) (by rw [n3]; omega)
  have b1 := lo_c hq f1 (j := j1) (by omega) z1
  have b2 := lo_c hq f2 (j := j2) (by omega) z2
  have hW := W_pos
  have m1 : (64 * q.toInt + j1) * WW < (64 * a.toInt + (64 * (q.toInt - a.toInt) + k1)) * WW := Int.mul_lt_mul_of_pos_right (by omega) hW
  have m2 : (64 * a.toInt + (64 * (q.toInt - a.toInt) + k2)) * WW < (64 * q.toInt + j2) * WW := Int.mul_lt_mul_of_pos_right (by omega) hW
  exact ⟨cmp_lt b1.2 (nn_m (Or.inr (Or.inr rfl))) (by rw [b1.1]; omega) .g, cmp_lt (nn_m (Or.inr (Or.inr rfl))) b2.2 (by rw [b2.1]; omega) .g⟩
theorem k20 : zv 4599301119452119040 = 20 * WW := by unfold WW; decide +kernel
theorem k24 : zv 4600427019358961664 = 24 * WW := by unfold WW; decide +kernel
theorem k40 : zv 4603804719079489536 = 40 * WW := by unfold WW; decide +kernel
theorem k44 : zv 4604367669032910848 = 44 * WW := by unfold WW; decide +kernel
theorem f20 : Core.DFin 4599301119452119040 := fin64_core.mp (by unfold Fin64; decide)
theorem f24 : Core.DFin 4600427019358961664 := fin64_core.mp (by unfold Fin64; decide)
theorem f40 : Core.DFin 4603804719079489536 := fin64_core.mp (by unfold Fin64; decide)
theorem f44 : Core.DFin 4604367669032910848 := fin64_core.mp (by unfold Fin64; decide)
theorem num_ex (z : Int32) : ∃ nn, (nn = 1 ∨ nn = 2 ∨ nn = 3) ∧ ((z &&& (2147483647 : Int32)) % (3 : Int32)) + (1 : Int32) = Int32.ofNat nn := by
  obtain ⟨j, hj, e⟩ := and_nat z 2147483647 (by decide)
  refine ⟨j % 3 + 1, by omega, ?_⟩
  rw [show z &&& (2147483647 : Int32) = Int32.ofNat j from e]
  have h3 : Int32.ofNat j % (3 : Int32) = Int32.ofNat (j % 3) := by
    apply Int32.toInt_inj.mp
    rw [Int32.toInt_mod, o_int (by omega), o_int (by omega), show (3 : Int32).toInt = 3 from rfl]
    rw [Int.tmod_eq_emod_of_nonneg (by omega)]; omega
  rw [h3]; exact o_one _
theorem td3 (t : Int) : (0 ≤ t ∧ t.tdiv 3 = t / 3) ∨ (t < 0 ∧ t.tdiv 3 = -((-t) / 3)) := by
  by_cases h : 0 ≤ t
  · exact Or.inl ⟨h, Int.tdiv_eq_ediv_of_nonneg h⟩
  · refine Or.inr ⟨by omega, ?_⟩
    rw [← Int.tdiv_eq_ediv_of_nonneg (show 0 ≤ -t by omega), Int.neg_tdiv, Int.neg_neg]
/-- the quotient and the remainder of a long by 3 -/
theorem div3 {t : Int64} (h : -1000000000000 < t.toInt ∧ t.toInt < 1000000000000) : (t / 3).toInt = t.toInt.tdiv 3 ∧ (t - 3 * (t / 3)).toInt = t.toInt - 3 * t.toInt.tdiv 3 := by
  have e1 : (t / 3).toInt = t.toInt.tdiv 3 := by
    rw [Int64.toInt_div_of_ne_right t 3 (by decide)]; rfl
  have hb : -1000000000000 < t.toInt.tdiv 3 ∧ t.toInt.tdiv 3 < 1000000000000 := by rcases td3 t.toInt with q | q <;> omega
  have e2 : (3 * (t / 3)).toInt = 3 * t.toInt.tdiv 3 := by
    rw [Int64.toInt_mul, e1, show (3 : Int64).toInt = 3 from rfl, Int.bmod_def]; split <;> omega
  refine ⟨e1, ?_⟩
  rw [sub_int (by omega) (by omega), e2]
theorem Go.twoL {p : Program} {e : Env} {below : List Frame} {G : State → Outcome → Prop} {A : State} {P : Int64 → Int64 → Prop} {B : Int64 → Int64 → State} (h : ∀ i j, P i j → Go p e below G (B i j)) (f : (∀ i j, P i j → Go p e below G (B i j)) → Go p e below G A) : Go p e below G A := f h
theorem nn3 : (3 : Int64) = 1 ∨ (3 : Int64) = 2 ∨ (3 : Int64) = 3 := Or.inr (Or.inr rfl)
theorem nn2 : (2 : Int64) = 1 ∨ (2 : Int64) = 2 ∨ (2 : Int64) = 3 := Or.inr (Or.inl rfl)
theorem nn1 : (1 : Int64) = 1 ∨ (1 : Int64) = 2 ∨ (1 : Int64) = 3 := Or.inl rfl
theorem s1_int {a : Int64} (ha : BdI a) : (0 + (a - a)).toInt = 0 := by
  unfold BdI at ha
  have e := sub_int (a := a) (b := a) (by omega) (by omega)
  rw [add_int (by decide) (by omega), e]; have : (0 : Int64).toInt = 0 := rfl; omega
theorem s2_int {a b : Int64} (ha : BdI a) (hb : BdI b) : (0 + (a - a) + (b - a)).toInt = b.toInt - a.toInt := by
  have e1 := s1_int ha
  unfold BdI at ha hb
  have e2 := sub_int (a := b) (b := a) (by omega) (by omega)
  rw [add_int (by omega) (by omega), e1, e2]; omega
theorem s3_int {a b d : Int64} (ha : BdI a) (hb : BdI b) (hd : BdI d) : (0 + (a - a) + (b - a) + (d - a)).toInt = b.toInt + d.toInt - 2 * a.toInt := by
  have e1 := s2_int ha hb
  unfold BdI at ha hb hd
  have e2 := sub_int (a := d) (b := a) (by omega) (by omega)
  rw [add_int (by omega) (by omega), e1, e2]; omega
theorem bsub {a b : Int64} (ha : BdI a) (hb : BdI b) : B53 (a - b) := by
  unfold BdI at ha hb
  have e := sub_int (a := a) (b := b) (by omega) (by omega)
  exact B_of (by omega)
theorem b0 : B53 0 := by unfold B53; decide
def Q_rmM1 (Z : State) (a1 : Addr) (ka : ClassId) (x0 : Int64) (h0 : Heap) (n0 : Nat) : Option Value → Heap → List Loc → Prop := fun v h L => v = some (.double (FP.dadd (FP.l2d x0) (FP.ddiv (FP.l2d (0 + (x0 - x0))) (FP.l2d 1)))) ∧ Fr n0 L ∧ h = h0
set_option maxRecDepth 65536 in
set_option maxHeartbeats 40000000 in
theorem rmM1 (l : Launch) (Z : State) (a0 : Array Value) (hw : HW a0 Z) (ws : List Jvm.Cond) (a1 : Addr) (ka : ClassId) (x0 : Int64) (h0 : Heap) (n0 : Nat) (V_a1 : Arv Z h0 a1 ka .double (1 : Int32) [Dv x0] (.double 0)) (q0 : BdI x0) :
    CT l (⟨"com/example/oneiros/oneiros/Spread", "meanOf", "([D)D"⟩ : MethodName) prog_28_method_5_code 10 (some .double) ws (⟨0, 0, 0, 0⟩ : Jvm.Room) #[(.ref a1)] Z h0 (Q_rmM1 Z a1 ka x0 h0 n0) := by
  refine Go.start (plainFor_of_name pn_1) #[vr a1, uu, uu, uu, uu, uu, uu, uu, uu, uu] n0 (by first | (simp [argsToLocals, Value.category, maxLocals]; done) | rfl) ?_
  intro p e s m below meth c s₁ Bd hx hby hml hZ hown X0 e0 N0
  have D := @dB _ _ hby _ D1
  refine ga X0 hx (D 0 rfl) rfl rfl ?_
  refine gk X0 hx 0 (D 1 rfl) rfl ?_
  refine gDA X0 hx hZ e0 V_a1 ⟨by decide, by decide⟩ (.double (FP.l2d x0)) rfl (D 2 rfl) ?_
  refine ge X0 hx #[vr a1, .val (.double (FP.l2d x0)), .second, uu, uu, uu, uu, uu, uu, uu] (D 3 rfl) rfl ?_
  refine Go.by (fun t => XS.dconst0 X0.here hx rfl (D 4 rfl) rfl) ?_
  show Go p e below _ (s₁.setTop (mkF m 5 #[vr a1, .val (.double (FP.l2d x0)), .second, uu, uu, uu, uu, uu, uu, uu] [(.double FP.dconst0)]))
  rw [show FP.dconst0 = FP.l2d 0 from by rw [l2d_zero]; rfl]
  refine ge X0 hx #[vr a1, .val (.double (FP.l2d x0)), .second, .val (.double (FP.l2d 0)), .second, uu, uu, uu, uu, uu] (D 5 rfl) rfl ?_
  refine ga X0 hx (D 6 rfl) rfl rfl ?_
  refine gU X0 hx #[vr a1, .val (.double (FP.l2d x0)), .second, .val (.double (FP.l2d 0)), .second, vr a1, uu, uu, uu, uu] (D 7 rfl) rfl rfl ?_
  refine gA X0 hx (D 8 rfl) rfl rfl ?_
  refine gN X0 hx hZ e0 V_a1 (D 9 rfl) ?_
  refine gT X0 hx #[vr a1, .val (.double (FP.l2d x0)), .second, .val (.double (FP.l2d 0)), .second, vr a1, vi (1 : Int32), uu, uu, uu] (D 10 rfl) rfl ?_
  refine gk X0 hx 0 (D 11 rfl) rfl ?_
  refine gT X0 hx #[vr a1, .val (.double (FP.l2d x0)), .second, .val (.double (FP.l2d 0)), .second, vr a1, vi (1 : Int32), vi (0 : Int32), uu, uu] (D 12 rfl) rfl ?_
  refine gI X0 hx (D 13 rfl) rfl ?_
  refine gI X0 hx (D 14 rfl) rfl ?_
  refine cN X0 hx (D 15 rfl) (tlt (by decide : (0 : Int32) < (1 : Int32))).2.1 ?_
  refine gA X0 hx (D 16 rfl) rfl rfl ?_
  refine gI X0 hx (D 17 rfl) rfl ?_
  refine gDA X0 hx hZ e0 V_a1 ⟨by decide, by decide⟩ (.double (FP.l2d x0)) rfl (D 18 rfl) ?_
  refine gE X0 hx #[vr a1, .val (.double (FP.l2d x0)), .second, .val (.double (FP.l2d 0)), .second, vr a1, vi (1 : Int32), vi (0 : Int32), .val (.double (FP.l2d x0)), .second] (D 19 rfl) rfl ?_
  refine gd X0 hx (D 20 rfl) rfl ?_
  refine gD X0 hx (D 21 rfl) rfl ?_
  refine gd X0 hx (D 22 rfl) rfl ?_
  refine gq (XS.dsubS X0.here hx rfl (D 23 rfl) rfl (nn_w (dsub_w q0.b53 q0.b53)) (show FP.dsub (FP.l2d x0) (FP.l2d x0) = (FP.l2d (x0 - x0)) from dsub_w q0.b53 q0.b53)) rfl ?_
  refine gq (XS.daddS X0.here hx rfl (D 24 rfl) rfl (nn_w (dadd_w b0 (bsub q0 q0))) (show FP.dadd (FP.l2d 0) (FP.l2d (x0 - x0)) = (FP.l2d (0 + (x0 - x0))) from dadd_w b0 (bsub q0 q0))) rfl ?_
  refine ge X0 hx #[vr a1, .val (.double (FP.l2d x0)), .second, .val (.double (FP.l2d (0 + (x0 - x0)))), .second, vr a1, vi (1 : Int32), vi (0 : Int32), .val (.double (FP.l2d x0)), .second] (D 25 rfl) rfl ?_
  show Go p e below _ (s₁.setTop (mkF m 38 #[vr a1, .val (.double (FP.l2d x0)), .second, .val (.double (FP.l2d (0 + (x0 - x0)))), .second, vr a1, vi (1 : Int32), vi (0 : Int32), .val (.double (FP.l2d x0)), .second] []))
  refine gn X0 hx #[vr a1, .val (.double (FP.l2d x0)), .second, .val (.double (FP.l2d (0 + (x0 - x0)))), .second, vr a1, vi (1 : Int32), vi (1 : Int32), .val (.double (FP.l2d x0)), .second] (D 26 rfl) rfl rfl ?_
  refine gg X0 hx 17 (D 27 rfl) (by decide) ?_
  refine gI X0 hx (D 13 rfl) rfl ?_
  refine gI X0 hx (D 14 rfl) rfl ?_
  refine cY X0 hx 44 (D 15 rfl) (flt (by decide : ¬ ((1 : Int32) < (1 : Int32)))).2.1 (by decide) ?_
  refine gd X0 hx (D 28 rfl) rfl ?_
  refine gd X0 hx (D 29 rfl) rfl ?_
  refine ga X0 hx (D 30 rfl) rfl rfl ?_
  refine gN X0 hx hZ e0 V_a1 (D 31 rfl) ?_
  refine gq (XS.i2dS X0.here hx rfl (D 32 rfl) rfl rfl) rfl ?_
  show Go p e below _ (s₁.setTop (mkF m 49 #[vr a1, .val (.double (FP.l2d x0)), .second, .val (.double (FP.l2d (0 + (x0 - x0)))), .second, vr a1, vi (1 : Int32), vi (1 : Int32), .val (.double (FP.l2d x0)), .second] [(.double (FP.i2d (1 : Int32))), (.double (FP.l2d (0 + (x0 - x0)))), (.double (FP.l2d x0))]))
  rw [show FP.i2d (1 : Int32) = FP.l2d 1 from i2d_w 1]
  refine gq (XS.ddivS X0.here hx rfl (D 33 rfl) rfl (nn_q nn1) rfl) rfl ?_
  refine gq (XS.daddS X0.here hx rfl (D 34 rfl) rfl (nn_m nn1) rfl) rfl ?_
  exact Go.ret1 X0 hx Bd.returns Bd.notSynchronized rfl (Or.inr (Or.inr (Or.inl ⟨rfl, rfl, _, rfl⟩))) (D 35 rfl) (by decide) (by decide) (by first | (rw [e0]; exact ⟨rfl, N0, rfl⟩) | exact ⟨rfl, N0, rfl⟩)
def Q_rmM2 (Z : State) (a1 : Addr) (ka : ClassId) (x0 x1 : Int64) (h0 : Heap) (n0 : Nat) : Option Value → Heap → List Loc → Prop := fun v h L => v = some (.double (FP.dadd (FP.l2d x0) (FP.ddiv (FP.l2d ((0 + (x0 - x0)) + (x1 - x0))) (FP.l2d 2)))) ∧ Fr n0 L ∧ h = h0
set_option maxRecDepth 65536 in
set_option maxHeartbeats 40000000 in
theorem rmM2 (l : Launch) (Z : State) (a0 : Array Value) (hw : HW a0 Z) (ws : List Jvm.Cond) (a1 : Addr) (ka : ClassId) (x0 x1 : Int64) (h0 : Heap) (n0 : Nat) (V_a1 : Arv Z h0 a1 ka .double (2 : Int32) [Dv x0, Dv x1] (.double 0)) (q0 : BdI x0) (q1 : BdI x1) :
    CT l (⟨"com/example/oneiros/oneiros/Spread", "meanOf", "([D)D"⟩ : MethodName) prog_28_method_5_code 10 (some .double) ws (⟨0, 0, 0, 0⟩ : Jvm.Room) #[(.ref a1)] Z h0 (Q_rmM2 Z a1 ka x0 x1 h0 n0) := by
  refine Go.start (plainFor_of_name pn_1) #[vr a1, uu, uu, uu, uu, uu, uu, uu, uu, uu] n0 (by first | (simp [argsToLocals, Value.category, maxLocals]; done) | rfl) ?_
  intro p e s m below meth c s₁ Bd hx hby hml hZ hown X0 e0 N0
  have D := @dB _ _ hby _ D1
  refine ga X0 hx (D 0 rfl) rfl rfl ?_
  refine gk X0 hx 0 (D 1 rfl) rfl ?_
  refine gDA X0 hx hZ e0 V_a1 ⟨by decide, by decide⟩ (.double (FP.l2d x0)) rfl (D 2 rfl) ?_
  refine ge X0 hx #[vr a1, .val (.double (FP.l2d x0)), .second, uu, uu, uu, uu, uu, uu, uu] (D 3 rfl) rfl ?_
  refine Go.by (fun t => XS.dconst0 X0.here hx rfl (D 4 rfl) rfl) ?_
  show Go p e below _ (s₁.setTop (mkF m 5 #[vr a1, .val (.double (FP.l2d x0)), .second, uu, uu, uu, uu, uu, uu, uu] [(.double FP.dconst0)]))
  rw [show FP.dconst0 = FP.l2d 0 from by rw [l2d_zero]; rfl]
  refine ge X0 hx #[vr a1, .val (.double (FP.l2d x0)), .second, .val (.double (FP.l2d 0)), .second, uu, uu, uu, uu, uu] (D 5 rfl) rfl ?_
  refine ga X0 hx (D 6 rfl) rfl rfl ?_
  refine gU X0 hx #[vr a1, .val (.double (FP.l2d x0)), .second, .val (.double (FP.l2d 0)), .second, vr a1, uu, uu, uu, uu] (D 7 rfl) rfl rfl ?_
  refine gA X0 hx (D 8 rfl) rfl rfl ?_
  refine gN X0 hx hZ e0 V_a1 (D 9 rfl) ?_
  refine gT X0 hx #[vr a1, .val (.double (FP.l2d x0)), .second, .val (.double (FP.l2d 0)), .second, vr a1, vi (2 : Int32), uu, uu, uu] (D 10 rfl) rfl ?_
  refine gk X0 hx 0 (D 11 rfl) rfl ?_
  refine gT X0 hx #[vr a1, .val (.double (FP.l2d x0)), .second, .val (.double (FP.l2d 0)), .second, vr a1, vi (2 : Int32), vi (0 : Int32), uu, uu] (D 12 rfl) rfl ?_
  refine gI X0 hx (D 13 rfl) rfl ?_
  refine gI X0 hx (D 14 rfl) rfl ?_
  refine cN X0 hx (D 15 rfl) (tlt (by decide : (0 : Int32) < (2 : Int32))).2.1 ?_
  refine gA X0 hx (D 16 rfl) rfl rfl ?_
  refine gI X0 hx (D 17 rfl) rfl ?_
  refine gDA X0 hx hZ e0 V_a1 ⟨by decide, by decide⟩ (.double (FP.l2d x0)) rfl (D 18 rfl) ?_
  refine gE X0 hx #[vr a1, .val (.double (FP.l2d x0)), .second, .val (.double (FP.l2d 0)), .second, vr a1, vi (2 : Int32), vi (0 : Int32), .val (.double (FP.l2d x0)), .second] (D 19 rfl) rfl ?_
  refine gd X0 hx (D 20 rfl) rfl ?_
  refine gD X0 hx (D 21 rfl) rfl ?_
  refine gd X0 hx (D 22 rfl) rfl ?_
  refine gq (XS.dsubS X0.here hx rfl (D 23 rfl) rfl (nn_w (dsub_w q0.b53 q0.b53)) (show FP.dsub (FP.l2d x0) (FP.l2d x0) = (FP.l2d (x0 - x0)) from dsub_w q0.b53 q0.b53)) rfl ?_
  refine gq (XS.daddS X0.here hx rfl (D 24 rfl) rfl (nn_w (dadd_w b0 (bsub q0 q0))) (show FP.dadd (FP.l2d 0) (FP.l2d (x0 - x0)) = (FP.l2d (0 + (x0 - x0))) from dadd_w b0 (bsub q0 q0))) rfl ?_
  refine ge X0 hx #[vr a1, .val (.double (FP.l2d x0)), .second, .val (.double (FP.l2d (0 + (x0 - x0)))), .second, vr a1, vi (2 : Int32), vi (0 : Int32), .val (.double (FP.l2d x0)), .second] (D 25 rfl) rfl ?_
  show Go p e below _ (s₁.setTop (mkF m 38 #[vr a1, .val (.double (FP.l2d x0)), .second, .val (.double (FP.l2d (0 + (x0 - x0)))), .second, vr a1, vi (2 : Int32), vi (0 : Int32), .val (.double (FP.l2d x0)), .second] []))
  refine gn X0 hx #[vr a1, .val (.double (FP.l2d x0)), .second, .val (.double (FP.l2d (0 + (x0 - x0)))), .second, vr a1, vi (2 : Int32), vi (1 : Int32), .val (.double (FP.l2d x0)), .second] (D 26 rfl) rfl rfl ?_
  refine gg X0 hx 17 (D 27 rfl) (by decide) ?_
  refine gI X0 hx (D 13 rfl) rfl ?_
  refine gI X0 hx (D 14 rfl) rfl ?_
  refine cN X0 hx (D 15 rfl) (tlt (by decide : (1 : Int32) < (2 : Int32))).2.1 ?_
  refine gA X0 hx (D 16 rfl) rfl rfl ?_
  refine gI X0 hx (D 17 rfl) rfl ?_
  refine gDA X0 hx hZ e0 V_a1 ⟨by decide, by decide⟩ (.double (FP.l2d x1)) rfl (D 18 rfl) ?_
  refine gE X0 hx #[vr a1, .val (.double (FP.l2d x0)), .second, .val (.double (FP.l2d (0 + (x0 - x0)))), .second, vr a1, vi (2 : Int32), vi (1 : Int32), .val (.double (FP.l2d x1)), .second] (D 19 rfl) rfl ?_
  refine gd X0 hx (D 20 rfl) rfl ?_
  refine gD X0 hx (D 21 rfl) rfl ?_
  refine gd X0 hx (D 22 rfl) rfl ?_
  refine gq (XS.dsubS X0.here hx rfl (D 23 rfl) rfl (nn_w (dsub_w q1.b53 q0.b53)) (show FP.dsub (FP.l2d x1) (FP.l2d x0) = (FP.l2d (x1 - x0)) from dsub_w q1.b53 q0.b53)) rfl ?_
  refine gq (XS.daddS X0.here hx rfl (D 24 rfl) rfl (nn_w (dadd_w (B_of (by have z := s1_int q0; unfold BdI at *; omega)) (bsub q1 q0))) (show FP.dadd (FP.l2d (0 + (x0 - x0))) (FP.l2d (x1 - x0)) = (FP.l2d ((0 + (x0 - x0)) + (x1 - x0))) from dadd_w (B_of (by have z := s1_int q0; unfold BdI at *; omega)) (bsub q1 q0))) rfl ?_
  refine ge X0 hx #[vr a1, .val (.double (FP.l2d x0)), .second, .val (.double (FP.l2d ((0 + (x0 - x0)) + (x1 - x0)))), .second, vr a1, vi (2 : Int32), vi (1 : Int32), .val (.double (FP.l2d x1)), .second] (D 25 rfl) rfl ?_
  show Go p e below _ (s₁.setTop (mkF m 38 #[vr a1, .val (.double (FP.l2d x0)), .second, .val (.double (FP.l2d ((0 + (x0 - x0)) + (x1 - x0)))), .second, vr a1, vi (2 : Int32), vi (1 : Int32), .val (.double (FP.l2d x1)), .second] []))
  refine gn X0 hx #[vr a1, .val (.double (FP.l2d x0)), .second, .val (.double (FP.l2d ((0 + (x0 - x0)) + (x1 - x0)))), .second, vr a1, vi (2 : Int32), vi (2 : Int32), .val (.double (FP.l2d x1)), .second] (D 26 rfl) rfl rfl ?_
  refine gg X0 hx 17 (D 27 rfl) (by decide) ?_
  refine gI X0 hx (D 13 rfl) rfl ?_
  refine gI X0 hx (D 14 rfl) rfl ?_
  refine cY X0 hx 44 (D 15 rfl) (flt (by decide : ¬ ((2 : Int32) < (2 : Int32)))).2.1 (by decide) ?_
  refine gd X0 hx (D 28 rfl) rfl ?_
  refine gd X0 hx (D 29 rfl) rfl ?_
  refine ga X0 hx (D 30 rfl) rfl rfl ?_
  refine gN X0 hx hZ e0 V_a1 (D 31 rfl) ?_
  refine gq (XS.i2dS X0.here hx rfl (D 32 rfl) rfl rfl) rfl ?_
  show Go p e below _ (s₁.setTop (mkF m 49 #[vr a1, .val (.double (FP.l2d x0)), .second, .val (.double (FP.l2d ((0 + (x0 - x0)) + (x1 - x0)))), .second, vr a1, vi (2 : Int32), vi (2 : Int32), .val (.double (FP.l2d x1)), .second] [(.double (FP.i2d (2 : Int32))), (.double (FP.l2d ((0 + (x0 - x0)) + (x1 - x0)))), (.double (FP.l2d x0))]))
  rw [show FP.i2d (2 : Int32) = FP.l2d 2 from i2d_w 2]
  refine gq (XS.ddivS X0.here hx rfl (D 33 rfl) rfl (nn_q nn2) rfl) rfl ?_
  refine gq (XS.daddS X0.here hx rfl (D 34 rfl) rfl (nn_m nn2) rfl) rfl ?_
  exact Go.ret1 X0 hx Bd.returns Bd.notSynchronized rfl (Or.inr (Or.inr (Or.inl ⟨rfl, rfl, _, rfl⟩))) (D 35 rfl) (by decide) (by decide) (by first | (rw [e0]; exact ⟨rfl, N0, rfl⟩) | exact ⟨rfl, N0, rfl⟩)
def Q_rmM3 (Z : State) (a1 : Addr) (ka : ClassId) (x0 x1 x2 : Int64) (h0 : Heap) (n0 : Nat) : Option Value → Heap → List Loc → Prop := fun v h L => v = some (.double (FP.dadd (FP.l2d x0) (FP.ddiv (FP.l2d (((0 + (x0 - x0)) + (x1 - x0)) + (x2 - x0))) (FP.l2d 3)))) ∧ Fr n0 L ∧ h = h0
set_option maxRecDepth 65536 in
set_option maxHeartbeats 40000000 in
theorem rmM3 (l : Launch) (Z : State) (a0 : Array Value) (hw : HW a0 Z) (ws : List Jvm.Cond) (a1 : Addr) (ka : ClassId) (x0 x1 x2 : Int64) (h0 : Heap) (n0 : Nat) (V_a1 : Arv Z h0 a1 ka .double (3 : Int32) [Dv x0, Dv x1, Dv x2] (.double 0)) (q0 : BdI x0) (q1 : BdI x1) (q2 : BdI x2) :
    CT l (⟨"com/example/oneiros/oneiros/Spread", "meanOf", "([D)D"⟩ : MethodName) prog_28_method_5_code 10 (some .double) ws (⟨0, 0, 0, 0⟩ : Jvm.Room) #[(.ref a1)] Z h0 (Q_rmM3 Z a1 ka x0 x1 x2 h0 n0) := by
  refine Go.start (plainFor_of_name pn_1) #[vr a1, uu, uu, uu, uu, uu, uu, uu, uu, uu] n0 (by first | (simp [argsToLocals, Value.category, maxLocals]; done) | rfl) ?_
  intro p e s m below meth c s₁ Bd hx hby hml hZ hown X0 e0 N0
  have D := @dB _ _ hby _ D1
  refine ga X0 hx (D 0 rfl) rfl rfl ?_
  refine gk X0 hx 0 (D 1 rfl) rfl ?_
  refine gDA X0 hx hZ e0 V_a1 ⟨by decide, by decide⟩ (.double (FP.l2d x0)) rfl (D 2 rfl) ?_
  refine ge X0 hx #[vr a1, .val (.double (FP.l2d x0)), .second, uu, uu, uu, uu, uu, uu, uu] (D 3 rfl) rfl ?_
  refine Go.by (fun t => XS.dconst0 X0.here hx rfl (D 4 rfl) rfl) ?_
  show Go p e below _ (s₁.setTop (mkF m 5 #[vr a1, .val (.double (FP.l2d x0)), .second, uu, uu, uu, uu, uu, uu, uu] [(.double FP.dconst0)]))
  rw [show FP.dconst0 = FP.l2d 0 from by rw [l2d_zero]; rfl]
  refine ge X0 hx #[vr a1, .val (.double (FP.l2d x0)), .second, .val (.double (FP.l2d 0)), .second, uu, uu, uu, uu, uu] (D 5 rfl) rfl ?_
  refine ga X0 hx (D 6 rfl) rfl rfl ?_
  refine gU X0 hx #[vr a1, .val (.double (FP.l2d x0)), .second, .val (.double (FP.l2d 0)), .second, vr a1, uu, uu, uu, uu] (D 7 rfl) rfl rfl ?_
  refine gA X0 hx (D 8 rfl) rfl rfl ?_
  refine gN X0 hx hZ e0 V_a1 (D 9 rfl) ?_
  refine gT X0 hx #[vr a1, .val (.double (FP.l2d x0)), .second, .val (.double (FP.l2d 0)), .second, vr a1, vi (3 : Int32), uu, uu, uu] (D 10 rfl) rfl ?_
  refine gk X0 hx 0 (D 11 rfl) rfl ?_
  refine gT X0 hx #[vr a1, .val (.double (FP.l2d x0)), .second, .val (.double (FP.l2d 0)), .second, vr a1, vi (3 : Int32), vi (0 : Int32), uu, uu] (D 12 rfl) rfl ?_
  refine gI X0 hx (D 13 rfl) rfl ?_
  refine gI X0 hx (D 14 rfl) rfl ?_
  refine cN X0 hx (D 15 rfl) (tlt (by decide : (0 : Int32) < (3 : Int32))).2.1 ?_
  refine gA X0 hx (D 16 rfl) rfl rfl ?_
  refine gI X0 hx (D 17 rfl) rfl ?_
  refine gDA X0 hx hZ e0 V_a1 ⟨by decide, by decide⟩ (.double (FP.l2d x0)) rfl (D 18 rfl) ?_
  refine gE X0 hx #[vr a1, .val (.double (FP.l2d x0)), .second, .val (.double (FP.l2d 0)), .second, vr a1, vi (3 : Int32), vi (0 : Int32), .val (.double (FP.l2d x0)), .second] (D 19 rfl) rfl ?_
  refine gd X0 hx (D 20 rfl) rfl ?_
  refine gD X0 hx (D 21 rfl) rfl ?_
  refine gd X0 hx (D 22 rfl) rfl ?_
  refine gq (XS.dsubS X0.here hx rfl (D 23 rfl) rfl (nn_w (dsub_w q0.b53 q0.b53)) (show FP.dsub (FP.l2d x0) (FP.l2d x0) = (FP.l2d (x0 - x0)) from dsub_w q0.b53 q0.b53)) rfl ?_
  refine gq (XS.daddS X0.here hx rfl (D 24 rfl) rfl (nn_w (dadd_w b0 (bsub q0 q0))) (show FP.dadd (FP.l2d 0) (FP.l2d (x0 - x0)) = (FP.l2d (0 + (x0 - x0))) from dadd_w b0 (bsub q0 q0))) rfl ?_
  refine ge X0 hx #[vr a1, .val (.double (FP.l2d x0)), .second, .val (.double (FP.l2d (0 + (x0 - x0)))), .second, vr a1, vi (3 : Int32), vi (0 : Int32), .val (.double (FP.l2d x0)), .second] (D 25 rfl) rfl ?_
  show Go p e below _ (s₁.setTop (mkF m 38 #[vr a1, .val (.double (FP.l2d x0)), .second, .val (.double (FP.l2d (0 + (x0 - x0)))), .second, vr a1, vi (3 : Int32), vi (0 : Int32), .val (.double (FP.l2d x0)), .second] []))
  refine gn X0 hx #[vr a1, .val (.double (FP.l2d x0)), .second, .val (.double (FP.l2d (0 + (x0 - x0)))), .second, vr a1, vi (3 : Int32), vi (1 : Int32), .val (.double (FP.l2d x0)), .second] (D 26 rfl) rfl rfl ?_
  refine gg X0 hx 17 (D 27 rfl) (by decide) ?_
  refine gI X0 hx (D 13 rfl) rfl ?_
  refine gI X0 hx (D 14 rfl) rfl ?_
  refine cN X0 hx (D 15 rfl) (tlt (by decide : (1 : Int32) < (3 : Int32))).2.1 ?_
  refine gA X0 hx (D 16 rfl) rfl rfl ?_
  refine gI X0 hx (D 17 rfl) rfl ?_
  refine gDA X0 hx hZ e0 V_a1 ⟨by decide, by decide⟩ (.double (FP.l2d x1)) rfl (D 18 rfl) ?_
  refine gE X0 hx #[vr a1, .val (.double (FP.l2d x0)), .second, .val (.double (FP.l2d (0 + (x0 - x0)))), .second, vr a1, vi (3 : Int32), vi (1 : Int32), .val (.double (FP.l2d x1)), .second] (D 19 rfl) rfl ?_
  refine gd X0 hx (D 20 rfl) rfl ?_
  refine gD X0 hx (D 21 rfl) rfl ?_
  refine gd X0 hx (D 22 rfl) rfl ?_
  refine gq (XS.dsubS X0.here hx rfl (D 23 rfl) rfl (nn_w (dsub_w q1.b53 q0.b53)) (show FP.dsub (FP.l2d x1) (FP.l2d x0) = (FP.l2d (x1 - x0)) from dsub_w q1.b53 q0.b53)) rfl ?_
  refine gq (XS.daddS X0.here hx rfl (D 24 rfl) rfl (nn_w (dadd_w (B_of (by have z := s1_int q0; unfold BdI at *; omega)) (bsub q1 q0))) (show FP.dadd (FP.l2d (0 + (x0 - x0))) (FP.l2d (x1 - x0)) = (FP.l2d ((0 + (x0 - x0)) + (x1 - x0))) from dadd_w (B_of (by have z := s1_int q0; unfold BdI at *; omega)) (bsub q1 q0))) rfl ?_
  refine ge X0 hx #[vr a1, .val (.double (FP.l2d x0)), .second, .val (.double (FP.l2d ((0 + (x0 - x0)) + (x1 - x0)))), .second, vr a1, vi (3 : Int32), vi (1 : Int32), .val (.double (FP.l2d x1)), .second] (D 25 rfl) rfl ?_
  show Go p e below _ (s₁.setTop (mkF m 38 #[vr a1, .val (.double (FP.l2d x0)), .second, .val (.double (FP.l2d ((0 + (x0 - x0)) + (x1 - x0)))), .second, vr a1, vi (3 : Int32), vi (1 : Int32), .val (.double (FP.l2d x1)), .second] []))
  refine gn X0 hx #[vr a1, .val (.double (FP.l2d x0)), .second, .val (.double (FP.l2d ((0 + (x0 - x0)) + (x1 - x0)))), .second, vr a1, vi (3 : Int32), vi (2 : Int32), .val (.double (FP.l2d x1)), .second] (D 26 rfl) rfl rfl ?_
  refine gg X0 hx 17 (D 27 rfl) (by decide) ?_
  refine gI X0 hx (D 13 rfl) rfl ?_
  refine gI X0 hx (D 14 rfl) rfl ?_
  refine cN X0 hx (D 15 rfl) (tlt (by decide : (2 : Int32) < (3 : Int32))).2.1 ?_
  refine gA X0 hx (D 16 rfl) rfl rfl ?_
  refine gI X0 hx (D 17 rfl) rfl ?_
  refine gDA X0 hx hZ e0 V_a1 ⟨by decide, by decide⟩ (.double (FP.l2d x2)) rfl (D 18 rfl) ?_
  refine gE X0 hx #[vr a1, .val (.double (FP.l2d x0)), .second, .val (.double (FP.l2d ((0 + (x0 - x0)) + (x1 - x0)))), .second, vr a1, vi (3 : Int32), vi (2 : Int32), .val (.double (FP.l2d x2)), .second] (D 19 rfl) rfl ?_
  refine gd X0 hx (D 20 rfl) rfl ?_
  refine gD X0 hx (D 21 rfl) rfl ?_
  refine gd X0 hx (D 22 rfl) rfl ?_
  refine gq (XS.dsubS X0.here hx rfl (D 23 rfl) rfl (nn_w (dsub_w q2.b53 q0.b53)) (show FP.dsub (FP.l2d x2) (FP.l2d x0) = (FP.l2d (x2 - x0)) from dsub_w q2.b53 q0.b53)) rfl ?_
  refine gq (XS.daddS X0.here hx rfl (D 24 rfl) rfl (nn_w (dadd_w (B_of (by have z := s2_int q0 q1; unfold BdI at *; omega)) (bsub q2 q0))) (show FP.dadd (FP.l2d ((0 + (x0 - x0)) + (x1 - x0))) (FP.l2d (x2 - x0)) = (FP.l2d (((0 + (x0 - x0)) + (x1 - x0)) + (x2 - x0))) from dadd_w (B_of (by have z := s2_int q0 q1; unfold BdI at *; omega)) (bsub q2 q0))) rfl ?_
  refine ge X0 hx #[vr a1, .val (.double (FP.l2d x0)), .second, .val (.double (FP.l2d (((0 + (x0 - x0)) + (x1 - x0)) + (x2 - x0)))), .second, vr a1, vi (3 : Int32), vi (2 : Int32), .val (.double (FP.l2d x2)), .second] (D 25 rfl) rfl ?_
  show Go p e below _ (s₁.setTop (mkF m 38 #[vr a1, .val (.double (FP.l2d x0)), .second, .val (.double (FP.l2d (((0 + (x0 - x0)) + (x1 - x0)) + (x2 - x0)))), .second, vr a1, vi (3 : Int32), vi (2 : Int32), .val (.double (FP.l2d x2)), .second] []))
  refine gn X0 hx #[vr a1, .val (.double (FP.l2d x0)), .second, .val (.double (FP.l2d (((0 + (x0 - x0)) + (x1 - x0)) + (x2 - x0)))), .second, vr a1, vi (3 : Int32), vi (3 : Int32), .val (.double (FP.l2d x2)), .second] (D 26 rfl) rfl rfl ?_
  refine gg X0 hx 17 (D 27 rfl) (by decide) ?_
  refine gI X0 hx (D 13 rfl) rfl ?_
  refine gI X0 hx (D 14 rfl) rfl ?_
  refine cY X0 hx 44 (D 15 rfl) (flt (by decide : ¬ ((3 : Int32) < (3 : Int32)))).2.1 (by decide) ?_
  refine gd X0 hx (D 28 rfl) rfl ?_
  refine gd X0 hx (D 29 rfl) rfl ?_
  refine ga X0 hx (D 30 rfl) rfl rfl ?_
  refine gN X0 hx hZ e0 V_a1 (D 31 rfl) ?_
  refine gq (XS.i2dS X0.here hx rfl (D 32 rfl) rfl rfl) rfl ?_
  show Go p e below _ (s₁.setTop (mkF m 49 #[vr a1, .val (.double (FP.l2d x0)), .second, .val (.double (FP.l2d (((0 + (x0 - x0)) + (x1 - x0)) + (x2 - x0)))), .second, vr a1, vi (3 : Int32), vi (3 : Int32), .val (.double (FP.l2d x2)), .second] [(.double (FP.i2d (3 : Int32))), (.double (FP.l2d (((0 + (x0 - x0)) + (x1 - x0)) + (x2 - x0)))), (.double (FP.l2d x0))]))
  rw [show FP.i2d (3 : Int32) = FP.l2d 3 from i2d_w 3]
  refine gq (XS.ddivS X0.here hx rfl (D 33 rfl) rfl (nn_q nn3) rfl) rfl ?_
  refine gq (XS.daddS X0.here hx rfl (D 34 rfl) rfl (nn_m nn3) rfl) rfl ?_
  exact Go.ret1 X0 hx Bd.returns Bd.notSynchronized rfl (Or.inr (Or.inr (Or.inl ⟨rfl, rfl, _, rfl⟩))) (D 35 rfl) (by decide) (by decide) (by first | (rw [e0]; exact ⟨rfl, N0, rfl⟩) | exact ⟨rfl, N0, rfl⟩)
def Q_rm0 (Z : State) (i0 i1 i2 i3 : Int32) (nn : Nat) (h0 : Heap) (n0 : Nat) : Option Value → Heap → List Loc → Prop := fun v _ L => v = some (.int 1) ∧ Fr n0 L
set_option maxRecDepth 65536 in
set_option maxHeartbeats 40000000 in
theorem rm0 (l : Launch) (Z : State) (a0 : Array Value) (hw : HW a0 Z) (ws : List Jvm.Cond) (i0 i1 i2 i3 : Int32) (nn : Nat) (h0 : Heap) (n0 : Nat) (Z0 : n0 ≤ h0.size) (hnn : nn = 1 ∨ nn = 2 ∨ nn = 3) (enn : ((i3 &&& (2147483647 : Int32)) % (3 : Int32)) + (1 : Int32) = Int32.ofNat nn) :
    CT l x code maxLocals ret ws room_1 #[(.int i0), (.int i1), (.int i2), (.int i3)] Z h0 (Q_rm0 Z i0 i1 i2 i3 nn h0 n0) := by
  refine Go.start (plainFor_of_name pn_0) #[vi i0, vi i1, vi i2, vi i3, uu, uu, uu, uu, uu, uu, uu, uu, uu, uu, uu, uu] n0 (by first | (simp [argsToLocals, Value.category, maxLocals]; done) | rfl) ?_
  intro p e s m below meth c s₁ Bd hx hby hml hZ hown X0 e0 N0
  replace hown : s.vm.findClass "com/example/oneiros/oneiros/SpreadMeanOfPinLaw" = some m.cls := hown
  have q0 := bd_i2l i0
  have q1 := bd_i2l i1
  have q2 := bd_i2l i2
  rcases hnn with rfl | rfl | rfl
  ·
    refine gi X0 hx (hb hby at_0) rfl ?_
    refine Go.by (fun t => X0.ldcInt hx hown (mvT hZ (wd hw 0 rfl)) (g := (mkF m 1 #[vi i0, vi i1, vi i2, vi i3, uu, uu, uu, uu, uu, uu, uu, uu, uu, uu, uu, uu] [(.int i3)])) rfl (hb hby at_1) t) ?_
    show Go p e below _ (s₁.setTop (mkF m 3 #[vi i0, vi i1, vi i2, vi i3, uu, uu, uu, uu, uu, uu, uu, uu, uu, uu, uu, uu] [(.int (2147483647 : Int32)), (.int i3)]))
    refine gq (XS.iand X0.here hx rfl (hb hby at_3) rfl) rfl ?_
    refine gk X0 hx 3 (hb hby at_4) rfl ?_
    refine gq (iremM X0 hx rfl (hb hby at_5) rfl (by first | assumption | decide)) rfl ?_
    refine gk X0 hx 1 (hb hby at_6) rfl ?_
    refine gq (XS.iadd X0.here hx rfl (hb hby at_7) rfl) rfl ?_
    show Go p e below _ (s₁.setTop (mkF m 8 #[vi i0, vi i1, vi i2, vi i3, uu, uu, uu, uu, uu, uu, uu, uu, uu, uu, uu, uu] [(.int (((i3 &&& (2147483647 : Int32)) % (3 : Int32)) + (1 : Int32)))]))
    rw [show (((i3 &&& (2147483647 : Int32)) % (3 : Int32)) + (1 : Int32)) = (1 : Int32) from enn]
    refine gT X0 hx #[vi i0, vi i1, vi i2, vi i3, vi (1 : Int32), uu, uu, uu, uu, uu, uu, uu, uu, uu, uu, uu] (hb hby at_8) rfl ?_
    refine gI X0 hx (hb hby at_10) rfl ?_
    obtain ⟨T110, h110, k110, X110, e110, E110, A110, st110⟩ := newP X0 hx hZ (wd hw 1 rfl) e0 (g := (mkF m 12 #[vi i0, vi i1, vi i2, vi i3, vi (1 : Int32), uu, uu, uu, uu, uu, uu, uu, uu, uu, uu, uu] [(.int (1 : Int32))])) rfl (hb hby at_12) rfl (by decide) (cap := 1) (by decide) (by decide) (by decide) (by decide)
    obtain ⟨b, g110⟩ : ∃ z, z = h0.size := ⟨_, rfl⟩
    rw [← g110] at A110 st110
    refine Go.by (fun t => st110 t) ?_
    have g_b : n0 ≤ b := Nat.le_trans Z0 (Nat.le_of_eq g110.symm)
    replace Z0 := Nat.le_trans Z0 E110.1
    have V_b : Arv Z h110 b k110 .double (1 : Int32) [(.double (0 : UInt64))] (.double (0 : UInt64)) := (Arv.new A110 (by decide)).pad (pad_rep [] (.double (0 : UInt64)) 1)
    replace X110 := Stand.num (C := 1) (S := 1) X110 rfl rfl
    show Go p e below _ (T110.setTop (mkF m 14 #[vi i0, vi i1, vi i2, vi i3, vi (1 : Int32), uu, uu, uu, uu, uu, uu, uu, uu, uu, uu, uu] [(.ref b)]))
    refine gU X110 hx #[vi i0, vi i1, vi i2, vi i3, vi (1 : Int32), vr b, uu, uu, uu, uu, uu, uu, uu, uu, uu, uu] (hb hby at_14) rfl rfl ?_
    refine gA X110 hx (hb hby at_16) rfl rfl ?_
    refine gk X110 hx 0 (hb hby at_18) rfl ?_
    refine gi X110 hx (hb hby at_19) rfl ?_
    refine gq (XS.i2dS X110.here hx rfl (hb hby at_20) rfl rfl) rfl ?_
    show Go p e below _ (T110.setTop (mkF m 21 #[vi i0, vi i1, vi i2, vi i3, vi (1 : Int32), vr b, uu, uu, uu, uu, uu, uu, uu, uu, uu, uu] [(.double (FP.i2d i0)), (.int (0 : Int32)), (.ref b)]))
    rw [show FP.i2d i0 = FP.l2d (i0.toInt64) from i2d_w i0]
    refine sD X110 hx hZ e110 V_b ⟨by decide, by decide⟩ 0 rfl (Nat.le_of_ble_eq_true rfl) (hb hby at_21) fun T111 h111 X111 e111 W111 Vn111 => ?_
    replace V_b : Arv Z h111 b k110 .double (1 : Int32) [(.double (FP.l2d (i0.toInt64)))] (.double (0 : UInt64)) := Vn111
    clear Vn111
    replace Z0 := Nat.le_trans Z0 (Keep.of_wr W111).1
    have N111 := Fr.snoc X111 N0 g_b
    refine gI X111 hx (hb hby at_22) rfl ?_
    refine gk X111 hx 2 (hb hby at_24) rfl ?_
    refine cY X111 hx 34 (hb hby at_25) (tlt (by decide : (1 : Int32) < (2 : Int32))).1 (by decide) ?_
    refine gI X111 hx (hb hby at_34) rfl ?_
    refine gk X111 hx 3 (hb hby at_36) rfl ?_
    refine cY X111 hx 46 (hb hby at_37) (tlt (by decide : (1 : Int32) < (3 : Int32))).1 (by decide) ?_
    refine gA X111 hx (hb hby at_46) rfl rfl ?_
    refine kS (W := 0) (C := 1) (S := 1) X111 hx hZ hown (wd hw 2 rfl) (wd hw 3 rfl) (wd hw 4 rfl) (wd hw 5 rfl) (rmM1 l Z a0 hw [] b k110 (i0.toInt64) h111 n0 V_b q0) pd_0 (hb hby at_48) e111 hml (by exact ⟨rfl, rfl, rfl, rfl⟩) (by decide) fun v112 T112 L112 Lc112 X112 hQ112 l112 => ?_
    obtain ⟨rfl, Nq112, e112⟩ := hQ112
    have N112 := l112 N111 Nq112
    refine gE X112 hx #[vi i0, vi i1, vi i2, vi i3, vi (1 : Int32), vr b, .val (.double (FP.dadd (FP.l2d (i0.toInt64)) (FP.ddiv (FP.l2d (0 + ((i0.toInt64) - (i0.toInt64)))) (FP.l2d 1)))), .second, uu, uu, uu, uu, uu, uu, uu, uu] (hb hby at_51) rfl ?_
    refine gI X112 hx (hb hby at_53) rfl ?_
    refine gk X112 hx 1 (hb hby at_55) rfl ?_
    refine cN X112 hx (hb hby at_56) (teq (rfl : (1 : Int32) = (1 : Int32))).2 ?_
    refine gD X112 hx (hb hby at_59) rfl ?_
    refine gi X112 hx (hb hby at_61) rfl ?_
    refine gq (XS.i2dS X112.here hx rfl (hb hby at_62) rfl rfl) rfl ?_
    show Go p e below _ (T112.setTop (mkF m 63 #[vi i0, vi i1, vi i2, vi i3, vi (1 : Int32), vr b, .val (.double (FP.dadd (FP.l2d (i0.toInt64)) (FP.ddiv (FP.l2d (0 + ((i0.toInt64) - (i0.toInt64)))) (FP.l2d 1)))), .second, uu, uu, uu, uu, uu, uu, uu, uu] [(.double (FP.i2d i0)), (.double (FP.dadd (FP.l2d (i0.toInt64)) (FP.ddiv (FP.l2d (0 + ((i0.toInt64) - (i0.toInt64)))) (FP.l2d 1))))]))
    rw [show FP.i2d i0 = FP.l2d (i0.toInt64) from i2d_w i0]
    refine gq (XS.dcmpS X112.here hx rfl (hb hby at_63) rfl rfl) rfl ?_
    show Go p e below _ (T112.setTop (mkF m 64 #[vi i0, vi i1, vi i2, vi i3, vi (1 : Int32), vr b, .val (.double (FP.dadd (FP.l2d (i0.toInt64)) (FP.ddiv (FP.l2d (0 + ((i0.toInt64) - (i0.toInt64)))) (FP.l2d 1)))), .second, uu, uu, uu, uu, uu, uu, uu, uu] [(.int (cmpValue (FP.dcmp (FP.dadd (FP.l2d (i0.toInt64)) (FP.ddiv (FP.l2d (0 + ((i0.toInt64) - (i0.toInt64)))) (FP.l2d 1))) (FP.l2d (i0.toInt64))) .l))]))
    rw [show (cmpValue (FP.dcmp (FP.dadd (FP.l2d (i0.toInt64)) (FP.ddiv (FP.l2d (0 + ((i0.toInt64) - (i0.toInt64)))) (FP.l2d 1))) (FP.l2d (i0.toInt64))) .l) = (0 : Int32) from T1 q0 (s1_int q0)]
    refine zN X112 hx (hb hby at_64) ((if0 _ _).trans (teq (rfl : (0 : Int32) = (0 : Int32))).2) ?_
    refine gk X112 hx 1 (hb hby at_67) rfl ?_
    refine gg X112 hx 72 (hb hby at_68) (by decide) ?_
    exact Go.ret1 X112 hx Bd.returns Bd.notSynchronized (by first | rfl | decide) (Or.inl ⟨rfl, by simp, _, rfl⟩) (hb hby at_72) (by decide) (by decide) (by first | (rw [e112]; exact ⟨rfl, N112⟩) | exact ⟨rfl, N112⟩)
  ·
    refine gi X0 hx (hb hby at_0) rfl ?_
    refine Go.by (fun t => X0.ldcInt hx hown (mvT hZ (wd hw 0 rfl)) (g := (mkF m 1 #[vi i0, vi i1, vi i2, vi i3, uu, uu, uu, uu, uu, uu, uu, uu, uu, uu, uu, uu] [(.int i3)])) rfl (hb hby at_1) t) ?_
    show Go p e below _ (s₁.setTop (mkF m 3 #[vi i0, vi i1, vi i2, vi i3, uu, uu, uu, uu, uu, uu, uu, uu, uu, uu, uu, uu] [(.int (2147483647 : Int32)), (.int i3)]))
    refine gq (XS.iand X0.here hx rfl (hb hby at_3) rfl) rfl ?_
    refine gk X0 hx 3 (hb hby at_4) rfl ?_
    refine gq (iremM X0 hx rfl (hb hby at_5) rfl (by first | assumption | decide)) rfl ?_
    refine gk X0 hx 1 (hb hby at_6) rfl ?_
    refine gq (XS.iadd X0.here hx rfl (hb hby at_7) rfl) rfl ?_
    show Go p e below _ (s₁.setTop (mkF m 8 #[vi i0, vi i1, vi i2, vi i3, uu, uu, uu, uu, uu, uu, uu, uu, uu, uu, uu, uu] [(.int (((i3 &&& (2147483647 : Int32)) % (3 : Int32)) + (1 : Int32)))]))
    rw [show (((i3 &&& (2147483647 : Int32)) % (3 : Int32)) + (1 : Int32)) = (2 : Int32) from enn]
    refine gT X0 hx #[vi i0, vi i1, vi i2, vi i3, vi (2 : Int32), uu, uu, uu, uu, uu, uu, uu, uu, uu, uu, uu] (hb hby at_8) rfl ?_
    refine gI X0 hx (hb hby at_10) rfl ?_
    obtain ⟨T113, h113, k113, X113, e113, E113, A113, st113⟩ := newP X0 hx hZ (wd hw 1 rfl) e0 (g := (mkF m 12 #[vi i0, vi i1, vi i2, vi i3, vi (2 : Int32), uu, uu, uu, uu, uu, uu, uu, uu, uu, uu, uu] [(.int (2 : Int32))])) rfl (hb hby at_12) rfl (by decide) (cap := 2) (by decide) (by decide) (by decide) (by decide)
    obtain ⟨b, g113⟩ : ∃ z, z = h0.size := ⟨_, rfl⟩
    rw [← g113] at A113 st113
    refine Go.by (fun t => st113 t) ?_
    have g_b : n0 ≤ b := Nat.le_trans Z0 (Nat.le_of_eq g113.symm)
    replace Z0 := Nat.le_trans Z0 E113.1
    have V_b : Arv Z h113 b k113 .double (2 : Int32) [(.double (0 : UInt64)), (.double (0 : UInt64))] (.double (0 : UInt64)) := (Arv.new A113 (by decide)).pad (pad_rep [] (.double (0 : UInt64)) 2)
    replace X113 := Stand.num (C := 1) (S := 2) X113 rfl rfl
    show Go p e below _ (T113.setTop (mkF m 14 #[vi i0, vi i1, vi i2, vi i3, vi (2 : Int32), uu, uu, uu, uu, uu, uu, uu, uu, uu, uu, uu] [(.ref b)]))
    refine gU X113 hx #[vi i0, vi i1, vi i2, vi i3, vi (2 : Int32), vr b, uu, uu, uu, uu, uu, uu, uu, uu, uu, uu] (hb hby at_14) rfl rfl ?_
    refine gA X113 hx (hb hby at_16) rfl rfl ?_
    refine gk X113 hx 0 (hb hby at_18) rfl ?_
    refine gi X113 hx (hb hby at_19) rfl ?_
    refine gq (XS.i2dS X113.here hx rfl (hb hby at_20) rfl rfl) rfl ?_
    show Go p e below _ (T113.setTop (mkF m 21 #[vi i0, vi i1, vi i2, vi i3, vi (2 : Int32), vr b, uu, uu, uu, uu, uu, uu, uu, uu, uu, uu] [(.double (FP.i2d i0)), (.int (0 : Int32)), (.ref b)]))
    rw [show FP.i2d i0 = FP.l2d (i0.toInt64) from i2d_w i0]
    refine sD X113 hx hZ e113 V_b ⟨by decide, by decide⟩ 0 rfl (Nat.le_of_ble_eq_true rfl) (hb hby at_21) fun T114 h114 X114 e114 W114 Vn114 => ?_
    replace V_b : Arv Z h114 b k113 .double (2 : Int32) [(.double (FP.l2d (i0.toInt64))), (.double (0 : UInt64))] (.double (0 : UInt64)) := Vn114
    clear Vn114
    replace Z0 := Nat.le_trans Z0 (Keep.of_wr W114).1
    have N114 := Fr.snoc X114 N0 g_b
    refine gI X114 hx (hb hby at_22) rfl ?_
    refine gk X114 hx 2 (hb hby at_24) rfl ?_
    refine cN X114 hx (hb hby at_25) (flt (by decide : ¬ ((2 : Int32) < (2 : Int32)))).1 ?_
    refine gA X114 hx (hb hby at_28) rfl rfl ?_
    refine gk X114 hx 1 (hb hby at_30) rfl ?_
    refine gi X114 hx (hb hby at_31) rfl ?_
    refine gq (XS.i2dS X114.here hx rfl (hb hby at_32) rfl rfl) rfl ?_
    show Go p e below _ (T114.setTop (mkF m 33 #[vi i0, vi i1, vi i2, vi i3, vi (2 : Int32), vr b, uu, uu, uu, uu, uu, uu, uu, uu, uu, uu] [(.double (FP.i2d i1)), (.int (1 : Int32)), (.ref b)]))
    rw [show FP.i2d i1 = FP.l2d (i1.toInt64) from i2d_w i1]
    refine sD X114 hx hZ e114 V_b ⟨by decide, by decide⟩ 1 rfl (Nat.le_of_ble_eq_true rfl) (hb hby at_33) fun T115 h115 X115 e115 W115 Vn115 => ?_
    replace V_b : Arv Z h115 b k113 .double (2 : Int32) [(.double (FP.l2d (i0.toInt64))), (.double (FP.l2d (i1.toInt64)))] (.double (0 : UInt64)) := Vn115
    clear Vn115
    replace Z0 := Nat.le_trans Z0 (Keep.of_wr W115).1
    have N115 := Fr.snoc X115 N114 g_b
    refine gI X115 hx (hb hby at_34) rfl ?_
    refine gk X115 hx 3 (hb hby at_36) rfl ?_
    refine cY X115 hx 46 (hb hby at_37) (tlt (by decide : (2 : Int32) < (3 : Int32))).1 (by decide) ?_
    refine gA X115 hx (hb hby at_46) rfl rfl ?_
    refine kS (W := 0) (C := 1) (S := 2) X115 hx hZ hown (wd hw 2 rfl) (wd hw 3 rfl) (wd hw 4 rfl) (wd hw 5 rfl) (rmM2 l Z a0 hw [] b k113 (i0.toInt64) (i1.toInt64) h115 n0 V_b q0 q1) pd_0 (hb hby at_48) e115 hml (by exact ⟨rfl, rfl, rfl, rfl⟩) (by decide) fun v116 T116 L116 Lc116 X116 hQ116 l116 => ?_
    obtain ⟨rfl, Nq116, e116⟩ := hQ116
    have N116 := l116 N115 Nq116
    refine gE X116 hx #[vi i0, vi i1, vi i2, vi i3, vi (2 : Int32), vr b, .val (.double (FP.dadd (FP.l2d (i0.toInt64)) (FP.ddiv (FP.l2d ((0 + ((i0.toInt64) - (i0.toInt64))) + ((i1.toInt64) - (i0.toInt64)))) (FP.l2d 2)))), .second, uu, uu, uu, uu, uu, uu, uu, uu] (hb hby at_51) rfl ?_
    refine gI X116 hx (hb hby at_53) rfl ?_
    refine gk X116 hx 1 (hb hby at_55) rfl ?_
    refine cY X116 hx 73 (hb hby at_56) (feq (by decide : ¬ ((2 : Int32) = (1 : Int32)))).2 (by decide) ?_
    refine gI X116 hx (hb hby at_73) rfl ?_
    refine gk X116 hx 2 (hb hby at_75) rfl ?_
    refine cN X116 hx (hb hby at_76) (teq (rfl : (2 : Int32) = (2 : Int32))).2 ?_
    refine gi X116 hx (hb hby at_79) rfl ?_
    refine gq (XS.i2l X116.here hx rfl (hb hby at_80) rfl) rfl ?_
    refine gi X116 hx (hb hby at_81) rfl ?_
    refine gq (XS.i2l X116.here hx rfl (hb hby at_82) rfl) rfl ?_
    refine gq (XS.ladd X116.here hx rfl (hb hby at_83) rfl) rfl ?_
    refine gM X116 hx #[vi i0, vi i1, vi i2, vi i3, vi (2 : Int32), vr b, .val (.double (FP.dadd (FP.l2d (i0.toInt64)) (FP.ddiv (FP.l2d ((0 + ((i0.toInt64) - (i0.toInt64))) + ((i1.toInt64) - (i0.toInt64)))) (FP.l2d 2)))), .second, .val (.long ((i0.toInt64) + (i1.toInt64))), .second, uu, uu, uu, uu, uu, uu] (hb hby at_84) rfl ?_
    have T := T2 (t := i0.toInt64 + i1.toInt64) q0 q1 (s2_int q0 q1) (by unfold BdI at q0 q1; exact add_int (by omega) (by omega))
    refine Go.by (fun t => X116.ldc2DoubleC hx hown (mvT hZ (wd hw 6 rfl)) (g := (mkF m 86 #[vi i0, vi i1, vi i2, vi i3, vi (2 : Int32), vr b, .val (.double (FP.dadd (FP.l2d (i0.toInt64)) (FP.ddiv (FP.l2d ((0 + ((i0.toInt64) - (i0.toInt64))) + ((i1.toInt64) - (i0.toInt64)))) (FP.l2d 2)))), .second, .val (.long ((i0.toInt64) + (i1.toInt64))), .second, uu, uu, uu, uu, uu, uu] [])) rfl (hb hby at_86) t) ?_
    show Go p e below _ (T116.setTop (mkF m 89 #[vi i0, vi i1, vi i2, vi i3, vi (2 : Int32), vr b, .val (.double (FP.dadd (FP.l2d (i0.toInt64)) (FP.ddiv (FP.l2d ((0 + ((i0.toInt64) - (i0.toInt64))) + ((i1.toInt64) - (i0.toInt64)))) (FP.l2d 2)))), .second, .val (.long ((i0.toInt64) + (i1.toInt64))), .second, uu, uu, uu, uu, uu, uu] [(.double (4611686018427387904 : UInt64))]))
    refine gD X116 hx (hb hby at_89) rfl ?_
    refine gq (XS.dmulS X116.here hx rfl (hb hby at_91) rfl (nn_two T.1) rfl) rfl ?_
    refine gL X116 hx (hb hby at_92) rfl ?_
    refine gq (XS.l2dS X116.here hx rfl (hb hby at_94) rfl rfl) rfl ?_
    refine gq (XS.dcmpS X116.here hx rfl (hb hby at_95) rfl rfl) rfl ?_
    show Go p e below _ (T116.setTop (mkF m 96 #[vi i0, vi i1, vi i2, vi i3, vi (2 : Int32), vr b, .val (.double (FP.dadd (FP.l2d (i0.toInt64)) (FP.ddiv (FP.l2d ((0 + ((i0.toInt64) - (i0.toInt64))) + ((i1.toInt64) - (i0.toInt64)))) (FP.l2d 2)))), .second, .val (.long ((i0.toInt64) + (i1.toInt64))), .second, uu, uu, uu, uu, uu, uu] [(.int (cmpValue (FP.dcmp (FP.dmul (4611686018427387904 : UInt64) (FP.dadd (FP.l2d (i0.toInt64)) (FP.ddiv (FP.l2d ((0 + ((i0.toInt64) - (i0.toInt64))) + ((i1.toInt64) - (i0.toInt64)))) (FP.l2d 2)))) (FP.l2d ((i0.toInt64) + (i1.toInt64)))) .l))]))
    rw [show (cmpValue (FP.dcmp (FP.dmul (4611686018427387904 : UInt64) (FP.dadd (FP.l2d (i0.toInt64)) (FP.ddiv (FP.l2d ((0 + ((i0.toInt64) - (i0.toInt64))) + ((i1.toInt64) - (i0.toInt64)))) (FP.l2d 2)))) (FP.l2d ((i0.toInt64) + (i1.toInt64)))) .l) = (0 : Int32) from T.2]
    refine zN X116 hx (hb hby at_96) ((if0 _ _).trans (teq (rfl : (0 : Int32) = (0 : Int32))).2) ?_
    refine gk X116 hx 1 (hb hby at_99) rfl ?_
    refine gg X116 hx 104 (hb hby at_100) (by decide) ?_
    exact Go.ret1 X116 hx Bd.returns Bd.notSynchronized (by first | rfl | decide) (Or.inl ⟨rfl, by simp, _, rfl⟩) (hb hby at_104) (by decide) (by decide) (by first | (rw [e116]; exact ⟨rfl, N116⟩) | exact ⟨rfl, N116⟩)
  ·
    refine gi X0 hx (hb hby at_0) rfl ?_
    refine Go.by (fun t => X0.ldcInt hx hown (mvT hZ (wd hw 0 rfl)) (g := (mkF m 1 #[vi i0, vi i1, vi i2, vi i3, uu, uu, uu, uu, uu, uu, uu, uu, uu, uu, uu, uu] [(.int i3)])) rfl (hb hby at_1) t) ?_
    show Go p e below _ (s₁.setTop (mkF m 3 #[vi i0, vi i1, vi i2, vi i3, uu, uu, uu, uu, uu, uu, uu, uu, uu, uu, uu, uu] [(.int (2147483647 : Int32)), (.int i3)]))
    refine gq (XS.iand X0.here hx rfl (hb hby at_3) rfl) rfl ?_
    refine gk X0 hx 3 (hb hby at_4) rfl ?_
    refine gq (iremM X0 hx rfl (hb hby at_5) rfl (by first | assumption | decide)) rfl ?_
    refine gk X0 hx 1 (hb hby at_6) rfl ?_
    refine gq (XS.iadd X0.here hx rfl (hb hby at_7) rfl) rfl ?_
    show Go p e below _ (s₁.setTop (mkF m 8 #[vi i0, vi i1, vi i2, vi i3, uu, uu, uu, uu, uu, uu, uu, uu, uu, uu, uu, uu] [(.int (((i3 &&& (2147483647 : Int32)) % (3 : Int32)) + (1 : Int32)))]))
    rw [show (((i3 &&& (2147483647 : Int32)) % (3 : Int32)) + (1 : Int32)) = (3 : Int32) from enn]
    refine gT X0 hx #[vi i0, vi i1, vi i2, vi i3, vi (3 : Int32), uu, uu, uu, uu, uu, uu, uu, uu, uu, uu, uu] (hb hby at_8) rfl ?_
    refine gI X0 hx (hb hby at_10) rfl ?_
    obtain ⟨T117, h117, k117, X117, e117, E117, A117, st117⟩ := newP X0 hx hZ (wd hw 1 rfl) e0 (g := (mkF m 12 #[vi i0, vi i1, vi i2, vi i3, vi (3 : Int32), uu, uu, uu, uu, uu, uu, uu, uu, uu, uu, uu] [(.int (3 : Int32))])) rfl (hb hby at_12) rfl (by decide) (cap := 3) (by decide) (by decide) (by decide) (by decide)
    obtain ⟨b, g117⟩ : ∃ z, z = h0.size := ⟨_, rfl⟩
    rw [← g117] at A117 st117
    refine Go.by (fun t => st117 t) ?_
    have g_b : n0 ≤ b := Nat.le_trans Z0 (Nat.le_of_eq g117.symm)
    replace Z0 := Nat.le_trans Z0 E117.1
    have V_b : Arv Z h117 b k117 .double (3 : Int32) [(.double (0 : UInt64)), (.double (0 : UInt64)), (.double (0 : UInt64))] (.double (0 : UInt64)) := (Arv.new A117 (by decide)).pad (pad_rep [] (.double (0 : UInt64)) 3)
    replace X117 := Stand.num (C := 1) (S := 3) X117 rfl rfl
    show Go p e below _ (T117.setTop (mkF m 14 #[vi i0, vi i1, vi i2, vi i3, vi (3 : Int32), uu, uu, uu, uu, uu, uu, uu, uu, uu, uu, uu] [(.ref b)]))
    refine gU X117 hx #[vi i0, vi i1, vi i2, vi i3, vi (3 : Int32), vr b, uu, uu, uu, uu, uu, uu, uu, uu, uu, uu] (hb hby at_14) rfl rfl ?_
    refine gA X117 hx (hb hby at_16) rfl rfl ?_
    refine gk X117 hx 0 (hb hby at_18) rfl ?_
    refine gi X117 hx (hb hby at_19) rfl ?_
    refine gq (XS.i2dS X117.here hx rfl (hb hby at_20) rfl rfl) rfl ?_
    show Go p e below _ (T117.setTop (mkF m 21 #[vi i0, vi i1, vi i2, vi i3, vi (3 : Int32), vr b, uu, uu, uu, uu, uu, uu, uu, uu, uu, uu] [(.double (FP.i2d i0)), (.int (0 : Int32)), (.ref b)]))
    rw [show FP.i2d i0 = FP.l2d (i0.toInt64) from i2d_w i0]
    refine sD X117 hx hZ e117 V_b ⟨by decide, by decide⟩ 0 rfl (Nat.le_of_ble_eq_true rfl) (hb hby at_21) fun T118 h118 X118 e118 W118 Vn118 => ?_
    replace V_b : Arv Z h118 b k117 .double (3 : Int32) [(.double (FP.l2d (i0.toInt64))), (.double (0 : UInt64)), (.double (0 : UInt64))] (.double (0 : UInt64)) := Vn118
    clear Vn118
    replace Z0 := Nat.le_trans Z0 (Keep.of_wr W118).1
    have N118 := Fr.snoc X118 N0 g_b
    refine gI X118 hx (hb hby at_22) rfl ?_
    refine gk X118 hx 2 (hb hby at_24) rfl ?_
    refine cN X118 hx (hb hby at_25) (flt (by decide : ¬ ((3 : Int32) < (2 : Int32)))).1 ?_
    refine gA X118 hx (hb hby at_28) rfl rfl ?_
    refine gk X118 hx 1 (hb hby at_30) rfl ?_
    refine gi X118 hx (hb hby at_31) rfl ?_
    refine gq (XS.i2dS X118.here hx rfl (hb hby at_32) rfl rfl) rfl ?_
    show Go p e below _ (T118.setTop (mkF m 33 #[vi i0, vi i1, vi i2, vi i3, vi (3 : Int32), vr b, uu, uu, uu, uu, uu, uu, uu, uu, uu, uu] [(.double (FP.i2d i1)), (.int (1 : Int32)), (.ref b)]))
    rw [show FP.i2d i1 = FP.l2d (i1.toInt64) from i2d_w i1]
    refine sD X118 hx hZ e118 V_b ⟨by decide, by decide⟩ 1 rfl (Nat.le_of_ble_eq_true rfl) (hb hby at_33) fun T119 h119 X119 e119 W119 Vn119 => ?_
    replace V_b : Arv Z h119 b k117 .double (3 : Int32) [(.double (FP.l2d (i0.toInt64))), (.double (FP.l2d (i1.toInt64))), (.double (0 : UInt64))] (.double (0 : UInt64)) := Vn119
    clear Vn119
    replace Z0 := Nat.le_trans Z0 (Keep.of_wr W119).1
    have N119 := Fr.snoc X119 N118 g_b
    refine gI X119 hx (hb hby at_34) rfl ?_
    refine gk X119 hx 3 (hb hby at_36) rfl ?_
    refine cN X119 hx (hb hby at_37) (flt (by decide : ¬ ((3 : Int32) < (3 : Int32)))).1 ?_
    refine gA X119 hx (hb hby at_40) rfl rfl ?_
    refine gk X119 hx 2 (hb hby at_42) rfl ?_
    refine gi X119 hx (hb hby at_43) rfl ?_
    refine gq (XS.i2dS X119.here hx rfl (hb hby at_44) rfl rfl) rfl ?_
    show Go p e below _ (T119.setTop (mkF m 45 #[vi i0, vi i1, vi i2, vi i3, vi (3 : Int32), vr b, uu, uu, uu, uu, uu, uu, uu, uu, uu, uu] [(.double (FP.i2d i2)), (.int (2 : Int32)), (.ref b)]))
    rw [show FP.i2d i2 = FP.l2d (i2.toInt64) from i2d_w i2]
    refine sD X119 hx hZ e119 V_b ⟨by decide, by decide⟩ 2 rfl (Nat.le_of_ble_eq_true rfl) (hb hby at_45) fun T120 h120 X120 e120 W120 Vn120 => ?_
    replace V_b : Arv Z h120 b k117 .double (3 : Int32) [(.double (FP.l2d (i0.toInt64))), (.double (FP.l2d (i1.toInt64))), (.double (FP.l2d (i2.toInt64)))] (.double (0 : UInt64)) := Vn120
    clear Vn120
    replace Z0 := Nat.le_trans Z0 (Keep.of_wr W120).1
    have N120 := Fr.snoc X120 N119 g_b
    refine gA X120 hx (hb hby at_46) rfl rfl ?_
    refine kS (W := 0) (C := 1) (S := 3) X120 hx hZ hown (wd hw 2 rfl) (wd hw 3 rfl) (wd hw 4 rfl) (wd hw 5 rfl) (rmM3 l Z a0 hw [] b k117 (i0.toInt64) (i1.toInt64) (i2.toInt64) h120 n0 V_b q0 q1 q2) pd_0 (hb hby at_48) e120 hml (by exact ⟨rfl, rfl, rfl, rfl⟩) (by decide) fun v121 T121 L121 Lc121 X121 hQ121 l121 => ?_
    obtain ⟨rfl, Nq121, e121⟩ := hQ121
    have N121 := l121 N120 Nq121
    refine gE X121 hx #[vi i0, vi i1, vi i2, vi i3, vi (3 : Int32), vr b, .val (.double (FP.dadd (FP.l2d (i0.toInt64)) (FP.ddiv (FP.l2d (((0 + ((i0.toInt64) - (i0.toInt64))) + ((i1.toInt64) - (i0.toInt64))) + ((i2.toInt64) - (i0.toInt64)))) (FP.l2d 3)))), .second, uu, uu, uu, uu, uu, uu, uu, uu] (hb hby at_51) rfl ?_
    refine gI X121 hx (hb hby at_53) rfl ?_
    refine gk X121 hx 1 (hb hby at_55) rfl ?_
    refine cY X121 hx 73 (hb hby at_56) (feq (by decide : ¬ ((3 : Int32) = (1 : Int32)))).2 (by decide) ?_
    refine gI X121 hx (hb hby at_73) rfl ?_
    refine gk X121 hx 2 (hb hby at_75) rfl ?_
    refine cY X121 hx 105 (hb hby at_76) (feq (by decide : ¬ ((3 : Int32) = (2 : Int32)))).2 (by decide) ?_
    refine gi X121 hx (hb hby at_105) rfl ?_
    refine gq (XS.i2l X121.here hx rfl (hb hby at_106) rfl) rfl ?_
    refine gi X121 hx (hb hby at_107) rfl ?_
    refine gq (XS.i2l X121.here hx rfl (hb hby at_108) rfl) rfl ?_
    refine gq (XS.ladd X121.here hx rfl (hb hby at_109) rfl) rfl ?_
    refine gi X121 hx (hb hby at_110) rfl ?_
    refine gq (XS.i2l X121.here hx rfl (hb hby at_111) rfl) rfl ?_
    refine gq (XS.ladd X121.here hx rfl (hb hby at_112) rfl) rfl ?_
    refine gM X121 hx #[vi i0, vi i1, vi i2, vi i3, vi (3 : Int32), vr b, .val (.double (FP.dadd (FP.l2d (i0.toInt64)) (FP.ddiv (FP.l2d (((0 + ((i0.toInt64) - (i0.toInt64))) + ((i1.toInt64) - (i0.toInt64))) + ((i2.toInt64) - (i0.toInt64)))) (FP.l2d 3)))), .second, .val (.long (((i0.toInt64) + (i1.toInt64)) + (i2.toInt64))), .second, uu, uu, uu, uu, uu, uu] (hb hby at_113) rfl ?_
    refine gL X121 hx (hb hby at_115) rfl ?_
    obtain ⟨tt, htt⟩ : ∃ z, z = (((i0.toInt64) + (i1.toInt64)) + (i2.toInt64)) := ⟨_, rfl⟩
    have ett : tt.toInt = i0.toInt64.toInt + i1.toInt64.toInt + i2.toInt64.toInt := by
      rw [htt]
      unfold BdI at q0 q1 q2
      have z1 := add_int (a := i0.toInt64) (b := i1.toInt64) (by omega) (by omega)
      rw [add_int (by omega) (by omega), z1]
    have btt : -1000000000000 < tt.toInt ∧ tt.toInt < 1000000000000 := by unfold BdI at q0 q1 q2; omega
    have d3 := div3 btt
    have s3 := s3_int q0 q1 q2
    show Go p e below _ (T121.setTop (mkF m 117 #[vi i0, vi i1, vi i2, vi i3, vi (3 : Int32), vr b, .val (.double (FP.dadd (FP.l2d (i0.toInt64)) (FP.ddiv (FP.l2d (((0 + ((i0.toInt64) - (i0.toInt64))) + ((i1.toInt64) - (i0.toInt64))) + ((i2.toInt64) - (i0.toInt64)))) (FP.l2d 3)))), .second, .val (.long (((i0.toInt64) + (i1.toInt64)) + (i2.toInt64))), .second, uu, uu, uu, uu, uu, uu] [(.long (((i0.toInt64) + (i1.toInt64)) + (i2.toInt64)))]))
    rw [show (((i0.toInt64) + (i1.toInt64)) + (i2.toInt64)) = tt from htt.symm]
    show Go p e below _ (T121.setTop (mkF m 117 #[vi i0, vi i1, vi i2, vi i3, vi (3 : Int32), vr b, .val (.double (FP.dadd (FP.l2d (i0.toInt64)) (FP.ddiv (FP.l2d (((0 + ((i0.toInt64) - (i0.toInt64))) + ((i1.toInt64) - (i0.toInt64))) + ((i2.toInt64) - (i0.toInt64)))) (FP.l2d 3)))), .second, .val (.long tt), .second, uu, uu, uu, uu, uu, uu] [(.long tt)]))
    refine Go.by (fun t => X121.ldc2Long hx hown (mvT hZ (wd hw 7 rfl)) (g := (mkF m 117 #[vi i0, vi i1, vi i2, vi i3, vi (3 : Int32), vr b, .val (.double (FP.dadd (FP.l2d (i0.toInt64)) (FP.ddiv (FP.l2d (((0 + ((i0.toInt64) - (i0.toInt64))) + ((i1.toInt64) - (i0.toInt64))) + ((i2.toInt64) - (i0.toInt64)))) (FP.l2d 3)))), .second, .val (.long tt), .second, uu, uu, uu, uu, uu, uu] [(.long tt)])) rfl (hb hby at_117) t) ?_
    show Go p e below _ (T121.setTop (mkF m 120 #[vi i0, vi i1, vi i2, vi i3, vi (3 : Int32), vr b, .val (.double (FP.dadd (FP.l2d (i0.toInt64)) (FP.ddiv (FP.l2d (((0 + ((i0.toInt64) - (i0.toInt64))) + ((i1.toInt64) - (i0.toInt64))) + ((i2.toInt64) - (i0.toInt64)))) (FP.l2d 3)))), .second, .val (.long tt), .second, uu, uu, uu, uu, uu, uu] [(.long (3 : Int64)), (.long tt)]))
    refine gq (XS.ldiv X121.here hx rfl (hb hby at_120) rfl (by first | assumption | decide)) rfl ?_
    refine gM X121 hx #[vi i0, vi i1, vi i2, vi i3, vi (3 : Int32), vr b, .val (.double (FP.dadd (FP.l2d (i0.toInt64)) (FP.ddiv (FP.l2d (((0 + ((i0.toInt64) - (i0.toInt64))) + ((i1.toInt64) - (i0.toInt64))) + ((i2.toInt64) - (i0.toInt64)))) (FP.l2d 3)))), .second, .val (.long tt), .second, .val (.long (tt / (3 : Int64))), .second, uu, uu, uu, uu] (hb hby at_121) rfl ?_
    refine gL X121 hx (hb hby at_123) rfl ?_
    refine Go.by (fun t => X121.ldc2Long hx hown (mvT hZ (wd hw 7 rfl)) (g := (mkF m 125 #[vi i0, vi i1, vi i2, vi i3, vi (3 : Int32), vr b, .val (.double (FP.dadd (FP.l2d (i0.toInt64)) (FP.ddiv (FP.l2d (((0 + ((i0.toInt64) - (i0.toInt64))) + ((i1.toInt64) - (i0.toInt64))) + ((i2.toInt64) - (i0.toInt64)))) (FP.l2d 3)))), .second, .val (.long tt), .second, .val (.long (tt / (3 : Int64))), .second, uu, uu, uu, uu] [(.long tt)])) rfl (hb hby at_125) t) ?_
    show Go p e below _ (T121.setTop (mkF m 128 #[vi i0, vi i1, vi i2, vi i3, vi (3 : Int32), vr b, .val (.double (FP.dadd (FP.l2d (i0.toInt64)) (FP.ddiv (FP.l2d (((0 + ((i0.toInt64) - (i0.toInt64))) + ((i1.toInt64) - (i0.toInt64))) + ((i2.toInt64) - (i0.toInt64)))) (FP.l2d 3)))), .second, .val (.long tt), .second, .val (.long (tt / (3 : Int64))), .second, uu, uu, uu, uu] [(.long (3 : Int64)), (.long tt)]))
    refine gL X121 hx (hb hby at_128) rfl ?_
    refine gq (XS.lmul X121.here hx rfl (hb hby at_130) rfl) rfl ?_
    refine gq (XS.lsub X121.here hx rfl (hb hby at_131) rfl) rfl ?_
    refine gM X121 hx #[vi i0, vi i1, vi i2, vi i3, vi (3 : Int32), vr b, .val (.double (FP.dadd (FP.l2d (i0.toInt64)) (FP.ddiv (FP.l2d (((0 + ((i0.toInt64) - (i0.toInt64))) + ((i1.toInt64) - (i0.toInt64))) + ((i2.toInt64) - (i0.toInt64)))) (FP.l2d 3)))), .second, .val (.long tt), .second, .val (.long (tt / (3 : Int64))), .second, .val (.long (tt - ((3 : Int64) * (tt / (3 : Int64))))), .second, uu, uu] (hb hby at_132) rfl ?_
    refine gL X121 hx (hb hby at_134) rfl ?_
    refine Go.by (fun t => XS.lconst X121.here hx rfl (hb hby at_136)) ?_
    show Go p e below _ (T121.setTop (mkF m 137 #[vi i0, vi i1, vi i2, vi i3, vi (3 : Int32), vr b, .val (.double (FP.dadd (FP.l2d (i0.toInt64)) (FP.ddiv (FP.l2d (((0 + ((i0.toInt64) - (i0.toInt64))) + ((i1.toInt64) - (i0.toInt64))) + ((i2.toInt64) - (i0.toInt64)))) (FP.l2d 3)))), .second, .val (.long tt), .second, .val (.long (tt / (3 : Int64))), .second, .val (.long (tt - ((3 : Int64) * (tt / (3 : Int64))))), .second, uu, uu] [(.long (0 : Int64)), (.long (tt - ((3 : Int64) * (tt / (3 : Int64)))))]))
    refine gq (XS.lcmp X121.here hx rfl (hb hby at_137) rfl) rfl ?_
    refine Go.twoL (P := fun qq rr => 3 * qq.toInt + rr.toInt = tt.toInt ∧ 0 ≤ rr.toInt ∧ rr.toInt < 3) (B := fun qq rr => T121.setTop (mkF m 155 #[vi i0, vi i1, vi i2, vi i3, vi (3 : Int32), vr b, .val (.double (FP.dadd (FP.l2d (i0.toInt64)) (FP.ddiv (FP.l2d (((0 + ((i0.toInt64) - (i0.toInt64))) + ((i1.toInt64) - (i0.toInt64))) + ((i2.toInt64) - (i0.toInt64)))) (FP.l2d 3)))), .second, .val (.long tt), .second, .val (.long qq), .second, .val (.long rr), .second, uu, uu] [])) ?_ fun tail => ?_
    ·
      intro qq rr ⟨hq1, hq2, hq3⟩
      have bq : -1000000000000 < qq.toInt ∧ qq.toInt < 1000000000000 := by omega
      have hS : -1000000000000 < (((0 + ((i0.toInt64) - (i0.toInt64))) + ((i1.toInt64) - (i0.toInt64))) + ((i2.toInt64) - (i0.toInt64))).toInt ∧ (((0 + ((i0.toInt64) - (i0.toInt64))) + ((i1.toInt64) - (i0.toInt64))) + ((i2.toInt64) - (i0.toInt64))).toInt < 1000000000000 := by unfold BdI at q0 q1 q2; omega
      show Go p e below _ (T121.setTop (mkF m 155 #[vi i0, vi i1, vi i2, vi i3, vi (3 : Int32), vr b, .val (.double (FP.dadd (FP.l2d (i0.toInt64)) (FP.ddiv (FP.l2d (((0 + ((i0.toInt64) - (i0.toInt64))) + ((i1.toInt64) - (i0.toInt64))) + ((i2.toInt64) - (i0.toInt64)))) (FP.l2d 3)))), .second, .val (.long tt), .second, .val (.long qq), .second, .val (.long rr), .second, uu, uu] []))
      refine gL X121 hx (hb hby at_155) rfl ?_
      refine gq (XS.l2dS X121.here hx rfl (hb hby at_157) rfl rfl) rfl ?_
      refine gE X121 hx #[vi i0, vi i1, vi i2, vi i3, vi (3 : Int32), vr b, .val (.double (FP.dadd (FP.l2d (i0.toInt64)) (FP.ddiv (FP.l2d (((0 + ((i0.toInt64) - (i0.toInt64))) + ((i1.toInt64) - (i0.toInt64))) + ((i2.toInt64) - (i0.toInt64)))) (FP.l2d 3)))), .second, .val (.long tt), .second, .val (.long qq), .second, .val (.long rr), .second, .val (.double (FP.l2d qq)), .second] (hb hby at_158) rfl ?_
      refine gL X121 hx (hb hby at_160) rfl ?_
      refine Go.by (fun t => XS.lconst X121.here hx rfl (hb hby at_162)) ?_
      show Go p e below _ (T121.setTop (mkF m 163 #[vi i0, vi i1, vi i2, vi i3, vi (3 : Int32), vr b, .val (.double (FP.dadd (FP.l2d (i0.toInt64)) (FP.ddiv (FP.l2d (((0 + ((i0.toInt64) - (i0.toInt64))) + ((i1.toInt64) - (i0.toInt64))) + ((i2.toInt64) - (i0.toInt64)))) (FP.l2d 3)))), .second, .val (.long tt), .second, .val (.long qq), .second, .val (.long rr), .second, .val (.double (FP.l2d qq)), .second] [(.long (0 : Int64)), (.long rr)]))
      refine gq (XS.lcmp X121.here hx rfl (hb hby at_163) rfl) rfl ?_
      by_cases hr0 : rr = 0
      ·
        refine zN X121 hx (hb hby at_164) ((if0 _ _).trans (teq ((lw_eq _ _).2 hr0 : (lcmpW rr (0 : Int64)) = (0 : Int32))).2) ?_
        have hr0' : rr.toInt = 0 := by rw [hr0]; rfl
        refine gD X121 hx (hb hby at_167) rfl ?_
        refine gD X121 hx (hb hby at_169) rfl ?_
        refine gq (XS.dcmpS X121.here hx rfl (hb hby at_171) rfl rfl) rfl ?_
        show Go p e below _ (T121.setTop (mkF m 172 #[vi i0, vi i1, vi i2, vi i3, vi (3 : Int32), vr b, .val (.double (FP.dadd (FP.l2d (i0.toInt64)) (FP.ddiv (FP.l2d (((0 + ((i0.toInt64) - (i0.toInt64))) + ((i1.toInt64) - (i0.toInt64))) + ((i2.toInt64) - (i0.toInt64)))) (FP.l2d 3)))), .second, .val (.long tt), .second, .val (.long qq), .second, .val (.long rr), .second, .val (.double (FP.l2d qq)), .second] [(.int (cmpValue (FP.dcmp (FP.dadd (FP.l2d (i0.toInt64)) (FP.ddiv (FP.l2d (((0 + ((i0.toInt64) - (i0.toInt64))) + ((i1.toInt64) - (i0.toInt64))) + ((i2.toInt64) - (i0.toInt64)))) (FP.l2d 3))) (FP.l2d qq)) .l))]))
        rw [show (cmpValue (FP.dcmp (FP.dadd (FP.l2d (i0.toInt64)) (FP.ddiv (FP.l2d (((0 + ((i0.toInt64) - (i0.toInt64))) + ((i1.toInt64) - (i0.toInt64))) + ((i2.toInt64) - (i0.toInt64)))) (FP.l2d 3))) (FP.l2d qq)) .l) = (0 : Int32) from T30 q0 hS (by omega)]
        refine zN X121 hx (hb hby at_172) ((if0 _ _).trans (teq (rfl : (0 : Int32) = (0 : Int32))).2) ?_
        refine gk X121 hx 1 (hb hby at_175) rfl ?_
        refine gg X121 hx 180 (hb hby at_176) (by decide) ?_
        exact Go.ret1 X121 hx Bd.returns Bd.notSynchronized (by first | rfl | decide) (Or.inl ⟨rfl, by simp, _, rfl⟩) (hb hby at_180) (by decide) (by decide) (by first | (rw [e121]; exact ⟨rfl, N121⟩) | exact ⟨rfl, N121⟩)
      ·
        refine zY X121 hx 181 (hb hby at_164) ((if0 _ _).trans (feq (fun z => hr0 ((lw_eq _ _).1 z) : ¬ ((lcmpW rr (0 : Int64)) = (0 : Int32)))).2) (by decide) ?_
        have hr0' : ¬ rr.toInt = 0 := fun z => hr0 (Int64.toInt_inj.mp z)
        refine gL X121 hx (hb hby at_181) rfl ?_
        refine Go.by (fun t => XS.lconst X121.here hx rfl (hb hby at_183)) ?_
        show Go p e below _ (T121.setTop (mkF m 184 #[vi i0, vi i1, vi i2, vi i3, vi (3 : Int32), vr b, .val (.double (FP.dadd (FP.l2d (i0.toInt64)) (FP.ddiv (FP.l2d (((0 + ((i0.toInt64) - (i0.toInt64))) + ((i1.toInt64) - (i0.toInt64))) + ((i2.toInt64) - (i0.toInt64)))) (FP.l2d 3)))), .second, .val (.long tt), .second, .val (.long qq), .second, .val (.long rr), .second, .val (.double (FP.l2d qq)), .second] [(.long (1 : Int64)), (.long rr)]))
        refine gq (XS.lcmp X121.here hx rfl (hb hby at_184) rfl) rfl ?_
        by_cases hr1 : rr = 1
        ·
          refine zN X121 hx (hb hby at_185) ((if0 _ _).trans (teq ((lw_eq _ _).2 hr1 : (lcmpW rr (1 : Int64)) = (0 : Int32))).2) ?_
          have hr1' : rr.toInt = 1 := by rw [hr1]; rfl
          have T := T3 (r := 1) (j1 := 20) (j2 := 24) (k1 := 21) (k2 := 22) q0 hS bq (by omega) (by decide) (by decide) (by decide) (by decide) (by decide) f20 f24 k20 k24
          refine gD X121 hx (hb hby at_188) rfl ?_
          refine Go.by (fun t => X121.ldc2DoubleC hx hown (mvT hZ (wd hw 8 rfl)) (g := (mkF m 190 #[vi i0, vi i1, vi i2, vi i3, vi (3 : Int32), vr b, .val (.double (FP.dadd (FP.l2d (i0.toInt64)) (FP.ddiv (FP.l2d (((0 + ((i0.toInt64) - (i0.toInt64))) + ((i1.toInt64) - (i0.toInt64))) + ((i2.toInt64) - (i0.toInt64)))) (FP.l2d 3)))), .second, .val (.long tt), .second, .val (.long qq), .second, .val (.long rr), .second, .val (.double (FP.l2d qq)), .second] [(.double (FP.l2d qq))])) rfl (hb hby at_190) t) ?_
          show Go p e below _ (T121.setTop (mkF m 193 #[vi i0, vi i1, vi i2, vi i3, vi (3 : Int32), vr b, .val (.double (FP.dadd (FP.l2d (i0.toInt64)) (FP.ddiv (FP.l2d (((0 + ((i0.toInt64) - (i0.toInt64))) + ((i1.toInt64) - (i0.toInt64))) + ((i2.toInt64) - (i0.toInt64)))) (FP.l2d 3)))), .second, .val (.long tt), .second, .val (.long qq), .second, .val (.long rr), .second, .val (.double (FP.l2d qq)), .second] [(.double (4599301119452119040 : UInt64)), (.double (FP.l2d qq))]))
          refine gq (XS.daddS X121.here hx rfl (hb hby at_193) rfl (lo_c bq f20 (by decide) k20).2 rfl) rfl ?_
          refine gD X121 hx (hb hby at_194) rfl ?_
          refine gq (XS.dcmpS X121.here hx rfl (hb hby at_196) rfl rfl) rfl ?_
          show Go p e below _ (T121.setTop (mkF m 197 #[vi i0, vi i1, vi i2, vi i3, vi (3 : Int32), vr b, .val (.double (FP.dadd (FP.l2d (i0.toInt64)) (FP.ddiv (FP.l2d (((0 + ((i0.toInt64) - (i0.toInt64))) + ((i1.toInt64) - (i0.toInt64))) + ((i2.toInt64) - (i0.toInt64)))) (FP.l2d 3)))), .second, .val (.long tt), .second, .val (.long qq), .second, .val (.long rr), .second, .val (.double (FP.l2d qq)), .second] [(.int (cmpValue (FP.dcmp (FP.dadd (FP.l2d qq) (4599301119452119040 : UInt64)) (FP.dadd (FP.l2d (i0.toInt64)) (FP.ddiv (FP.l2d (((0 + ((i0.toInt64) - (i0.toInt64))) + ((i1.toInt64) - (i0.toInt64))) + ((i2.toInt64) - (i0.toInt64)))) (FP.l2d 3)))) .g))]))
          rw [show (cmpValue (FP.dcmp (FP.dadd (FP.l2d qq) (4599301119452119040 : UInt64)) (FP.dadd (FP.l2d (i0.toInt64)) (FP.ddiv (FP.l2d (((0 + ((i0.toInt64) - (i0.toInt64))) + ((i1.toInt64) - (i0.toInt64))) + ((i2.toInt64) - (i0.toInt64)))) (FP.l2d 3)))) .g) = (-1 : Int32) from T.1]
          refine zN X121 hx (hb hby at_197) ((if0 _ _).trans (tlt (by decide : (-1 : Int32) < (0 : Int32))).2.1) ?_
          refine gD X121 hx (hb hby at_200) rfl ?_
          refine gD X121 hx (hb hby at_202) rfl ?_
          refine Go.by (fun t => X121.ldc2DoubleC hx hown (mvT hZ (wd hw 9 rfl)) (g := (mkF m 204 #[vi i0, vi i1, vi i2, vi i3, vi (3 : Int32), vr b, .val (.double (FP.dadd (FP.l2d (i0.toInt64)) (FP.ddiv (FP.l2d (((0 + ((i0.toInt64) - (i0.toInt64))) + ((i1.toInt64) - (i0.toInt64))) + ((i2.toInt64) - (i0.toInt64)))) (FP.l2d 3)))), .second, .val (.long tt), .second, .val (.long qq), .second, .val (.long rr), .second, .val (.double (FP.l2d qq)), .second] [(.double (FP.l2d qq)), (.double (FP.dadd (FP.l2d (i0.toInt64)) (FP.ddiv (FP.l2d (((0 + ((i0.toInt64) - (i0.toInt64))) + ((i1.toInt64) - (i0.toInt64))) + ((i2.toInt64) - (i0.toInt64)))) (FP.l2d 3))))])) rfl (hb hby at_204) t) ?_
          show Go p e below _ (T121.setTop (mkF m 207 #[vi i0, vi i1, vi i2, vi i3, vi (3 : Int32), vr b, .val (.double (FP.dadd (FP.l2d (i0.toInt64)) (FP.ddiv (FP.l2d (((0 + ((i0.toInt64) - (i0.toInt64))) + ((i1.toInt64) - (i0.toInt64))) + ((i2.toInt64) - (i0.toInt64)))) (FP.l2d 3)))), .second, .val (.long tt), .second, .val (.long qq), .second, .val (.long rr), .second, .val (.double (FP.l2d qq)), .second] [(.double (4600427019358961664 : UInt64)), (.double (FP.l2d qq)), (.double (FP.dadd (FP.l2d (i0.toInt64)) (FP.ddiv (FP.l2d (((0 + ((i0.toInt64) - (i0.toInt64))) + ((i1.toInt64) - (i0.toInt64))) + ((i2.toInt64) - (i0.toInt64)))) (FP.l2d 3))))]))
          refine gq (XS.daddS X121.here hx rfl (hb hby at_207) rfl (lo_c bq f24 (by decide) k24).2 rfl) rfl ?_
          refine gq (XS.dcmpS X121.here hx rfl (hb hby at_208) rfl rfl) rfl ?_
          show Go p e below _ (T121.setTop (mkF m 209 #[vi i0, vi i1, vi i2, vi i3, vi (3 : Int32), vr b, .val (.double (FP.dadd (FP.l2d (i0.toInt64)) (FP.ddiv (FP.l2d (((0 + ((i0.toInt64) - (i0.toInt64))) + ((i1.toInt64) - (i0.toInt64))) + ((i2.toInt64) - (i0.toInt64)))) (FP.l2d 3)))), .second, .val (.long tt), .second, .val (.long qq), .second, .val (.long rr), .second, .val (.double (FP.l2d qq)), .second] [(.int (cmpValue (FP.dcmp (FP.dadd (FP.l2d (i0.toInt64)) (FP.ddiv (FP.l2d (((0 + ((i0.toInt64) - (i0.toInt64))) + ((i1.toInt64) - (i0.toInt64))) + ((i2.toInt64) - (i0.toInt64)))) (FP.l2d 3))) (FP.dadd (FP.l2d qq) (4600427019358961664 : UInt64))) .g))]))
          rw [show (cmpValue (FP.dcmp (FP.dadd (FP.l2d (i0.toInt64)) (FP.ddiv (FP.l2d (((0 + ((i0.toInt64) - (i0.toInt64))) + ((i1.toInt64) - (i0.toInt64))) + ((i2.toInt64) - (i0.toInt64)))) (FP.l2d 3))) (FP.dadd (FP.l2d qq) (4600427019358961664 : UInt64))) .g) = (-1 : Int32) from T.2]
          refine zN X121 hx (hb hby at_209) ((if0 _ _).trans (tlt (by decide : (-1 : Int32) < (0 : Int32))).2.1) ?_
          refine gk X121 hx 1 (hb hby at_212) rfl ?_
          refine gg X121 hx 217 (hb hby at_213) (by decide) ?_
          exact Go.ret1 X121 hx Bd.returns Bd.notSynchronized (by first | rfl | decide) (Or.inl ⟨rfl, by simp, _, rfl⟩) (hb hby at_217) (by decide) (by decide) (by first | (rw [e121]; exact ⟨rfl, N121⟩) | exact ⟨rfl, N121⟩)
        ·
          refine zY X121 hx 218 (hb hby at_185) ((if0 _ _).trans (feq (fun z => hr1 ((lw_eq _ _).1 z) : ¬ ((lcmpW rr (1 : Int64)) = (0 : Int32)))).2) (by decide) ?_
          have hr1' : rr.toInt = 2 := by have z : ¬ rr.toInt = 1 := fun z => hr1 (Int64.toInt_inj.mp z); omega
          have T := T3 (r := 2) (j1 := 40) (j2 := 44) (k1 := 42) (k2 := 43) q0 hS bq (by omega) (by decide) (by decide) (by decide) (by decide) (by decide) f40 f44 k40 k44
          refine gD X121 hx (hb hby at_218) rfl ?_
          refine Go.by (fun t => X121.ldc2DoubleC hx hown (mvT hZ (wd hw 10 rfl)) (g := (mkF m 220 #[vi i0, vi i1, vi i2, vi i3, vi (3 : Int32), vr b, .val (.double (FP.dadd (FP.l2d (i0.toInt64)) (FP.ddiv (FP.l2d (((0 + ((i0.toInt64) - (i0.toInt64))) + ((i1.toInt64) - (i0.toInt64))) + ((i2.toInt64) - (i0.toInt64)))) (FP.l2d 3)))), .second, .val (.long tt), .second, .val (.long qq), .second, .val (.long rr), .second, .val (.double (FP.l2d qq)), .second] [(.double (FP.l2d qq))])) rfl (hb hby at_220) t) ?_
          show Go p e below _ (T121.setTop (mkF m 223 #[vi i0, vi i1, vi i2, vi i3, vi (3 : Int32), vr b, .val (.double (FP.dadd (FP.l2d (i0.toInt64)) (FP.ddiv (FP.l2d (((0 + ((i0.toInt64) - (i0.toInt64))) + ((i1.toInt64) - (i0.toInt64))) + ((i2.toInt64) - (i0.toInt64)))) (FP.l2d 3)))), .second, .val (.long tt), .second, .val (.long qq), .second, .val (.long rr), .second, .val (.double (FP.l2d qq)), .second] [(.double (4603804719079489536 : UInt64)), (.double (FP.l2d qq))]))
          refine gq (XS.daddS X121.here hx rfl (hb hby at_223) rfl (lo_c bq f40 (by decide) k40).2 rfl) rfl ?_
          refine gD X121 hx (hb hby at_224) rfl ?_
          refine gq (XS.dcmpS X121.here hx rfl (hb hby at_226) rfl rfl) rfl ?_
          show Go p e below _ (T121.setTop (mkF m 227 #[vi i0, vi i1, vi i2, vi i3, vi (3 : Int32), vr b, .val (.double (FP.dadd (FP.l2d (i0.toInt64)) (FP.ddiv (FP.l2d (((0 + ((i0.toInt64) - (i0.toInt64))) + ((i1.toInt64) - (i0.toInt64))) + ((i2.toInt64) - (i0.toInt64)))) (FP.l2d 3)))), .second, .val (.long tt), .second, .val (.long qq), .second, .val (.long rr), .second, .val (.double (FP.l2d qq)), .second] [(.int (cmpValue (FP.dcmp (FP.dadd (FP.l2d qq) (4603804719079489536 : UInt64)) (FP.dadd (FP.l2d (i0.toInt64)) (FP.ddiv (FP.l2d (((0 + ((i0.toInt64) - (i0.toInt64))) + ((i1.toInt64) - (i0.toInt64))) + ((i2.toInt64) - (i0.toInt64)))) (FP.l2d 3)))) .g))]))
          rw [show (cmpValue (FP.dcmp (FP.dadd (FP.l2d qq) (4603804719079489536 : UInt64)) (FP.dadd (FP.l2d (i0.toInt64)) (FP.ddiv (FP.l2d (((0 + ((i0.toInt64) - (i0.toInt64))) + ((i1.toInt64) - (i0.toInt64))) + ((i2.toInt64) - (i0.toInt64)))) (FP.l2d 3)))) .g) = (-1 : Int32) from T.1]
          refine zN X121 hx (hb hby at_227) ((if0 _ _).trans (tlt (by decide : (-1 : Int32) < (0 : Int32))).2.1) ?_
          refine gD X121 hx (hb hby at_230) rfl ?_
          refine gD X121 hx (hb hby at_232) rfl ?_
          refine Go.by (fun t => X121.ldc2DoubleC hx hown (mvT hZ (wd hw 11 rfl)) (g := (mkF m 234 #[vi i0, vi i1, vi i2, vi i3, vi (3 : Int32), vr b, .val (.double (FP.dadd (FP.l2d (i0.toInt64)) (FP.ddiv (FP.l2d (((0 + ((i0.toInt64) - (i0.toInt64))) + ((i1.toInt64) - (i0.toInt64))) + ((i2.toInt64) - (i0.toInt64)))) (FP.l2d 3)))), .second, .val (.long tt), .second, .val (.long qq), .second, .val (.long rr), .second, .val (.double (FP.l2d qq)), .second] [(.double (FP.l2d qq)), (.double (FP.dadd (FP.l2d (i0.toInt64)) (FP.ddiv (FP.l2d (((0 + ((i0.toInt64) - (i0.toInt64))) + ((i1.toInt64) - (i0.toInt64))) + ((i2.toInt64) - (i0.toInt64)))) (FP.l2d 3))))])) rfl (hb hby at_234) t) ?_
          show Go p e below _ (T121.setTop (mkF m 237 #[vi i0, vi i1, vi i2, vi i3, vi (3 : Int32), vr b, .val (.double (FP.dadd (FP.l2d (i0.toInt64)) (FP.ddiv (FP.l2d (((0 + ((i0.toInt64) - (i0.toInt64))) + ((i1.toInt64) - (i0.toInt64))) + ((i2.toInt64) - (i0.toInt64)))) (FP.l2d 3)))), .second, .val (.long tt), .second, .val (.long qq), .second, .val (.long rr), .second, .val (.double (FP.l2d qq)), .second] [(.double (4604367669032910848 : UInt64)), (.double (FP.l2d qq)), (.double (FP.dadd (FP.l2d (i0.toInt64)) (FP.ddiv (FP.l2d (((0 + ((i0.toInt64) - (i0.toInt64))) + ((i1.toInt64) - (i0.toInt64))) + ((i2.toInt64) - (i0.toInt64)))) (FP.l2d 3))))]))
          refine gq (XS.daddS X121.here hx rfl (hb hby at_237) rfl (lo_c bq f44 (by decide) k44).2 rfl) rfl ?_
          refine gq (XS.dcmpS X121.here hx rfl (hb hby at_238) rfl rfl) rfl ?_
          show Go p e below _ (T121.setTop (mkF m 239 #[vi i0, vi i1, vi i2, vi i3, vi (3 : Int32), vr b, .val (.double (FP.dadd (FP.l2d (i0.toInt64)) (FP.ddiv (FP.l2d (((0 + ((i0.toInt64) - (i0.toInt64))) + ((i1.toInt64) - (i0.toInt64))) + ((i2.toInt64) - (i0.toInt64)))) (FP.l2d 3)))), .second, .val (.long tt), .second, .val (.long qq), .second, .val (.long rr), .second, .val (.double (FP.l2d qq)), .second] [(.int (cmpValue (FP.dcmp (FP.dadd (FP.l2d (i0.toInt64)) (FP.ddiv (FP.l2d (((0 + ((i0.toInt64) - (i0.toInt64))) + ((i1.toInt64) - (i0.toInt64))) + ((i2.toInt64) - (i0.toInt64)))) (FP.l2d 3))) (FP.dadd (FP.l2d qq) (4604367669032910848 : UInt64))) .g))]))
          rw [show (cmpValue (FP.dcmp (FP.dadd (FP.l2d (i0.toInt64)) (FP.ddiv (FP.l2d (((0 + ((i0.toInt64) - (i0.toInt64))) + ((i1.toInt64) - (i0.toInt64))) + ((i2.toInt64) - (i0.toInt64)))) (FP.l2d 3))) (FP.dadd (FP.l2d qq) (4604367669032910848 : UInt64))) .g) = (-1 : Int32) from T.2]
          refine zN X121 hx (hb hby at_239) ((if0 _ _).trans (tlt (by decide : (-1 : Int32) < (0 : Int32))).2.1) ?_
          refine gk X121 hx 1 (hb hby at_242) rfl ?_
          refine gg X121 hx 247 (hb hby at_243) (by decide) ?_
          exact Go.ret1 X121 hx Bd.returns Bd.notSynchronized (by first | rfl | decide) (Or.inl ⟨rfl, by simp, _, rfl⟩) (hb hby at_247) (by decide) (by decide) (by first | (rw [e121]; exact ⟨rfl, N121⟩) | exact ⟨rfl, N121⟩)
    ·
      obtain ⟨e1, e2⟩ := d3
      have td := td3 tt.toInt
      by_cases hneg : (tt - ((3 : Int64) * (tt / (3 : Int64)))) < 0
      ·
        refine zN X121 hx (hb hby at_138) ((if0 _ _).trans (tlt ((lw_lt _ _).2 hneg : (lcmpW (tt - ((3 : Int64) * (tt / (3 : Int64)))) (0 : Int64)) < (0 : Int32))).2.1) ?_
        refine gL X121 hx (hb hby at_141) rfl ?_
        refine Go.by (fun t => XS.lconst X121.here hx rfl (hb hby at_143)) ?_
        show Go p e below _ (T121.setTop (mkF m 144 #[vi i0, vi i1, vi i2, vi i3, vi (3 : Int32), vr b, .val (.double (FP.dadd (FP.l2d (i0.toInt64)) (FP.ddiv (FP.l2d (((0 + ((i0.toInt64) - (i0.toInt64))) + ((i1.toInt64) - (i0.toInt64))) + ((i2.toInt64) - (i0.toInt64)))) (FP.l2d 3)))), .second, .val (.long tt), .second, .val (.long (tt / (3 : Int64))), .second, .val (.long (tt - ((3 : Int64) * (tt / (3 : Int64))))), .second, uu, uu] [(.long (1 : Int64)), (.long (tt / (3 : Int64)))]))
        refine gq (XS.lsub X121.here hx rfl (hb hby at_144) rfl) rfl ?_
        refine gM X121 hx #[vi i0, vi i1, vi i2, vi i3, vi (3 : Int32), vr b, .val (.double (FP.dadd (FP.l2d (i0.toInt64)) (FP.ddiv (FP.l2d (((0 + ((i0.toInt64) - (i0.toInt64))) + ((i1.toInt64) - (i0.toInt64))) + ((i2.toInt64) - (i0.toInt64)))) (FP.l2d 3)))), .second, .val (.long tt), .second, .val (.long ((tt / (3 : Int64)) - (1 : Int64))), .second, .val (.long (tt - ((3 : Int64) * (tt / (3 : Int64))))), .second, uu, uu] (hb hby at_145) rfl ?_
        refine gL X121 hx (hb hby at_147) rfl ?_
        refine Go.by (fun t => X121.ldc2Long hx hown (mvT hZ (wd hw 7 rfl)) (g := (mkF m 149 #[vi i0, vi i1, vi i2, vi i3, vi (3 : Int32), vr b, .val (.double (FP.dadd (FP.l2d (i0.toInt64)) (FP.ddiv (FP.l2d (((0 + ((i0.toInt64) - (i0.toInt64))) + ((i1.toInt64) - (i0.toInt64))) + ((i2.toInt64) - (i0.toInt64)))) (FP.l2d 3)))), .second, .val (.long tt), .second, .val (.long ((tt / (3 : Int64)) - (1 : Int64))), .second, .val (.long (tt - ((3 : Int64) * (tt / (3 : Int64))))), .second, uu, uu] [(.long (tt - ((3 : Int64) * (tt / (3 : Int64)))))])) rfl (hb hby at_149) t) ?_
        show Go p e below _ (T121.setTop (mkF m 152 #[vi i0, vi i1, vi i2, vi i3, vi (3 : Int32), vr b, .val (.double (FP.dadd (FP.l2d (i0.toInt64)) (FP.ddiv (FP.l2d (((0 + ((i0.toInt64) - (i0.toInt64))) + ((i1.toInt64) - (i0.toInt64))) + ((i2.toInt64) - (i0.toInt64)))) (FP.l2d 3)))), .second, .val (.long tt), .second, .val (.long ((tt / (3 : Int64)) - (1 : Int64))), .second, .val (.long (tt - ((3 : Int64) * (tt / (3 : Int64))))), .second, uu, uu] [(.long (3 : Int64)), (.long (tt - ((3 : Int64) * (tt / (3 : Int64)))))]))
        refine gq (XS.ladd X121.here hx rfl (hb hby at_152) rfl) rfl ?_
        refine gM X121 hx #[vi i0, vi i1, vi i2, vi i3, vi (3 : Int32), vr b, .val (.double (FP.dadd (FP.l2d (i0.toInt64)) (FP.ddiv (FP.l2d (((0 + ((i0.toInt64) - (i0.toInt64))) + ((i1.toInt64) - (i0.toInt64))) + ((i2.toInt64) - (i0.toInt64)))) (FP.l2d 3)))), .second, .val (.long tt), .second, .val (.long ((tt / (3 : Int64)) - (1 : Int64))), .second, .val (.long ((tt - ((3 : Int64) * (tt / (3 : Int64)))) + (3 : Int64))), .second, uu, uu] (hb hby at_153) rfl ?_
        have hn' : ((tt - ((3 : Int64) * (tt / (3 : Int64))))).toInt < 0 := by rw [Int64.lt_iff_toInt_lt] at hneg; exact hneg
        rw [e2] at hn'
        refine tail _ _ ⟨?_, ?_, ?_⟩
        · rw [sub_int (by rw [e1]; rcases td with z | z <;> omega) (by decide), add_int (by rw [e2]; rcases td with z | z <;> omega) (by decide), e1, e2, show (1 : Int64).toInt = 1 from rfl, show (3 : Int64).toInt = 3 from rfl]; omega
        · rw [add_int (by rw [e2]; rcases td with z | z <;> omega) (by decide), e2, show (3 : Int64).toInt = 3 from rfl]; rcases td with z | z <;> omega
        · rw [add_int (by rw [e2]; rcases td with z | z <;> omega) (by decide), e2, show (3 : Int64).toInt = 3 from rfl]; omega
      ·
        refine zY X121 hx 155 (hb hby at_138) ((if0 _ _).trans (flt (fun z => hneg ((lw_lt _ _).1 z) : ¬ ((lcmpW (tt - ((3 : Int64) * (tt / (3 : Int64)))) (0 : Int64)) < (0 : Int32)))).2.1) (by decide) ?_
        have hn' : ¬ ((tt - ((3 : Int64) * (tt / (3 : Int64))))).toInt < 0 := fun z => hneg (by rw [Int64.lt_iff_toInt_lt]; exact z)
        rw [e2] at hn'
        exact tail _ _ ⟨by rw [e1, e2]; omega, by rw [e2]; omega, by rw [e2]; rcases td with z | z <;> omega⟩
set_option maxRecDepth 65536 in
set_option maxHeartbeats 40000000 in
theorem comes_1 {Post : Tables → Env → Array Value → State → Outcome → State → Prop} (hpost : ∀ tb e args s v u, (limb_1_1.after args s (.returned v) u = true ∧ limb_1_2.after args s (.returned v) u = true ∧ True) → FrameEnd s (.returned v) u (Jvm.fieldLocs frame_1_writes args s ++ Jvm.arrayLocs frame_1_arrays args s ++ Jvm.staticLocs frame_1_statics s) 16 128 → Post tb e args s (.returned v) u) :
    ArmFor flags0 classFile x code maxLocals ret World_1 tables_1 room_1 Calls_1 rest_1 Pre_1 Post := by
  intro l hfl _ _ p e ha hc hk s m args below hf hA hF happ hP
  obtain ⟨hcalls, hrest, hpre⟩ := hP
  obtain ⟨-, -, -, hnamed, -, -, -, hat⟩ := (Spec.applies_iff hf).mp happ
  obtain ⟨hg, hn⟩ := and_e (Cond.before_iff.mp (show (Jvm.Cond.and given_1 narrow_1).before args s = true from hpre))
  obtain ⟨hcount, hgs⟩ := and_e hg
  obtain ⟨w0, w1, w2, w3, rfl⟩ : ∃ w0 w1 w2 w3 : Value, args = #[w0, w1, w2, w3] := by
    have hs : args.size = 4 := by simpa [Cond.value, given_1] using hcount
    obtain ⟨L⟩ := args
    match L, hs with
    | [w0, w1, w2, w3], _ => exact ⟨w0, w1, w2, w3, rfl⟩
  have hw := fun d (hd : d ∈ tables_1) => atoms_spec (ws := Jvm.Cond.code x code maxLocals ret :: tables_1) hat d (List.mem_cons_of_mem _ hd)
  have hfit : Fit s := fun {y c} hc i hi => by
    obtain ⟨ha, rfl⟩ := Array.getElem?_eq_some_iff.mp hc
    have q := List.all_eq_true.mp ((Array.all_eq_true_iff_forall_mem.mp hF) _ (Array.getElem_mem ha)) i (List.mem_range.mpr hi)
    simpa [Array.getElem?_eq_getElem hi] using q
  obtain ⟨ga0, gb0⟩ := and_e hgs
  obtain ⟨i0, ei0⟩ := is_v ga0
  obtain rfl : w0 = (.int i0) := Option.some.inj ei0
  obtain ⟨ga1, gb1⟩ := and_e gb0
  obtain ⟨i1, ei1⟩ := is_v ga1
  obtain rfl : w1 = (.int i1) := Option.some.inj ei1
  obtain ⟨ga2, gb2⟩ := and_e gb1
  obtain ⟨i2, ei2⟩ := is_v ga2
  obtain rfl : w2 = (.int i2) := Option.some.inj ei2
  obtain ⟨i3, ei3⟩ := is_v gb2
  obtain rfl : w3 = (.int i3) := Option.some.inj ei3
  obtain ⟨nn, hnn, enn⟩ := num_ex i3
  obtain ⟨n, o, h1, h2, h3, _, L, rfl, ⟨rfl, N⟩, hq⟩ := rm0 l s _ hw tables_1 i0 i1 i2 i3 nn s.heap s.heap.size (Nat.le_refl _) hnn enn p e ha hc hk s m _ below hf ((Spec.applies_iff_loose hf).mp happ).1 ⟨rfl, State.Warmed39.refl s, rfl⟩ trivial
  refine ⟨n, _, h1, h2, h3, hpost _ _ _ _ _ _ ⟨Cond.after_iff.mpr rfl, Cond.after_iff.mpr (eq_i res_at (Term.int_eval (1)) rfl), trivial⟩ ⟨hq.1, hq.2.1, (hq.2.2.sift fun y hy => Or.inr (N y hy)).mono (by decide) (by decide)⟩⟩
theorem main_1_1 : Claimed_1_1 := comes_1 fun _ _ _ _ _ _ h hF => ⟨h.1, hF⟩
theorem main_1_2 : Claimed_1_2 := comes_1 fun _ _ _ _ _ _ h hF => ⟨h.2.1, hF⟩
end Jvm.Pilot.@@N@@
namespace Jvm.Pilot.@@N@@
open Jvm Jvm.ClassFile Sem Op Lib Jvm.Free Jvm.Stand Jvm.Pilot.@@N@@.Jvm.D
/-! MADE BY PROGRAM (witnessworld.py) out of the Statement's table words and the real class files: 11 classes; the members and pool entries that the words name. The judged class is class 1, her method 1. -/
namespace start1
open Jvm.ClassFile
def u (s : String) : CpInfo := .utf8 (stringToUtf16 s)
/-- a pool by its gaps: so many unusable entries, then the entry; so many at the end -/
def gap : Nat → List CpInfo → List CpInfo
  | 0, r => r
  | n + 1, r => .unusable :: gap n r
def poolList (es : List (Nat × CpInfo)) (last : Nat) : List CpInfo := es.foldr (fun e r => gap e.1 (e.2 :: r)) (gap last [])
def pool (es : List (Nat × CpInfo)) (last : Nat) : Array CpInfo := ⟨poolList es last⟩
def fileOf (pool : Array CpInfo) (this : Nat) (attrs : Array Attribute := #[]) (ms : Array MethodInfo := #[]) (fl : Nat := 33) (sup : Nat := 0) (ifs : Array Nat := #[]) (fds : Array FieldInfo := #[]) : ClassFile where
  minorVersion := 0
  majorVersion := 65
  constantPool := pool
  accessFlags := fl
  thisClass := this
  superClass := sup
  interfaces := ifs
  fields := fds
  methods := ms
  attributes := attrs
def plain (name : String) (sup : Option ClassId) : Class where
  name := name
  kind := .ordinary
  loader := none
  accessFlags := 33
  super := sup
  interfaces := #[]
  cf := none
  fields := #[]
  methods := #[]
  instanceTypes := #[]
  staticTypes := #[]
  resolved := #[]
  callSites := []
  init := .initialized
  statics := none
  mirror := none

def pool0 : Array CpInfo := pool [(5, u "<init>"), (0, u "()V"), (1, .class_ 10), (1, u "java/lang/Object")] 113

def k0m0 : Method := { name := "<init>", desc := "()V", sig := { parameters := [], returnType := none }, accessFlags := 1, code := none }
/-- java/lang/Object -/
def k0 : Class := { plain "java/lang/Object" none with
  accessFlags := 33
  interfaces := #[]
  cf := some (fileOf pool0 8 #[] #[{ accessFlags := 1, nameIndex := 5, descriptorIndex := 6, attributes := #[] }] 33 0 #[] #[])
  fields := #[]
  methods := #[k0m0]
  instanceTypes := #[]
  staticTypes := #[]
  resolved := Array.replicate 124 none
  statics := none }

def pool1 : Array CpInfo := pool [(2, .class_ 4), (1, u "java/lang/Object"), (0, u "<init>"), (0, u "()V"), (0, .integer 2147483647), (0, .methodref 9 10), (0, .class_ 11), (0, .nameAndType 12 13), (0, u "com/example/oneiros/oneiros/Spread"), (0, u "meanOf"), (0, u "([D)D"), (0, .double 4611686018427387904), (1, .long 3), (1, .double 4599301119452119040), (1, .double 4600427019358961664), (1, .double 4603804719079489536), (1, .double 4604367669032910848), (1, .class_ 27), (0, u "com/example/oneiros/oneiros/SpreadMeanOfPinLaw"), (2, u "law"), (0, u "(IIII)Z")] 5

def k1m0 : Method := { name := "<init>", desc := "()V", sig := { parameters := [], returnType := none }, accessFlags := 1, code := none }
def k1c1 : Code := { maxStack := 6, maxLocals := 16, code := code, exceptionTable := #[], attributes := #[] }
def k1m1 : Method := { name := "law", desc := "(IIII)Z", sig := { parameters := [.int, .int, .int, .int], returnType := some .boolean }, accessFlags := 9, code := some k1c1 }
/-- com/example/oneiros/oneiros/SpreadMeanOfPinLaw -/
def k1 : Class := { plain "com/example/oneiros/oneiros/SpreadMeanOfPinLaw" (some 0) with
  accessFlags := 49
  interfaces := #[]
  cf := some (fileOf pool1 26 #[] #[{ accessFlags := 1, nameIndex := 5, descriptorIndex := 6, attributes := #[] }, { accessFlags := 9, nameIndex := 30, descriptorIndex := 31, attributes := #[] }] 49 2 #[] #[])
  fields := #[]
  methods := #[k1m0, k1m1]
  instanceTypes := #[]
  staticTypes := #[]
  resolved := Array.replicate 37 none
  statics := none }

def pool2 : Array CpInfo := pool [(2, .class_ 4), (1, u "java/lang/Object"), (0, u "<init>"), (0, u "()V"), (1, .class_ 10), (1, u "com/example/oneiros/oneiros/Spread"), (0, u "meanOf"), (0, u "([D)D"), (2, u "mean"), (0, u "D"), (6, u "deviation"), (24, u "ZERO_DEVIATION")] 15

def k2m0 : Method := { name := "<init>", desc := "()V", sig := { parameters := [], returnType := none }, accessFlags := 0, code := none }
def k2c1 : Code := { maxStack := 6, maxLocals := 10, code := prog_28_method_5_code, exceptionTable := #[], attributes := #[] }
def k2m1 : Method := { name := "meanOf", desc := "([D)D", sig := { parameters := [(.array .double)], returnType := some .double }, accessFlags := 8, code := some k2c1 }
/-- com/example/oneiros/oneiros/Spread -/
def k2 : Class := { plain "com/example/oneiros/oneiros/Spread" (some 0) with
  accessFlags := 48
  interfaces := #[]
  cf := some (fileOf pool2 8 #[] #[{ accessFlags := 0, nameIndex := 5, descriptorIndex := 6, attributes := #[] }, { accessFlags := 8, nameIndex := 11, descriptorIndex := 12, attributes := #[] }] 48 2 #[] #[{ accessFlags := 26, nameIndex := 48, descriptorIndex := 16, attributes := #[] }, { accessFlags := 2, nameIndex := 15, descriptorIndex := 16, attributes := #[] }, { accessFlags := 2, nameIndex := 23, descriptorIndex := 16, attributes := #[] }])
  fields := #[{ name := "ZERO_DEVIATION", type := .double, accessFlags := 26, slot := 0, constantValue := 0 }, { name := "mean", type := .double, accessFlags := 2, slot := 0, constantValue := 0 }, { name := "deviation", type := .double, accessFlags := 2, slot := 1, constantValue := 0 }]
  methods := #[k2m0, k2m1]
  instanceTypes := #[.double, .double]
  staticTypes := #[.double]
  resolved := Array.replicate 64 none
  statics := none }

def pool3 : Array CpInfo := pool [(1, u "java/lang/Cloneable"), (0, .class_ 1), (0, u "java/lang/Object"), (0, .class_ 3)] 3

/-- java/lang/Cloneable -/
def k3 : Class := { plain "java/lang/Cloneable" (some 0) with
  accessFlags := 1537
  interfaces := #[]
  cf := some (fileOf pool3 2 #[] #[] 1537 4 #[] #[])
  fields := #[]
  methods := #[]
  instanceTypes := #[]
  staticTypes := #[]
  resolved := Array.replicate 8 none
  statics := none }

def pool4 : Array CpInfo := pool [(1, u "java/io/Serializable"), (0, .class_ 1), (0, u "java/lang/Object"), (0, .class_ 3)] 3

/-- java/io/Serializable -/
def k4 : Class := { plain "java/io/Serializable" (some 0) with
  accessFlags := 1537
  interfaces := #[]
  cf := some (fileOf pool4 2 #[] #[] 1537 4 #[] #[])
  fields := #[]
  methods := #[]
  instanceTypes := #[]
  staticTypes := #[]
  resolved := Array.replicate 8 none
  statics := none }

/-- the primitive byte -/
def k5 : Class := { plain "byte" none with kind := .primitive 'B', accessFlags := 0x411 }
/-- [B -/
def k6 : Class := { plain "[B" (some 0) with kind := .array 5 .byte, interfaces := #[3, 4], accessFlags := 1041 }

/-- the primitive double -/
def k7 : Class := { plain "double" none with kind := .primitive 'D', accessFlags := 0x411 }
/-- [D -/
def k8 : Class := { plain "[D" (some 0) with kind := .array 7 .double, interfaces := #[3, 4], accessFlags := 1041 }

/-- the primitive int -/
def k9 : Class := { plain "int" none with kind := .primitive 'I', accessFlags := 0x411 }
/-- [I -/
def k10 : Class := { plain "[I" (some 0) with kind := .array 9 .int, interfaces := #[3, 4], accessFlags := 1041 }

def heap : Heap := #[]
def classes : Array Class := #[k0, k1, k2, k3, k4, k5, k6, k7, k8, k9, k10]
def interned : List (Array UInt16 × Addr) := []
def slotsUsed : Nat := 0
def theMethod : MethodId := ⟨1, 1⟩
def args0 : Array Value := #[.int 5, .int 7, .int 2, .int 9]
def aboutOver (below : List Frame) : State where
  vm := { classes := classes, interned := interned.toArray }
  heap := heap
  slotsUsed := slotsUsed
  threads := #[{ frames := .invoking theMethod args0 :: below }]
def below0 : List Frame := [.native { method := ⟨0, 0⟩, args := #[] }]
def about1 : State := aboutOver below0
def p0 : Program := .bare "" "" ""
def e0 : Env := launch0.env 0 0 0
theorem w_frames : about1.frames = Frame.invoking theMethod args0 :: below0 := rfl
set_option maxRecDepth 65536 in
theorem w_args : argsFit about1.vm theMethod args0 = true := by decide +kernel
set_option maxRecDepth 65536 in
theorem w_heap : heapFits about1 = true := by decide +kernel
set_option maxRecDepth 65536 in
theorem w_runnable : about1.curStatus? = some .runnable := by decide +kernel
set_option maxRecDepth 65536 in
theorem w_alone : about1.alone = true := by decide +kernel
set_option maxRecDepth 65536 in
theorem w_named : about1.methodNamed? x = some theMethod := by decide +kernel
set_option maxRecDepth 65536 in
theorem w_hears : about1.hears theMethod below0 = true := by decide +kernel
set_option maxRecDepth 65536 in
theorem w_ripe : about1.ripe theMethod args0 below0 = true := by decide +kernel
theorem w_running : about1.status = .running := rfl
set_option maxRecDepth 65536 in
theorem w_room : about1.hasRoom e0.platform room_1 = true :=
  launch0.hasRoom_least _ room_1 (by decide +kernel) (by decide +kernel) (by decide +kernel) (by decide +kernel) (by decide +kernel) (by decide +kernel)
theorem allAtoms_all (ts : List Jvm.Cond) (a : Array Jvm.Value) (st : Jvm.State) : (allAtoms ts).before a st = ts.all (fun c => c.before a st) := by
  induction ts with
  | nil => rfl
  | cons c t ih =>
    show (Jvm.Cond.and c (allAtoms t)).before a st = _
    rw [Jvm.Cond.before_and, ih, List.all_cons]
def words1 : List Jvm.Cond := Jvm.Cond.code x code maxLocals ret :: tables_1
/-- a 'code' word, met by the world's own term for the bytes: nothing is compared byte by byte -/
theorem code_word {y : MethodName} {bytes : ByteArray} {mx : Nat} {rt : Option FieldType} {a : Array Value} {s : State} {m : MethodId} {meth : Method} {c : Code} (h1 : s.methodNamed? y = some m) (h2 : s.vm.method? m = some meth) (h3 : meth.code = some c) (h4 : c.code = bytes)
    (h5 : (c.maxLocals == mx && c.exceptionTable.isEmpty && decide (c.maxStack ≤ mostOperands) && decide (meth.sig.returnType = rt) && !meth.locks && decide (parseMethodDescriptor y.desc = some meth.sig)) = true) : (Jvm.Cond.code y bytes mx rt).before a s = true := by
  simp only [Bool.and_eq_true, beq_iff_eq, Bool.not_eq_true', decide_eq_true_eq] at h5
  obtain ⟨⟨⟨⟨⟨g1, g2⟩, g3⟩, g4⟩, g5⟩, g6⟩ := h5
  simp [Cond.before, Cond.holds, Cond.value, h1, h2, h3, h4, g1, g2, g3, g4, g5, g6]
def isCode : Jvm.Cond → Bool
  | .code _ _ _ _ => true
  | _ => false
theorem all_split {L : List Jvm.Cond} {P : Jvm.Cond → Bool} (h1 : L.all (fun c => isCode c || P c) = true) (h2 : ∀ c ∈ L.filter isCode, P c = true) : L.all P = true := by
  refine List.all_eq_true.mpr fun c hc => ?_
  have h := List.all_eq_true.mp h1 c hc
  rcases Bool.eq_false_or_eq_true (isCode c) with hi | hi
  · exact h2 c (List.mem_filter.mpr ⟨hc, hi⟩)
  · simpa [hi] using h
set_option maxRecDepth 65536 in
theorem w_c0 : (Jvm.Cond.code x code maxLocals ret).before args0 about1 = true := code_word (m := ⟨1, 1⟩) (meth := k1m1) (c := k1c1) (by decide +kernel) rfl rfl rfl (by decide +kernel)
set_option maxRecDepth 65536 in
theorem w_c1 : (Jvm.Cond.code ({ cls := "com/example/oneiros/oneiros/Spread", name := "meanOf", desc := "([D)D" } : Jvm.MethodName) prog_28_method_5_code (10 : Nat) (Option.some Jvm.ClassFile.FieldType.double)).before args0 about1 = true := code_word (m := ⟨2, 1⟩) (meth := k2m1) (c := k2c1) (by decide +kernel) rfl rfl rfl (by decide +kernel)
def codes1 : List Jvm.Cond := [Jvm.Cond.code x code maxLocals ret, Jvm.Cond.code ({ cls := "com/example/oneiros/oneiros/Spread", name := "meanOf", desc := "([D)D" } : Jvm.MethodName) prog_28_method_5_code (10 : Nat) (Option.some Jvm.ClassFile.FieldType.double)]
set_option maxRecDepth 65536 in
theorem codes_eq : words1.filter isCode = codes1 := rfl
theorem w_codes : ∀ c ∈ words1.filter isCode, c.before args0 about1 = true := by
  rw [codes_eq]
  intro c hc
  simp only [codes1, List.mem_cons, List.not_mem_nil, or_false] at hc
  rcases hc with rfl | rfl
  · exact w_c0
  · exact w_c1
set_option maxRecDepth 65536 in
theorem w_t1 : words1.all (fun c => isCode c || c.before args0 about1) = true := by decide +kernel
theorem w_tables : (allAtoms (Jvm.Cond.code x code maxLocals ret :: tables_1)).before args0 about1 = true := by
  rw [allAtoms_all]
  show words1.all (fun c => c.before args0 about1) = true
  refine all_split ?_ w_codes
  rw [w_t1]
set_option maxRecDepth 65536 in
theorem w_case : (Jvm.Cond.and given_1 narrow_1).before args0 about1 = true := by decide +kernel
theorem w_applies : (headSpec (Jvm.Cond.code x code maxLocals ret :: tables_1) room_1).applies x e0.platform about1 = true :=
  (Spec.applies_iff w_frames).mpr ⟨w_running, w_runnable, w_alone, w_named, w_hears, w_ripe, w_room, w_tables⟩
theorem atStart : AtStart classFile x code maxLocals ret World_1 tables_1 room_1 Calls_1 rest_1 Pre_1 launch0 p0 e0 about1 theMethod args0 below0 :=
  ⟨lists_1, trivial, launch0.admits_env _ _ _, launch0.least_env, fairChoices_fair.cas, fairChoices_fair.clock, w_frames, w_args, w_heap, w_applies, trivial, trivial, w_case⟩
end start1
theorem witness_1 : WitnessClaimed_1 := ⟨start1.p0, start1.e0, start1.about1, start1.theMethod, start1.args0, start1.below0, start1.atStart⟩
end Jvm.Pilot.@@N@@
