import JvmDerived
import JvmDerived.Pilot.@@N@@Statement
import JvmDerived.Pilot.@@N@@Code
set_option linter.unusedVariables false
set_option linter.unusedSimpArgs false

namespace Jvm.Pilot.@@N@@
open Jvm Jvm.ClassFile Sem Op Lib Jvm.Free Jvm.Stand Jvm.LawKit Jvm.RoadKit Bundle Jvm.Pilot.@@N@@.Jvm.D
abbrev vi (x : Int32) : Slot := .val (.int x)
abbrev vr (a : Addr) : Slot := .val (.ref a)
abbrev uu : Slot := .unset
/-- the goal of a walk: from S the run ends, and G holds there -/
def Go (p : Program) (e : Env) (below : List Frame) (G : State → Outcome → Prop) (S : State) : Prop :=
  ∃ s₂ o, Steps p.tables e below S s₂ ∧ s₂.status = .running ∧ Ended s₂ below o ∧ G s₂ o
theorem Go.by {p : Program} {e : Env} {below : List Frame} {G : State → Outcome → Prop} {S S' : State} (h : ∀ t, Steps p.tables e below S' t → Steps p.tables e below S t) (k : Go p e below G S') : Go p e below G S := by
  obtain ⟨s₂, o, h1, h2⟩ := k
  exact ⟨s₂, o, h _ h1, h2⟩
/-- a contract: the body called with A at the heap h0 returns, Q holds then -/
abbrev CT (l : Launch) (x : MethodName) (code : ByteArray) (ml : Nat) (ret : Option FieldType) (ws : List Cond) (R : Room) (A : Array Value) (Z : State) (h0 : Heap) (Q : Option Value → Heap → List Loc → Prop) : Prop :=
  MetFree l x (head1 (Cond.code x code ml ret :: ws) R) (fun a U => a = A ∧ Z.Warmed39 U.vm ∧ U.heap = h0) (fun _ _ _ _ _ => True) (fun _ U o U' => ∃ v L, o = .returned v ∧ Q v U'.heap L ∧ FrameEnd U o U' L R.cells R.slots)
/-- what a body's end says -/
def End (Q : Option Value → Heap → List Loc → Prop) (s : State) (cells slots : Nat) (s₂ : State) (o : Outcome) : Prop := ∃ v L, o = .returned v ∧ Q v s₂.heap L ∧ FrameEnd s o s₂ L cells slots
section
variable {p : Program} {l : Launch} {e : Env} {R : Room} {s : State} {m : MethodId} {args : Array Value} {below : List Frame} {meth : Method} {c : Code} {T : State} {locs : List Loc} {cells slots C S : Nat} {Q : Option Value → Heap → List Loc → Prop}
theorem Go.ret1 (X : Stand p l e R s m args below meth c T locs cells slots) (hx : p.tables.exec = Jvm.exec) {pc : Nat} {Ls : Array Slot} {w : Value} {t : FieldType} {i : Instr} {rest : List Value} (hret : meth.sig.returnType = some t) (hlk : meth.locks = false) (hn : narrow t w = w)
    (hi : (i = .ireturn ∧ (t = .int ∨ t = .boolean ∨ t = .byte ∨ t = .char ∨ t = .short) ∧ ∃ z, w = .int z) ∨ (i = .lreturn ∧ t = .long ∧ ∃ z, w = .long z) ∨ (i = .dreturn ∧ t = .double ∧ ∃ z, w = .double z) ∨ (i = .freturn ∧ t = .float ∧ ∃ z, w = .float z) ∨ (i = .areturn ∧ t.isReference = true ∧ w.isRef = true))
    (hd : decode c.code pc = .ok (i, 1)) (hc : cells ≤ C) (hs : slots ≤ S) (hQ : Q (some w) T.heap locs) : Go p e below (End Q s C S) (T.setTop (mkF m pc Ls (w :: rest))) := by
  obtain ⟨fs, hr, hrun, hended, hW, hsame⟩ := X.leave (v := some w) (fun h => by rw [hret] at h; cases h) hlk
  exact ⟨_, _, retOut X hx hret hn hi hd hr, hrun, hended, _, _, rfl, hQ, ⟨_, rfl⟩, hW, hsame.mono hc hs⟩
theorem Go.ret0 (X : Stand p l e R s m args below meth c T locs cells slots) (hx : p.tables.exec = Jvm.exec) {pc : Nat} {Ls : Array Slot} (hret : meth.sig.returnType = none) (hlk : meth.locks = false)
    (hd : decode c.code pc = .ok (.return_, 1)) (hc : cells ≤ C) (hs : slots ≤ S) (hQ : Q none T.heap locs) : Go p e below (End Q s C S) (T.setTop (mkF m pc Ls [])) := by
  obtain ⟨fs, hr, hrun, hended, hW, hsame⟩ := X.leave (v := none) (fun _ => rfl) hlk
  exact ⟨_, _, X.returnOut hx hret hd hr, hrun, hended, _, _, rfl, hQ, ⟨_, rfl⟩, hW, hsame.mono hc hs⟩
theorem Go.start {cn nm ds : String} {ws : List Cond} {code : ByteArray} {ml : Nat} {ret : Option FieldType} {A : Array Value} {Z : State} {h0 : Heap} (pf : plainFor ⟨cn, nm, ds⟩ = true) (Ls : Array Slot) (n0 : Nat) (hL : argsToLocals A ml = Ls)
    (body : ∀ p e s m below meth c s₁, BodyLoose p l ⟨cn, nm, ds⟩ (head1 (Cond.code ⟨cn, nm, ds⟩ code ml ret :: ws) R) code ml ret e s m A below meth c s₁ → p.tables.exec = Jvm.exec → c.code = code → c.maxLocals = ml → Z.Warmed39 s.vm → s.vm.findClass cn = some m.cls → Stand p l e R s m A below meth c s₁ [] 0 0 → s₁.heap = h0 → Fr n0 [] → Go p e below (End Q s R.cells R.slots) (s₁.setTop (mkF m 0 Ls []))) :
    CT l ⟨cn, nm, ds⟩ code ml ret ws R A Z h0 Q := by
  refine MetFree.of_bodySF pf hisR ?_
  intro p e s m args below meth c s₁ Bd hml hP hK
  obtain ⟨rfl, hZ, hh⟩ := hP
  subst hL
  exact body p e s m below meth c s₁ Bd Bd.exec Bd.bytes hml hZ (findClass_of_methodNamed Bd.named) (Stand.of_body Bd) (by rw [← hh, Bd.state]; rfl) (Fr.nil n0)
theorem Stand.num (X : Stand p l e R s m args below meth c T locs cells slots) (hc : cells = C) (hs : slots = S) : Stand p l e R s m args below meth c T locs C S := by subst hc hs; exact X
theorem Stand.more (X : Stand p l e R s m args below meth c T locs cells slots) (hc : cells ≤ C) (hs : slots ≤ S) : Stand p l e R s m args below meth c T locs C S :=
  { X with same := X.same.mono hc hs }
theorem arv_neT {Z : State} {h : Heap} {a b : Addr} {k1 k2 : ClassId} {t1 t2 : FieldType} {z1 z2 : Int32} {v1 v2 : List Value} {d1 d2 : Value} (A : Arv Z h a k1 t1 z1 v1 d1) (B : Arv Z h b k2 t2 z2 v2 d2) (hne : t1 ≠ t2) : a ≠ b := fun e => by
  subst e
  obtain ⟨c1, ⟨p1, ⟨-, q1, r1, u1, w1⟩, -⟩, -⟩ := A
  obtain ⟨c2, ⟨p2, ⟨-, q2, r2, u2, w2⟩, -⟩, -⟩ := B
  cases p1.symm.trans p2
  cases r1.symm.trans r2
  have := w1.symm.trans w2
  injection this with _ e
  exact hne e
theorem selSelf {s : State} {a1 : Array Value} {y : MethodName} {K : String} (hsel : (Cond.selects K y y).before a1 s = true) (hpriv : s.PrivateAt y) (hinst : (Cond.instanceMethod y).before a1 s = true) (hy : y.cls ≠ "java/lang/invoke/MethodHandle" ∧ y.cls ≠ "java/lang/invoke/VarHandle") : (Cond.selects y.cls y y).before a1 s = true := by
  obtain ⟨c2, r2, m2, -, -, q3, -, kP, hkP, hkPi⟩ := Cond.selects_spec hsel
  exact selects_self_of_private (findClass_of_methodNamed q3) hkP hkPi hpriv hinst hy
theorem faceOf {s : State} {a1 : Array Value} {y z z' : MethodName} {K : String} (hsel : (Cond.selects K z z').before a1 s = true) (hz : z'.cls = y.cls) : NotFace s y := fun r0 h0 => by
  obtain ⟨c2, r2, m2, -, -, q3, -, kP, hkP, hkPi⟩ := Cond.selects_spec hsel
  have h1 := findClass_of_methodNamed h0
  have h2 := findClass_of_methodNamed q3
  rw [hz] at h2
  have e : r0.cls = m2.cls := Option.some.inj (h1.symm.trans h2)
  exact ⟨kP, by rw [e]; exact hkP, hkPi⟩
theorem sameSelf {s : State} {a1 : Array Value} {y z z' : MethodName} {K : String} (hinst : (Cond.instanceMethod y).before a1 s = true) (hsel : (Cond.selects K z z').before a1 s = true) (hz : z'.cls = y.cls) (hy : y.cls ≠ "java/lang/invoke/MethodHandle" ∧ y.cls ≠ "java/lang/invoke/VarHandle") : (Cond.sameMethod y.cls y.cls y.name y.desc).before a1 s = true := by
  obtain ⟨mk, methM, hnamed, hmethM, -, -⟩ := Cond.instanceMethod_spec hinst
  have hfound : s.methodFound? y.cls y.name y.desc = some mk := State.methodFound?_of_named hnamed hy
  obtain ⟨c2, r2, m2, -, -, q3, -, kP, hkP, hkPi⟩ := Cond.selects_spec hsel
  have hc := findClass_of_methodNamed q3
  rw [hz] at hc
  have hn : s.methodNamed? { cls := y.cls, name := y.name, desc := y.desc } = some mk := hnamed
  simp only [Cond.before, Cond.holds, Cond.value, hfound, hn, hc, hkP]
  simp [hkPi]
def DecAll (c : ByteArray) (l : List (Nat × Instr × Nat)) : Prop := ∀ x ∈ l, decode c x.1 = .ok (x.2.1, x.2.2)
theorem dB {c : Code} {b : ByteArray} (h : c.code = b) {l : List (Nat × Instr × Nat)} (H : DecAll b l) (i : Nat) {pc : Nat} {j : Instr} {k : Nat} (hi : l[i]? = some (pc, j, k)) : decode c.code pc = .ok (j, k) := by
  rw [h]; exact H (pc, j, k) (List.mem_of_getElem? hi)
theorem wd {a0 : Array Value} {Z : State} (hw : ∀ d ∈ tables_1, d.before a0 Z = true) (i : Nat) {d : Cond} (h : tables_1[i]? = some d) : d.before a0 Z = true := hw _ (List.mem_of_getElem? h)
abbrev HW (a0 : Array Value) (Z : State) : Prop := ∀ d ∈ tables_1, d.before a0 Z = true
theorem cat_ref {r : Value} (h : r.isRef = true) : r.category = 1 := by rcases ref_cases h with rfl | ⟨_, rfl⟩ <;> rfl
theorem fit_ref {C : String} {r : Value} (h : r.isRef = true) : fits (.object C) r = true := by rcases ref_cases h with rfl | ⟨_, rfl⟩ <;> rfl
theorem nar_ref {t : FieldType} {r : Value} (h : r.isRef = true) : narrow t r = r := by cases r <;> cases t <;> simp_all [Value.isRef, narrow]
end
section
variable {p : Program} {l : Launch} {e : Env} {R : Room} {s Z T : State} {m : MethodId} {args a0 : Array Value} {below : List Frame} {meth : Method} {c : Code} {locs : List Loc} {cells slots pc q C S : Nat} {G : State → Outcome → Prop} {Ls L' : Array Slot} {st st' rest argsL : List Value} {h : Heap} {v w : Value} {x y z : Int32} {a b : Addr} {own : String} {index : Nat} {t : FieldType} {n : Int32} {vs : List Value} {dv : Value} {kk : ClassId} {ret : Option FieldType} {maxL ml W : Nat} {bytes : ByteArray} {rm : Room} {Q : Option Value → Heap → List Loc → Prop} {ps : List FieldType} {rt : Option FieldType} {yy zz : MethodName} {j : Int32} {i : Nat} {i₀ o : Int} {cd : ClassFile.Cond} {k : Fin 4} {k₀ : Nat} {C0 : String}
theorem gi (X : Stand p l e R s m args below meth c T locs cells slots) (hx : p.tables.exec = Jvm.exec) (hd : decode c.code pc = .ok (.iload_n k, 1)) (hl : Ls[k.val]? = some (.val (.int x))) (K : Go p e below G (T.setTop (mkF m (pc + 1) Ls (.int x :: st)))) : Go p e below G (T.setTop (mkF m pc Ls st)) := Go.by (fun _ => XS.iloadN X.here hx rfl hd hl) K
theorem gI (X : Stand p l e R s m args below meth c T locs cells slots) (hx : p.tables.exec = Jvm.exec) (hd : decode c.code pc = .ok (.iload k₀, 2)) (hl : Ls[k₀]? = some (.val (.int x))) (K : Go p e below G (T.setTop (mkF m (pc + 2) Ls (.int x :: st)))) : Go p e below G (T.setTop (mkF m pc Ls st)) := Go.by (fun _ => XS.iload X.here hx rfl hd hl) K
theorem ga (X : Stand p l e R s m args below meth c T locs cells slots) (hx : p.tables.exec = Jvm.exec) (hd : decode c.code pc = .ok (.aload_n k, 1)) (hl : Ls[k.val]? = some (.val v)) (hv : v.isRef = true) (K : Go p e below G (T.setTop (mkF m (pc + 1) Ls (v :: st)))) : Go p e below G (T.setTop (mkF m pc Ls st)) := Go.by (fun _ => XS.aloadN X.here hx rfl hd hl hv) K
theorem gA (X : Stand p l e R s m args below meth c T locs cells slots) (hx : p.tables.exec = Jvm.exec) (hd : decode c.code pc = .ok (.aload k₀, 2)) (hl : Ls[k₀]? = some (.val v)) (hv : v.isRef = true) (K : Go p e below G (T.setTop (mkF m (pc + 2) Ls (v :: st)))) : Go p e below G (T.setTop (mkF m pc Ls st)) := Go.by (fun _ => XS.aload X.here hx rfl hd hl hv) K
theorem gk (X : Stand p l e R s m args below meth c T locs cells slots) (hx : p.tables.exec = Jvm.exec) (x : Int32) (hd : decode c.code pc = .ok (.iconst i₀, 1)) (hv : Int32.ofInt i₀ = x) (K : Go p e below G (T.setTop (mkF m (pc + 1) Ls (.int x :: st)))) : Go p e below G (T.setTop (mkF m pc Ls st)) := by subst hv; exact Go.by (fun _ => XS.iconst X.here hx rfl hd) K
theorem gs (X : Stand p l e R s m args below meth c T locs cells slots) (hx : p.tables.exec = Jvm.exec) (x : Int32) (hd : decode c.code pc = .ok (.sipush i₀, 3)) (hv : (Int16.ofInt i₀).toInt32 = x) (K : Go p e below G (T.setTop (mkF m (pc + 3) Ls (.int x :: st)))) : Go p e below G (T.setTop (mkF m pc Ls st)) := by subst hv; exact Go.by (fun _ => XS.sipush X.here hx rfl hd) K
theorem gb (X : Stand p l e R s m args below meth c T locs cells slots) (hx : p.tables.exec = Jvm.exec) (x : Int32) (hd : decode c.code pc = .ok (.bipush i₀, 2)) (hv : (Int8.ofInt i₀).toInt32 = x) (K : Go p e below G (T.setTop (mkF m (pc + 2) Ls (.int x :: st)))) : Go p e below G (T.setTop (mkF m pc Ls st)) := by subst hv; exact Go.by (fun _ => XS.bipush X.here hx rfl hd) K
theorem gt (X : Stand p l e R s m args below meth c T locs cells slots) (hx : p.tables.exec = Jvm.exec) (L' : Array Slot) (hd : decode c.code pc = .ok (.istore_n k, 1)) (hl : storeLocals Ls k.val (.int x) = some L') (K : Go p e below G (T.setTop (mkF m (pc + 1) L' st))) : Go p e below G (T.setTop (mkF m pc Ls (.int x :: st))) := Go.by (fun _ => XS.istoreN X.here hx rfl hd rfl hl) K
theorem gT (X : Stand p l e R s m args below meth c T locs cells slots) (hx : p.tables.exec = Jvm.exec) (L' : Array Slot) (hd : decode c.code pc = .ok (.istore k₀, 2)) (hl : storeLocals Ls k₀ (.int x) = some L') (K : Go p e below G (T.setTop (mkF m (pc + 2) L' st))) : Go p e below G (T.setTop (mkF m pc Ls (.int x :: st))) := Go.by (fun _ => XS.istore X.here hx rfl hd rfl hl) K
theorem gu (X : Stand p l e R s m args below meth c T locs cells slots) (hx : p.tables.exec = Jvm.exec) (L' : Array Slot) (hd : decode c.code pc = .ok (.astore_n k, 1)) (hv : v.isRef = true) (hl : storeLocals Ls k.val (v) = some L') (K : Go p e below G (T.setTop (mkF m (pc + 1) L' st))) : Go p e below G (T.setTop (mkF m pc Ls (v :: st))) := Go.by (fun _ => XS.astoreN X.here hx rfl hd rfl hv hl) K
theorem gU (X : Stand p l e R s m args below meth c T locs cells slots) (hx : p.tables.exec = Jvm.exec) (L' : Array Slot) (hd : decode c.code pc = .ok (.astore k₀, 2)) (hv : v.isRef = true) (hl : storeLocals Ls k₀ (v) = some L') (K : Go p e below G (T.setTop (mkF m (pc + 2) L' st))) : Go p e below G (T.setTop (mkF m pc Ls (v :: st))) := Go.by (fun _ => XS.astore X.here hx rfl hd rfl hv hl) K
theorem gn (X : Stand p l e R s m args below meth c T locs cells slots) (hx : p.tables.exec = Jvm.exec) (L' : Array Slot) (hd : decode c.code pc = .ok (.iinc k₀ i₀, 3)) (hl : Ls[k₀]? = some (.val (.int x))) (hl' : storeLocals Ls k₀ (.int (x + Int32.ofInt i₀)) = some L') (K : Go p e below G (T.setTop (mkF m (pc + 3) L' st))) : Go p e below G (T.setTop (mkF m pc Ls st)) := Go.by (fun _ => XS.iinc X.here hx rfl hd hl hl') K
theorem gg (X : Stand p l e R s m args below meth c T locs cells slots) (hx : p.tables.exec = Jvm.exec) (q : Nat) (hd : decode c.code pc = .ok (.goto i₀, 3)) (ho : (pc : Int) + i₀ = (q : Int)) (K : Go p e below G (T.setTop (mkF m q Ls st))) : Go p e below G (T.setTop (mkF m pc Ls st)) := Go.by (fun _ => XS.goto X.here hx rfl (pc0 := pc) rfl hd (by omega) (by omega)) K
theorem zY (X : Stand p l e R s m args below meth c T locs cells slots) (hx : p.tables.exec = Jvm.exec) (q : Nat) (hd : decode c.code pc = .ok (.ifCond cd i₀, 3)) (hc : ifCond.holds cd x = true) (ho : (pc : Int) + i₀ = (q : Int)) (K : Go p e below G (T.setTop (mkF m q Ls st))) : Go p e below G (T.setTop (mkF m pc Ls (.int x :: st))) := Go.by (fun _ => XS.ifYes X.here hx rfl (pc0 := pc) rfl hd rfl hc (by omega) (by omega)) K
theorem zN (X : Stand p l e R s m args below meth c T locs cells slots) (hx : p.tables.exec = Jvm.exec) (hd : decode c.code pc = .ok (.ifCond cd i₀, 3)) (hc : ifCond.holds cd x = false) (K : Go p e below G (T.setTop (mkF m (pc + 3) Ls st))) : Go p e below G (T.setTop (mkF m pc Ls (.int x :: st))) := Go.by (fun _ => XS.ifNo X.here hx rfl hd rfl hc) K
theorem cY (X : Stand p l e R s m args below meth c T locs cells slots) (hx : p.tables.exec = Jvm.exec) (q : Nat) (hd : decode c.code pc = .ok (.if_icmp cd i₀, 3)) (hc : if_icmp.holds cd x y = true) (ho : (pc : Int) + i₀ = (q : Int)) (K : Go p e below G (T.setTop (mkF m q Ls st))) : Go p e below G (T.setTop (mkF m pc Ls (.int y :: .int x :: st))) := Go.by (fun _ => XS.icmpYes X.here hx rfl (pc0 := pc) rfl hd rfl hc (by omega) (by omega)) K
theorem cN (X : Stand p l e R s m args below meth c T locs cells slots) (hx : p.tables.exec = Jvm.exec) (hd : decode c.code pc = .ok (.if_icmp cd i₀, 3)) (hc : if_icmp.holds cd x y = false) (K : Go p e below G (T.setTop (mkF m (pc + 3) Ls st))) : Go p e below G (T.setTop (mkF m pc Ls (.int y :: .int x :: st))) := Go.by (fun _ => XS.icmpNo X.here hx rfl hd rfl hc) K
theorem gq {S' : State} (hh : ∀ {u}, Steps p.tables e below S' u → Steps p.tables e below (T.setTop (mkF m pc Ls st)) u) (eS : S' = T.setTop (mkF m (pc + 1) Ls st')) (K : Go p e below G (T.setTop (mkF m (pc + 1) Ls st'))) : Go p e below G (T.setTop (mkF m pc Ls st)) := Go.by (fun _ => hh) (eS ▸ K)
theorem gF (X : Stand p l e R s m args below meth c T locs cells slots) (hx : p.tables.exec = Jvm.exec) (hZ : Z.Warmed39 s.vm) (hown : s.vm.findClass own = some m.cls) {R0 O nm d : String} (w1 : (Cond.fieldLink own index R0 nm d).before a0 Z = true) (via : Via Z R0 O nm d) (eT : T.heap = h) (F : Fld Z h a O nm d v) (hd : decode c.code pc = .ok (.getfield index, 3)) (K : ∀ T', Stand p l e R s m args below meth c T' locs cells slots → T'.heap = h → Go p e below G (T'.setTop (mkF m (pc + 3) Ls (v :: st)))) : Go p e below G (T.setTop (mkF m pc Ls (.ref a :: st))) := by
  obtain ⟨T', X', e', k⟩ := getF X hx hZ hown (host := "") (Or.inl w1) via eT F (g := mkF m pc Ls (.ref a :: st)) rfl rfl hd
  exact Go.by k (K T' X' e')
theorem gS (X : Stand p l e R s m args below meth c T locs cells slots) (hx : p.tables.exec = Jvm.exec) (hZ : Z.Warmed39 s.vm) (hown : s.vm.findClass own = some m.cls) {O nm d : String} (w1 : (Cond.fieldLink own index O nm d).before a0 Z = true) (eT : T.heap = h) (F : Sta Z h O nm d v) (hd : decode c.code pc = .ok (.getstatic index, 3)) (K : ∀ T', Stand p l e R s m args below meth c T' locs cells slots → T'.heap = h → Go p e below G (T'.setTop (mkF m (pc + 3) Ls (v :: st)))) : Go p e below G (T.setTop (mkF m pc Ls st)) := by
  obtain ⟨T', X', e', k⟩ := getS2 X hx hZ hown (host := "") (Or.inl w1) Via.refl eT F (g := mkF m pc Ls st) rfl hd
  exact Go.by k (K T' X' e')
theorem gB (X : Stand p l e R s m args below meth c T locs cells slots) (hx : p.tables.exec = Jvm.exec) (hZ : Z.Warmed39 s.vm) (eT : T.heap = h) (V : Arv Z h a kk .byte n vs dv) (inb : ¬ j < 0 ∧ j < n) (v : Value) (hat : vs.getD j.toNatClampNeg dv = v) (hd : decode c.code pc = .ok (.baload, 1)) (K : Go p e below G (T.setTop (mkF m (pc + 1) Ls (v :: st)))) : Go p e below G (T.setTop (mkF m pc Ls (.int j :: .ref a :: st))) := by
  obtain ⟨cl, A, q', S', M, H, G'⟩ := id V
  have in' := inb_of S' inb
  subst eT
  exact Go.by (fun t => X.baloadBytes hx (j := j) (v := v) A.1 (State.isArrayOf_alike hZ.alike A.2.1) A.2.2 in' (H.at in' hat) (g := mkF m pc Ls (.int j :: .ref a :: st)) rfl rfl hd t) K
theorem gC (X : Stand p l e R s m args below meth c T locs cells slots) (hx : p.tables.exec = Jvm.exec) (hZ : Z.Warmed39 s.vm) (eT : T.heap = h) (V : Arv Z h a kk .char n vs dv) (inb : ¬ j < 0 ∧ j < n) (v : Value) (hat : vs.getD j.toNatClampNeg dv = v) (hd : decode c.code pc = .ok (.caload, 1)) (K : Go p e below G (T.setTop (mkF m (pc + 1) Ls (v :: st)))) : Go p e below G (T.setTop (mkF m pc Ls (.int j :: .ref a :: st))) := by
  obtain ⟨cl, A, q', S', M, H, G'⟩ := id V
  have in' := inb_of S' inb
  subst eT
  exact Go.by (fun t => X.caload hx (j := j) (v := v) A.1 (State.isArrayOf_alike hZ.alike A.2.1) A.2.2 in' (H.at in' hat) (g := mkF m pc Ls (.int j :: .ref a :: st)) rfl rfl hd t) K
theorem gN (X : Stand p l e R s m args below meth c T locs cells slots) (hx : p.tables.exec = Jvm.exec) (hZ : Z.Warmed39 s.vm) (eT : T.heap = h) (V : Arv Z h a kk t n vs dv) (hd : decode c.code pc = .ok (.arraylength, 1)) (K : Go p e below G (T.setTop (mkF m (pc + 1) Ls (.int n :: st)))) : Go p e below G (T.setTop (mkF m pc Ls (.ref a :: st))) := by
  obtain ⟨cl, A, q', S', M, H, G'⟩ := id V
  subst eT
  refine Go.by (fun t' => X.arraylength hx A.1 (State.isArrayOf_alike hZ.alike A.2.1) (g := mkF m pc Ls (.ref a :: st)) rfl rfl hd t') ?_
  rw [len_of S' M]
  exact K
theorem sC (X : Stand p l e R s m args below meth c T locs cells slots) (hx : p.tables.exec = Jvm.exec) (hZ : Z.Warmed39 s.vm) (eT : T.heap = h) (V : Arv Z h a kk .char n vs dv) (inb : ¬ j < 0 ∧ j < n) (i : Nat) (hi : j.toNatClampNeg = i) (hl : i < vs.length) (y : Int32) (hv : nar .char x = y) (hd : decode c.code pc = .ok (.castore, 1)) (K : ∀ T' h', Stand p l e R s m args below meth c T' (locs ++ [⟨a, j.toNatClampNeg⟩]) cells slots → T'.heap = h' → Wr h h' a j.toNatClampNeg (.int y) → Arv Z h' a kk .char n (vs.set i (.int y)) dv → Go p e below G (T'.setTop (mkF m (pc + 1) Ls st))) : Go p e below G (T.setTop (mkF m pc Ls (.int x :: .int j :: .ref a :: st))) := by
  subst hv
  obtain ⟨cl, A, q', S', M, H, G'⟩ := id V
  obtain ⟨T', h', X', e', W, k⟩ := stC X hx hZ eT A (j := j) (inb_of S' inb) (g := mkF m pc Ls (.int x :: .int j :: .ref a :: st)) rfl rfl hd
  have V' := Arv.set A q' S' M H G' (fits_nar_char _) W i hi hl
  exact Go.by k (K T' h' X' e' W V')
theorem sB (X : Stand p l e R s m args below meth c T locs cells slots) (hx : p.tables.exec = Jvm.exec) (hZ : Z.Warmed39 s.vm) (eT : T.heap = h) (V : Arv Z h a kk .byte n vs dv) (inb : ¬ j < 0 ∧ j < n) (i : Nat) (hi : j.toNatClampNeg = i) (hl : i < vs.length) (y : Int32) (hv : nar .byte x = y) (hd : decode c.code pc = .ok (.bastore, 1)) (K : ∀ T' h', Stand p l e R s m args below meth c T' (locs ++ [⟨a, j.toNatClampNeg⟩]) cells slots → T'.heap = h' → Wr h h' a j.toNatClampNeg (.int y) → Arv Z h' a kk .byte n (vs.set i (.int y)) dv → Go p e below G (T'.setTop (mkF m (pc + 1) Ls st))) : Go p e below G (T.setTop (mkF m pc Ls (.int x :: .int j :: .ref a :: st))) := by
  subst hv
  obtain ⟨cl, A, q', S', M, H, G'⟩ := id V
  obtain ⟨T', h', X', e', W, k⟩ := stB X hx hZ eT A (j := j) (inb_of S' inb) (g := mkF m pc Ls (.int x :: .int j :: .ref a :: st)) rfl rfl hd
  have V' := Arv.set A q' S' M H G' (fits_nar_byte _) W i hi hl
  exact Go.by k (K T' h' X' e' W V')
theorem kS (X : Stand p l e R s m args below meth c T locs cells slots) (hx : p.tables.exec = Jvm.exec) (hZ : Z.Warmed39 s.vm) (hown : s.vm.findClass own = some m.cls) (w1 : (Cond.methodLink own index yy).before a0 Z = true) (w2 : (Cond.static yy).before a0 Z = true) (w3 : (Cond.initialized yy.cls).before a0 Z = true) (w4 : (Cond.code yy bytes maxL ret).before a0 Z = true) (M : CT l yy bytes maxL ret [] rm argsL.toArray Z h Q) (pd : parseMethodDescriptor yy.desc = some ⟨ps, rt⟩) (hd : decode c.code pc = .ok (.invokestatic index, 3)) (eT : T.heap = h) (hml : c.maxLocals = ml) (hs : st = argsL.reverse ++ rest ∧ Ls.size = ml ∧ argsL.length = ps.length ∧ (rest.map fun v => v.category).sum = W) (hr : rm.frames + 1 ≤ R.frames ∧ W + (maxL + 11) + rm.locals ≤ R.locals ∧ (cells + rm.cells = C ∧ C ≤ R.cells) ∧ (slots + rm.slots = S ∧ S ≤ R.slots) ∧ (yy.cls ≠ "java/lang/invoke/MethodHandle" ∧ yy.cls ≠ "java/lang/invoke/VarHandle")) (K : ∀ v T' L' Lc, Stand p l e R s m args below meth c T' L' C S → Q v T'.heap Lc → (∀ {n0}, Fr n0 locs → Fr n0 Lc → Fr n0 L') → Go p e below G (T'.setTop (mkF m (pc + 3) Ls (v.toList ++ rest)))) : Go p e below G (T.setTop (mkF m pc Ls st)) := by
  obtain ⟨r1, r2, r3, r4, r5⟩ := hr
  obtain ⟨hst, hz, hn, hW⟩ := hs
  obtain ⟨v, _, ⟨T', L', k', n'⟩, -, X', ⟨Lc, hQ, q1, q2, q3⟩, k⟩ := Jvm.LawKit.callS X hx hown (mvT hZ w1) (mvT hZ w2) (mvT hZ w3) (mvT hZ w4) r5 (backOf (W := W) M hZ w4 w3 r1 r2) (g := mkF m pc Ls st) rfl (by rw [hml]; exact hz) (lenOf pd hn) hst (by show 2 * 0 + _ ≤ W; omega) hd (fun _ _ => ⟨rfl, eT, by show cells + _ ≤ _; rw [r3.1]; exact r3.2, by show slots + _ ≤ _; rw [r4.1]; exact r4.2⟩)
  dsimp only [Pt.U, Pt.locs, Pt.cells, Pt.slots] at X' q1 q2 q3 k hQ
  exact Go.by (fun t => k t) (K v T' L' Lc (Stand.num X' (q2.trans r3.1) (q3.trans r4.1)) hQ (fun f1 f2 => q1 ▸ Fr.app f1 f2))
theorem kI (X : Stand p l e R s m args below meth c T locs cells slots) (hx : p.tables.exec = Jvm.exec) (hZ : Z.Warmed39 s.vm) (hown : s.vm.findClass own = some m.cls) (w1 : (Cond.methodLink own index yy).before a0 Z = true) (w2 : (Cond.instanceMethod yy).before a0 Z = true) (w3 : (Cond.initialized yy.cls).before a0 Z = true) (w4 : (Cond.code yy bytes maxL none).before a0 Z = true) (M : CT l yy bytes maxL none [] rm (.ref b :: argsL).toArray Z h Q) (pd : parseMethodDescriptor yy.desc = some ⟨ps, rt⟩) (hd : decode c.code pc = .ok (.invokespecial index, 3)) (eT : T.heap = h) (hml : c.maxLocals = ml) (hs : st = argsL.reverse ++ .ref b :: rest ∧ Ls.size = ml ∧ argsL.length = ps.length ∧ (rest.map fun v => v.category).sum = W) (hr : rm.frames + 1 ≤ R.frames ∧ W + (maxL + 11) + rm.locals ≤ R.locals ∧ (cells + rm.cells = C ∧ C ≤ R.cells) ∧ (slots + rm.slots = S ∧ S ≤ R.slots) ∧ (yy.cls ≠ "java/lang/invoke/MethodHandle" ∧ yy.cls ≠ "java/lang/invoke/VarHandle") ∧ yy.name = "<init>") (K : ∀ v T' L' Lc, Stand p l e R s m args below meth c T' L' C S → Q v T'.heap Lc → (∀ {n0}, Fr n0 locs → Fr n0 Lc → Fr n0 L') → Go p e below G (T'.setTop (mkF m (pc + 3) Ls (v.toList ++ rest)))) : Go p e below G (T.setTop (mkF m pc Ls st)) := by
  obtain ⟨r1, r2, r3, r4, r5, r6⟩ := hr
  obtain ⟨hst, hz, hn, hW⟩ := hs
  obtain ⟨v, _, ⟨T', L', k', n'⟩, -, X', ⟨Lc, hQ, q1, q2, q3⟩, k⟩ := X.specialBack hx r6 hown (mvT hZ w1) (mvT hZ w2) (mvT hZ w4) r5 (backOf (W := W) M hZ w4 w3 r1 r2) (g := mkF m pc Ls st) rfl (by rw [hml]; exact hz) (Steps.refl _) (a := b) (lenOf pd hn) hst (by show 2 * 0 + _ ≤ W; omega) hd (fun _ _ => ⟨rfl, eT, by show cells + _ ≤ _; rw [r3.1]; exact r3.2, by show slots + _ ≤ _; rw [r4.1]; exact r4.2⟩)
  dsimp only [Pt.U, Pt.locs, Pt.cells, Pt.slots] at X' q1 q2 q3 k hQ
  exact Go.by (fun t => k.trans) (K v T' L' Lc (Stand.num X' (q2.trans r3.1) (q3.trans r4.1)) hQ (fun f1 f2 => q1 ▸ Fr.app f1 f2))
theorem kV (X : Stand p l e R s m args below meth c T locs cells slots) (hx : p.tables.exec = Jvm.exec) (hZ : Z.Warmed39 s.vm) (hown : s.vm.findClass own = some m.cls) (w1 : (Cond.methodLink own index yy).before a0 Z = true) (w2 : (Cond.declares yy).before a0 Z = true) (w3 : (Cond.selects C0 yy zz).before a0 Z = true) (w4 : (Cond.instanceMethod zz).before a0 Z = true) (w5 : (Cond.initialized zz.cls).before a0 Z = true) (w6 : (Cond.code zz bytes maxL ret).before a0 Z = true) (nf : NotFace s yy) (E : Exa Z h b C0) (M : CT l zz bytes maxL ret [] rm (.ref b :: argsL).toArray Z h Q) (pd : parseMethodDescriptor yy.desc = some ⟨ps, rt⟩) (hd : decode c.code pc = .ok (.invokevirtual index, 3)) (eT : T.heap = h) (hml : c.maxLocals = ml) (hs : st = argsL.reverse ++ .ref b :: rest ∧ Ls.size = ml ∧ argsL.length = ps.length ∧ (rest.map fun v => v.category).sum = W) (hr : rm.frames + 1 ≤ R.frames ∧ W + (maxL + 11) + rm.locals ≤ R.locals ∧ (cells + rm.cells = C ∧ C ≤ R.cells) ∧ (slots + rm.slots = S ∧ S ≤ R.slots) ∧ (yy.cls ≠ "java/lang/invoke/MethodHandle" ∧ yy.cls ≠ "java/lang/invoke/VarHandle")) (K : ∀ v T' L' Lc, Stand p l e R s m args below meth c T' L' C S → Q v T'.heap Lc → (∀ {n0}, Fr n0 locs → Fr n0 Lc → Fr n0 L') → Go p e below G (T'.setTop (mkF m (pc + 3) Ls (v.toList ++ rest)))) : Go p e below G (T.setTop (mkF m pc Ls st)) := by
  obtain ⟨cq, kq, qa, qb, qc⟩ := isOf hZ eT E
  obtain ⟨r1, r2, r3, r4, r5⟩ := hr
  obtain ⟨hst, hz, hn, hW⟩ := hs
  obtain ⟨v, _, ⟨T', L', k', n'⟩, -, X', ⟨Lc, hQ, q1, q2, q3⟩, k⟩ := X.virtualBack hx hown (mvT hZ w1) (mvT hZ w2) nf (mvT hZ w3) (mvT hZ w4) r5 (backOf (W := W) M hZ w6 w5 r1 r2) qa qc (g := mkF m pc Ls st) rfl (by rw [hml]; exact hz) (Steps.refl _) (lenOf pd hn) hst (by show 2 * 0 + _ ≤ W; omega) hd (fun _ _ => ⟨rfl, eT, by show cells + _ ≤ _; rw [r3.1]; exact r3.2, by show slots + _ ≤ _; rw [r4.1]; exact r4.2⟩)
  dsimp only [Pt.U, Pt.locs, Pt.cells, Pt.slots] at X' q1 q2 q3 k hQ
  exact Go.by (fun t => k.trans) (K v T' L' Lc (Stand.num X' (q2.trans r3.1) (q3.trans r4.1)) hQ (fun f1 f2 => q1 ▸ Fr.app f1 f2))
theorem kP (X : Stand p l e R s m args below meth c T locs cells slots) (hx : p.tables.exec = Jvm.exec) (hZ : Z.Warmed39 s.vm) (hown : s.vm.findClass own = some m.cls) (w1 : (Cond.methodLink own index yy).before a0 Z = true) (w2 : (Cond.instanceMethod yy).before a0 Z = true) (w3 : (Cond.selects yy.cls yy yy).before a0 Z = true) (w4 : (Cond.privateMethod yy).before a0 Z = true) (w5 : (Cond.initialized yy.cls).before a0 Z = true) (w6 : (Cond.code yy bytes maxL ret).before a0 Z = true) (E : Exa Z h b C0) (M : CT l yy bytes maxL ret [] rm (.ref b :: argsL).toArray Z h Q) (pd : parseMethodDescriptor yy.desc = some ⟨ps, rt⟩) (hd : decode c.code pc = .ok (.invokevirtual index, 3)) (eT : T.heap = h) (hml : c.maxLocals = ml) (hs : st = argsL.reverse ++ .ref b :: rest ∧ Ls.size = ml ∧ argsL.length = ps.length ∧ (rest.map fun v => v.category).sum = W) (hr : rm.frames + 1 ≤ R.frames ∧ W + (maxL + 11) + rm.locals ≤ R.locals ∧ (cells + rm.cells = C ∧ C ≤ R.cells) ∧ (slots + rm.slots = S ∧ S ≤ R.slots) ∧ (yy.cls ≠ "java/lang/invoke/MethodHandle" ∧ yy.cls ≠ "java/lang/invoke/VarHandle")) (K : ∀ v T' L' Lc, Stand p l e R s m args below meth c T' L' C S → Q v T'.heap Lc → (∀ {n0}, Fr n0 locs → Fr n0 Lc → Fr n0 L') → Go p e below G (T'.setTop (mkF m (pc + 3) Ls (v.toList ++ rest)))) : Go p e below G (T.setTop (mkF m pc Ls st)) := by
  obtain ⟨cq, qb, qc⟩ := E.cell
  obtain ⟨r1, r2, r3, r4, r5⟩ := hr
  obtain ⟨hst, hz, hn, hW⟩ := hs
  obtain ⟨v, _, ⟨T', L', k', n'⟩, -, X', ⟨Lc, hQ, q1, q2, q3⟩, k⟩ := X.privateBack hx hown (mvT hZ w1) (mvT hZ w2) (mvT hZ w3) (Cond.privateMethod_at (mvP hZ w4 (args := #[]))) (mvT hZ w6) r5 (backOf (W := W) M hZ w6 w5 r1 r2) (g := mkF m pc Ls st) rfl (by rw [hml]; exact hz) (Steps.refl _) (a := b) (by rw [eT]; exact qb) qc (lenOf pd hn) hst (by show 2 * 0 + _ ≤ W; omega) hd (fun _ _ => ⟨rfl, eT, by show cells + _ ≤ _; rw [r3.1]; exact r3.2, by show slots + _ ≤ _; rw [r4.1]; exact r4.2⟩)
  dsimp only [Pt.U, Pt.locs, Pt.cells, Pt.slots] at X' q1 q2 q3 k hQ
  exact Go.by (fun t => k.trans) (K v T' L' Lc (Stand.num X' (q2.trans r3.1) (q3.trans r4.1)) hQ (fun f1 f2 => q1 ▸ Fr.app f1 f2))
end
/-- a contract, where constants may be interned -/
abbrev CTW (EL : List (String × Nat)) (l : Launch) (x : MethodName) (code : ByteArray) (ml : Nat) (ret : Option FieldType) (ws : List Cond) (R : Room) (A : Array Value) (Z : State) (h0 : Heap) (Q : Option Value → Heap → List Loc → Prop) : Prop :=
  MetFree l x (head1 (Cond.code x code ml ret :: ws) R) (fun a U => a = A ∧ Z.Warmed39 U.vm ∧ U.heap = h0 ∧ CHv Z EL U.vm h0) (fun _ _ _ _ _ => True) (fun _ U o U' => ∃ v L, o = .returned v ∧ Q v U'.heap L ∧ CHr Z EL U.vm U.heap U'.vm U'.heap ∧ ReturnedEndW U o U' L R.cells R.slots)
/-- what a body's end says, where constants may have been interned -/
def EndW (EL : List (String × Nat)) (Z : State) (Q : Option Value → Heap → List Loc → Prop) (s : State) (cells slots : Nat) (s₂ : State) (o : Outcome) : Prop := ∃ v L, o = .returned v ∧ Q v s₂.heap L ∧ CHr Z EL s.vm s.heap s₂.vm s₂.heap ∧ ReturnedEndW s o s₂ L cells slots
section
variable {p : Program} {l : Launch} {e : Env} {R : Room} {s : State} {m : MethodId} {args : Array Value} {below : List Frame} {meth : Method} {c : Code} {T Z : State} {locs : List Loc} {cells slots C S k0 : Nat} {Q : Option Value → Heap → List Loc → Prop} {EL : List (String × Nat)} {vm0 : Vm} {a0 : Array Value}
theorem Go.ret1W (X : Stand p l e R (s.setVm vm0) m args below meth c T locs cells slots) (hS : s.Since vm0 k0) (hk : k0 ≤ T.heap.size) (CR : CHr Z EL s.vm s.heap vm0 T.heap) (hZ : Z.Warmed39 vm0) (hEL : EW Z a0 EL) (hx : p.tables.exec = Jvm.exec) {pc : Nat} {Ls : Array Slot} {w : Value} {t : FieldType} {i : Instr} {rest : List Value} (hret : meth.sig.returnType = some t) (hlk : meth.locks = false) (hn : narrow t w = w)
    (hi : (i = .ireturn ∧ (t = .int ∨ t = .boolean ∨ t = .byte ∨ t = .char ∨ t = .short) ∧ ∃ z, w = .int z) ∨ (i = .lreturn ∧ t = .long ∧ ∃ z, w = .long z) ∨ (i = .dreturn ∧ t = .double ∧ ∃ z, w = .double z) ∨ (i = .freturn ∧ t = .float ∧ ∃ z, w = .float z) ∨ (i = .areturn ∧ t.isReference = true ∧ w.isRef = true))
    (hd : decode c.code pc = .ok (i, 1)) (hc : cells ≤ C) (hs : slots ≤ S) (hQ : Q (some w) T.heap locs) : Go p e below (EndW EL Z Q s C S) (T.setTop (mkF m pc Ls (w :: rest))) := by
  obtain ⟨fs, hr, hrun, hended, h1, h2, h3, h4⟩ := X.leaveW hS hk (v := some w) (fun h => by rw [hret] at h; cases h) hlk
  have q := CHv.at X hZ hEL CR.1
  exact ⟨_, _, retOut X hx hret hn hi hd hr, hrun, hended, _, _, rfl, hQ, CR.trans q, h1, h2, h3, h4.mono hc hs⟩
theorem Go.startW {cn nm ds : String} {ws : List Cond} {code : ByteArray} {ml : Nat} {ret : Option FieldType} {A : Array Value} {h0 : Heap} (pf : plainFor ⟨cn, nm, ds⟩ = true) (Ls : Array Slot) (n0 : Nat) (hL : argsToLocals A ml = Ls)
    (body : ∀ p e s m below meth c s₁, BodyLoose p l ⟨cn, nm, ds⟩ (head1 (Cond.code ⟨cn, nm, ds⟩ code ml ret :: ws) R) code ml ret e s m A below meth c s₁ → p.tables.exec = Jvm.exec → c.code = code → c.maxLocals = ml → Z.Warmed39 s.vm → s.vm.findClass cn = some m.cls → Stand p l e R (s.setVm s.vm) m A below meth c s₁ [] 0 0 → s₁.heap = h0 → Fr n0 [] → s.Since s.vm 0 → CHr Z EL s.vm s.heap s.vm h0 → Go p e below (EndW EL Z Q s R.cells R.slots) (s₁.setTop (mkF m 0 Ls []))) :
    CTW EL l ⟨cn, nm, ds⟩ code ml ret ws R A Z h0 Q := by
  refine MetFree.of_bodySF pf hisR ?_
  intro p e s m args below meth c s₁ Bd hml hP hK
  obtain ⟨rfl, hZ, hh, CH0⟩ := hP
  subst hL
  exact body p e s m below meth c s₁ Bd Bd.exec Bd.bytes hml hZ (findClass_of_methodNamed Bd.named) (Stand.of_body Bd) (by rw [← hh, Bd.state]; rfl) (Fr.nil n0) ((State.WarmedH.refl s).since 0) (by rw [hh]; exact CHr.refl CH0)
theorem Go.ret0W (X : Stand p l e R (s.setVm vm0) m args below meth c T locs cells slots) (hS : s.Since vm0 k0) (hk : k0 ≤ T.heap.size) (CR : CHr Z EL s.vm s.heap vm0 T.heap) (hZ : Z.Warmed39 vm0) (hEL : EW Z a0 EL) (hx : p.tables.exec = Jvm.exec) {pc : Nat} {Ls : Array Slot} (hret : meth.sig.returnType = none) (hlk : meth.locks = false)
    (hd : decode c.code pc = .ok (.return_, 1)) (hc : cells ≤ C) (hs : slots ≤ S) (hQ : Q none T.heap locs) : Go p e below (EndW EL Z Q s C S) (T.setTop (mkF m pc Ls [])) := by
  obtain ⟨fs, hr, hrun, hended, h1, h2, h3, h4⟩ := X.leaveW hS hk (v := none) (fun _ => rfl) hlk
  have q := CHv.at X hZ hEL CR.1
  exact ⟨_, _, X.returnOut hx hret hd hr, hrun, hended, _, _, rfl, hQ, CR.trans q, h1, h2, h3, h4.mono hc hs⟩
end
theorem and255_chars (x : Int32) : ¬ nar .char ((x &&& (255 : Int32)).toUInt32.toUInt16.toUInt32.toInt32) < 0 ∧ ¬ (255 : Int32) < nar .char ((x &&& (255 : Int32)).toUInt32.toUInt16.toUInt32.toInt32) := by
  have t : ∀ k : Fin 256, ¬ nar .char ((Int32.ofNat k.val).toUInt32.toUInt16.toUInt32.toInt32) < 0 ∧ ¬ (255 : Int32) < nar .char ((Int32.ofNat k.val).toUInt32.toUInt16.toUInt32.toInt32) := by decide +kernel
  have h : (x &&& 255).toBitVec.toNat < 256 := by
    simp only [Int32.toBitVec_and, BitVec.toNat_and]
    exact Nat.lt_succ_of_le Nat.and_le_right
  have e : (x &&& 255) = Int32.ofNat (x &&& 255).toBitVec.toNat := by
    apply Int32.toBitVec_inj.mp
    show _ = BitVec.ofNat 32 _
    rw [BitVec.ofNat_toNat]; simp
  rw [e]
  exact t ⟨_, h⟩
theorem up (cs : List Int32) (h : ∀ c ∈ cs, ¬ c < 0 ∧ ¬ (255 : Int32) < c) : ∀ c ∈ cs, ¬ c < 0 ∧ ¬ (65535 : Int32) < c := fun c hc => ⟨(h c hc).1, fun q => (h c hc).2 (by rw [Int32.lt_iff_toInt_lt] at q ⊢; have e1 : (65535 : Int32).toInt = 65535 := rfl; have e2 : (255 : Int32).toInt = 255 := rfl; omega)⟩
theorem all1 {P : Int32 → Prop} {x : Int32} (h : P x) : ∀ c ∈ [x], P c := fun c hc => by cases List.mem_singleton.mp hc; exact h
theorem allC {P : Int32 → Prop} {x : Int32} {L : List Int32} (h : P x) (r : ∀ c ∈ L, P c) : ∀ c ∈ x :: L, P c := fun c hc => (List.mem_cons.mp hc).elim (fun u => u ▸ h) (r c)
theorem allN {P : Int32 → Prop} : ∀ c ∈ ([] : List Int32), P c := fun _ q => nomatch q
theorem Safe.null {Z : State} {EL : List (String × Nat)} {vm : Vm} {h : Heap} {x : Addr} (hal : Z.vm.Alike vm) (E : Exa Z h x "java/lang/String") (F : Fld Z h x "java/lang/String" "value" "[B" .null) {a0 : Array Value} (wi : (Jvm.Cond.instantiable "java/lang/String" 4).before a0 Z = true) : Safe Z EL vm h x := fun B => by
  obtain ⟨p, -, u, a, -, q, -, G, rfl | rfl⟩ := B
  · obtain ⟨cS, ⟨⟨e1, -, -, ⟨c1, k1, i1, f1, -⟩, -, -, -, v1, -⟩, -⟩, -⟩ := G
    obtain ⟨cell, cf, k, i, f, h1, h2, -, -, -, -, h7⟩ := F
    cases (show h[q.sa]? = some q.sC from e1).symm.trans h1
    obtain ⟨k3, e3, -⟩ := State.fieldFound?_setVm (s := Z) hal h2
    have e4 := (show (Wst Z vm h).fieldFound? _ _ _ = _ from e3).symm.trans f1
    simp only [Option.some.injEq, Prod.mk.injEq] at e4
    rw [← e4.2.2.2, h7] at v1
    cases v1
  · have hd := G.hd
    obtain ⟨cS, ⟨⟨-, -, -, -, -, -, -, -, -, -, ⟨-, kB, hkB, compB, hkindB⟩, -⟩, -, -⟩, -⟩ := G
    obtain ⟨cell, k, e1, e2, e3, -⟩ := E
    cases (show h[q.sd]? = some q.SA from hd).symm.trans e1
    obtain ⟨c2, k2, i1, i2, i3, -⟩ := Cond.instantiable_spec wi
    cases e2.symm.trans i1
    obtain ⟨k4, q1, q2⟩ := hal.2.2 _ _ i2
    cases (show vm.classes[q.SA.cls]? = some kB from hkB).symm.trans q1
    rw [q2] at hkindB
    have := hkindB.symm.trans i3
    cases this
def EL : List (String × Nat) := [("com/example/gearline/gearline/data/Values", 33), ("com/example/gearline/gearline/data/Values", 38), ("java/lang/String", 7)]
theorem ew_of {Z : State} {a0 : Array Value} (hw : ∀ d ∈ tables_1, d.before a0 Z = true) : EW Z a0 EL := (EW.cons (wd hw 292 rfl) (by decide) (EW.cons (wd hw 321 rfl) (by decide) (EW.cons (wd hw 373 rfl) (by decide) EW.nil)))
theorem ws_of {Z : State} {a0 : Array Value} (hw : ∀ d ∈ tables_1, d.before a0 Z = true) : ∀ a ∈ Bundle.stringAtoms, a.before a0 Z = true := fun d hd => hw d ((by decide +kernel : ∀ d ∈ Bundle.stringAtoms, d ∈ tables_1) d hd)
theorem pn_0 : plainName "com/example/gearline/gearline/data/ValuesShownPinLaw" = true := by first | (simp [plainName, overriddenIn]; done) | decide +kernel
theorem pd_0 : parseMethodDescriptor "([CIIIZICC)V" = some ⟨[(.array .char), .int, .int, .int, .boolean, .int, .char, .char], none⟩ := by decide +kernel
theorem pd_1 : parseMethodDescriptor "([C)V" = some ⟨[(.array .char)], none⟩ := by decide +kernel
theorem pd_2 : parseMethodDescriptor "(Ljava/lang/String;)Ljava/lang/String;" = some ⟨[(.object "java/lang/String")], some (.object "java/lang/String")⟩ := by decide +kernel
theorem pd_3 : parseMethodDescriptor "(Ljava/lang/Object;)Z" = some ⟨[(.object "java/lang/Object")], some .boolean⟩ := by decide +kernel
theorem pd_4 : parseMethodDescriptor "([CIII)V" = some ⟨[(.array .char), .int, .int, .int], none⟩ := by decide +kernel
def LI1 : List (Nat × Instr × Nat) := [(0, .aload_n 0, 1), (1, .iload_n 1, 1), (2, .iconst 0, 1), (3, .iload_n 3, 1), (4, .sipush 255, 3), (7, .iand, 1), (8, .i2c, 1), (9, .invokestatic 34, 3), (12, .aload_n 0, 1), (13, .iload_n 1, 1), (14, .bipush 63, 2), (16, .iload_n 3, 1), (17, .bipush 8, 2), (19, .iushr, 1), (20, .sipush 255, 3), (23, .iand, 1), (24, .i2c, 1), (25, .invokestatic 34, 3), (28, .aload_n 0, 1), (29, .iload_n 1, 1), (30, .bipush 64, 2), (32, .iload_n 3, 1), (33, .bipush 16, 2), (35, .iushr, 1), (36, .sipush 255, 3), (39, .iand, 1), (40, .i2c, 1), (41, .invokestatic 34, 3), (44, .aload_n 0, 1), (45, .iload_n 1, 1), (46, .iload_n 2, 1), (47, .iconst 1, 1), (48, .isub, 1), (49, .iload_n 3, 1), (50, .bipush 24, 2), (52, .iushr, 1), (53, .sipush 255, 3), (56, .iand, 1), (57, .i2c, 1), (58, .invokestatic 34, 3), (61, .iload 4, 2), (63, .ifCond .eq 23, 3), (66, .aload_n 0, 1), (67, .iload_n 1, 1), (68, .iload 5, 2), (70, .iload 6, 2), (72, .invokestatic 34, 3), (75, .aload_n 0, 1), (76, .iload_n 1, 1), (77, .iload 5, 2), (79, .iconst 1, 1), (80, .iadd, 1), (81, .iload 7, 2), (83, .invokestatic 34, 3), (86, .return_, 1)]
theorem D1 : DecAll method_4_code LI1 := by unfold DecAll; decide +kernel
theorem pd_5 : parseMethodDescriptor "([CIIC)V" = some ⟨[(.array .char), .int, .int, .char], none⟩ := by decide +kernel
def LI2 : List (Nat × Instr × Nat) := [(0, .iload_n 2, 1), (1, .ifCond .lt 12, 3), (4, .iload_n 2, 1), (5, .iload_n 1, 1), (6, .if_icmp .ge 7, 3), (9, .aload_n 0, 1), (10, .iload_n 2, 1), (11, .iload_n 3, 1), (12, .castore, 1), (13, .return_, 1)]
theorem D2 : DecAll method_3_code LI2 := by unfold DecAll; decide +kernel
def LI3 : List (Nat × Instr × Nat) := [(0, .aload_n 0, 1), (1, .aload_n 1, 1), (2, .iconst 0, 1), (3, .aload_n 1, 1), (4, .arraylength, 1), (5, .aconst_null, 1), (6, .invokespecial 27, 3), (9, .return_, 1)]
theorem D3 : DecAll jdk_42_method_3_code LI3 := by unfold DecAll; decide +kernel
theorem pn_1 : plainName "java/lang/String" = true := by first | (simp [plainName, overriddenIn]; done) | decide +kernel
theorem pd_6 : parseMethodDescriptor "([CIILjava/lang/Void;)V" = some ⟨[(.array .char), .int, .int, (.object "java/lang/Void")], none⟩ := by decide +kernel
def LI4 : List (Nat × Instr × Nat) := [(0, .aload_n 0, 1), (1, .invokespecial 1, 3), (4, .iload_n 3, 1), (5, .ifCond .ne 22, 3), (8, .aload_n 0, 1), (9, .ldc 7, 2), (11, .getfield 9, 3), (14, .putfield 9, 3), (17, .aload_n 0, 1), (18, .ldc 7, 2), (20, .getfield 15, 3), (23, .putfield 15, 3), (26, .return_, 1), (27, .getstatic 38, 3), (30, .ifCond .eq 28, 3), (33, .aload_n 1, 1), (34, .iload_n 2, 1), (35, .iload_n 3, 1), (36, .invokestatic 177, 3), (39, .astore 5, 2), (41, .aload_n 0, 1), (42, .aload 5, 2), (44, .iload_n 3, 1), (45, .invokestatic 47, 3), (48, .putfield 15, 3), (51, .aload_n 0, 1), (52, .aload 5, 2), (54, .putfield 9, 3), (57, .return_, 1), (58, .aload_n 0, 1), (59, .iconst 1, 1), (60, .putfield 15, 3), (63, .aload_n 0, 1), (64, .aload_n 1, 1), (65, .iload_n 2, 1), (66, .iload_n 3, 1), (67, .invokestatic 180, 3), (70, .putfield 9, 3), (73, .return_, 1)]
theorem D4 : DecAll jdk_42_method_149_code LI4 := by unfold DecAll; decide +kernel
theorem pd_7 : parseMethodDescriptor "()V" = some ⟨[], none⟩ := by decide +kernel
theorem pd_8 : parseMethodDescriptor "([CII)[B" = some ⟨[(.array .char), .int, .int], some (.array .byte)⟩ := by decide +kernel
theorem pd_9 : parseMethodDescriptor "([BI)B" = some ⟨[(.array .byte), .int], some .byte⟩ := by decide +kernel
def LI6 : List (Nat × Instr × Nat) := [(0, .iload_n 2, 1), (1, .newarray .byte, 2), (3, .astore_n 3, 1), (4, .aload_n 0, 1), (5, .iload_n 1, 1), (6, .aload_n 3, 1), (7, .iconst 0, 1), (8, .iload_n 2, 1), (9, .invokestatic 115, 3), (12, .istore 4, 2), (14, .iload 4, 2), (16, .iload_n 2, 1), (17, .if_icmp .eq 40, 3), (20, .aload_n 0, 1), (21, .iload_n 1, 1), (22, .iload_n 2, 1), (23, .invokestatic 119, 3), (26, .astore 5, 2), (28, .aload 5, 2), (30, .iload 4, 2), (32, .invokestatic 71, 3), (35, .sipush 255, 3), (38, .if_icmp .gt 16, 3), (41, .aload 5, 2), (43, .iconst 0, 1), (44, .aload_n 3, 1), (45, .iconst 0, 1), (46, .iload_n 2, 1), (47, .invokestatic 123, 3), (50, .iload_n 2, 1), (51, .if_icmp .eq 6, 3), (54, .aload 5, 2), (56, .areturn, 1), (57, .aload_n 3, 1), (58, .areturn, 1)]
theorem D6 : DecAll jdk_52_method_16_code LI6 := by unfold DecAll; decide +kernel
theorem pn_2 : plainName "java/lang/StringUTF16" = true := by first | (simp [plainName, overriddenIn]; done) | decide +kernel
theorem pd_10 : parseMethodDescriptor "([CI[BII)I" = some ⟨[(.array .char), .int, (.array .byte), .int, .int], some .int⟩ := by decide +kernel
theorem pd_11 : parseMethodDescriptor "([BI)C" = some ⟨[(.array .byte), .int], some .char⟩ := by decide +kernel
theorem pd_12 : parseMethodDescriptor "([BI[BII)I" = some ⟨[(.array .byte), .int, (.array .byte), .int, .int], some .int⟩ := by decide +kernel
def LI7 : List (Nat × Instr × Nat) := [(0, .iconst 0, 1), (1, .istore 5, 2), (3, .iload 5, 2), (5, .iload 4, 2), (7, .if_icmp .ge 37, 3), (10, .aload_n 0, 1), (11, .iload_n 1, 1), (12, .caload, 1), (13, .istore 6, 2), (15, .iload 6, 2), (17, .sipush 255, 3), (20, .if_icmp .le 6, 3), (23, .iload 5, 2), (25, .ireturn, 1), (26, .aload_n 2, 1), (27, .iload_n 3, 1), (28, .iload 6, 2), (30, .i2b, 1), (31, .bastore, 1), (32, .iinc 1 1, 3), (35, .iinc 3 1, 3), (38, .iinc 5 1, 3), (41, .goto (-38), 3), (44, .iload 4, 2), (46, .ireturn, 1)]
theorem D7 : DecAll jdk_52_method_21_code LI7 := by unfold DecAll; decide +kernel
def LI8 : List (Nat × Instr × Nat) := [(0, .iload_n 1, 1), (1, .aload_n 0, 1), (2, .arraylength, 1), (3, .isub, 1), (4, .bipush 31, 2), (6, .iushr, 1), (7, .i2b, 1), (8, .ireturn, 1)]
theorem D8 : DecAll jdk_52_method_15_code LI8 := by unfold DecAll; decide +kernel
def LI9 : List (Nat × Instr × Nat) := [(0, .aload_n 0, 1), (1, .iconst 0, 1), (2, .aload_n 0, 1), (3, .invokevirtual 9, 3), (6, .invokevirtual 15, 3), (9, .istore_n 1, 1), (10, .iload_n 1, 1), (11, .bipush 64, 2), (13, .if_icmp .gt 7, 3), (16, .aload_n 0, 1), (17, .goto 42, 3), (20, .new 19, 3), (23, .dup, 1), (24, .invokespecial 21, 3), (27, .aload_n 0, 1), (28, .iconst 0, 1), (29, .aload_n 0, 1), (30, .iconst 0, 1), (31, .bipush 64, 2), (33, .invokevirtual 22, 3), (36, .invokevirtual 25, 3), (39, .invokevirtual 29, 3), (42, .ldc 33, 2), (44, .invokevirtual 29, 3), (47, .iload_n 1, 1), (48, .invokevirtual 35, 3), (51, .ldc 38, 2), (53, .invokevirtual 29, 3), (56, .invokevirtual 40, 3), (59, .areturn, 1)]
theorem D9 : DecAll prog_32_method_2_code LI9 := by unfold DecAll; decide +kernel
theorem pn_3 : plainName "com/example/gearline/gearline/data/Values" = true := by first | (simp [plainName, overriddenIn]; done) | decide +kernel
theorem pd_13 : parseMethodDescriptor "()I" = some ⟨[], some .int⟩ := by decide +kernel
theorem pd_14 : parseMethodDescriptor "(II)I" = some ⟨[.int, .int], some .int⟩ := by decide +kernel
theorem pd_15 : parseMethodDescriptor "(II)Ljava/lang/String;" = some ⟨[.int, .int], some (.object "java/lang/String")⟩ := by decide +kernel
theorem pd_16 : parseMethodDescriptor "(Ljava/lang/String;)Ljava/lang/StringBuilder;" = some ⟨[(.object "java/lang/String")], some (.object "java/lang/StringBuilder")⟩ := by decide +kernel
theorem pd_17 : parseMethodDescriptor "(I)Ljava/lang/StringBuilder;" = some ⟨[.int], some (.object "java/lang/StringBuilder")⟩ := by decide +kernel
theorem pd_18 : parseMethodDescriptor "()Ljava/lang/String;" = some ⟨[], some (.object "java/lang/String")⟩ := by decide +kernel
def LI10 : List (Nat × Instr × Nat) := [(0, .aload_n 0, 1), (1, .getfield 9, 3), (4, .arraylength, 1), (5, .aload_n 0, 1), (6, .invokevirtual 335, 3), (9, .ishr, 1), (10, .ireturn, 1)]
theorem D10 : DecAll jdk_42_method_54_code LI10 := by unfold DecAll; decide +kernel
theorem pd_19 : parseMethodDescriptor "()B" = some ⟨[], some .byte⟩ := by decide +kernel
def LI11 : List (Nat × Instr × Nat) := [(0, .getstatic 38, 3), (3, .ifCond .eq 10, 3), (6, .aload_n 0, 1), (7, .getfield 15, 3), (10, .goto 4, 3), (13, .iconst 1, 1), (14, .ireturn, 1)]
theorem D11 : DecAll jdk_42_method_152_code LI11 := by unfold DecAll; decide +kernel
def LI12 : List (Nat × Instr × Nat) := [(0, .iload_n 1, 1), (1, .iload_n 2, 1), (2, .aload_n 0, 1), (3, .invokevirtual 505, 3), (6, .invokestatic 511, 3), (9, .pop, 1), (10, .aload_n 0, 1), (11, .invokevirtual 492, 3), (14, .ifCond .eq 7, 3), (17, .iload_n 2, 1), (18, .iload_n 1, 1), (19, .isub, 1), (20, .ireturn, 1), (21, .aload_n 0, 1), (22, .getfield 9, 3), (25, .iload_n 1, 1), (26, .iload_n 2, 1), (27, .invokestatic 514, 3), (30, .ireturn, 1)]
theorem D12 : DecAll jdk_42_method_59_code LI12 := by unfold DecAll; decide +kernel
theorem pd_20 : parseMethodDescriptor "(III)I" = some ⟨[.int, .int, .int], some .int⟩ := by decide +kernel
theorem pd_21 : parseMethodDescriptor "()Z" = some ⟨[], some .boolean⟩ := by decide +kernel
theorem pd_22 : parseMethodDescriptor "([BII)I" = some ⟨[(.array .byte), .int, .int], some .int⟩ := by decide +kernel
def LI13 : List (Nat × Instr × Nat) := [(0, .iload_n 0, 1), (1, .iload_n 1, 1), (2, .iload_n 2, 1), (3, .aconst_null, 1), (4, .invokestatic 111, 3), (7, .ireturn, 1)]
theorem D13 : DecAll jdk_31_method_18_code LI13 := by unfold DecAll; decide +kernel
theorem pn_4 : plainName "java/util/Objects" = true := by first | (simp [plainName, overriddenIn]; done) | decide +kernel
theorem pd_23 : parseMethodDescriptor "(IIILjava/util/function/BiFunction;)I" = some ⟨[.int, .int, .int, (.object "java/util/function/BiFunction")], some .int⟩ := by decide +kernel
def LI14 : List (Nat × Instr × Nat) := [(0, .iload_n 0, 1), (1, .ifCond .lt 13, 3), (4, .iload_n 0, 1), (5, .iload_n 1, 1), (6, .if_icmp .gt 8, 3), (9, .iload_n 1, 1), (10, .iload_n 2, 1), (11, .if_icmp .le 11, 3), (14, .aload_n 3, 1), (15, .iload_n 0, 1), (16, .iload_n 1, 1), (17, .iload_n 2, 1), (18, .invokestatic 99, 3), (21, .athrow, 1), (22, .iload_n 0, 1), (23, .ireturn, 1)]
theorem D14 : DecAll jdk_41_method_12_code LI14 := by unfold DecAll; decide +kernel
theorem pn_5 : plainName "jdk/internal/util/Preconditions" = true := by first | (simp [plainName, overriddenIn]; done) | decide +kernel
def LI15 : List (Nat × Instr × Nat) := [(0, .getstatic 38, 3), (3, .ifCond .eq 14, 3), (6, .aload_n 0, 1), (7, .getfield 15, 3), (10, .ifCond .ne 7, 3), (13, .iconst 1, 1), (14, .goto 4, 3), (17, .iconst 0, 1), (18, .ireturn, 1)]
theorem D15 : DecAll jdk_42_method_154_code LI15 := by unfold DecAll; decide +kernel
def LI16 : List (Nat × Instr × Nat) := [(0, .aload_n 0, 1), (1, .aload_n 1, 1), (2, .if_acmp .ne 5, 3), (5, .iconst 1, 1), (6, .ireturn, 1), (7, .aload_n 1, 1), (8, .instanceof 10, 3), (11, .ifCond .eq 43, 3), (14, .aload_n 1, 1), (15, .checkcast 10, 3), (18, .astore_n 2, 1), (19, .getstatic 38, 3), (22, .ifCond .eq 14, 3), (25, .aload_n 0, 1), (26, .getfield 15, 3), (29, .aload_n 2, 1), (30, .getfield 15, 3), (33, .if_icmp .ne 21, 3), (36, .aload_n 0, 1), (37, .getfield 9, 3), (40, .aload_n 2, 1), (41, .getfield 9, 3), (44, .invokestatic 541, 3), (47, .ifCond .eq 7, 3), (50, .iconst 1, 1), (51, .goto 4, 3), (54, .iconst 0, 1), (55, .ireturn, 1)]
theorem D16 : DecAll jdk_42_method_66_code LI16 := by unfold DecAll; decide +kernel
theorem pd_24 : parseMethodDescriptor "([B[B)Z" = some ⟨[(.array .byte), (.array .byte)], some .boolean⟩ := by decide +kernel
def LI17 : List (Nat × Instr × Nat) := [(0, .iload_n 2, 1), (1, .invokestatic 107, 3), (4, .astore_n 3, 1), (5, .iconst 0, 1), (6, .istore 4, 2), (8, .iload 4, 2), (10, .iload_n 2, 1), (11, .if_icmp .ge 21, 3), (14, .aload_n 3, 1), (15, .iload 4, 2), (17, .aload_n 0, 1), (18, .iload_n 1, 1), (19, .caload, 1), (20, .invokestatic 111, 3), (23, .iinc 1 1, 3), (26, .iinc 4 1, 3), (29, .goto (-21), 3), (32, .aload_n 3, 1), (33, .areturn, 1)]
theorem D17 : DecAll jdk_52_method_14_code LI17 := by unfold DecAll; decide +kernel
theorem pd_25 : parseMethodDescriptor "(I)[B" = some ⟨[.int], some (.array .byte)⟩ := by decide +kernel
theorem pd_26 : parseMethodDescriptor "([BII)V" = some ⟨[(.array .byte), .int, .int], none⟩ := by decide +kernel
def LI18 : List (Nat × Instr × Nat) := [(0, .iload_n 0, 1), (1, .invokestatic 11, 3), (4, .newarray .byte, 2), (6, .areturn, 1)]
theorem D18 : DecAll jdk_52_method_2_code LI18 := by unfold DecAll; decide +kernel
theorem pd_27 : parseMethodDescriptor "(I)I" = some ⟨[.int], some .int⟩ := by decide +kernel
def LI19 : List (Nat × Instr × Nat) := [(0, .iload_n 0, 1), (1, .ifCond .ge 11, 3), (4, .new 17, 3), (7, .dup, 1), (8, .invokespecial 19, 3), (11, .athrow, 1), (12, .iload_n 0, 1), (13, .ldc 20, 2), (15, .if_icmp .lt 40, 3), (18, .new 21, 3), (21, .dup, 1), (22, .new 23, 3), (25, .dup, 1), (26, .invokespecial 25, 3), (29, .ldc 26, 2), (31, .invokevirtual 28, 3), (34, .iload_n 0, 1), (35, .invokevirtual 32, 3), (38, .ldc 35, 2), (40, .invokevirtual 28, 3), (43, .ldc 20, 2), (45, .invokevirtual 32, 3), (48, .invokevirtual 37, 3), (51, .invokespecial 41, 3), (54, .athrow, 1), (55, .iload_n 0, 1), (56, .iconst 1, 1), (57, .ishl, 1), (58, .ireturn, 1)]
theorem D19 : DecAll jdk_52_method_3_code LI19 := by unfold DecAll; decide +kernel
def LI20 : List (Nat × Instr × Nat) := [(0, .getstatic 44, 3), (3, .ifCond .ne 25, 3), (6, .iload_n 1, 1), (7, .ifCond .lt 11, 3), (10, .iload_n 1, 1), (11, .aload_n 0, 1), (12, .invokestatic 48, 3), (15, .if_icmp .lt 13, 3), (18, .new 52, 3), (21, .dup, 1), (22, .ldc 54, 2), (24, .invokespecial 56, 3), (27, .athrow, 1), (28, .iload_n 1, 1), (29, .iconst 1, 1), (30, .ishl, 1), (31, .istore_n 1, 1), (32, .aload_n 0, 1), (33, .iload_n 1, 1), (34, .iinc 1 1, 3), (37, .iload_n 2, 1), (38, .getstatic 59, 3), (41, .ishr, 1), (42, .i2b, 1), (43, .bastore, 1), (44, .aload_n 0, 1), (45, .iload_n 1, 1), (46, .iload_n 2, 1), (47, .getstatic 63, 3), (50, .ishr, 1), (51, .i2b, 1), (52, .bastore, 1), (53, .return_, 1)]
theorem D20 : DecAll jdk_52_method_4_code LI20 := by unfold DecAll; decide +kernel
theorem pd_28 : parseMethodDescriptor "([B)I" = some ⟨[(.array .byte)], some .int⟩ := by decide +kernel
def LI21 : List (Nat × Instr × Nat) := [(0, .getstatic 44, 3), (3, .ifCond .ne 25, 3), (6, .iload_n 1, 1), (7, .ifCond .lt 11, 3), (10, .iload_n 1, 1), (11, .aload_n 0, 1), (12, .invokestatic 48, 3), (15, .if_icmp .lt 13, 3), (18, .new 52, 3), (21, .dup, 1), (22, .ldc 54, 2), (24, .invokespecial 56, 3), (27, .athrow, 1), (28, .iload_n 1, 1), (29, .iconst 1, 1), (30, .ishl, 1), (31, .istore_n 1, 1), (32, .aload_n 0, 1), (33, .iload_n 1, 1), (34, .iinc 1 1, 3), (37, .baload, 1), (38, .sipush 255, 3), (41, .iand, 1), (42, .getstatic 59, 3), (45, .ishl, 1), (46, .aload_n 0, 1), (47, .iload_n 1, 1), (48, .baload, 1), (49, .sipush 255, 3), (52, .iand, 1), (53, .getstatic 63, 3), (56, .ishl, 1), (57, .ior, 1), (58, .i2c, 1), (59, .ireturn, 1)]
theorem D21 : DecAll jdk_52_method_5_code LI21 := by unfold DecAll; decide +kernel
def LI22 : List (Nat × Instr × Nat) := [(0, .aload_n 0, 1), (1, .iload_n 1, 1), (2, .iload_n 2, 1), (3, .iconst 0, 1), (4, .invokestatic 100, 3), (7, .ireturn, 1)]
theorem D22 : DecAll jdk_52_method_12_code LI22 := by unfold DecAll; decide +kernel
theorem pd_29 : parseMethodDescriptor "([BIIZ)I" = some ⟨[(.array .byte), .int, .int, .boolean], some .int⟩ := by decide +kernel
def LI23 : List (Nat × Instr × Nat) := [(0, .getstatic 44, 3), (3, .ifCond .ne 16, 3), (6, .iload_n 1, 1), (7, .iload_n 2, 1), (8, .if_icmp .le 11, 3), (11, .new 52, 3), (14, .dup, 1), (15, .invokespecial 66, 3), (18, .athrow, 1), (19, .iload_n 2, 1), (20, .iload_n 1, 1), (21, .isub, 1), (22, .istore 4, 2), (24, .iload_n 1, 1), (25, .istore 5, 2), (27, .iload_n 3, 1), (28, .ifCond .eq 16, 3), (31, .iload 5, 2), (33, .iload_n 2, 1), (34, .if_icmp .ge 10, 3), (37, .iload 5, 2), (39, .iload_n 2, 1), (40, .aload_n 0, 1), (41, .invokestatic 96, 3), (44, .iload 5, 2), (46, .iload_n 2, 1), (47, .iconst 1, 1), (48, .isub, 1), (49, .if_icmp .ge 39, 3), (52, .aload_n 0, 1), (53, .iload 5, 2), (55, .iinc 5 1, 3), (58, .invokestatic 71, 3), (61, .invokestatic 75, 3), (64, .ifCond .eq (-20), 3), (67, .aload_n 0, 1), (68, .iload 5, 2), (70, .invokestatic 71, 3), (73, .invokestatic 81, 3), (76, .ifCond .eq (-32), 3), (79, .iinc 4 (-1), 3), (82, .iinc 5 1, 3), (85, .goto (-41), 3), (88, .iload 4, 2), (90, .ireturn, 1)]
theorem D23 : DecAll jdk_52_method_11_code LI23 := by unfold DecAll; decide +kernel
theorem pd_30 : parseMethodDescriptor "(II[B)V" = some ⟨[.int, .int, (.array .byte)], none⟩ := by decide +kernel
theorem pd_31 : parseMethodDescriptor "(C)Z" = some ⟨[.char], some .boolean⟩ := by decide +kernel
def LI24 : List (Nat × Instr × Nat) := [(0, .iload_n 0, 1), (1, .ldc 75, 2), (3, .if_icmp .lt 13, 3), (6, .iload_n 0, 1), (7, .ldc 76, 2), (9, .if_icmp .ge 7, 3), (12, .iconst 1, 1), (13, .goto 4, 3), (16, .iconst 0, 1), (17, .ireturn, 1)]
theorem D24 : DecAll jdk_89_method_14_code LI24 := by unfold DecAll; decide +kernel
theorem pn_6 : plainName "java/lang/Character" = true := by first | (simp [plainName, overriddenIn]; done) | decide +kernel
def LI25 : List (Nat × Instr × Nat) := [(0, .iload_n 0, 1), (1, .ldc 76, 2), (3, .if_icmp .lt 13, 3), (6, .iload_n 0, 1), (7, .ldc 77, 2), (9, .if_icmp .ge 7, 3), (12, .iconst 1, 1), (13, .goto 4, 3), (16, .iconst 0, 1), (17, .ireturn, 1)]
theorem D25 : DecAll jdk_89_method_15_code LI25 := by unfold DecAll; decide +kernel
def LI26 : List (Nat × Instr × Nat) := [(0, .aload_n 0, 1), (1, .bipush 16, 2), (3, .invokespecial 1, 3), (6, .return_, 1)]
theorem D26 : DecAll jdk_67_method_1_code LI26 := by unfold DecAll; decide +kernel
theorem pn_7 : plainName "java/lang/StringBuilder" = true := by first | (simp [plainName, overriddenIn]; done) | decide +kernel
theorem pd_32 : parseMethodDescriptor "(I)V" = some ⟨[.int], none⟩ := by decide +kernel
def LI27 : List (Nat × Instr × Nat) := [(0, .aload_n 0, 1), (1, .invokespecial 3, 3), (4, .getstatic 18, 3), (7, .ifCond .eq 18, 3), (10, .aload_n 0, 1), (11, .iload_n 1, 1), (12, .newarray .byte, 2), (14, .putfield 15, 3), (17, .aload_n 0, 1), (18, .iconst 0, 1), (19, .putfield 22, 3), (22, .goto 16, 3), (25, .aload_n 0, 1), (26, .iload_n 1, 1), (27, .invokestatic 26, 3), (30, .putfield 15, 3), (33, .aload_n 0, 1), (34, .iconst 1, 1), (35, .putfield 22, 3), (38, .return_, 1)]
theorem D27 : DecAll jdk_68_method_2_code LI27 := by unfold DecAll; decide +kernel
theorem pn_8 : plainName "java/lang/AbstractStringBuilder" = true := by first | (simp [plainName, overriddenIn]; done) | decide +kernel
def LI28 : List (Nat × Instr × Nat) := [(0, .aload_n 0, 1), (1, .iload_n 1, 1), (2, .iload_n 2, 1), (3, .invokestatic 517, 3), (6, .ireturn, 1)]
theorem D28 : DecAll jdk_42_method_60_code LI28 := by unfold DecAll; decide +kernel
theorem pd_33 : parseMethodDescriptor "(Ljava/lang/CharSequence;II)I" = some ⟨[(.object "java/lang/CharSequence"), .int, .int], some .int⟩ := by decide +kernel
def LI29 : List (Nat × Instr × Nat) := [(0, .aload_n 0, 1), (1, .invokeinterface 92 1, 5), (6, .istore_n 3, 1), (7, .iload_n 1, 1), (8, .ifCond .lt 8, 3), (11, .iload_n 1, 1), (12, .iload_n 3, 1), (13, .if_icmp .le 11, 3), (16, .new 104, 3), (19, .dup, 1), (20, .invokespecial 106, 3), (23, .athrow, 1), (24, .iload_n 1, 1), (25, .istore 4, 2), (27, .iload_n 2, 1), (28, .ifCond .lt 81, 3), (31, .iconst 0, 1), (32, .istore 5, 2), (34, .iload 4, 2), (36, .iload_n 3, 1), (37, .if_icmp .ge 55, 3), (40, .iload 5, 2), (42, .iload_n 2, 1), (43, .if_icmp .ge 49, 3), (46, .aload_n 0, 1), (47, .iload 4, 2), (49, .iinc 4 1, 3), (52, .invokeinterface 86 2, 5), (57, .invokestatic 78, 3), (60, .ifCond .eq 26, 3), (63, .iload 4, 2), (65, .iload_n 3, 1), (66, .if_icmp .ge 20, 3), (69, .aload_n 0, 1), (70, .iload 4, 2), (72, .invokeinterface 86 2, 5), (77, .invokestatic 82, 3), (80, .ifCond .eq 6, 3), (83, .iinc 4 1, 3), (86, .iinc 5 1, 3), (89, .goto (-55), 3), (92, .iload 5, 2), (94, .iload_n 2, 1), (95, .if_icmp .ge 11, 3), (98, .new 104, 3), (101, .dup, 1), (102, .invokespecial 106, 3), (105, .athrow, 1), (106, .goto 76, 3), (109, .iload_n 2, 1), (110, .istore 5, 2), (112, .iload 4, 2), (114, .ifCond .le 55, 3), (117, .iload 5, 2), (119, .ifCond .ge 50, 3), (122, .aload_n 0, 1), (123, .iinc 4 (-1), 3), (126, .iload 4, 2), (128, .invokeinterface 86 2, 5), (133, .invokestatic 82, 3), (136, .ifCond .eq 27, 3), (139, .iload 4, 2), (141, .ifCond .le 22, 3), (144, .aload_n 0, 1), (145, .iload 4, 2), (147, .iconst 1, 1), (148, .isub, 1), (149, .invokeinterface 86 2, 5), (154, .invokestatic 78, 3), (157, .ifCond .eq 6, 3), (160, .iinc 4 (-1), 3), (163, .iinc 5 1, 3), (166, .goto (-54), 3), (169, .iload 5, 2), (171, .ifCond .ge 11, 3), (174, .new 104, 3), (177, .dup, 1), (178, .invokespecial 106, 3), (181, .athrow, 1), (182, .iload 4, 2), (184, .ireturn, 1)]
theorem D29 : DecAll jdk_89_method_36_code LI29 := by unfold DecAll; decide +kernel
theorem pd_34 : parseMethodDescriptor "(I)C" = some ⟨[.int], some .char⟩ := by decide +kernel
def LI30 : List (Nat × Instr × Nat) := [(0, .aload_n 0, 1), (1, .invokevirtual 492, 3), (4, .ifCond .eq 12, 3), (7, .aload_n 0, 1), (8, .getfield 9, 3), (11, .iload_n 1, 1), (12, .invokestatic 495, 3), (15, .ireturn, 1), (16, .aload_n 0, 1), (17, .getfield 9, 3), (20, .iload_n 1, 1), (21, .invokestatic 498, 3), (24, .ireturn, 1)]
theorem D30 : DecAll jdk_42_method_56_code LI30 := by unfold DecAll; decide +kernel
def LI31 : List (Nat × Instr × Nat) := [(0, .iload_n 1, 1), (1, .aload_n 0, 1), (2, .invokestatic 67, 3), (5, .aload_n 0, 1), (6, .iload_n 1, 1), (7, .invokestatic 71, 3), (10, .ireturn, 1)]
theorem D31 : DecAll jdk_52_method_83_code LI31 := by unfold DecAll; decide +kernel
theorem pd_35 : parseMethodDescriptor "(I[B)V" = some ⟨[.int, (.array .byte)], none⟩ := by decide +kernel
def LI32 : List (Nat × Instr × Nat) := [(0, .iload_n 0, 1), (1, .aload_n 1, 1), (2, .invokestatic 48, 3), (5, .invokestatic 414, 3), (8, .return_, 1)]
theorem D32 : DecAll jdk_52_method_91_code LI32 := by unfold DecAll; decide +kernel
theorem pd_36 : parseMethodDescriptor "(II)V" = some ⟨[.int, .int], none⟩ := by decide +kernel
def LI33 : List (Nat × Instr × Nat) := [(0, .aload_n 0, 1), (1, .arraylength, 1), (2, .iconst 1, 1), (3, .ishr, 1), (4, .ireturn, 1)]
theorem D33 : DecAll jdk_52_method_6_code LI33 := by unfold DecAll; decide +kernel
def LI34 : List (Nat × Instr × Nat) := [(0, .iload_n 0, 1), (1, .iload_n 1, 1), (2, .getstatic 1053, 3), (5, .invokestatic 1059, 3), (8, .pop, 1), (9, .return_, 1)]
theorem D34 : DecAll jdk_42_method_155_code LI34 := by unfold DecAll; decide +kernel
theorem pd_37 : parseMethodDescriptor "(IILjava/util/function/BiFunction;)I" = some ⟨[.int, .int, (.object "java/util/function/BiFunction")], some .int⟩ := by decide +kernel
def LI35 : List (Nat × Instr × Nat) := [(0, .iload_n 0, 1), (1, .ifCond .lt 8, 3), (4, .iload_n 0, 1), (5, .iload_n 1, 1), (6, .if_icmp .lt 10, 3), (9, .aload_n 2, 1), (10, .iload_n 0, 1), (11, .iload_n 1, 1), (12, .invokestatic 95, 3), (15, .athrow, 1), (16, .iload_n 0, 1), (17, .ireturn, 1)]
theorem D35 : DecAll jdk_41_method_11_code LI35 := by unfold DecAll; decide +kernel
def LI36 : List (Nat × Instr × Nat) := [(0, .aload_n 0, 1), (1, .invokevirtual 505, 3), (4, .istore_n 3, 1), (5, .iload_n 1, 1), (6, .iload_n 2, 1), (7, .iload_n 3, 1), (8, .invokestatic 521, 3), (11, .iload_n 1, 1), (12, .ifCond .ne 10, 3), (15, .iload_n 2, 1), (16, .iload_n 3, 1), (17, .if_icmp .ne 5, 3), (20, .aload_n 0, 1), (21, .areturn, 1), (22, .iload_n 2, 1), (23, .iload_n 1, 1), (24, .isub, 1), (25, .istore 4, 2), (27, .aload_n 0, 1), (28, .invokevirtual 492, 3), (31, .ifCond .eq 16, 3), (34, .aload_n 0, 1), (35, .getfield 9, 3), (38, .iload_n 1, 1), (39, .iload 4, 2), (41, .invokestatic 685, 3), (44, .goto 13, 3), (47, .aload_n 0, 1), (48, .getfield 9, 3), (51, .iload_n 1, 1), (52, .iload 4, 2), (54, .invokestatic 689, 3), (57, .areturn, 1)]
theorem D36 : DecAll jdk_42_method_92_code LI36 := by unfold DecAll; decide +kernel
theorem pd_38 : parseMethodDescriptor "(III)V" = some ⟨[.int, .int, .int], none⟩ := by decide +kernel
theorem pd_39 : parseMethodDescriptor "([BII)Ljava/lang/String;" = some ⟨[(.array .byte), .int, .int], some (.object "java/lang/String")⟩ := by decide +kernel
def LI37 : List (Nat × Instr × Nat) := [(0, .iload_n 0, 1), (1, .iload_n 1, 1), (2, .iload_n 2, 1), (3, .getstatic 1053, 3), (6, .invokestatic 1062, 3), (9, .pop, 1), (10, .return_, 1)]
theorem D37 : DecAll jdk_42_method_158_code LI37 := by unfold DecAll; decide +kernel
def LI38 : List (Nat × Instr × Nat) := [(0, .iload_n 2, 1), (1, .ifCond .ne 7, 3), (4, .ldc_w 295, 3), (7, .areturn, 1), (8, .getstatic 251, 3), (11, .ifCond .eq 28, 3), (14, .aload_n 0, 1), (15, .iload_n 1, 1), (16, .iload_n 2, 1), (17, .invokestatic 257, 3), (20, .astore_n 3, 1), (21, .aload_n 3, 1), (22, .iload_n 2, 1), (23, .invokestatic 259, 3), (26, .istore 4, 2), (28, .new 3, 3), (31, .dup, 1), (32, .aload_n 3, 1), (33, .iload 4, 2), (35, .invokespecial 263, 3), (38, .areturn, 1), (39, .iload_n 1, 1), (40, .iload_n 2, 1), (41, .iadd, 1), (42, .istore_n 3, 1), (43, .new 3, 3), (46, .dup, 1), (47, .aload_n 0, 1), (48, .iload_n 1, 1), (49, .iconst 1, 1), (50, .ishl, 1), (51, .iload_n 3, 1), (52, .iconst 1, 1), (53, .ishl, 1), (54, .invokestatic 126, 3), (57, .iconst 1, 1), (58, .invokespecial 263, 3), (61, .areturn, 1)]
theorem D38 : DecAll jdk_52_method_69_code LI38 := by unfold DecAll; decide +kernel
theorem pd_40 : parseMethodDescriptor "([BII)[B" = some ⟨[(.array .byte), .int, .int], some (.array .byte)⟩ := by decide +kernel
theorem pd_41 : parseMethodDescriptor "([BB)V" = some ⟨[(.array .byte), .byte], none⟩ := by decide +kernel
def LI39 : List (Nat × Instr × Nat) := [(0, .iload_n 2, 1), (1, .newarray .byte, 2), (3, .astore_n 3, 1), (4, .aload_n 0, 1), (5, .iload_n 1, 1), (6, .aload_n 3, 1), (7, .iconst 0, 1), (8, .iload_n 2, 1), (9, .invokestatic 123, 3), (12, .istore 4, 2), (14, .iload 4, 2), (16, .iload_n 2, 1), (17, .if_icmp .eq 47, 3), (20, .aload_n 0, 1), (21, .iload_n 1, 1), (22, .iconst 1, 1), (23, .ishl, 1), (24, .iload_n 1, 1), (25, .iload_n 2, 1), (26, .iadd, 1), (27, .invokestatic 11, 3), (30, .invokestatic 126, 3), (33, .astore 5, 2), (35, .aload 5, 2), (37, .iload 4, 2), (39, .invokestatic 71, 3), (42, .sipush 255, 3), (45, .if_icmp .gt 16, 3), (48, .aload 5, 2), (50, .iconst 0, 1), (51, .aload_n 3, 1), (52, .iconst 0, 1), (53, .iload_n 2, 1), (54, .invokestatic 123, 3), (57, .iload_n 2, 1), (58, .if_icmp .eq 6, 3), (61, .aload 5, 2), (63, .areturn, 1), (64, .aload_n 3, 1), (65, .areturn, 1)]
theorem D39 : DecAll jdk_52_method_17_code LI39 := by unfold DecAll; decide +kernel
def LI40 : List (Nat × Instr × Nat) := [(0, .iload_n 1, 1), (1, .iload 4, 2), (3, .aload_n 0, 1), (4, .invokestatic 173, 3), (7, .iconst 0, 1), (8, .istore 5, 2), (10, .iload 5, 2), (12, .iload 4, 2), (14, .if_icmp .ge 39, 3), (17, .aload_n 0, 1), (18, .iload_n 1, 1), (19, .invokestatic 71, 3), (22, .istore 6, 2), (24, .iload 6, 2), (26, .sipush 255, 3), (29, .if_icmp .le 6, 3), (32, .iload 5, 2), (34, .ireturn, 1), (35, .aload_n 2, 1), (36, .iload_n 3, 1), (37, .iload 6, 2), (39, .i2b, 1), (40, .bastore, 1), (41, .iinc 1 1, 3), (44, .iinc 3 1, 3), (47, .iinc 5 1, 3), (50, .goto (-40), 3), (53, .iload 4, 2), (55, .ireturn, 1)]
theorem D40 : DecAll jdk_52_method_22_code LI40 := by unfold DecAll; decide +kernel
def LI41 : List (Nat × Instr × Nat) := [(0, .iload_n 0, 1), (1, .iload_n 1, 1), (2, .aload_n 2, 1), (3, .invokestatic 48, 3), (6, .invokestatic 419, 3), (9, .pop, 1), (10, .return_, 1)]
theorem D41 : DecAll jdk_52_method_94_code LI41 := by unfold DecAll; decide +kernel
def LI42 : List (Nat × Instr × Nat) := [(0, .iload_n 0, 1), (1, .iload_n 1, 1), (2, .iload_n 2, 1), (3, .getstatic 1053, 3), (6, .invokestatic 1065, 3), (9, .ireturn, 1)]
theorem D42 : DecAll jdk_42_method_157_code LI42 := by unfold DecAll; decide +kernel
def LI43 : List (Nat × Instr × Nat) := [(0, .iload_n 2, 1), (1, .iload_n 0, 1), (2, .ior, 1), (3, .iload_n 1, 1), (4, .ior, 1), (5, .ifCond .lt 10, 3), (8, .iload_n 1, 1), (9, .iload_n 2, 1), (10, .iload_n 0, 1), (11, .isub, 1), (12, .if_icmp .le 11, 3), (15, .aload_n 3, 1), (16, .iload_n 0, 1), (17, .iload_n 1, 1), (18, .iload_n 2, 1), (19, .invokestatic 103, 3), (22, .athrow, 1), (23, .iload_n 0, 1), (24, .ireturn, 1)]
theorem D43 : DecAll jdk_41_method_13_code LI43 := by unfold DecAll; decide +kernel
def LI44 : List (Nat × Instr × Nat) := [(0, .iload_n 1, 1), (1, .ifCond .ne 9, 3), (4, .iload_n 2, 1), (5, .aload_n 0, 1), (6, .arraylength, 1), (7, .if_icmp .eq 10, 3), (10, .aload_n 0, 1), (11, .iload_n 1, 1), (12, .iload_n 2, 1), (13, .invokestatic 339, 3), (16, .areturn, 1), (17, .aload_n 0, 1), (18, .invokevirtual 310, 3), (21, .checkcast 311, 3), (24, .areturn, 1)]
theorem D44 : DecAll jdk_65_method_132_code LI44 := by unfold DecAll; decide +kernel
theorem pn_9 : plainName "java/util/Arrays" = true := by first | (simp [plainName, overriddenIn]; done) | decide +kernel
def LI45 : List (Nat × Instr × Nat) := [(0, .iload_n 1, 1), (1, .iload_n 2, 1), (2, .invokestatic 343, 3), (5, .iload_n 2, 1), (6, .iload_n 1, 1), (7, .isub, 1), (8, .istore_n 3, 1), (9, .iload_n 3, 1), (10, .newarray .byte, 2), (12, .astore 4, 2), (14, .aload_n 0, 1), (15, .iload_n 1, 1), (16, .aload 4, 2), (18, .iconst 0, 1), (19, .aload_n 0, 1), (20, .arraylength, 1), (21, .iload_n 1, 1), (22, .isub, 1), (23, .iload_n 3, 1), (24, .invokestatic 304, 3), (27, .invokestatic 150, 3), (30, .aload 4, 2), (32, .areturn, 1)]
theorem D45 : DecAll jdk_65_method_133_code LI45 := by unfold DecAll; decide +kernel
def LI46 : List (Nat × Instr × Nat) := [(0, .iload_n 1, 1), (1, .iload_n 0, 1), (2, .if_icmp .ge 35, 3), (5, .new 43, 3), (8, .dup, 1), (9, .new 45, 3), (12, .dup, 1), (13, .invokespecial 47, 3), (16, .iload_n 0, 1), (17, .invokevirtual 54, 3), (20, .ldc_w 337, 3), (23, .invokevirtual 50, 3), (26, .iload_n 1, 1), (27, .invokevirtual 54, 3), (30, .invokevirtual 61, 3), (33, .invokespecial 65, 3), (36, .athrow, 1), (37, .return_, 1)]
theorem D46 : DecAll jdk_65_method_131_code LI46 := by unfold DecAll; decide +kernel
def LI47 : List (Nat × Instr × Nat) := [(0, .iload_n 0, 1), (1, .iload_n 1, 1), (2, .if_icmp .gt 7, 3), (5, .iload_n 0, 1), (6, .goto 4, 3), (9, .iload_n 1, 1), (10, .ireturn, 1)]
theorem D47 : DecAll jdk_29_method_69_code LI47 := by unfold DecAll; decide +kernel
def LI48 : List (Nat × Instr × Nat) := [(0, .aload_n 0, 1), (1, .invokespecial 1, 3), (4, .aload_n 0, 1), (5, .aload_n 1, 1), (6, .putfield 9, 3), (9, .aload_n 0, 1), (10, .iload_n 2, 1), (11, .putfield 15, 3), (14, .return_, 1)]
theorem D48 : DecAll jdk_42_method_151_code LI48 := by unfold DecAll; decide +kernel
def LI49 : List (Nat × Instr × Nat) := [(0, .aload_n 0, 1), (1, .aload_n 1, 1), (2, .invokespecial 29, 3), (5, .pop, 1), (6, .aload_n 0, 1), (7, .areturn, 1)]
theorem D49 : DecAll jdk_67_method_7_code LI49 := by unfold DecAll; decide +kernel
theorem pd_43 : parseMethodDescriptor "(Ljava/lang/String;)Ljava/lang/AbstractStringBuilder;" = some ⟨[(.object "java/lang/String")], some (.object "java/lang/AbstractStringBuilder")⟩ := by decide +kernel
def LI50 : List (Nat × Instr × Nat) := [(0, .aload_n 1, 1), (1, .ifnonnull 8, 3), (4, .aload_n 0, 1), (5, .invokevirtual 204, 3), (8, .areturn, 1), (9, .aload_n 1, 1), (10, .invokevirtual 32, 3), (13, .istore_n 2, 1), (14, .aload_n 0, 1), (15, .aload_n 0, 1), (16, .getfield 79, 3), (19, .iload_n 2, 1), (20, .iadd, 1), (21, .invokevirtual 100, 3), (24, .aload_n 0, 1), (25, .aload_n 0, 1), (26, .getfield 79, 3), (29, .aload_n 1, 1), (30, .invokevirtual 208, 3), (33, .aload_n 0, 1), (34, .dup, 1), (35, .getfield 79, 3), (38, .iload_n 2, 1), (39, .iadd, 1), (40, .putfield 79, 3), (43, .aload_n 0, 1), (44, .areturn, 1)]
theorem D50 : DecAll jdk_68_method_22_code LI50 := by unfold DecAll; decide +kernel
theorem pd_44 : parseMethodDescriptor "(ILjava/lang/String;)V" = some ⟨[.int, (.object "java/lang/String")], none⟩ := by decide +kernel
def LI51 : List (Nat × Instr × Nat) := [(0, .aload_n 0, 1), (1, .getfield 15, 3), (4, .arraylength, 1), (5, .aload_n 0, 1), (6, .getfield 22, 3), (9, .ishr, 1), (10, .istore_n 2, 1), (11, .iload_n 1, 1), (12, .iload_n 2, 1), (13, .isub, 1), (14, .ifCond .le 24, 3), (17, .aload_n 0, 1), (18, .aload_n 0, 1), (19, .getfield 15, 3), (22, .aload_n 0, 1), (23, .iload_n 1, 1), (24, .invokevirtual 104, 3), (27, .aload_n 0, 1), (28, .getfield 22, 3), (31, .ishl, 1), (32, .invokestatic 108, 3), (35, .putfield 15, 3), (38, .return_, 1)]
theorem D51 : DecAll jdk_68_method_9_code LI51 := by unfold DecAll; decide +kernel
theorem pd_45 : parseMethodDescriptor "([BI)[B" = some ⟨[(.array .byte), .int], some (.array .byte)⟩ := by decide +kernel
def LI52 : List (Nat × Instr × Nat) := [(0, .aload_n 0, 1), (1, .getfield 15, 3), (4, .arraylength, 1), (5, .istore_n 2, 1), (6, .iload_n 1, 1), (7, .aload_n 0, 1), (8, .getfield 22, 3), (11, .ishl, 1), (12, .istore_n 3, 1), (13, .iload_n 3, 1), (14, .iload_n 2, 1), (15, .isub, 1), (16, .istore 4, 2), (18, .iload_n 2, 1), (19, .iload 4, 2), (21, .iload_n 2, 1), (22, .iconst 2, 1), (23, .aload_n 0, 1), (24, .getfield 22, 3), (27, .ishl, 1), (28, .iadd, 1), (29, .invokestatic 114, 3), (32, .istore 5, 2), (34, .iload 5, 2), (36, .ldc 39, 2), (38, .if_icmp .ne 13, 3), (41, .new 120, 3), (44, .dup, 1), (45, .ldc 122, 2), (47, .invokespecial 124, 3), (50, .athrow, 1), (51, .iload 5, 2), (53, .aload_n 0, 1), (54, .getfield 22, 3), (57, .ishr, 1), (58, .ireturn, 1)]
theorem D52 : DecAll jdk_68_method_10_code LI52 := by unfold DecAll; decide +kernel
def LI53 : List (Nat × Instr × Nat) := [(0, .iload_n 0, 1), (1, .iload_n 1, 1), (2, .iload_n 2, 1), (3, .invokestatic 194, 3), (6, .iadd, 1), (7, .istore_n 3, 1), (8, .iconst 0, 1), (9, .iload_n 3, 1), (10, .if_icmp .ge 11, 3), (13, .iload_n 3, 1), (14, .ldc 200, 2), (16, .if_icmp .gt 5, 3), (19, .iload_n 3, 1), (20, .ireturn, 1), (21, .iload_n 0, 1), (22, .iload_n 1, 1), (23, .invokestatic 201, 3), (26, .ireturn, 1)]
theorem D53 : DecAll jdk_48_method_27_code LI53 := by unfold DecAll; decide +kernel
theorem pn_10 : plainName "jdk/internal/util/ArraysSupport" = true := by first | (simp [plainName, overriddenIn]; done) | decide +kernel
def LI54 : List (Nat × Instr × Nat) := [(0, .iload_n 0, 1), (1, .iload_n 1, 1), (2, .if_icmp .lt 7, 3), (5, .iload_n 0, 1), (6, .goto 4, 3), (9, .iload_n 1, 1), (10, .ireturn, 1)]
theorem D54 : DecAll jdk_29_method_65_code LI54 := by unfold DecAll; decide +kernel
def LI55 : List (Nat × Instr × Nat) := [(0, .iload_n 1, 1), (1, .aload_n 0, 1), (2, .arraylength, 1), (3, .if_icmp .ne 11, 3), (6, .aload_n 0, 1), (7, .invokevirtual 310, 3), (10, .checkcast 311, 3), (13, .areturn, 1), (14, .iload_n 1, 1), (15, .newarray .byte, 2), (17, .astore_n 2, 1), (18, .aload_n 0, 1), (19, .iconst 0, 1), (20, .aload_n 2, 1), (21, .iconst 0, 1), (22, .aload_n 0, 1), (23, .arraylength, 1), (24, .iload_n 1, 1), (25, .invokestatic 304, 3), (28, .invokestatic 150, 3), (31, .aload_n 2, 1), (32, .areturn, 1)]
theorem D55 : DecAll jdk_65_method_121_code LI55 := by unfold DecAll; decide +kernel
def LI56 : List (Nat × Instr × Nat) := [(0, .aload_n 0, 1), (1, .aload_n 2, 1), (2, .invokevirtual 397, 3), (5, .aload_n 2, 1), (6, .aload_n 0, 1), (7, .getfield 15, 3), (10, .iload_n 1, 1), (11, .aload_n 0, 1), (12, .getfield 22, 3), (15, .invokevirtual 399, 3), (18, .return_, 1)]
theorem D56 : DecAll jdk_68_method_73_code LI56 := by unfold DecAll; decide +kernel
theorem pd_46 : parseMethodDescriptor "(Ljava/lang/String;)V" = some ⟨[(.object "java/lang/String")], none⟩ := by decide +kernel
theorem pd_47 : parseMethodDescriptor "([BIB)V" = some ⟨[(.array .byte), .int, .byte], none⟩ := by decide +kernel
def LI57 : List (Nat × Instr × Nat) := [(0, .getstatic 18, 3), (3, .ifCond .eq 18, 3), (6, .aload_n 0, 1), (7, .getfield 22, 3), (10, .aload_n 1, 1), (11, .invokevirtual 40, 3), (14, .if_icmp .eq 7, 3), (17, .aload_n 0, 1), (18, .invokevirtual 195, 3), (21, .return_, 1)]
theorem D57 : DecAll jdk_68_method_71_code LI57 := by unfold DecAll; decide +kernel
def LI58 : List (Nat × Instr × Nat) := [(0, .aload_n 0, 1), (1, .invokevirtual 83, 3), (4, .ifCond .ne 4, 3), (7, .return_, 1), (8, .aload_n 0, 1), (9, .getfield 15, 3), (12, .arraylength, 1), (13, .invokestatic 26, 3), (16, .astore_n 1, 1), (17, .aload_n 0, 1), (18, .getfield 15, 3), (21, .iconst 0, 1), (22, .aload_n 1, 1), (23, .iconst 0, 1), (24, .aload_n 0, 1), (25, .getfield 79, 3), (28, .invokestatic 125, 3), (31, .aload_n 0, 1), (32, .aload_n 1, 1), (33, .putfield 15, 3), (36, .aload_n 0, 1), (37, .iconst 1, 1), (38, .putfield 22, 3), (41, .return_, 1)]
theorem D58 : DecAll jdk_68_method_11_code LI58 := by unfold DecAll; decide +kernel
theorem pd_48 : parseMethodDescriptor "([BI[BII)V" = some ⟨[(.array .byte), .int, (.array .byte), .int, .int], none⟩ := by decide +kernel
def LI59 : List (Nat × Instr × Nat) := [(0, .getstatic 18, 3), (3, .ifCond .eq 14, 3), (6, .aload_n 0, 1), (7, .getfield 22, 3), (10, .ifCond .ne 7, 3), (13, .iconst 1, 1), (14, .goto 4, 3), (17, .iconst 0, 1), (18, .ireturn, 1)]
theorem D59 : DecAll jdk_68_method_68_code LI59 := by unfold DecAll; decide +kernel
def LI60 : List (Nat × Instr × Nat) := [(0, .aload_n 0, 1), (1, .iload_n 1, 1), (2, .aload_n 2, 1), (3, .iload_n 3, 1), (4, .iload 4, 2), (6, .invokestatic 240, 3), (9, .return_, 1)]
theorem D60 : DecAll jdk_43_method_50_code LI60 := by unfold DecAll; decide +kernel
theorem pn_11 : plainName "java/lang/StringLatin1" = true := by first | (simp [plainName, overriddenIn]; done) | decide +kernel
def LI61 : List (Nat × Instr × Nat) := [(0, .iload_n 3, 1), (1, .iload 4, 2), (3, .aload_n 2, 1), (4, .invokestatic 173, 3), (7, .iconst 0, 1), (8, .istore 5, 2), (10, .iload 5, 2), (12, .iload 4, 2), (14, .if_icmp .ge 27, 3), (17, .aload_n 2, 1), (18, .iload_n 3, 1), (19, .iinc 3 1, 3), (22, .aload_n 0, 1), (23, .iload_n 1, 1), (24, .iinc 1 1, 3), (27, .baload, 1), (28, .sipush 255, 3), (31, .iand, 1), (32, .invokestatic 111, 3), (35, .iinc 5 1, 3), (38, .goto (-28), 3), (41, .return_, 1)]
theorem D61 : DecAll jdk_52_method_86_code LI61 := by unfold DecAll; decide +kernel
def LI62 : List (Nat × Instr × Nat) := [(0, .aload_n 0, 1), (1, .invokevirtual 335, 3), (4, .iload_n 3, 1), (5, .if_icmp .ne 23, 3), (8, .aload_n 0, 1), (9, .getfield 9, 3), (12, .iconst 0, 1), (13, .aload_n 1, 1), (14, .iload_n 2, 1), (15, .iload_n 3, 1), (16, .ishl, 1), (17, .aload_n 0, 1), (18, .getfield 9, 3), (21, .arraylength, 1), (22, .invokestatic 212, 3), (25, .goto 18, 3), (28, .aload_n 0, 1), (29, .getfield 9, 3), (32, .iconst 0, 1), (33, .aload_n 1, 1), (34, .iload_n 2, 1), (35, .aload_n 0, 1), (36, .getfield 9, 3), (39, .arraylength, 1), (40, .invokestatic 106, 3), (43, .return_, 1)]
theorem D62 : DecAll jdk_42_method_147_code LI62 := by unfold DecAll; decide +kernel
def LI63 : List (Nat × Instr × Nat) := [(0, .aload_n 0, 1), (1, .iload_n 1, 1), (2, .invokespecial 53, 3), (5, .pop, 1), (6, .aload_n 0, 1), (7, .areturn, 1)]
theorem D63 : DecAll jdk_67_method_15_code LI63 := by unfold DecAll; decide +kernel
theorem pd_49 : parseMethodDescriptor "(I)Ljava/lang/AbstractStringBuilder;" = some ⟨[.int], some (.object "java/lang/AbstractStringBuilder")⟩ := by decide +kernel
def LI64 : List (Nat × Instr × Nat) := [(0, .aload_n 0, 1), (1, .getfield 79, 3), (4, .istore_n 2, 1), (5, .iload_n 2, 1), (6, .iload_n 1, 1), (7, .invokestatic 245, 3), (10, .iadd, 1), (11, .istore_n 3, 1), (12, .aload_n 0, 1), (13, .iload_n 3, 1), (14, .invokevirtual 100, 3), (17, .aload_n 0, 1), (18, .invokevirtual 83, 3), (21, .ifCond .eq 16, 3), (24, .iload_n 1, 1), (25, .iload_n 3, 1), (26, .aload_n 0, 1), (27, .getfield 15, 3), (30, .invokestatic 248, 3), (33, .pop, 1), (34, .goto 14, 3), (37, .iload_n 1, 1), (38, .iload_n 2, 1), (39, .iload_n 3, 1), (40, .aload_n 0, 1), (41, .getfield 15, 3), (44, .invokestatic 251, 3), (47, .pop, 1), (48, .aload_n 0, 1), (49, .iload_n 3, 1), (50, .putfield 79, 3), (53, .aload_n 0, 1), (54, .areturn, 1)]
theorem D64 : DecAll jdk_68_method_32_code LI64 := by unfold DecAll; decide +kernel
theorem pd_50 : parseMethodDescriptor "(II[B)I" = some ⟨[.int, .int, (.array .byte)], some .int⟩ := by decide +kernel
theorem pd_51 : parseMethodDescriptor "(III[B)I" = some ⟨[.int, .int, .int, (.array .byte)], some .int⟩ := by decide +kernel
def LI65 : List (Nat × Instr × Nat) := [(0, .iconst 1, 1), (1, .istore_n 1, 1), (2, .iload_n 0, 1), (3, .ifCond .lt 8, 3), (6, .iconst 0, 1), (7, .istore_n 1, 1), (8, .iload_n 0, 1), (9, .ineg, 1), (10, .istore_n 0, 1), (11, .bipush (-10), 2), (13, .istore_n 2, 1), (14, .iconst 1, 1), (15, .istore_n 3, 1), (16, .iload_n 3, 1), (17, .bipush 10, 2), (19, .if_icmp .ge 23, 3), (22, .iload_n 0, 1), (23, .iload_n 2, 1), (24, .if_icmp .le 7, 3), (27, .iload_n 3, 1), (28, .iload_n 1, 1), (29, .iadd, 1), (30, .ireturn, 1), (31, .bipush 10, 2), (33, .iload_n 2, 1), (34, .imul, 1), (35, .istore_n 2, 1), (36, .iinc 3 1, 3), (39, .goto (-23), 3), (42, .bipush 10, 2), (44, .iload_n 1, 1), (45, .iadd, 1), (46, .ireturn, 1)]
theorem D65 : DecAll jdk_33_method_13_code LI65 := by unfold DecAll; decide +kernel
theorem pn_12 : plainName "java/lang/Integer" = true := by first | (simp [plainName, overriddenIn]; done) | decide +kernel
def LI66 : List (Nat × Instr × Nat) := [(0, .iload_n 1, 1), (1, .iload_n 2, 1), (2, .aload_n 3, 1), (3, .invokestatic 96, 3), (6, .iload_n 0, 1), (7, .iload_n 2, 1), (8, .aload_n 3, 1), (9, .invokestatic 393, 3), (12, .istore 4, 2), (14, .getstatic 44, 3), (17, .ifCond .ne 17, 3), (20, .iload_n 1, 1), (21, .iload 4, 2), (23, .if_icmp .eq 11, 3), (26, .new 52, 3), (29, .dup, 1), (30, .invokespecial 66, 3), (33, .athrow, 1), (34, .iload 4, 2), (36, .ireturn, 1)]
theorem D66 : DecAll jdk_52_method_77_code LI66 := by unfold DecAll; decide +kernel
def LI67 : List (Nat × Instr × Nat) := [(0, .iload_n 0, 1), (1, .iload_n 1, 1), (2, .aload_n 2, 1), (3, .invokestatic 48, 3), (6, .invokestatic 241, 3), (9, .return_, 1)]
theorem D67 : DecAll jdk_52_method_93_code LI67 := by unfold DecAll; decide +kernel
def LI68 : List (Nat × Instr × Nat) := [(0, .iload_n 1, 1), (1, .istore 5, 2), (3, .iload_n 0, 1), (4, .ifCond .ge 7, 3), (7, .iconst 1, 1), (8, .goto 4, 3), (11, .iconst 0, 1), (12, .istore 6, 2), (14, .iload 6, 2), (16, .ifCond .ne 6, 3), (19, .iload_n 0, 1), (20, .ineg, 1), (21, .istore_n 0, 1), (22, .iload_n 0, 1), (23, .bipush (-100), 2), (25, .if_icmp .gt 51, 3), (28, .iload_n 0, 1), (29, .bipush 100, 2), (31, .idiv, 1), (32, .istore_n 3, 1), (33, .iload_n 3, 1), (34, .bipush 100, 2), (36, .imul, 1), (37, .iload_n 0, 1), (38, .isub, 1), (39, .istore 4, 2), (41, .iload_n 3, 1), (42, .istore_n 0, 1), (43, .aload_n 2, 1), (44, .iinc 5 (-1), 3), (47, .iload 5, 2), (49, .getstatic 403, 3), (52, .iload 4, 2), (54, .baload, 1), (55, .invokestatic 111, 3), (58, .aload_n 2, 1), (59, .iinc 5 (-1), 3), (62, .iload 5, 2), (64, .getstatic 407, 3), (67, .iload 4, 2), (69, .baload, 1), (70, .invokestatic 111, 3), (73, .goto (-51), 3), (76, .aload_n 2, 1), (77, .iinc 5 (-1), 3), (80, .iload 5, 2), (82, .getstatic 403, 3), (85, .iload_n 0, 1), (86, .ineg, 1), (87, .baload, 1), (88, .invokestatic 111, 3), (91, .iload_n 0, 1), (92, .bipush (-9), 2), (94, .if_icmp .ge 18, 3), (97, .aload_n 2, 1), (98, .iinc 5 (-1), 3), (101, .iload 5, 2), (103, .getstatic 407, 3), (106, .iload_n 0, 1), (107, .ineg, 1), (108, .baload, 1), (109, .invokestatic 111, 3), (112, .iload 6, 2), (114, .ifCond .eq 14, 3), (117, .aload_n 2, 1), (118, .iinc 5 (-1), 3), (121, .iload 5, 2), (123, .bipush 45, 2), (125, .invokestatic 111, 3), (128, .iload 5, 2), (130, .ireturn, 1)]
theorem D68 : DecAll jdk_52_method_89_code LI68 := by unfold DecAll; decide +kernel
def LI69 : List (Nat × Instr × Nat) := [(0, .new 18, 3), (3, .dup, 1), (4, .aload_n 0, 1), (5, .invokespecial 137, 3), (8, .areturn, 1)]
theorem D69 : DecAll jdk_67_method_42_code LI69 := by unfold DecAll; decide +kernel
theorem pd_52 : parseMethodDescriptor "(Ljava/lang/StringBuilder;)V" = some ⟨[(.object "java/lang/StringBuilder")], none⟩ := by decide +kernel
def LI70 : List (Nat × Instr × Nat) := [(0, .aload_n 0, 1), (1, .aload_n 1, 1), (2, .aconst_null, 1), (3, .invokespecial 489, 3), (6, .return_, 1)]
theorem D70 : DecAll jdk_42_method_53_code LI70 := by unfold DecAll; decide +kernel
theorem pd_53 : parseMethodDescriptor "(Ljava/lang/AbstractStringBuilder;Ljava/lang/Void;)V" = some ⟨[(.object "java/lang/AbstractStringBuilder"), (.object "java/lang/Void")], none⟩ := by decide +kernel
def LI71 : List (Nat × Instr × Nat) := [(0, .aload_n 0, 1), (1, .invokespecial 1, 3), (4, .aload_n 1, 1), (5, .invokevirtual 552, 3), (8, .astore_n 3, 1), (9, .aload_n 1, 1), (10, .invokevirtual 549, 3), (13, .istore 4, 2), (15, .aload_n 1, 1), (16, .invokevirtual 1047, 3), (19, .ifCond .eq 22, 3), (22, .aload_n 0, 1), (23, .iconst 0, 1), (24, .putfield 15, 3), (27, .aload_n 0, 1), (28, .aload_n 3, 1), (29, .iconst 0, 1), (30, .iload 4, 2), (32, .invokestatic 54, 3), (35, .putfield 9, 3), (38, .goto 59, 3), (41, .getstatic 38, 3), (44, .ifCond .eq 35, 3), (47, .aload_n 1, 1), (48, .getfield 1048, 3), (51, .ifCond .eq 28, 3), (54, .aload_n 0, 1), (55, .aload_n 3, 1), (56, .iconst 0, 1), (57, .iload 4, 2), (59, .invokestatic 1051, 3), (62, .putfield 9, 3), (65, .aload_n 0, 1), (66, .aload_n 0, 1), (67, .getfield 9, 3), (70, .iload 4, 2), (72, .invokestatic 47, 3), (75, .putfield 15, 3), (78, .return_, 1), (79, .aload_n 0, 1), (80, .iconst 1, 1), (81, .putfield 15, 3), (84, .aload_n 0, 1), (85, .aload_n 3, 1), (86, .iconst 0, 1), (87, .iload 4, 2), (89, .iconst 1, 1), (90, .ishl, 1), (91, .invokestatic 54, 3), (94, .putfield 9, 3), (97, .return_, 1)]
theorem D71 : DecAll jdk_42_method_150_code LI71 := by unfold DecAll; decide +kernel
theorem pd_54 : parseMethodDescriptor "()[B" = some ⟨[], some (.array .byte)⟩ := by decide +kernel
def LI72 : List (Nat × Instr × Nat) := [(0, .aload_n 0, 1), (1, .getfield 15, 3), (4, .areturn, 1)]
theorem D72 : DecAll jdk_68_method_64_code LI72 := by unfold DecAll; decide +kernel
def LI73 : List (Nat × Instr × Nat) := [(0, .aload_n 0, 1), (1, .invokespecial 343, 3), (4, .ireturn, 1)]
theorem D73 : DecAll jdk_67_method_93_code LI73 := by unfold DecAll; decide +kernel
def LI74 : List (Nat × Instr × Nat) := [(0, .aload_n 0, 1), (1, .getfield 79, 3), (4, .ireturn, 1)]
theorem D74 : DecAll jdk_68_method_6_code LI74 := by unfold DecAll; decide +kernel
def LI75 : List (Nat × Instr × Nat) := [(0, .aload_n 0, 1), (1, .iload_n 1, 1), (2, .bipush 46, 2), (4, .castore, 1), (5, .aload_n 0, 1), (6, .iload_n 1, 1), (7, .iconst 1, 1), (8, .iadd, 1), (9, .bipush 46, 2), (11, .castore, 1), (12, .aload_n 0, 1), (13, .iload_n 1, 1), (14, .iconst 2, 1), (15, .iadd, 1), (16, .bipush 46, 2), (18, .castore, 1), (19, .aload_n 0, 1), (20, .iload_n 1, 1), (21, .iconst 3, 1), (22, .iadd, 1), (23, .bipush 32, 2), (25, .castore, 1), (26, .aload_n 0, 1), (27, .iload_n 1, 1), (28, .iconst 4, 1), (29, .iadd, 1), (30, .bipush 40, 2), (32, .castore, 1), (33, .iload_n 1, 1), (34, .iconst 5, 1), (35, .iadd, 1), (36, .istore 4, 2), (38, .iload_n 3, 1), (39, .iconst 4, 1), (40, .if_icmp .ne 22, 3), (43, .aload_n 0, 1), (44, .iload 4, 2), (46, .bipush 48, 2), (48, .iload_n 2, 1), (49, .sipush 1000, 3), (52, .idiv, 1), (53, .bipush 10, 2), (55, .irem, 1), (56, .iadd, 1), (57, .i2c, 1), (58, .castore, 1), (59, .iinc 4 1, 3), (62, .iload_n 3, 1), (63, .iconst 3, 1), (64, .if_icmp .lt 21, 3), (67, .aload_n 0, 1), (68, .iload 4, 2), (70, .bipush 48, 2), (72, .iload_n 2, 1), (73, .bipush 100, 2), (75, .idiv, 1), (76, .bipush 10, 2), (78, .irem, 1), (79, .iadd, 1), (80, .i2c, 1), (81, .castore, 1), (82, .iinc 4 1, 3), (85, .aload_n 0, 1), (86, .iload 4, 2), (88, .bipush 48, 2), (90, .iload_n 2, 1), (91, .bipush 10, 2), (93, .idiv, 1), (94, .bipush 10, 2), (96, .irem, 1), (97, .iadd, 1), (98, .i2c, 1), (99, .castore, 1), (100, .aload_n 0, 1), (101, .iload 4, 2), (103, .iconst 1, 1), (104, .iadd, 1), (105, .bipush 48, 2), (107, .iload_n 2, 1), (108, .bipush 10, 2), (110, .irem, 1), (111, .iadd, 1), (112, .i2c, 1), (113, .castore, 1), (114, .iinc 4 2, 3), (117, .aload_n 0, 1), (118, .iload 4, 2), (120, .bipush 32, 2), (122, .castore, 1), (123, .aload_n 0, 1), (124, .iload 4, 2), (126, .iconst 1, 1), (127, .iadd, 1), (128, .bipush 99, 2), (130, .castore, 1), (131, .aload_n 0, 1), (132, .iload 4, 2), (134, .iconst 2, 1), (135, .iadd, 1), (136, .bipush 104, 2), (138, .castore, 1), (139, .aload_n 0, 1), (140, .iload 4, 2), (142, .iconst 3, 1), (143, .iadd, 1), (144, .bipush 97, 2), (146, .castore, 1), (147, .aload_n 0, 1), (148, .iload 4, 2), (150, .iconst 4, 1), (151, .iadd, 1), (152, .bipush 114, 2), (154, .castore, 1), (155, .aload_n 0, 1), (156, .iload 4, 2), (158, .iconst 5, 1), (159, .iadd, 1), (160, .bipush 97, 2), (162, .castore, 1), (163, .aload_n 0, 1), (164, .iload 4, 2), (166, .bipush 6, 2), (168, .iadd, 1), (169, .bipush 99, 2), (171, .castore, 1), (172, .aload_n 0, 1), (173, .iload 4, 2), (175, .bipush 7, 2), (177, .iadd, 1), (178, .bipush 116, 2), (180, .castore, 1), (181, .aload_n 0, 1), (182, .iload 4, 2), (184, .bipush 8, 2), (186, .iadd, 1), (187, .bipush 101, 2), (189, .castore, 1), (190, .aload_n 0, 1), (191, .iload 4, 2), (193, .bipush 9, 2), (195, .iadd, 1), (196, .bipush 114, 2), (198, .castore, 1), (199, .aload_n 0, 1), (200, .iload 4, 2), (202, .bipush 10, 2), (204, .iadd, 1), (205, .bipush 115, 2), (207, .castore, 1), (208, .aload_n 0, 1), (209, .iload 4, 2), (211, .bipush 11, 2), (213, .iadd, 1), (214, .bipush 41, 2), (216, .castore, 1), (217, .return_, 1)]
theorem D75 : DecAll method_5_code LI75 := by unfold DecAll; decide +kernel
def LI76 : List (Nat × Instr × Nat) := [(0, .aload_n 0, 1), (1, .arraylength, 1), (2, .aload_n 1, 1), (3, .arraylength, 1), (4, .if_icmp .ne 30, 3), (7, .iconst 0, 1), (8, .istore_n 2, 1), (9, .iload_n 2, 1), (10, .aload_n 0, 1), (11, .arraylength, 1), (12, .if_icmp .ge 20, 3), (15, .aload_n 0, 1), (16, .iload_n 2, 1), (17, .baload, 1), (18, .aload_n 1, 1), (19, .iload_n 2, 1), (20, .baload, 1), (21, .if_icmp .eq 5, 3), (24, .iconst 0, 1), (25, .ireturn, 1), (26, .iinc 2 1, 3), (29, .goto (-20), 3), (32, .iconst 1, 1), (33, .ireturn, 1), (34, .iconst 0, 1), (35, .ireturn, 1)]
theorem D76 : DecAll jdk_43_method_13_code LI76 := by unfold DecAll; decide +kernel
def LI77 : List (Nat × Instr × Nat) := [(0, .iload_n 1, 1), (1, .aload_n 0, 1), (2, .arraylength, 1), (3, .invokestatic 9, 3), (6, .aload_n 0, 1), (7, .iload_n 1, 1), (8, .baload, 1), (9, .sipush 255, 3), (12, .iand, 1), (13, .i2c, 1), (14, .ireturn, 1)]
theorem D77 : DecAll jdk_43_method_2_code LI77 := by unfold DecAll; decide +kernel
def LI78 : List (Nat × Instr × Nat) := [(0, .iload_n 2, 1), (1, .ifCond .ne 6, 3), (4, .ldc 151, 2), (6, .areturn, 1), (7, .new 1, 3), (10, .dup, 1), (11, .aload_n 0, 1), (12, .iload_n 1, 1), (13, .iload_n 1, 1), (14, .iload_n 2, 1), (15, .iadd, 1), (16, .invokestatic 232, 3), (19, .iconst 0, 1), (20, .invokespecial 112, 3), (23, .areturn, 1)]
theorem D78 : DecAll jdk_43_method_47_code LI78 := by unfold DecAll; decide +kernel
def LI79 : List (Nat × Instr × Nat) := [(0, .iload_n 1, 1), (1, .istore 5, 2), (3, .iload_n 0, 1), (4, .ifCond .ge 7, 3), (7, .iconst 1, 1), (8, .goto 4, 3), (11, .iconst 0, 1), (12, .istore 6, 2), (14, .iload 6, 2), (16, .ifCond .ne 6, 3), (19, .iload_n 0, 1), (20, .ineg, 1), (21, .istore_n 0, 1), (22, .iload_n 0, 1), (23, .bipush (-100), 2), (25, .if_icmp .gt 47, 3), (28, .iload_n 0, 1), (29, .bipush 100, 2), (31, .idiv, 1), (32, .istore_n 3, 1), (33, .iload_n 3, 1), (34, .bipush 100, 2), (36, .imul, 1), (37, .iload_n 0, 1), (38, .isub, 1), (39, .istore 4, 2), (41, .iload_n 3, 1), (42, .istore_n 0, 1), (43, .aload_n 2, 1), (44, .iinc 5 (-1), 3), (47, .iload 5, 2), (49, .getstatic 83, 3), (52, .iload 4, 2), (54, .baload, 1), (55, .bastore, 1), (56, .aload_n 2, 1), (57, .iinc 5 (-1), 3), (60, .iload 5, 2), (62, .getstatic 87, 3), (65, .iload 4, 2), (67, .baload, 1), (68, .bastore, 1), (69, .goto (-47), 3), (72, .aload_n 2, 1), (73, .iinc 5 (-1), 3), (76, .iload 5, 2), (78, .getstatic 83, 3), (81, .iload_n 0, 1), (82, .ineg, 1), (83, .baload, 1), (84, .bastore, 1), (85, .iload_n 0, 1), (86, .bipush (-9), 2), (88, .if_icmp .ge 16, 3), (91, .aload_n 2, 1), (92, .iinc 5 (-1), 3), (95, .iload 5, 2), (97, .getstatic 87, 3), (100, .iload_n 0, 1), (101, .ineg, 1), (102, .baload, 1), (103, .bastore, 1), (104, .iload 6, 2), (106, .ifCond .eq 12, 3), (109, .aload_n 2, 1), (110, .iinc 5 (-1), 3), (113, .iload 5, 2), (115, .bipush 45, 2), (117, .bastore, 1), (118, .iload 5, 2), (120, .ireturn, 1)]
theorem D79 : DecAll jdk_33_method_12_code LI79 := by unfold DecAll; decide +kernel
abbrev SA1 (Z : State) : Prop := Sta Z Z.heap "java/lang/StringUTF16" "$assertionsDisabled" "Z" (.int 1)
abbrev SHS (Z : State) : Prop := Sta Z Z.heap "java/lang/StringUTF16" "HI_BYTE_SHIFT" "I" (.int 0)
abbrev SLS (Z : State) : Prop := Sta Z Z.heap "java/lang/StringUTF16" "LO_BYTE_SHIFT" "I" (.int 8)
abbrev SO4 (Z : State) (G3 : Value) : Prop := Sta Z Z.heap "jdk/internal/util/Preconditions" "SIOOBE_FORMATTER" "Ljava/util/function/BiFunction;" G3
abbrev SO2 (Z : State) (G1 : Int32) : Prop := Sta Z Z.heap "java/lang/String" "COMPACT_STRINGS" "Z" (.int G1)
/-- the two bytes that putChar lays -/
def lo16 (c : Int32) : Int32 := nar .byte ((c >>> ((0 : Int32) &&& 31)).toInt8.toInt32)
def hi16 (c : Int32) : Int32 := nar .byte ((c >>> ((8 : Int32) &&& 31)).toInt8.toInt32)
/-- the char that getChar reads of two bytes -/
def ch16 (x y : Int32) : Int32 := ((((x &&& (255 : Int32)) <<< ((0 : Int32) &&& 31)) ||| ((y &&& (255 : Int32)) <<< ((8 : Int32) &&& 31)))).toUInt32.toUInt16.toUInt32.toInt32
theorem nar_i2c (z : Int32) : narrow .char (.int (z.toUInt32.toUInt16.toUInt32.toInt32)) = .int (z.toUInt32.toUInt16.toUInt32.toInt32) := by
  have q : ∀ u : UInt32, u % 65536 % 65536 = u % 65536 := fun u => by apply UInt32.toNat_inj.mp; simp
  simp [narrow, q]
theorem u_i8 (z : Int32) : z.toInt8.toInt32.toInt8.toInt32 &&& 255 = z &&& 255 := by
  apply Int32.toBitVec_inj.mp
  apply BitVec.eq_of_getLsbD_eq
  intro i hi
  have h255 : ∀ i, i < 32 → (255#32).getLsbD i = decide (i < 8) := by decide
  simp only [Int32.toBitVec_and, BitVec.getLsbD_and]
  have e : (Int32.toBitVec 255).getLsbD i = decide (i < 8) := h255 i hi
  rw [e]
  by_cases h8 : i < 8
  · simp [h8, hi, BitVec.getElem_signExtend, BitVec.getLsbD_eq_getElem]
  · simp [h8]
theorem u_s0 (x : Int32) : x >>> ((0 : Int32) &&& 31) = x := by
  apply Int32.toBitVec_inj.mp
  simp
theorem u_l0 (x : Int32) : x <<< ((0 : Int32) &&& 31) = x := by
  apply Int32.toBitVec_inj.mp
  simp
theorem u_s8 (x : Int32) : (x >>> ((8 : Int32) &&& 31)).toBitVec = x.toBitVec.sshiftRight 8 := by
  rfl
theorem u_l8 (x : Int32) : (x <<< ((8 : Int32) &&& 31)).toBitVec = x.toBitVec <<< 8 := by
  rfl
theorem cc16 {c : Int32} (h : ¬ c < 0 ∧ ¬ (65535 : Int32) < c) : ch16 (lo16 c) (hi16 c) = c := by
  show (((((c >>> ((0 : Int32) &&& 31)).toInt8.toInt32).toInt8.toInt32 &&& (255 : Int32)) <<< ((0 : Int32) &&& 31)) ||| ((((c >>> ((8 : Int32) &&& 31)).toInt8.toInt32).toInt8.toInt32 &&& (255 : Int32)) <<< ((8 : Int32) &&& 31))).toUInt32.toUInt16.toUInt32.toInt32 = c
  rw [u_i8, u_i8, u_s0, u_l0]
  have hz : c.toBitVec.toNat < 65536 := by
    have h1 := h.1; have h2 := h.2
    rw [Int32.lt_iff_toInt_lt] at h1 h2
    have e1 : (0 : Int32).toInt = 0 := rfl
    have e2 : (65535 : Int32).toInt = 65535 := rfl
    rw [e1] at h1; rw [e2] at h2
    have e3 : c.toInt = c.toBitVec.toInt := rfl
    rw [e3, BitVec.toInt_eq_toNat_cond] at h1 h2
    have := c.toBitVec.isLt
    split at h1 <;> omega
  apply Int32.toBitVec_inj.mp
  apply BitVec.eq_of_getLsbD_eq
  intro i hi
  have h255 : ∀ i, i < 32 → (255#32).getLsbD i = decide (i < 8) := by decide
  have hT : ∀ i, 16 ≤ i → c.toBitVec.getLsbD i = false := fun i h16 => by
    rw [BitVec.getLsbD]
    exact Nat.testBit_lt_two_pow (Nat.lt_of_lt_of_le hz (by show 2 ^ 16 ≤ 2 ^ i; exact Nat.pow_le_pow_right (by decide) h16))
  have e : ∀ i, i < 32 → (Int32.toBitVec 255).getLsbD i = decide (i < 8) := h255
  have f : ∀ z : Int32, z.toUInt32.toUInt16.toUInt32.toInt32.toBitVec = (z.toBitVec.setWidth 16).setWidth 32 := fun z => rfl
  rw [f, BitVec.getLsbD_setWidth, BitVec.getLsbD_setWidth, Int32.toBitVec_or, BitVec.getLsbD_or, Int32.toBitVec_and, BitVec.getLsbD_and, e i hi, u_l8, BitVec.getLsbD_shiftLeft, Int32.toBitVec_and, BitVec.getLsbD_and, u_s8, BitVec.getLsbD_sshiftRight]
  by_cases h16 : 16 ≤ i
  · rw [hT i h16]; simp; omega
  · by_cases h8 : i < 8
    · simp [h8, hi]; omega
    · have e2 := e (i - 8) (by omega)
      rw [e2]
      have q1 : i - 8 < 8 := by omega
      have q2 : 8 + (i - 8) = i := by omega
      have q3 : i < 16 := by omega
      have q4 : ¬ (32 ≤ i - 8) := by omega
      simp [h8, hi, q1, q2, q3, q4]
theorem low16 {c : Int32} (h : ¬ c < 0 ∧ ¬ (65535 : Int32) < c) : c.toBitVec.toNat < 65536 := by
  have h1 := h.1; have h2 := h.2
  rw [Int32.lt_iff_toInt_lt] at h1 h2
  have e1 : (0 : Int32).toInt = 0 := rfl
  have e2 : (65535 : Int32).toInt = 65535 := rfl
  rw [e1] at h1; rw [e2] at h2
  have e3 : c.toInt = c.toBitVec.toInt := rfl
  rw [e3, BitVec.toInt_eq_toNat_cond] at h1 h2
  have := c.toBitVec.isLt
  split at h1 <;> omega
theorem i2c_id {c : Int32} (h : ¬ c < 0 ∧ ¬ (65535 : Int32) < c) : c.toUInt32.toUInt16.toUInt32.toInt32 = c := by
  apply Int32.toBitVec_inj.mp
  show (c.toBitVec.setWidth 16).setWidth 32 = c.toBitVec
  apply BitVec.eq_of_toNat_eq
  have := low16 h
  have q := c.toBitVec.isLt
  simp only [BitVec.toNat_setWidth]
  omega
theorem i2c_bd (z : Int32) : ¬ z.toUInt32.toUInt16.toUInt32.toInt32 < 0 ∧ ¬ (65535 : Int32) < z.toUInt32.toUInt16.toUInt32.toInt32 := by
  have e : z.toUInt32.toUInt16.toUInt32.toInt32.toInt = ((z.toBitVec.setWidth 16).setWidth 32).toInt := rfl
  have e1 : (0 : Int32).toInt = 0 := rfl
  have e2 : (65535 : Int32).toInt = 65535 := rfl
  rw [Int32.lt_iff_toInt_lt, Int32.lt_iff_toInt_lt, e, e1, e2, BitVec.toInt_eq_toNat_cond, BitVec.toNat_setWidth, BitVec.toNat_setWidth]
  have := z.toBitVec.isLt
  constructor <;> split <;> omega
theorem lat_and {c : Int32} (h : ¬ c < 0 ∧ ¬ (255 : Int32) < c) : (c.toInt8.toInt32 &&& 255).toUInt32.toUInt16.toUInt32.toInt32 = c := by
  have hz : c.toBitVec.toNat < 256 := by
    have h1 := h.1; have h2 := h.2
    rw [Int32.lt_iff_toInt_lt] at h1 h2
    have e1 : (0 : Int32).toInt = 0 := rfl
    have e2 : (255 : Int32).toInt = 255 := rfl
    rw [e1] at h1; rw [e2] at h2
    have e3 : c.toInt = c.toBitVec.toInt := rfl
    rw [e3, BitVec.toInt_eq_toNat_cond] at h1 h2
    have := c.toBitVec.isLt
    split at h1 <;> omega
  have hb : ¬ c < 0 ∧ ¬ (65535 : Int32) < c := by
    refine ⟨h.1, fun q => h.2 ?_⟩
    rw [Int32.lt_iff_toInt_lt] at q ⊢
    have e2 : (255 : Int32).toInt = 255 := rfl
    have e3 : (65535 : Int32).toInt = 65535 := rfl
    omega
  have k : c.toInt8.toInt32 &&& 255 = c := by
    apply Int32.toBitVec_inj.mp
    apply BitVec.eq_of_getLsbD_eq
    intro i hi
    have h255 : ∀ i, i < 32 → (255#32).getLsbD i = decide (i < 8) := by decide
    simp only [Int32.toBitVec_and, BitVec.getLsbD_and]
    have e : (Int32.toBitVec 255).getLsbD i = decide (i < 8) := h255 i hi
    rw [e]
    by_cases h8 : i < 8
    · simp [h8, hi, BitVec.getElem_signExtend, BitVec.getLsbD_eq_getElem]
    · have : c.toBitVec.getLsbD i = false := by
        rw [BitVec.getLsbD]
        exact Nat.testBit_lt_two_pow (Nat.lt_of_lt_of_le hz (by show 2 ^ 8 ≤ 2 ^ i; exact Nat.pow_le_pow_right (by decide) (by omega)))
      rw [this]; simp [h8]
  rw [k, i2c_id hb]
theorem kand (z : Int32) : (z &&& 1) = 0 ∨ (z &&& 1) = 1 := by
  by_cases h : (z.toBitVec.getLsbD 0) = true
  · right
    apply Int32.toBitVec_inj.mp
    apply BitVec.eq_of_getLsbD_eq
    intro i hi
    have h1 : ∀ i, i < 32 → (1#32).getLsbD i = decide (i = 0) := by decide
    have e : (Int32.toBitVec 1).getLsbD i = decide (i = 0) := h1 i hi
    rw [Int32.toBitVec_and, BitVec.getLsbD_and, e]
    by_cases q : i = 0
    · subst q; simp [h]
    · simp [q]
  · left
    apply Int32.toBitVec_inj.mp
    apply BitVec.eq_of_getLsbD_eq
    intro i hi
    have h1 : ∀ i, i < 32 → (1#32).getLsbD i = decide (i = 0) := by decide
    have e : (Int32.toBitVec 1).getLsbD i = decide (i = 0) := h1 i hi
    rw [Int32.toBitVec_and, BitVec.getLsbD_and, e]
    by_cases q : i = 0
    · subst q; simp; simpa using h
    · simp [q]
theorem mod4 (z : Int32) : (z &&& 2147483647) % 4 = 0 ∨ (z &&& 2147483647) % 4 = 1 ∨ (z &&& 2147483647) % 4 = 2 ∨ (z &&& 2147483647) % 4 = 3 := by
  have hb : (z &&& 2147483647).toBitVec.toNat < 2147483648 := by
    rw [Int32.toBitVec_and, BitVec.toNat_and]
    exact Nat.lt_succ_of_le Nat.and_le_right
  have h0 : 0 ≤ (z &&& 2147483647).toInt := by
    have e3 : (z &&& 2147483647).toInt = (z &&& 2147483647).toBitVec.toInt := rfl
    rw [e3, BitVec.toInt_eq_toNat_cond]; split <;> omega
  have hm : ((z &&& 2147483647) % 4).toInt = (z &&& 2147483647).toInt % 4 := by
    rw [Int32.toInt_mod, Int.tmod_eq_emod_of_nonneg h0]; rfl
  have k : ∀ (u : Int32) (i : Int) (v : Int32), v.toInt = i → u.toInt = i → u = v := fun u i v h1 h2 => Int32.toInt_inj.mp (h2.trans h1.symm)
  have : (z &&& 2147483647).toInt % 4 = 0 ∨ (z &&& 2147483647).toInt % 4 = 1 ∨ (z &&& 2147483647).toInt % 4 = 2 ∨ (z &&& 2147483647).toInt % 4 = 3 := by omega
  rcases this with q | q | q | q
  · exact Or.inl (k _ 0 _ rfl (hm.trans q))
  · exact Or.inr (Or.inl (k _ 1 _ rfl (hm.trans q)))
  · exact Or.inr (Or.inr (Or.inl (k _ 2 _ rfl (hm.trans q))))
  · exact Or.inr (Or.inr (Or.inr (k _ 3 _ rfl (hm.trans q))))
theorem nar_c {c : Int32} (h : ¬ c < 0 ∧ ¬ (65535 : Int32) < c) : nar .char c = c := by
  show c.toUInt32.toUInt16.toUInt32.toInt32 = c
  exact i2c_id h
theorem bd_lat {c : Int32} (h : ¬ c < 0 ∧ ¬ (65535 : Int32) < c) (g : ¬ (255 : Int32) < c) : ¬ c < 0 ∧ ¬ (255 : Int32) < c := ⟨h.1, g⟩
theorem sta_eqI {args : Array Value} {s : State} {t : Term} {z : Int32} (h : (Cond.eq t (Term.int z)).value args s none s [] = some true) : t.eval args s none [] s = some (.int z) := by
  simp only [Cond.value, Term.eval] at h
  cases ht : t.eval args s none [] s with
  | none => simp [ht] at h
  | some x => cases x <;> simp [ht] at h ⊢; exact h
theorem start_arv {s : State} {args : Array Value} {t : Term} {a : Addr} {c : Cell} {ty : FieldType} {z : Int32} {vs : List Value} {dv : Value} (hf : Fit s) (ev : t.eval args s none [] s = some (.ref a)) (A : Arr s s.heap a c ty) (hl : (Term.length t).eval args s none [] s = some (.int z)) (hz : ¬ z < 0) (hn : z.toNatClampNeg = vs.length) (H : HasL c 0 vs) : Arv s s.heap a c.cls ty z vs dv := by
  have har : s.arrayAt? a = some c := Arr.fin (Vm.Alike.refl _) A
  simp only [Term.eval, ev, har, Option.bind_eq_bind, Option.bind_some] at hl
  by_cases hb : c.slots.size < 2 ^ 31
  · simp [hb] at hl
    exact Arv.start hf A hb hl hz hn H
  · simp [hb] at hl
def utfL : List Int32 → List Value
  | [] => []
  | c :: r => .int (lo16 c) :: .int (hi16 c) :: utfL r
def latL (cs : List Int32) : List Value := (cs.map fun c => c.toInt8.toInt32).map Value.int
def ch8 (x : Int32) : Int32 := x &&& (255 : Int32)
theorem utf_len : ∀ cs : List Int32, (utfL cs).length = 2 * cs.length
  | [] => rfl
  | _ :: r => by rw [utfL, List.length_cons, List.length_cons, utf_len r, List.length_cons]; omega
theorem utf_app : ∀ a b : List Int32, utfL (a ++ b) = utfL a ++ utfL b
  | [], _ => rfl
  | _ :: r, b => by rw [List.cons_append, utfL, utf_app r b]; rfl
theorem lat_len (cs : List Int32) : (latL cs).length = cs.length := by simp [latL]
theorem lat_app (a b : List Int32) : latL (a ++ b) = latL a ++ latL b := by simp [latL]
theorem set_mid {α : Type} (us ws : List α) (x v : α) {n : Nat} (h : n = us.length) : (us ++ x :: ws).set n v = us ++ v :: ws := by
  subst h; simp
theorem get_mid {α : Type} (us ws : List α) (x d : α) {n : Nat} (h : n = us.length) : (us ++ x :: ws).getD n d = x := by
  subst h; simp
theorem utf_put (us : List Int32) (c : Int32) (m : Nat) (z : Value) : ((utfL us ++ List.replicate (m + 2) z).set (2 * us.length) (.int (lo16 c))).set (2 * us.length + 1) (.int (hi16 c)) = utfL (us ++ [c]) ++ List.replicate m z := by
  rw [List.replicate_succ, List.replicate_succ, set_mid _ _ _ _ (utf_len us).symm]
  rw [show utfL us ++ Value.int (lo16 c) :: z :: List.replicate m z = (utfL us ++ [Value.int (lo16 c)]) ++ z :: List.replicate m z by simp, set_mid _ _ _ _ (by simp [utf_len]), utf_app]
  simp [utfL]
theorem lat_put (us : List Int32) (c : Int32) (m : Nat) (z : Value) {v : Int32} (hv : v = c.toInt8.toInt32) : (latL us ++ List.replicate (m + 1) z).set us.length (.int v) = latL (us ++ [c]) ++ List.replicate m z := by
  rw [List.replicate_succ, set_mid _ _ _ _ (lat_len us).symm, lat_app, hv]
  simp [latL]
theorem o_int {n : Nat} (h : n < 2147483648) : (Int32.ofNat n).toInt = n := Int32.toInt_ofNat_of_lt h
theorem o_nat {n : Nat} (h : n < 2147483648) : (Int32.ofNat n).toNatClampNeg = n := by
  have := o_int h; simp only [Int32.toNatClampNeg, this]; omega
theorem o_nn {n : Nat} (h : n < 2147483648) : ¬ Int32.ofNat n < 0 := by
  rw [Int32.lt_iff_toInt_lt, o_int h]; have : (0 : Int32).toInt = 0 := rfl; omega
theorem o_lt {a b : Nat} (ha : a < 2147483648) (hb : b < 2147483648) : Int32.ofNat a < Int32.ofNat b ↔ a < b := by
  rw [Int32.lt_iff_toInt_lt, o_int ha, o_int hb]; omega
theorem o_in {a b : Nat} (h : a < b) (hb : b < 2147483648) : ¬ Int32.ofNat a < 0 ∧ Int32.ofNat a < Int32.ofNat b := ⟨o_nn (by omega), (o_lt (by omega) hb).2 h⟩
theorem o_ne {a b : Nat} (h : a < b) (hb : b < 2147483648) : ¬ Int32.ofNat a = Int32.ofNat b := fun e => by
  have := congrArg Int32.toInt e; rw [o_int (by omega), o_int hb] at this; omega
theorem o_add (a b : Nat) : Int32.ofNat a + Int32.ofNat b = Int32.ofNat (a + b) := (Int32.ofNat_add a b).symm
theorem o_one (a : Nat) : Int32.ofNat a + (1 : Int32) = Int32.ofNat (a + 1) := o_add a 1
theorem o_sub {a b : Nat} (h : b ≤ a) (ha : a < 2147483648) : Int32.ofNat a - Int32.ofNat b = Int32.ofNat (a - b) := by
  have e : a = (a - b) + b := by omega
  rw [show Int32.ofNat a = Int32.ofNat (a - b) + Int32.ofNat b by rw [o_add, ← e]]
  simp
theorem o_shl (a : Nat) : Int32.ofNat a <<< ((1 : Int32) &&& 31) = Int32.ofNat (2 * a) := by
  apply Int32.toBitVec_inj.mp
  show (BitVec.ofNat 32 a) <<< 1 = BitVec.ofNat 32 (2 * a)
  apply BitVec.eq_of_toNat_eq
  simp [Nat.shiftLeft_eq]
  omega
theorem o_shr {a : Nat} (h : a < 1073741824) : Int32.ofNat (2 * a) >>> ((1 : Int32) &&& 31) = Int32.ofNat a := by
  apply Int32.toBitVec_inj.mp
  show (BitVec.ofNat 32 (2 * a)).sshiftRight 1 = BitVec.ofNat 32 a
  apply BitVec.eq_of_toNat_eq
  rw [BitVec.sshiftRight_eq_of_msb_false (by rw [BitVec.msb_eq_decide]; simp; omega)]
  simp [Nat.shiftRight_eq_div_pow]
  omega
theorem o_shr0 (x : Int32) : x >>> ((0 : Int32) &&& 31) = x := by
  apply Int32.toBitVec_inj.mp
  simp
theorem o_shl0 (x : Int32) : x <<< ((0 : Int32) &&& 31) = x := by
  apply Int32.toBitVec_inj.mp
  simp
theorem at_mid {cs us ws : List Int32} {x : Int32} (h : cs = us ++ x :: ws) (hk : cs.length < 2147483648) : (cs.map Value.int).getD (Int32.ofNat us.length).toNatClampNeg (.int 0) = .int x := by
  subst h
  rw [o_nat (by simp at hk; omega), List.map_append, List.map_cons]
  exact get_mid _ _ _ _ (by simp)
theorem in_mid {cs us ws : List Int32} {x : Int32} (h : cs = us ++ x :: ws) (hk : cs.length < 2147483648) : ¬ Int32.ofNat us.length < 0 ∧ Int32.ofNat us.length < Int32.ofNat cs.length := by
  refine o_in ?_ hk; subst h; simp
theorem snoc_len (us : List Int32) (x : Int32) : Int32.ofNat us.length + (1 : Int32) = Int32.ofNat (us ++ [x]).length := by
  rw [o_one]; simp
theorem snoc_app {cs us ws : List Int32} {x : Int32} (h : cs = us ++ x :: ws) : cs = (us ++ [x]) ++ ws := by rw [h]; simp
theorem all_snoc {us : List Int32} {x : Int32} {P : Int32 → Prop} (h : ∀ c ∈ us, P c) (g : P x) : ∀ c ∈ us ++ [x], P c := fun c hc => by
  rcases List.mem_append.mp hc with q | q
  · exact h c q
  · rw [List.mem_singleton.mp q]; exact g
theorem utf_at {cs us ws : List Int32} {x : Int32} (h : cs = us ++ x :: ws) (hk : cs.length < 1073741824) : (utfL cs).getD (Int32.ofNat (2 * us.length)).toNatClampNeg (.int 0) = .int (lo16 x) ∧ (utfL cs).getD (Int32.ofNat (2 * us.length) + (1 : Int32)).toNatClampNeg (.int 0) = .int (hi16 x) := by
  have hl : us.length < 1073741824 := by subst h; simp at hk; omega
  have e : utfL cs = utfL us ++ .int (lo16 x) :: .int (hi16 x) :: utfL ws := by rw [h, utf_app]; rfl
  rw [o_one, o_nat (by omega), o_nat (by omega), e]
  refine ⟨get_mid _ _ _ _ (utf_len us).symm, ?_⟩
  rw [show utfL us ++ Value.int (lo16 x) :: Value.int (hi16 x) :: utfL ws = (utfL us ++ [Value.int (lo16 x)]) ++ Value.int (hi16 x) :: utfL ws by simp]
  exact get_mid _ _ _ _ (by simp [utf_len])
theorem lat_at {cs us ws : List Int32} {x : Int32} (h : cs = us ++ x :: ws) (hk : cs.length < 1073741824) : (latL cs).getD (Int32.ofNat us.length).toNatClampNeg (.int 0) = .int (x.toInt8.toInt32) := by
  have hl : us.length < 1073741824 := by subst h; simp at hk; omega
  have e : latL cs = latL us ++ .int (x.toInt8.toInt32) :: latL ws := by rw [h, lat_app]; rfl
  rw [o_nat (by omega), e]
  exact get_mid _ _ _ _ (lat_len us).symm
theorem range_all (ys : List Value) (d : Value) {n k : Nat} (h : n = ys.length) (hk : k = 0) : ys = (List.range n).map fun i => ys.getD (k + i) d := by
  subst h hk
  apply List.ext_getElem
  · simp
  · intro i h1 h2; simp [h1]
theorem range_pre (us rs : List Value) (d : Value) {n k : Nat} (h : n = us.length) (hk : k = 0) : us = (List.range n).map fun i => (us ++ rs).getD (k + i) d := by
  subst h hk
  apply List.ext_getElem
  · simp
  · intro i h1 h2
    simp [List.getElem?_append_left h1, h1]
theorem app_copy (bs ys : List Value) (r : Nat) (z : Value) {n m : Nat} (hn : n = bs.length) (hm : m = ys.length) : (bs ++ List.replicate (ys.length + r) z).take n ++ ys ++ (bs ++ List.replicate (ys.length + r) z).drop (n + m) = (bs ++ ys) ++ List.replicate r z := by
  subst hn hm
  simp
theorem take0_copy (us : List Value) (n : Nat) (z : Value) {a b : Nat} (ha : a = 0) (hb : b = us.length) : (List.replicate us.length z).take a ++ us ++ (List.replicate us.length z).drop (a + b) = us := by
  subst ha hb
  simp
theorem sgn_neg {x : Int32} (h : x < 0) : ((x.toUInt32 >>> ((31 : Int32) &&& 31).toUInt32).toInt32).toInt8.toInt32 = 1 := by
  have hx : 2147483648 ≤ x.toBitVec.toNat := by
    rw [Int32.lt_iff_toInt_lt] at h
    have e1 : (0 : Int32).toInt = 0 := rfl
    have e3 : x.toInt = x.toBitVec.toInt := rfl
    rw [e1, e3, BitVec.toInt_eq_toNat_cond] at h
    have := x.toBitVec.isLt
    split at h <;> omega
  have q : (x.toUInt32 >>> ((31 : Int32) &&& 31).toUInt32) = 1 := by
    apply UInt32.toNat_inj.mp
    show (x.toBitVec >>> (31 : Nat)).toNat = 1
    rw [BitVec.toNat_ushiftRight, Nat.shiftRight_eq_div_pow]
    have := x.toBitVec.isLt
    omega
  rw [q]; rfl
theorem nar_i8 (c : Int32) : c.toInt8.toInt32.toInt8.toInt32 = c.toInt8.toInt32 := by simp
theorem o_dbl {k : Nat} (h : 1 ≤ k) (hk : k < 1073741824) : Int32.ofNat k - Int32.ofNat (2 * k) < 0 := by
  rw [Int32.lt_iff_toInt_lt, Int32.toInt_sub, o_int (by omega), o_int (by omega)]
  have e1 : (0 : Int32).toInt = 0 := rfl
  rw [e1, Int.bmod_def]
  have : ((k : Int) - ((2 * k : Nat) : Int)) % (2 ^ 32 : Nat) = 4294967296 - k := by
    omega
  rw [this]
  split <;> omega
theorem or_nn {a b : Nat} (ha : a < 2147483648) (hb : b < 2147483648) : ¬ (((Int32.ofNat a ||| (0 : Int32)) ||| Int32.ofNat b) < (0 : Int32)) := by
  have e : ((Int32.ofNat a ||| (0 : Int32)) ||| Int32.ofNat b).toBitVec.toNat < 2147483648 := by
    rw [Int32.toBitVec_or, BitVec.toNat_or, Int32.toBitVec_or, BitVec.toNat_or]
    have q1 : (Int32.ofNat a).toBitVec.toNat < 2 ^ 31 := by
      show a % 2 ^ 32 < 2 ^ 31
      omega
    have q2 : (Int32.ofNat b).toBitVec.toNat < 2 ^ 31 := by
      show b % 2 ^ 32 < 2 ^ 31
      omega
    exact Nat.or_lt_two_pow (Nat.or_lt_two_pow q1 (by decide)) q2
  rw [Int32.lt_iff_toInt_lt]
  have e1 : (0 : Int32).toInt = 0 := rfl
  have e3 : ((Int32.ofNat a ||| (0 : Int32)) ||| Int32.ofNat b).toInt = ((Int32.ofNat a ||| (0 : Int32)) ||| Int32.ofNat b).toBitVec.toInt := rfl
  rw [e1, e3, BitVec.toInt_eq_toNat_cond]
  split <;> omega
theorem sub_np {a b : Nat} (h : a ≤ b) (hb : b < 1073741824) : ¬ ((0 : Int32) < (Int32.ofNat a - Int32.ofNat b)) := by
  rw [Int32.lt_iff_toInt_lt, Int32.toInt_sub, o_int (by omega), o_int (by omega)]
  have e1 : (0 : Int32).toInt = 0 := rfl
  rw [e1, Int.bmod_def]
  split <;> omega
theorem lat_ch8 {c : Int32} (h : ¬ c < 0 ∧ ¬ (255 : Int32) < c) : c.toInt8.toInt32 &&& 255 = c := by
  have hz : c.toBitVec.toNat < 256 := by
    have h1 := h.1; have h2 := h.2
    rw [Int32.lt_iff_toInt_lt] at h1 h2
    have e1 : (0 : Int32).toInt = 0 := rfl
    have e2 : (255 : Int32).toInt = 255 := rfl
    rw [e1] at h1; rw [e2] at h2
    have e3 : c.toInt = c.toBitVec.toInt := rfl
    rw [e3, BitVec.toInt_eq_toNat_cond] at h1 h2
    have := c.toBitVec.isLt
    split at h1 <;> omega
  apply Int32.toBitVec_inj.mp
  apply BitVec.eq_of_getLsbD_eq
  intro i hi
  have h255 : ∀ i, i < 32 → (255#32).getLsbD i = decide (i < 8) := by decide
  simp only [Int32.toBitVec_and, BitVec.getLsbD_and]
  have e : (Int32.toBitVec 255).getLsbD i = decide (i < 8) := h255 i hi
  rw [e]
  by_cases h8 : i < 8
  · simp [h8, hi, BitVec.getElem_signExtend, BitVec.getLsbD_eq_getElem]
  · have : c.toBitVec.getLsbD i = false := by
      rw [BitVec.getLsbD]
      exact Nat.testBit_lt_two_pow (Nat.lt_of_lt_of_le hz (by show 2 ^ 8 ≤ 2 ^ i; exact Nat.pow_le_pow_right (by decide) (by omega)))
    rw [this]; simp [h8]
theorem map_ch8 : ∀ {cs : List Int32}, (∀ c ∈ cs, ¬ c < 0 ∧ ¬ (255 : Int32) < c) → (cs.map fun c => c.toInt8.toInt32).map ch8 = cs
  | [], _ => rfl
  | c :: r, h => by
    rw [List.map_cons, List.map_cons, map_ch8 fun d hd => h d (List.mem_cons_of_mem _ hd)]
    rw [show ch8 (c.toInt8.toInt32) = c from lat_ch8 (h c (List.mem_cons_self ..))]
theorem utf_put2 (f : Int32 → Int32) (us : List Int32) (c : Int32) (m : Nat) (z : Value) : ((utfL (us.map f) ++ List.replicate (m + 2) z).set (2 * us.length) (.int (lo16 (f c)))).set (2 * us.length + 1) (.int (hi16 (f c))) = utfL ((us ++ [c]).map f) ++ List.replicate m z := by
  have := utf_put (us.map f) (f c) m z
  rw [List.length_map] at this
  rw [this, List.map_append]; rfl
theorem at_mid2 {cs us ws : List Int32} {x : Int32} (rs : List Value) (h : cs = us ++ x :: ws) (hk : cs.length < 2147483648) : (cs.map Value.int ++ rs).getD (Int32.ofNat us.length).toNatClampNeg (.int 0) = .int x := by
  subst h
  rw [o_nat (by simp at hk; omega), List.map_append, List.map_cons, List.append_assoc]
  exact get_mid _ _ _ _ (by simp)
theorem arv_eq {Z : State} {h : Heap} {a : Addr} {k : ClassId} {ty : FieldType} {n : Int32} {vs vs' : List Value} {d : Value} (A : Arv Z h a k ty n vs d) (e : vs = vs') : Arv Z h a k ty n vs' d := e ▸ A
def LatP (cs : List Int32) : Prop := ∀ c ∈ cs, ¬ c < 0 ∧ ¬ (255 : Int32) < c
/-- a String whose chars are cs, by either coder -/
def StrU (Z : State) (h : Heap) (x : Addr) (cs : List Int32) : Prop := ∃ (t : Addr) (kt : ClassId), Exa Z h x "java/lang/String" ∧ Fld Z h x "java/lang/String" "value" "[B" (.ref t) ∧ ((Fld Z h x "java/lang/String" "coder" "B" (.int 0) ∧ LatP cs ∧ Arv Z h t kt .byte (Int32.ofNat cs.length) (latL cs) (.int 0)) ∨ (Fld Z h x "java/lang/String" "coder" "B" (.int 1) ∧ (∃ c ∈ cs, (255 : Int32) < c) ∧ Arv Z h t kt .byte (Int32.ofNat (2 * cs.length)) (utfL cs) (.int 0)))
section
variable {Z : State} {h h' : Heap} {x o : Addr} {cs : List Int32} {ws : List Addr} {sl : Nat} {v : Value}
theorem StrU.exa (S : StrU Z h x cs) : Exa Z h x "java/lang/String" := by obtain ⟨_, _, E, -⟩ := S; exact E
theorem StrU.lt (S : StrU Z h x cs) : x < h.size := S.exa.lt
theorem StrU.ext (S : StrU Z h x cs) (E : Ext h h') : StrU Z h' x cs := by
  obtain ⟨t, kt, a, b, ⟨c, q, d⟩ | ⟨c, q, d⟩⟩ := S
  · exact ⟨t, kt, a.ext E, b.ext E, Or.inl ⟨c.ext E, q, d.ext E⟩⟩
  · exact ⟨t, kt, a.ext E, b.ext E, Or.inr ⟨c.ext E, q, d.ext E⟩⟩
theorem StrU.keep (S : StrU Z h x cs) (K : Keep h h' ws) (hx : x ∉ ws) (ht : ∀ t kb N vs, Arv Z h t kb .byte N vs (.int 0) → t ∉ ws) : StrU Z h' x cs := by
  obtain ⟨t, kt, a, b, ⟨c, q, d⟩ | ⟨c, q, d⟩⟩ := S
  · exact ⟨t, kt, a.keep K, b.keep K hx, Or.inl ⟨c.keep K hx, q, d.keep K (ht _ _ _ _ d)⟩⟩
  · exact ⟨t, kt, a.keep K, b.keep K hx, Or.inr ⟨c.keep K hx, q, d.keep K (ht _ _ _ _ d)⟩⟩
theorem StrU.wr (S : StrU Z h x cs) (W : Wr h h' o sl v) (hx : x ≠ o) (ht : ∀ t kb N vs, Arv Z h t kb .byte N vs (.int 0) → t ≠ o) : StrU Z h' x cs := S.keep (Keep.of_wr W) (ninS hx nin0) fun _ _ _ _ A => ninS (ht _ _ _ _ A) nin0
end
theorem o_shrD {a : Nat} (h : a < 2147483648) : Int32.ofNat a >>> ((1 : Int32) &&& 31) = Int32.ofNat (a / 2) := by
  apply Int32.toBitVec_inj.mp
  show (BitVec.ofNat 32 a).sshiftRight 1 = BitVec.ofNat 32 (a / 2)
  apply BitVec.eq_of_toNat_eq
  rw [BitVec.sshiftRight_eq_of_msb_false (by rw [BitVec.msb_eq_decide]; simp; omega)]
  simp [Nat.shiftRight_eq_div_pow]
  omega
theorem cap_ok {cd : Int32} {bs ys : List Value} {ct kk Mn : Nat} (hc : (cd = 0 ∧ bs.length = ct ∧ ys.length = kk) ∨ (cd = 1 ∧ bs.length = 2 * ct ∧ ys.length = 2 * kk)) (hM : bs.length + ys.length ≤ Mn) (hMn : Mn ≤ 100000) : ¬ ((0 : Int32) < (Int32.ofNat (ct + kk) - (Int32.ofNat Mn >>> (cd &&& 31)))) := by
  rcases hc with ⟨rfl, q1, q2⟩ | ⟨rfl, q1, q2⟩
  · rw [o_shr0]; exact sub_np (by omega) (by omega)
  · rw [o_shrD (by omega)]; exact sub_np (by omega) (by omega)
theorem all_app {a b : List Int32} (h : LatP a) (g : LatP b) : LatP (a ++ b) := fun c hc => (List.mem_append.mp hc).elim (h c) (g c)
theorem allC' {x : Int32} {r : List Int32} {P : Int32 → Prop} (h : P x) (g : ∀ c ∈ r, P c) : ∀ c ∈ x :: r, P c := fun c hc => by
  rcases List.mem_cons.mp hc with rfl | q
  · exact h
  · exact g c q
theorem ex_app {a b : List Int32} (h : ∃ c ∈ b, (255 : Int32) < c) : ∃ c ∈ a ++ b, (255 : Int32) < c := by
  obtain ⟨c, hc, q⟩ := h
  exact ⟨c, List.mem_append_right _ hc, q⟩
theorem nar_ch16 (x y : Int32) : narrow .char (.int (ch16 x y)) = .int (ch16 x y) := nar_i2c _
def Q_rm33 (Z : State) (b1 : Addr) (kb : ClassId) (N r : Int32) (vs : List Value) (dv : Value) (h0 : Heap) (n0 : Nat) : Option Value → Heap → List Loc → Prop := fun v h L => v = some (.int r) ∧ Fr n0 L ∧ h = h0
set_option maxRecDepth 65536 in
set_option maxHeartbeats 40000000 in
theorem rm33 (l : Launch) (Z : State) (a0 : Array Value) (hw : HW a0 Z) (ws : List Jvm.Cond) (b1 : Addr) (kb : ClassId) (N r : Int32) (vs : List Value) (dv : Value) (h0 : Heap) (n0 : Nat) (V_b1 : Arv Z h0 b1 kb .byte N vs dv) (hr : (N >>> ((1 : Int32) &&& 31)) = r) :
    CT l (⟨"java/lang/StringUTF16", "length", "([B)I"⟩ : MethodName) jdk_52_method_6_code 1 (some .int) ws (⟨0, 0, 0, 0⟩ : Jvm.Room) #[(.ref b1)] Z h0 (Q_rm33 Z b1 kb N r vs dv h0 n0) := by
  refine Go.start (plainFor_of_name pn_2) #[vr b1] n0 (by first | (simp [argsToLocals, Value.category, maxLocals]; done) | rfl) ?_
  intro p e s m below meth c s₁ Bd hx hby hml hZ hown X0 e0 N0
  have D := @dB _ _ hby _ D33
  refine ga X0 hx (D 0 rfl) rfl rfl ?_
  refine gN X0 hx hZ e0 V_b1 (D 1 rfl) ?_
  refine gk X0 hx 1 (D 2 rfl) rfl ?_
  refine gq (XS.ishr X0.here hx rfl (D 3 rfl) rfl) rfl ?_
  show Go p e below _ (s₁.setTop (mkF m 4 #[vr b1] [(.int (N >>> ((1 : Int32) &&& 31)))]))
  rw [hr]
  exact Go.ret1 X0 hx Bd.returns Bd.notSynchronized rfl (Or.inl ⟨rfl, by simp, _, rfl⟩) (D 4 rfl) (by decide) (by decide) (by first | (rw [e0]; exact ⟨rfl, N0, rfl⟩) | exact ⟨rfl, N0, rfl⟩)
def Q_rm35 (Z : State) (i1 z2 : Int32) (G3 : Value) (h0 : Heap) (n0 : Nat) : Option Value → Heap → List Loc → Prop := fun v h L => v = some (.int i1) ∧ Fr n0 L ∧ h = h0
set_option maxRecDepth 65536 in
set_option maxHeartbeats 40000000 in
theorem rm35 (l : Launch) (Z : State) (a0 : Array Value) (hw : HW a0 Z) (ws : List Jvm.Cond) (i1 z2 : Int32) (G3 : Value) (h0 : Heap) (n0 : Nat) (rG3 : G3.isRef = true) (q1 : ¬ (i1 < (0 : Int32))) (q2 : i1 < z2) :
    CT l (⟨"jdk/internal/util/Preconditions", "checkIndex", "(IILjava/util/function/BiFunction;)I"⟩ : MethodName) jdk_41_method_11_code 3 (some .int) ws (⟨0, 0, 0, 0⟩ : Jvm.Room) #[(.int i1), (.int z2), G3] Z h0 (Q_rm35 Z i1 z2 G3 h0 n0) := by
  refine Go.start (plainFor_of_name pn_5) #[vi i1, vi z2, .val G3] n0 (by rcases ref_cases rG3 with rfl | ⟨_, rfl⟩ <;> first | (simp [argsToLocals, Value.category, maxLocals]; done) | rfl) ?_
  intro p e s m below meth c s₁ Bd hx hby hml hZ hown X0 e0 N0
  have D := @dB _ _ hby _ D35
  refine gi X0 hx (D 0 rfl) rfl ?_
  refine zN X0 hx (D 1 rfl) ((if0 _ _).trans (flt q1).1) ?_
  refine gi X0 hx (D 2 rfl) rfl ?_
  refine gi X0 hx (D 3 rfl) rfl ?_
  refine cY X0 hx 16 (D 4 rfl) (tlt q2).1 (by decide) ?_
  refine gi X0 hx (D 10 rfl) rfl ?_
  exact Go.ret1 X0 hx Bd.returns Bd.notSynchronized rfl (Or.inl ⟨rfl, by simp, _, rfl⟩) (D 11 rfl) (by decide) (by decide) (by first | (rw [e0]; exact ⟨rfl, N0, rfl⟩) | exact ⟨rfl, N0, rfl⟩)
def Q_rm34 (Z : State) (i1 z2 : Int32) (G3 : Value) (h0 : Heap) (n0 : Nat) : Option Value → Heap → List Loc → Prop := fun v h L => v = none ∧ Fr n0 L ∧ h = h0
set_option maxRecDepth 65536 in
set_option maxHeartbeats 40000000 in
theorem rm34 (l : Launch) (Z : State) (a0 : Array Value) (hw : HW a0 Z) (ws : List Jvm.Cond) (i1 z2 : Int32) (G3 : Value) (h0 : Heap) (n0 : Nat) (Od : Old Z n0 h0) (O4 : SO4 Z G3) (rG3 : G3.isRef = true) (q1 : ¬ (i1 < (0 : Int32))) (q2 : i1 < z2) :
    CT l (⟨"java/lang/String", "checkIndex", "(II)V"⟩ : MethodName) jdk_42_method_155_code 2 none ws (⟨1, 0, 0, 16⟩ : Jvm.Room) #[(.int i1), (.int z2)] Z h0 (Q_rm34 Z i1 z2 G3 h0 n0) := by
  refine Go.start (plainFor_of_name pn_1) #[vi i1, vi z2] n0 (by first | (simp [argsToLocals, Value.category, maxLocals]; done) | rfl) ?_
  intro p e s m below meth c s₁ Bd hx hby hml hZ hown X0 e0 N0
  have D := @dB _ _ hby _ D34
  refine gi X0 hx (D 0 rfl) rfl ?_
  refine gi X0 hx (D 1 rfl) rfl ?_
  refine gS X0 hx hZ hown (wd hw 165 rfl) e0 (O4.ext Od.2) (D 2 rfl) fun T101 X101 e101 => ?_
  refine kS (W := 0) (C := 0) (S := 0) X101 hx hZ hown (wd hw 166 rfl) (wd hw 167 rfl) (wd hw 65 rfl) (wd hw 168 rfl) (rm35 l Z a0 hw [] i1 z2 G3 h0 n0 rG3 q1 q2) pd_37 (D 3 rfl) e101 hml (by exact ⟨rfl, rfl, rfl, rfl⟩) (by decide) fun v102 T102 L102 Lc102 X102 hQ102 l102 => ?_
  obtain ⟨rfl, Nq102, e102⟩ := hQ102
  have N102 := l102 N0 Nq102
  refine gq (XS.pop X102.here hx rfl (D 4 rfl) rfl rfl) rfl ?_
  exact Go.ret0 X102 hx Bd.returns Bd.notSynchronized (D 5 rfl) (by decide) (by decide) (by first | (rw [e102]; exact ⟨rfl, N102, rfl⟩) | exact ⟨rfl, N102, rfl⟩)
def Q_rm32 (Z : State) (b1 : Addr) (kb : ClassId) (N : Int32) (vs : List Value) (i1 z2 : Int32) (G3 : Value) (h0 : Heap) (n0 : Nat) : Option Value → Heap → List Loc → Prop := fun v h L => v = none ∧ Fr n0 L ∧ h = h0
set_option maxRecDepth 65536 in
set_option maxHeartbeats 40000000 in
theorem rm32 (l : Launch) (Z : State) (a0 : Array Value) (hw : HW a0 Z) (ws : List Jvm.Cond) (b1 : Addr) (kb : ClassId) (N : Int32) (vs : List Value) (i1 z2 : Int32) (G3 : Value) (h0 : Heap) (n0 : Nat) (Od : Old Z n0 h0) (O4 : SO4 Z G3) (rG3 : G3.isRef = true) (V_b1 : Arv Z h0 b1 kb .byte N vs (.int 0)) (hr : (N >>> ((1 : Int32) &&& 31)) = z2) (q1 : ¬ (i1 < (0 : Int32))) (q2 : i1 < z2) :
    CT l (⟨"java/lang/StringUTF16", "checkIndex", "(I[B)V"⟩ : MethodName) jdk_52_method_91_code 2 none ws (⟨2, 0, 0, 32⟩ : Jvm.Room) #[(.int i1), (.ref b1)] Z h0 (Q_rm32 Z b1 kb N vs i1 z2 G3 h0 n0) := by
  refine Go.start (plainFor_of_name pn_2) #[vi i1, vr b1] n0 (by first | (simp [argsToLocals, Value.category, maxLocals]; done) | rfl) ?_
  intro p e s m below meth c s₁ Bd hx hby hml hZ hown X0 e0 N0
  have D := @dB _ _ hby _ D32
  refine gi X0 hx (D 0 rfl) rfl ?_
  refine ga X0 hx (D 1 rfl) rfl rfl ?_
  refine kS (W := 1) (C := 0) (S := 0) X0 hx hZ hown (wd hw 159 rfl) (wd hw 160 rfl) (wd hw 26 rfl) (wd hw 161 rfl) (rm33 l Z a0 hw [] b1 kb N z2 vs (.int 0) h0 n0 V_b1 hr) pd_28 (D 2 rfl) e0 hml (by exact ⟨rfl, rfl, rfl, rfl⟩) (by decide) fun v103 T103 L103 Lc103 X103 hQ103 l103 => ?_
  obtain ⟨rfl, Nq103, e103⟩ := hQ103
  have N103 := l103 N0 Nq103
  refine kS (W := 0) (C := 0) (S := 0) X103 hx hZ hown (wd hw 162 rfl) (wd hw 163 rfl) (wd hw 12 rfl) (wd hw 164 rfl) (rm34 l Z a0 hw [] i1 z2 G3 h0 n0 Od O4 rG3 q1 q2) pd_36 (D 3 rfl) e103 hml (by exact ⟨rfl, rfl, rfl, rfl⟩) (by decide) fun v104 T104 L104 Lc104 X104 hQ104 l104 => ?_
  obtain ⟨rfl, Nq104, e104⟩ := hQ104
  have N104 := l104 N103 Nq104
  exact Go.ret0 X104 hx Bd.returns Bd.notSynchronized (D 4 rfl) (by decide) (by decide) (by first | (rw [e104]; exact ⟨rfl, N104, rfl⟩) | exact ⟨rfl, N104, rfl⟩)
def Q_rm21 (Z : State) (b1 : Addr) (kb : ClassId) (N : Int32) (vs : List Value) (i1 j1 x1 y1 c1 : Int32) (h0 : Heap) (n0 : Nat) : Option Value → Heap → List Loc → Prop := fun v h L => v = some (.int c1) ∧ Fr n0 L ∧ h = h0
set_option maxRecDepth 65536 in
set_option maxHeartbeats 40000000 in
theorem rm21 (l : Launch) (Z : State) (a0 : Array Value) (hw : HW a0 Z) (ws : List Jvm.Cond) (b1 : Addr) (kb : ClassId) (N : Int32) (vs : List Value) (i1 j1 x1 y1 c1 : Int32) (h0 : Heap) (n0 : Nat) (Od : Old Z n0 h0) (A1 : SA1 Z) (HS : SHS Z) (LS : SLS Z) (V_b1 : Arv Z h0 b1 kb .byte N vs (.int 0)) (hj1 : (i1 <<< ((1 : Int32) &&& 31)) = j1) (in1 : ¬ j1 < 0 ∧ j1 < N) (in2 : ¬ (j1 + (1 : Int32)) < 0 ∧ (j1 + (1 : Int32)) < N) (at1 : vs.getD j1.toNatClampNeg (.int 0) = .int x1) (at2 : vs.getD (j1 + (1 : Int32)).toNatClampNeg (.int 0) = .int y1) (hch : ch16 x1 y1 = c1) :
    CT l (⟨"java/lang/StringUTF16", "getChar", "([BI)C"⟩ : MethodName) jdk_52_method_5_code 2 (some .char) ws (⟨0, 0, 0, 0⟩ : Jvm.Room) #[(.ref b1), (.int i1)] Z h0 (Q_rm21 Z b1 kb N vs i1 j1 x1 y1 c1 h0 n0) := by
  refine Go.start (plainFor_of_name pn_2) #[vr b1, vi i1] n0 (by first | (simp [argsToLocals, Value.category, maxLocals]; done) | rfl) ?_
  intro p e s m below meth c s₁ Bd hx hby hml hZ hown X0 e0 N0
  have D := @dB _ _ hby _ D21
  refine gS X0 hx hZ hown (wd hw 90 rfl) e0 (A1.ext Od.2) (D 0 rfl) fun T105 X105 e105 => ?_
  refine zY X105 hx 28 (D 1 rfl) ((if0 _ _).trans (feq (by decide : ¬ ((1 : Int32) = (0 : Int32)))).2) (by decide) ?_
  refine gi X105 hx (D 13 rfl) rfl ?_
  refine gk X105 hx 1 (D 14 rfl) rfl ?_
  refine gq (XS.ishl X105.here hx rfl (D 15 rfl) rfl) rfl ?_
  show Go p e below _ (T105.setTop (mkF m 31 #[vr b1, vi i1] [(.int (i1 <<< ((1 : Int32) &&& 31)))]))
  rw [hj1]
  refine gt X105 hx #[vr b1, vi j1] (D 16 rfl) rfl ?_
  refine ga X105 hx (D 17 rfl) rfl rfl ?_
  refine gi X105 hx (D 18 rfl) rfl ?_
  refine gn X105 hx #[vr b1, vi (j1 + (1 : Int32))] (D 19 rfl) rfl rfl ?_
  refine gB X105 hx hZ e105 V_b1 in1 (.int x1) at1 (D 20 rfl) ?_
  refine gs X105 hx 255 (D 21 rfl) rfl ?_
  refine gq (XS.iand X105.here hx rfl (D 22 rfl) rfl) rfl ?_
  refine gS X105 hx hZ hown (wd hw 91 rfl) e105 (HS.ext Od.2) (D 23 rfl) fun T107 X107 e107 => ?_
  refine gq (XS.ishl X107.here hx rfl (D 24 rfl) rfl) rfl ?_
  refine ga X107 hx (D 25 rfl) rfl rfl ?_
  refine gi X107 hx (D 26 rfl) rfl ?_
  refine gB X107 hx hZ e107 V_b1 in2 (.int y1) at2 (D 27 rfl) ?_
  refine gs X107 hx 255 (D 28 rfl) rfl ?_
  refine gq (XS.iand X107.here hx rfl (D 29 rfl) rfl) rfl ?_
  refine gS X107 hx hZ hown (wd hw 92 rfl) e107 (LS.ext Od.2) (D 30 rfl) fun T109 X109 e109 => ?_
  refine gq (XS.ishl X109.here hx rfl (D 31 rfl) rfl) rfl ?_
  refine gq (XS.ior X109.here hx rfl (D 32 rfl) rfl) rfl ?_
  refine gq (XS.i2c X109.here hx rfl (D 33 rfl) rfl) rfl ?_
  have hch' : ((((x1 &&& (255 : Int32)) <<< ((0 : Int32) &&& 31)) ||| ((y1 &&& (255 : Int32)) <<< ((8 : Int32) &&& 31))).toUInt32.toUInt16.toUInt32.toInt32) = c1 := hch
  show Go p e below _ (T109.setTop (mkF m 59 #[vr b1, vi (j1 + (1 : Int32))] [(.int ((((x1 &&& (255 : Int32)) <<< ((0 : Int32) &&& 31)) ||| ((y1 &&& (255 : Int32)) <<< ((8 : Int32) &&& 31))).toUInt32.toUInt16.toUInt32.toInt32))]))
  rw [hch']
  exact Go.ret1 X109 hx Bd.returns Bd.notSynchronized (by rw [← hch]; exact nar_ch16 _ _) (Or.inl ⟨rfl, by simp, _, rfl⟩) (D 34 rfl) (by decide) (by decide) (by first | (rw [e109]; exact ⟨rfl, N0, rfl⟩) | exact ⟨rfl, N0, rfl⟩)
def Q_rm31 (Z : State) (b1 : Addr) (kb : ClassId) (N : Int32) (vs : List Value) (i1 j1 x1 y1 c1 z2 : Int32) (G3 : Value) (h0 : Heap) (n0 : Nat) : Option Value → Heap → List Loc → Prop := fun v h L => v = some (.int c1) ∧ Fr n0 L ∧ h = h0
set_option maxRecDepth 65536 in
set_option maxHeartbeats 40000000 in
theorem rm31 (l : Launch) (Z : State) (a0 : Array Value) (hw : HW a0 Z) (ws : List Jvm.Cond) (b1 : Addr) (kb : ClassId) (N : Int32) (vs : List Value) (i1 j1 x1 y1 c1 z2 : Int32) (G3 : Value) (h0 : Heap) (n0 : Nat) (Od : Old Z n0 h0) (A1 : SA1 Z) (HS : SHS Z) (LS : SLS Z) (O4 : SO4 Z G3) (rG3 : G3.isRef = true) (V_b1 : Arv Z h0 b1 kb .byte N vs (.int 0)) (hr : (N >>> ((1 : Int32) &&& 31)) = z2) (q1 : ¬ (i1 < (0 : Int32))) (q2 : i1 < z2) (hj1 : (i1 <<< ((1 : Int32) &&& 31)) = j1) (in1 : ¬ j1 < 0 ∧ j1 < N) (in2 : ¬ (j1 + (1 : Int32)) < 0 ∧ (j1 + (1 : Int32)) < N) (at1 : vs.getD j1.toNatClampNeg (.int 0) = .int x1) (at2 : vs.getD (j1 + (1 : Int32)).toNatClampNeg (.int 0) = .int y1) (hch : ch16 x1 y1 = c1) :
    CT l (⟨"java/lang/StringUTF16", "charAt", "([BI)C"⟩ : MethodName) jdk_52_method_83_code 2 (some .char) ws (⟨3, 0, 0, 46⟩ : Jvm.Room) #[(.ref b1), (.int i1)] Z h0 (Q_rm31 Z b1 kb N vs i1 j1 x1 y1 c1 z2 G3 h0 n0) := by
  refine Go.start (plainFor_of_name pn_2) #[vr b1, vi i1] n0 (by first | (simp [argsToLocals, Value.category, maxLocals]; done) | rfl) ?_
  intro p e s m below meth c s₁ Bd hx hby hml hZ hown X0 e0 N0
  have D := @dB _ _ hby _ D31
  refine gi X0 hx (D 0 rfl) rfl ?_
  refine ga X0 hx (D 1 rfl) rfl rfl ?_
  refine kS (W := 0) (C := 0) (S := 0) X0 hx hZ hown (wd hw 156 rfl) (wd hw 157 rfl) (wd hw 26 rfl) (wd hw 158 rfl) (rm32 l Z a0 hw [] b1 kb N vs i1 z2 G3 h0 n0 Od O4 rG3 V_b1 hr q1 q2) pd_35 (D 2 rfl) e0 hml (by exact ⟨rfl, rfl, rfl, rfl⟩) (by decide) fun v110 T110 L110 Lc110 X110 hQ110 l110 => ?_
  obtain ⟨rfl, Nq110, e110⟩ := hQ110
  have N110 := l110 N0 Nq110
  refine ga X110 hx (D 3 rfl) rfl rfl ?_
  refine gi X110 hx (D 4 rfl) rfl ?_
  refine kS (W := 0) (C := 0) (S := 0) X110 hx hZ hown (wd hw 93 rfl) (wd hw 94 rfl) (wd hw 26 rfl) (wd hw 95 rfl) (rm21 l Z a0 hw [] b1 kb N vs i1 j1 x1 y1 c1 h0 n0 Od A1 HS LS V_b1 hj1 in1 in2 at1 at2 hch) pd_11 (D 5 rfl) e110 hml (by exact ⟨rfl, rfl, rfl, rfl⟩) (by decide) fun v111 T111 L111 Lc111 X111 hQ111 l111 => ?_
  obtain ⟨rfl, Nq111, e111⟩ := hQ111
  have N111 := l111 N110 Nq111
  exact Go.ret1 X111 hx Bd.returns Bd.notSynchronized (by rw [← hch]; exact nar_ch16 _ _) (Or.inl ⟨rfl, by simp, _, rfl⟩) (D 6 rfl) (by decide) (by decide) (by first | (rw [e111]; exact ⟨rfl, N111, rfl⟩) | exact ⟨rfl, N111, rfl⟩)
def Q_rm19 (Z : State) (i1 r : Int32) (h0 : Heap) (n0 : Nat) : Option Value → Heap → List Loc → Prop := fun v h L => v = some (.int r) ∧ Fr n0 L ∧ h = h0
set_option maxRecDepth 65536 in
set_option maxHeartbeats 40000000 in
theorem rm19 (l : Launch) (Z : State) (a0 : Array Value) (hw : HW a0 Z) (ws : List Jvm.Cond) (i1 r : Int32) (h0 : Heap) (n0 : Nat) (q1 : ¬ (i1 < (0 : Int32))) (q2 : i1 < (1073741823 : Int32)) (hr : (i1 <<< ((1 : Int32) &&& 31)) = r) :
    CT l (⟨"java/lang/StringUTF16", "newBytesLength", "(I)I"⟩ : MethodName) jdk_52_method_3_code 1 (some .int) ws (⟨0, 0, 0, 0⟩ : Jvm.Room) #[(.int i1)] Z h0 (Q_rm19 Z i1 r h0 n0) := by
  refine Go.start (plainFor_of_name pn_2) #[vi i1] n0 (by first | (simp [argsToLocals, Value.category, maxLocals]; done) | rfl) ?_
  intro p e s m below meth c s₁ Bd hx hby hml hZ hown X0 e0 N0
  have D := @dB _ _ hby _ D19
  refine gi X0 hx (D 0 rfl) rfl ?_
  refine zY X0 hx 12 (D 1 rfl) ((if0 _ _).trans (flt q1).2.1) (by decide) ?_
  refine gi X0 hx (D 6 rfl) rfl ?_
  refine Go.by (fun t => X0.ldcInt hx hown (mvT hZ (wd hw 86 rfl)) (g := (mkF m 13 #[vi i1] [(.int i1)])) rfl (D 7 rfl) t) ?_
  show Go p e below _ (s₁.setTop (mkF m 15 #[vi i1] [(.int (1073741823 : Int32)), (.int i1)]))
  refine cY X0 hx 55 (D 8 rfl) (tlt q2).1 (by decide) ?_
  refine gi X0 hx (D 25 rfl) rfl ?_
  refine gk X0 hx 1 (D 26 rfl) rfl ?_
  refine gq (XS.ishl X0.here hx rfl (D 27 rfl) rfl) rfl ?_
  show Go p e below _ (s₁.setTop (mkF m 58 #[vi i1] [(.int (i1 <<< ((1 : Int32) &&& 31)))]))
  rw [hr]
  exact Go.ret1 X0 hx Bd.returns Bd.notSynchronized rfl (Or.inl ⟨rfl, by simp, _, rfl⟩) (D 28 rfl) (by decide) (by decide) (by first | (rw [e0]; exact ⟨rfl, N0, rfl⟩) | exact ⟨rfl, N0, rfl⟩)
def Q_rmNB (Z : State) (z r : Int32) (h0 : Heap) (n0 : Nat) : Option Value → Heap → List Loc → Prop := fun v h L => ∃ (b : Addr) (kb : ClassId), v = some (.ref b) ∧ h0.size ≤ b ∧ Fr n0 L ∧ Keep h0 h [] ∧ Arv Z h b kb .byte r [] (.int 0)
set_option maxRecDepth 65536 in
set_option maxHeartbeats 40000000 in
theorem rmNB (l : Launch) (Z : State) (a0 : Array Value) (hw : HW a0 Z) (ws : List Jvm.Cond) (z r : Int32) (h0 : Heap) (n0 : Nat) (Z0 : n0 ≤ h0.size) (q1 : ¬ (z < (0 : Int32))) (q2 : z < (1073741823 : Int32)) (hr : (z <<< ((1 : Int32) &&& 31)) = r) (q3 : ¬ r < 0) (q4 : r.toNatClampNeg ≤ 2000) :
    CT l (⟨"java/lang/StringUTF16", "newBytesFor", "(I)[B"⟩ : MethodName) jdk_52_method_2_code 1 (some (.array .byte)) ws (⟨1, 1, 2000, 13⟩ : Jvm.Room) #[(.int z)] Z h0 (Q_rmNB Z z r h0 n0) := by
  refine Go.start (plainFor_of_name pn_2) #[vi z] n0 (by first | (simp [argsToLocals, Value.category, maxLocals]; done) | rfl) ?_
  intro p e s m below meth c s₁ Bd hx hby hml hZ hown X0 e0 N0
  have D := @dB _ _ hby _ D18
  have K0 : Keep h0 h0 [] := Keep.refl _ _
  refine gi X0 hx (D 0 rfl) rfl ?_
  refine kS (W := 0) (C := 0) (S := 0) X0 hx hZ hown (wd hw 83 rfl) (wd hw 84 rfl) (wd hw 26 rfl) (wd hw 85 rfl) (rm19 l Z a0 hw [] z r h0 n0 q1 q2 hr) pd_27 (D 1 rfl) e0 hml (by exact ⟨rfl, rfl, rfl, rfl⟩) (by decide) fun v112 T112 L112 Lc112 X112 hQ112 l112 => ?_
  obtain ⟨rfl, Nq112, e112⟩ := hQ112
  have N112 := l112 N0 Nq112
  obtain ⟨T113, h113, k113, X113, e113, E113, A113, st113⟩ := newP X112 hx hZ (wd hw 28 rfl) e112 (g := (mkF m 4 #[vi z] [(.int r)])) rfl (D 2 rfl) rfl q3 (cap := 2000) q4 (by decide) (by decide) (by decide)
  obtain ⟨b, g113⟩ : ∃ z, z = h0.size := ⟨_, rfl⟩
  rw [← g113] at A113 st113
  refine Go.by (fun t => st113 t) ?_
  have g_b : n0 ≤ b := Nat.le_trans Z0 (Nat.le_of_eq g113.symm)
  have sz_b : h0.size ≤ b := Nat.le_trans K0.1 (Nat.le_of_eq g113.symm)
  replace Z0 := Nat.le_trans Z0 E113.1
  replace K0 := K0.ext E113
  have V_b := Arv.new A113 q3
  replace X113 := Stand.num (C := 1) (S := 2000) X113 rfl rfl
  show Go p e below _ (T113.setTop (mkF m 6 #[vi z] [(.ref b)]))
  exact Go.ret1 X113 hx Bd.returns Bd.notSynchronized rfl (Or.inr (Or.inr (Or.inr (Or.inr ⟨rfl, rfl, rfl⟩)))) (D 3 rfl) (by decide) (by decide) (by first | (rw [e113]; exact ⟨b, _, rfl, sz_b, N112, K0, V_b⟩) | exact ⟨b, _, rfl, sz_b, N112, K0, V_b⟩)
def Q_rmNBs (Z : State) (z r : Int32) (h0 : Heap) (n0 : Nat) : Option Value → Heap → List Loc → Prop := fun v h L => ∃ (b : Addr) (kb : ClassId), v = some (.ref b) ∧ h0.size ≤ b ∧ Fr n0 L ∧ Keep h0 h [] ∧ Arv Z h b kb .byte r [] (.int 0)
set_option maxRecDepth 65536 in
set_option maxHeartbeats 40000000 in
theorem rmNBs (l : Launch) (Z : State) (a0 : Array Value) (hw : HW a0 Z) (ws : List Jvm.Cond) (z r : Int32) (h0 : Heap) (n0 : Nat) (Z0 : n0 ≤ h0.size) (q1 : ¬ (z < (0 : Int32))) (q2 : z < (1073741823 : Int32)) (hr : (z <<< ((1 : Int32) &&& 31)) = r) (q3 : ¬ r < 0) (q4 : r.toNatClampNeg ≤ 300) :
    CT l (⟨"java/lang/StringUTF16", "newBytesFor", "(I)[B"⟩ : MethodName) jdk_52_method_2_code 1 (some (.array .byte)) ws (⟨1, 1, 300, 13⟩ : Jvm.Room) #[(.int z)] Z h0 (Q_rmNBs Z z r h0 n0) := by
  refine Go.start (plainFor_of_name pn_2) #[vi z] n0 (by first | (simp [argsToLocals, Value.category, maxLocals]; done) | rfl) ?_
  intro p e s m below meth c s₁ Bd hx hby hml hZ hown X0 e0 N0
  have D := @dB _ _ hby _ D18
  have K0 : Keep h0 h0 [] := Keep.refl _ _
  refine gi X0 hx (D 0 rfl) rfl ?_
  refine kS (W := 0) (C := 0) (S := 0) X0 hx hZ hown (wd hw 83 rfl) (wd hw 84 rfl) (wd hw 26 rfl) (wd hw 85 rfl) (rm19 l Z a0 hw [] z r h0 n0 q1 q2 hr) pd_27 (D 1 rfl) e0 hml (by exact ⟨rfl, rfl, rfl, rfl⟩) (by decide) fun v114 T114 L114 Lc114 X114 hQ114 l114 => ?_
  obtain ⟨rfl, Nq114, e114⟩ := hQ114
  have N114 := l114 N0 Nq114
  obtain ⟨T115, h115, k115, X115, e115, E115, A115, st115⟩ := newP X114 hx hZ (wd hw 28 rfl) e114 (g := (mkF m 4 #[vi z] [(.int r)])) rfl (D 2 rfl) rfl q3 (cap := 300) q4 (by decide) (by decide) (by decide)
  obtain ⟨b, g115⟩ : ∃ z, z = h0.size := ⟨_, rfl⟩
  rw [← g115] at A115 st115
  refine Go.by (fun t => st115 t) ?_
  have g_b : n0 ≤ b := Nat.le_trans Z0 (Nat.le_of_eq g115.symm)
  have sz_b : h0.size ≤ b := Nat.le_trans K0.1 (Nat.le_of_eq g115.symm)
  replace Z0 := Nat.le_trans Z0 E115.1
  replace K0 := K0.ext E115
  have V_b := Arv.new A115 q3
  replace X115 := Stand.num (C := 1) (S := 300) X115 rfl rfl
  show Go p e below _ (T115.setTop (mkF m 6 #[vi z] [(.ref b)]))
  exact Go.ret1 X115 hx Bd.returns Bd.notSynchronized rfl (Or.inr (Or.inr (Or.inr (Or.inr ⟨rfl, rfl, rfl⟩)))) (D 3 rfl) (by decide) (by decide) (by first | (rw [e115]; exact ⟨b, _, rfl, sz_b, N114, K0, V_b⟩) | exact ⟨b, _, rfl, sz_b, N114, K0, V_b⟩)
def Q_rm20 (Z : State) (b1 : Addr) (kb : ClassId) (N : Int32) (vs : List Value) (i1 c1 j1 : Int32) (p1 p2 : Nat) (h0 : Heap) (n0 : Nat) : Option Value → Heap → List Loc → Prop := fun v h L => v = none ∧ Fr n0 L ∧ Keep h0 h [b1] ∧ Arv Z h b1 kb .byte N ((vs.set p1 (.int (lo16 c1))).set p2 (.int (hi16 c1))) (.int 0)
set_option maxRecDepth 65536 in
set_option maxHeartbeats 40000000 in
theorem rm20 (l : Launch) (Z : State) (a0 : Array Value) (hw : HW a0 Z) (ws : List Jvm.Cond) (b1 : Addr) (kb : ClassId) (N : Int32) (vs : List Value) (i1 c1 j1 : Int32) (p1 p2 : Nat) (h0 : Heap) (n0 : Nat) (Od : Old Z n0 h0) (A1 : SA1 Z) (HS : SHS Z) (LS : SLS Z) (g_b1 : n0 ≤ b1) (V_b1 : Arv Z h0 b1 kb .byte N vs (.int 0)) (hj1 : (i1 <<< ((1 : Int32) &&& 31)) = j1) (in1 : ¬ j1 < 0 ∧ j1 < N) (in2 : ¬ (j1 + (1 : Int32)) < 0 ∧ (j1 + (1 : Int32)) < N) (hp1 : j1.toNatClampNeg = p1) (hp2 : (j1 + (1 : Int32)).toNatClampNeg = p2) (hl1 : p1 < vs.length) (hl2 : p2 < vs.length) :
    CT l (⟨"java/lang/StringUTF16", "putChar", "([BII)V"⟩ : MethodName) jdk_52_method_4_code 3 none ws (⟨0, 0, 0, 0⟩ : Jvm.Room) #[(.ref b1), (.int i1), (.int c1)] Z h0 (Q_rm20 Z b1 kb N vs i1 c1 j1 p1 p2 h0 n0) := by
  refine Go.start (plainFor_of_name pn_2) #[vr b1, vi i1, vi c1] n0 (by first | (simp [argsToLocals, Value.category, maxLocals]; done) | rfl) ?_
  intro p e s m below meth c s₁ Bd hx hby hml hZ hown X0 e0 N0
  have D := @dB _ _ hby _ D20
  have K0 : Keep h0 h0 [b1] := Keep.refl _ _
  refine gS X0 hx hZ hown (wd hw 90 rfl) e0 (A1.ext Od.2) (D 0 rfl) fun T116 X116 e116 => ?_
  refine zY X116 hx 28 (D 1 rfl) ((if0 _ _).trans (feq (by decide : ¬ ((1 : Int32) = (0 : Int32)))).2) (by decide) ?_
  refine gi X116 hx (D 13 rfl) rfl ?_
  refine gk X116 hx 1 (D 14 rfl) rfl ?_
  refine gq (XS.ishl X116.here hx rfl (D 15 rfl) rfl) rfl ?_
  show Go p e below _ (T116.setTop (mkF m 31 #[vr b1, vi i1, vi c1] [(.int (i1 <<< ((1 : Int32) &&& 31)))]))
  rw [hj1]
  refine gt X116 hx #[vr b1, vi j1, vi c1] (D 16 rfl) rfl ?_
  refine ga X116 hx (D 17 rfl) rfl rfl ?_
  refine gi X116 hx (D 18 rfl) rfl ?_
  refine gn X116 hx #[vr b1, vi (j1 + (1 : Int32)), vi c1] (D 19 rfl) rfl rfl ?_
  refine gi X116 hx (D 20 rfl) rfl ?_
  refine gS X116 hx hZ hown (wd hw 91 rfl) e116 (HS.ext Od.2) (D 21 rfl) fun T117 X117 e117 => ?_
  refine gq (XS.ishr X117.here hx rfl (D 22 rfl) rfl) rfl ?_
  refine gq (XS.i2b X117.here hx rfl (D 23 rfl) rfl) rfl ?_
  refine sB X117 hx hZ e117 V_b1 in1 p1 hp1 hl1 _ (rfl) (D 24 rfl) fun T118 h118 X118 e118 W118 Vn118 => ?_
  replace V_b1 := Vn118
  clear Vn118
  replace Od := Od.wr W118 g_b1
  replace K0 := K0.wr W118 (Or.inl (List.mem_of_getElem? (i := 0) rfl))
  have N118 := Fr.snoc X118 N0 g_b1
  refine ga X118 hx (D 25 rfl) rfl rfl ?_
  refine gi X118 hx (D 26 rfl) rfl ?_
  refine gi X118 hx (D 27 rfl) rfl ?_
  refine gS X118 hx hZ hown (wd hw 92 rfl) e118 (LS.ext Od.2) (D 28 rfl) fun T119 X119 e119 => ?_
  refine gq (XS.ishr X119.here hx rfl (D 29 rfl) rfl) rfl ?_
  refine gq (XS.i2b X119.here hx rfl (D 30 rfl) rfl) rfl ?_
  refine sB X119 hx hZ e119 V_b1 in2 p2 hp2 (by rw [List.length_set]; exact hl2) _ (rfl) (D 31 rfl) fun T120 h120 X120 e120 W120 Vn120 => ?_
  replace V_b1 := Vn120
  clear Vn120
  replace Od := Od.wr W120 g_b1
  replace K0 := K0.wr W120 (Or.inl (List.mem_of_getElem? (i := 0) rfl))
  have N120 := Fr.snoc X120 N118 g_b1
  exact Go.ret0 X120 hx Bd.returns Bd.notSynchronized (D 32 rfl) (by decide) (by decide) (by first | (rw [e120]; exact ⟨rfl, N120, K0, V_b1⟩) | exact ⟨rfl, N120, K0, V_b1⟩)
def Q_rmTB (Z : State) (a1 : Addr) (kc : ClassId) (cs : List Int32) (h0 : Heap) (n0 : Nat) : Option Value → Heap → List Loc → Prop := fun v h L => ∃ (b : Addr) (kb : ClassId), v = some (.ref b) ∧ h0.size ≤ b ∧ Fr n0 L ∧ Keep h0 h [] ∧ Arv Z h b kb .byte (Int32.ofNat (2 * cs.length)) (utfL cs) (.int 0)
set_option maxRecDepth 65536 in
set_option maxHeartbeats 40000000 in
theorem rmTB (l : Launch) (Z : State) (a0 : Array Value) (hw : HW a0 Z) (ws : List Jvm.Cond) (a1 : Addr) (kc : ClassId) (cs : List Int32) (h0 : Heap) (n0 : Nat) (Z0 : n0 ≤ h0.size) (Od : Old Z n0 h0) (A1 : SA1 Z) (HS : SHS Z) (LS : SLS Z) (V_a1 : Arv Z h0 a1 kc .char (Int32.ofNat cs.length) (cs.map Value.int) (.int 0)) (hk : cs.length ≤ 1000) :
    CT l (⟨"java/lang/StringUTF16", "toBytes", "([CII)[B"⟩ : MethodName) jdk_52_method_14_code 5 (some (.array .byte)) ws (⟨2, 1, 2000, 30⟩ : Jvm.Room) #[(.ref a1), (.int (0 : Int32)), (.int (Int32.ofNat cs.length))] Z h0 (Q_rmTB Z a1 kc cs h0 n0) := by
  refine Go.start (plainFor_of_name pn_2) #[vr a1, vi (0 : Int32), vi (Int32.ofNat cs.length), uu, uu] n0 (by first | (simp [argsToLocals, Value.category, maxLocals]; done) | rfl) ?_
  intro p e s m below meth c s₁ Bd hx hby hml hZ hown X0 e0 N0
  have D := @dB _ _ hby _ D17
  have K0 : Keep h0 h0 [] := Keep.refl _ _
  refine gi X0 hx (D 0 rfl) rfl ?_
  refine kS (W := 0) (C := 1) (S := 2000) X0 hx hZ hown (wd hw 80 rfl) (wd hw 81 rfl) (wd hw 26 rfl) (wd hw 82 rfl) (rmNB l Z a0 hw [] (Int32.ofNat cs.length) (Int32.ofNat (2 * cs.length)) h0 n0 Z0 (o_nn (by omega)) ((o_lt (b := 1073741823) (by omega) (by decide)).2 (by omega)) (o_shl _) (o_nn (by omega)) (by rw [o_nat (by omega)]; omega)) pd_25 (D 1 rfl) e0 hml (by exact ⟨rfl, rfl, rfl, rfl⟩) (by decide) fun v121 T121 L121 Lc121 X121 hQ121 l121 => ?_
  obtain ⟨b, k_b, rfl, sz_b, Nq121, K121, V_b⟩ := hQ121
  have g_b : n0 ≤ b := Nat.le_trans Z0 sz_b
  have ne_a1_b : a1 ≠ b := Nat.ne_of_lt (Nat.lt_of_lt_of_le V_a1.lt sz_b)
  replace sz_b : h0.size ≤ b := Nat.le_trans K0.1 sz_b
  have N121 := l121 N0 Nq121
  replace Od := Od.keep K121 all0
  replace V_a1 := V_a1.keep K121 nin0
  replace Z0 := Nat.le_trans Z0 K121.1
  replace K0 := K0.trans K121 all0
  replace V_b : Arv Z T121.heap b k_b .byte (Int32.ofNat (2 * cs.length)) (List.replicate (2 * cs.length) (.int 0)) (.int 0) := V_b.pad (pad_rep [] _ (2 * cs.length))
  refine gu X121 hx #[vr a1, vi (0 : Int32), vi (Int32.ofNat cs.length), vr b, uu] (D 2 rfl) rfl rfl ?_
  refine gk X121 hx 0 (D 3 rfl) rfl ?_
  refine gT X121 hx #[vr a1, vi (0 : Int32), vi (Int32.ofNat cs.length), vr b, vi (0 : Int32)] (D 4 rfl) rfl ?_
  have loop : ∀ (ws us : List Int32) (Tl : State) (Ll : List Loc) (hcs : cs = us ++ ws) (Xl : Stand p l e (⟨2, 1, 2000, 30⟩ : Jvm.Room) s m #[(.ref a1), (.int (0 : Int32)), (.int (Int32.ofNat cs.length))] below meth c Tl Ll 1 2000) (Nl : Fr n0 Ll) (K0 : Keep h0 Tl.heap []) (Od : Old Z n0 Tl.heap) (Z0 : n0 ≤ Tl.heap.size) (V_a1 : Arv Z Tl.heap a1 kc .char (Int32.ofNat cs.length) (cs.map Value.int) (.int 0)) (V_b : Arv Z Tl.heap b k_b .byte (Int32.ofNat (2 * cs.length)) (utfL us ++ List.replicate (2 * ws.length) (.int 0)) (.int 0)), Go p e below (End (fun v h L => ∃ (b : Addr) (kb : ClassId), v = some (.ref b) ∧ h0.size ≤ b ∧ Fr n0 L ∧ Keep h0 h [] ∧ Arv Z h b kb .byte (Int32.ofNat (2 * cs.length)) (utfL cs) (.int 0)) s 1 2000) (Tl.setTop (mkF m 8 #[vr a1, vi (Int32.ofNat us.length), vi (Int32.ofNat cs.length), vr b, vi (Int32.ofNat us.length)] [])) := by
    intro ws
    induction ws with
    | nil =>
      intro us Tl Ll hcs Xl Nl K0 Od Z0 V_a1 V_b
      have hu : us = cs := by rw [hcs, List.append_nil]
      refine gI Xl hx (D 5 rfl) rfl ?_
      refine gi Xl hx (D 6 rfl) rfl ?_
      refine cY Xl hx 32 (D 7 rfl) (flt (by rw [hu]; exact Int32.lt_irrefl : ¬ ((Int32.ofNat us.length) < (Int32.ofNat cs.length)))).2.1 (by decide) ?_
      refine ga Xl hx (D 17 rfl) rfl rfl ?_
      have V_f : Arv Z Tl.heap b k_b .byte (Int32.ofNat (2 * cs.length)) (utfL us ++ []) (.int 0) := V_b
      rw [List.append_nil, hu] at V_f
      exact Go.ret1 Xl hx Bd.returns Bd.notSynchronized rfl (Or.inr (Or.inr (Or.inr (Or.inr ⟨rfl, rfl, rfl⟩)))) (D 18 rfl) (by decide) (by decide) ⟨b, k_b, rfl, sz_b, Nl, K0, V_f⟩
    | cons cx ws ih =>
      intro us Tl Ll hcs Xl Nl K0 Od Z0 V_a1 V_b
      have hl : cs.length < 2147483648 := by omega
      have hn : cs.length = us.length + (ws.length + 1) := by rw [hcs, List.length_append, List.length_cons]
      refine gI Xl hx (D 5 rfl) rfl ?_
      refine gi Xl hx (D 6 rfl) rfl ?_
      refine cN Xl hx (D 7 rfl) (tlt ((in_mid hcs hl).2 : (Int32.ofNat us.length) < (Int32.ofNat cs.length))).2.1 ?_
      refine ga Xl hx (D 8 rfl) rfl rfl ?_
      refine gI Xl hx (D 9 rfl) rfl ?_
      refine ga Xl hx (D 10 rfl) rfl rfl ?_
      refine gi Xl hx (D 11 rfl) rfl ?_
      refine gC Xl hx hZ rfl V_a1 (in_mid hcs hl) (.int cx) (at_mid hcs hl) (D 12 rfl) ?_
      refine kS (W := 0) (C := 1) (S := 2000) Xl hx hZ hown (wd hw 87 rfl) (wd hw 88 rfl) (wd hw 26 rfl) (wd hw 89 rfl) (rm20 l Z a0 hw [] b k_b (Int32.ofNat (2 * cs.length)) _ (Int32.ofNat us.length) cx (Int32.ofNat (2 * us.length)) (2 * us.length) (2 * us.length + 1) Tl.heap n0 Od A1 HS LS g_b V_b (o_shl _) (o_in (by omega) (by omega)) (by rw [o_one]; exact o_in (by omega) (by omega)) (o_nat (by omega)) (by rw [o_one]; exact o_nat (by omega)) (by rw [List.length_append, utf_len, List.length_replicate, List.length_cons]; omega) (by rw [List.length_append, utf_len, List.length_replicate, List.length_cons]; omega)) pd_26 (D 13 rfl) rfl hml (by exact ⟨rfl, rfl, rfl, rfl⟩) (by decide) fun v123 T123 L123 Lc123 X123 hQ123 l123 => ?_
      obtain ⟨rfl, Nq123, K123, Vn123⟩ := hQ123
      have N123 := l123 Nl Nq123
      replace Od := Od.keep K123 (allS g_b all0)
      replace V_a1 := V_a1.keep K123 (ninS ne_a1_b nin0)
      replace Z0 := Nat.le_trans Z0 K123.1
      replace K0 := K0.trans K123 (allS (P := fun x => x ∈ _ ∨ _ ≤ x) (Or.inr sz_b) all0)
      clear V_b
      have V_b : Arv Z T123.heap b k_b .byte (Int32.ofNat (2 * cs.length)) (utfL (us ++ [cx]) ++ List.replicate (2 * ws.length) (.int 0)) (.int 0) := arv_eq Vn123 (utf_put us cx (2 * ws.length) _)
      refine gn X123 hx #[vr a1, vi ((Int32.ofNat us.length) + (1 : Int32)), vi (Int32.ofNat cs.length), vr b, vi (Int32.ofNat us.length)] (D 14 rfl) rfl rfl ?_
      refine gn X123 hx #[vr a1, vi ((Int32.ofNat us.length) + (1 : Int32)), vi (Int32.ofNat cs.length), vr b, vi ((Int32.ofNat us.length) + (1 : Int32))] (D 15 rfl) rfl rfl ?_
      refine gg X123 hx 8 (D 16 rfl) (by decide) ?_
      show Go p e below _ (T123.setTop (mkF m 8 #[vr a1, vi ((Int32.ofNat us.length) + (1 : Int32)), vi (Int32.ofNat cs.length), vr b, vi ((Int32.ofNat us.length) + (1 : Int32))] []))
      rw [snoc_len us cx]
      exact ih (us ++ [cx]) _ _ (snoc_app hcs) X123 N123 K0 Od Z0 V_a1 V_b
  exact loop cs [] _ _ rfl X121 N121 K0 Od Z0 V_a1 V_b
def Q_rmC5 (Z : State) (a1 b1 : Addr) (kc kb : ClassId) (cs : List Int32) (h0 : Heap) (n0 : Nat) : Option Value → Heap → List Loc → Prop := fun v h L => Fr n0 L ∧ Keep h0 h [b1] ∧ ((v = some (.int (Int32.ofNat cs.length)) ∧ (∀ c ∈ cs, ¬ (255 : Int32) < c) ∧ Arv Z h b1 kb .byte (Int32.ofNat cs.length) (latL cs) (.int 0)) ∨ ∃ us cx ws, cs = us ++ cx :: ws ∧ (255 : Int32) < cx ∧ v = some (.int (Int32.ofNat us.length)))
set_option maxRecDepth 65536 in
set_option maxHeartbeats 40000000 in
theorem rmC5 (l : Launch) (Z : State) (a0 : Array Value) (hw : HW a0 Z) (ws : List Jvm.Cond) (a1 b1 : Addr) (kc kb : ClassId) (cs : List Int32) (h0 : Heap) (n0 : Nat) (V_a1 : Arv Z h0 a1 kc .char (Int32.ofNat cs.length) (cs.map Value.int) (.int 0)) (g_b1 : n0 ≤ b1) (V_b1 : Arv Z h0 b1 kb .byte (Int32.ofNat cs.length) (List.replicate cs.length (.int 0)) (.int 0)) (hk : cs.length ≤ 1000) :
    CT l (⟨"java/lang/StringUTF16", "compress", "([CI[BII)I"⟩ : MethodName) jdk_52_method_21_code 7 (some .int) ws (⟨0, 0, 0, 0⟩ : Jvm.Room) #[(.ref a1), (.int (0 : Int32)), (.ref b1), (.int (0 : Int32)), (.int (Int32.ofNat cs.length))] Z h0 (Q_rmC5 Z a1 b1 kc kb cs h0 n0) := by
  refine Go.start (plainFor_of_name pn_2) #[vr a1, vi (0 : Int32), vr b1, vi (0 : Int32), vi (Int32.ofNat cs.length), uu, uu] n0 (by first | (simp [argsToLocals, Value.category, maxLocals]; done) | rfl) ?_
  intro p e s m below meth c s₁ Bd hx hby hml hZ hown X0 e0 N0
  have D := @dB _ _ hby _ D7
  have ne_a1_b1 : a1 ≠ b1 := arv_neT V_a1 V_b1 (by decide)
  have K0 : Keep h0 h0 [b1] := Keep.refl _ _
  refine gk X0 hx 0 (D 0 rfl) rfl ?_
  refine gT X0 hx #[vr a1, vi (0 : Int32), vr b1, vi (0 : Int32), vi (Int32.ofNat cs.length), vi (0 : Int32), uu] (D 1 rfl) rfl ?_
  replace K0 : Keep h0 s₁.heap [b1] := by rw [e0]; exact K0
  replace V_a1 : Arv Z s₁.heap a1 kc .char (Int32.ofNat cs.length) (cs.map Value.int) (.int 0) := by rw [e0]; exact V_a1
  replace V_b1 : Arv Z s₁.heap b1 kb .byte (Int32.ofNat cs.length) (List.replicate cs.length (.int 0)) (.int 0) := by rw [e0]; exact V_b1
  have loop : ∀ (ws us : List Int32) (sl6 : Slot) (hsl6 : One sl6) (Tl : State) (Ll : List Loc) (hcs : cs = us ++ ws) (hla : ∀ c ∈ us, ¬ (255 : Int32) < c) (Xl : Stand p l e (⟨0, 0, 0, 0⟩ : Jvm.Room) s m #[(.ref a1), (.int (0 : Int32)), (.ref b1), (.int (0 : Int32)), (.int (Int32.ofNat cs.length))] below meth c Tl Ll 0 0) (Nl : Fr n0 Ll) (K0 : Keep h0 Tl.heap [b1]) (V_a1 : Arv Z Tl.heap a1 kc .char (Int32.ofNat cs.length) (cs.map Value.int) (.int 0)) (V_b1 : Arv Z Tl.heap b1 kb .byte (Int32.ofNat cs.length) (latL us ++ List.replicate ws.length (.int 0)) (.int 0)), Go p e below (End (fun v h L => Fr n0 L ∧ Keep h0 h [b1] ∧ ((v = some (.int (Int32.ofNat cs.length)) ∧ (∀ c ∈ cs, ¬ (255 : Int32) < c) ∧ Arv Z h b1 kb .byte (Int32.ofNat cs.length) (latL cs) (.int 0)) ∨ ∃ us cx ws, cs = us ++ cx :: ws ∧ (255 : Int32) < cx ∧ v = some (.int (Int32.ofNat us.length)))) s 0 0) (Tl.setTop (mkF m 3 #[vr a1, vi (Int32.ofNat us.length), vr b1, vi (Int32.ofNat us.length), vi (Int32.ofNat cs.length), vi (Int32.ofNat us.length), sl6] [])) := by
    intro ws
    induction ws with
    | nil =>
      intro us sl6 hsl6 Tl Ll hcs hla Xl Nl K0 V_a1 V_b1
      have hu : us = cs := by rw [hcs, List.append_nil]
      refine gI Xl hx (D 2 rfl) rfl ?_
      refine gI Xl hx (D 3 rfl) rfl ?_
      refine cY Xl hx 44 (D 4 rfl) (flt (by rw [hu]; exact Int32.lt_irrefl : ¬ ((Int32.ofNat us.length) < (Int32.ofNat cs.length)))).2.1 (by decide) ?_
      refine gI Xl hx (D 23 rfl) rfl ?_
      have V_f : Arv Z Tl.heap b1 kb .byte (Int32.ofNat cs.length) (latL us ++ []) (.int 0) := V_b1
      rw [List.append_nil, hu] at V_f
      rw [hu] at hla
      exact Go.ret1 Xl hx Bd.returns Bd.notSynchronized rfl (Or.inl ⟨rfl, by simp, _, rfl⟩) (D 24 rfl) (by decide) (by decide) ⟨Nl, K0, Or.inl ⟨rfl, hla, V_f⟩⟩
    | cons cx ws ih =>
      intro us sl6 hsl6 Tl Ll hcs hla Xl Nl K0 V_a1 V_b1
      have hl : cs.length < 2147483648 := by omega
      have hn : cs.length = us.length + (ws.length + 1) := by rw [hcs, List.length_append, List.length_cons]
      refine gI Xl hx (D 2 rfl) rfl ?_
      refine gI Xl hx (D 3 rfl) rfl ?_
      refine cN Xl hx (D 4 rfl) (tlt ((in_mid hcs hl).2 : (Int32.ofNat us.length) < (Int32.ofNat cs.length))).2.1 ?_
      refine ga Xl hx (D 5 rfl) rfl rfl ?_
      refine gi Xl hx (D 6 rfl) rfl ?_
      refine gC Xl hx hZ rfl V_a1 (in_mid hcs hl) (.int cx) (at_mid hcs hl) (D 7 rfl) ?_
      refine gT Xl hx #[vr a1, vi (Int32.ofNat us.length), vr b1, vi (Int32.ofNat us.length), vi (Int32.ofNat cs.length), vi (Int32.ofNat us.length), vi cx] (D 8 rfl) (by rcases hsl6 with rfl | ⟨wz, rfl, hwz⟩ <;> first | rfl | (cases wz <;> first | rfl | (simp [Value.category] at hwz))) ?_
      refine gI Xl hx (D 9 rfl) rfl ?_
      refine gs Xl hx 255 (D 10 rfl) rfl ?_
      by_cases gt : (255 : Int32) < cx
      ·
        refine cN Xl hx (D 11 rfl) (tlt gt).2.2.2 ?_
        refine gI Xl hx (D 12 rfl) rfl ?_
        exact Go.ret1 Xl hx Bd.returns Bd.notSynchronized rfl (Or.inl ⟨rfl, by simp, _, rfl⟩) (D 13 rfl) (by decide) (by decide) ⟨Nl, K0, Or.inr ⟨us, cx, ws, hcs, gt, rfl⟩⟩
      refine cY Xl hx 26 (D 11 rfl) (flt gt).2.2.2 (by decide) ?_
      refine ga Xl hx (D 14 rfl) rfl rfl ?_
      refine gi Xl hx (D 15 rfl) rfl ?_
      refine gI Xl hx (D 16 rfl) rfl ?_
      refine gq (XS.i2b Xl.here hx rfl (D 17 rfl) rfl) rfl ?_
      refine sB Xl hx hZ rfl V_b1 (in_mid hcs hl) us.length (o_nat (by omega)) (by rw [List.length_append, lat_len, List.length_replicate, List.length_cons]; omega) _ (rfl) (D 18 rfl) fun T125 h125 X125 e125 W125 Vn125 => ?_
      replace V_b1 := Vn125
      clear Vn125
      replace V_a1 := V_a1.other W125 ne_a1_b1
      replace K0 := K0.wr W125 (Or.inl (List.mem_of_getElem? (i := 0) rfl))
      have N125 := Fr.snoc X125 Nl g_b1
      replace V_b1 := arv_eq V_b1 (lat_put us cx ws.length _ (nar_i8 cx))
      refine gn X125 hx #[vr a1, vi ((Int32.ofNat us.length) + (1 : Int32)), vr b1, vi (Int32.ofNat us.length), vi (Int32.ofNat cs.length), vi (Int32.ofNat us.length), vi cx] (D 19 rfl) rfl rfl ?_
      refine gn X125 hx #[vr a1, vi ((Int32.ofNat us.length) + (1 : Int32)), vr b1, vi ((Int32.ofNat us.length) + (1 : Int32)), vi (Int32.ofNat cs.length), vi (Int32.ofNat us.length), vi cx] (D 20 rfl) rfl rfl ?_
      refine gn X125 hx #[vr a1, vi ((Int32.ofNat us.length) + (1 : Int32)), vr b1, vi ((Int32.ofNat us.length) + (1 : Int32)), vi (Int32.ofNat cs.length), vi ((Int32.ofNat us.length) + (1 : Int32)), vi cx] (D 21 rfl) rfl rfl ?_
      refine gg X125 hx 3 (D 22 rfl) (by decide) ?_
      subst e125
      show Go p e below _ (T125.setTop (mkF m 3 #[vr a1, vi ((Int32.ofNat us.length) + (1 : Int32)), vr b1, vi ((Int32.ofNat us.length) + (1 : Int32)), vi (Int32.ofNat cs.length), vi ((Int32.ofNat us.length) + (1 : Int32)), vi cx] []))
      rw [snoc_len us cx]
      exact ih (us ++ [cx]) _ (One.val rfl) _ _ (snoc_app hcs) (all_snoc hla gt) X125 N125 K0 V_a1 V_b1
  exact loop cs [] _ One.u _ _ rfl (fun _ h => nomatch h) X0 N0 K0 V_a1 V_b1
def Q_rmC3 (Z : State) (a1 : Addr) (kc : ClassId) (cs : List Int32) (h0 : Heap) (n0 : Nat) : Option Value → Heap → List Loc → Prop := fun v h L => ∃ (b : Addr) (kb : ClassId), v = some (.ref b) ∧ h0.size ≤ b ∧ Fr n0 L ∧ Keep h0 h [] ∧ (((∀ c ∈ cs, ¬ (255 : Int32) < c) ∧ Arv Z h b kb .byte (Int32.ofNat cs.length) (latL cs) (.int 0)) ∨ ((∃ c ∈ cs, (255 : Int32) < c) ∧ Arv Z h b kb .byte (Int32.ofNat (2 * cs.length)) (utfL cs) (.int 0)))
set_option maxRecDepth 65536 in
set_option maxHeartbeats 40000000 in
theorem rmC3 (l : Launch) (Z : State) (a0 : Array Value) (hw : HW a0 Z) (ws : List Jvm.Cond) (a1 : Addr) (kc : ClassId) (cs : List Int32) (h0 : Heap) (n0 : Nat) (Z0 : n0 ≤ h0.size) (Od : Old Z n0 h0) (A1 : SA1 Z) (HS : SHS Z) (LS : SLS Z) (V_a1 : Arv Z h0 a1 kc .char (Int32.ofNat cs.length) (cs.map Value.int) (.int 0)) (hk : cs.length ≤ 1000) (hbd : ∀ c ∈ cs, ¬ c < 0 ∧ ¬ (65535 : Int32) < c) :
    CT l (⟨"java/lang/StringUTF16", "compress", "([CII)[B"⟩ : MethodName) jdk_52_method_16_code 6 (some (.array .byte)) ws (⟨3, 2, 3000, 46⟩ : Jvm.Room) #[(.ref a1), (.int (0 : Int32)), (.int (Int32.ofNat cs.length))] Z h0 (Q_rmC3 Z a1 kc cs h0 n0) := by
  refine Go.start (plainFor_of_name pn_2) #[vr a1, vi (0 : Int32), vi (Int32.ofNat cs.length), uu, uu, uu] n0 (by first | (simp [argsToLocals, Value.category, maxLocals]; done) | rfl) ?_
  intro p e s m below meth c s₁ Bd hx hby hml hZ hown X0 e0 N0
  have D := @dB _ _ hby _ D6
  have K0 : Keep h0 h0 [] := Keep.refl _ _
  refine gi X0 hx (D 0 rfl) rfl ?_
  obtain ⟨T126, h126, k126, X126, e126, E126, A126, st126⟩ := newP X0 hx hZ (wd hw 28 rfl) e0 (g := (mkF m 1 #[vr a1, vi (0 : Int32), vi (Int32.ofNat cs.length), uu, uu, uu] [(.int (Int32.ofNat cs.length))])) rfl (D 1 rfl) rfl (o_nn (by omega)) (cap := 1000) (by rw [o_nat (by omega)]; omega) (by decide) (by decide) (by decide)
  obtain ⟨lb, g126⟩ : ∃ z, z = h0.size := ⟨_, rfl⟩
  rw [← g126] at A126 st126
  refine Go.by (fun t => st126 t) ?_
  have g_lb : n0 ≤ lb := Nat.le_trans Z0 (Nat.le_of_eq g126.symm)
  have sz_lb : h0.size ≤ lb := Nat.le_trans K0.1 (Nat.le_of_eq g126.symm)
  have ne_a1_lb : a1 ≠ lb := Nat.ne_of_lt (Nat.lt_of_lt_of_le V_a1.lt (Nat.le_of_eq g126.symm))
  replace Od := Od.ext E126
  replace V_a1 := V_a1.ext E126
  replace Z0 := Nat.le_trans Z0 E126.1
  replace K0 := K0.ext E126
  have V_lb := Arv.new A126 (o_nn (by omega))
  replace X126 := Stand.num (C := 1) (S := 1000) X126 rfl rfl
  show Go p e below _ (T126.setTop (mkF m 3 #[vr a1, vi (0 : Int32), vi (Int32.ofNat cs.length), uu, uu, uu] [(.ref lb)]))
  replace V_lb : Arv Z h126 lb k126 .byte (Int32.ofNat cs.length) (List.replicate cs.length (.int 0)) (.int 0) := V_lb.pad (pad_rep [] _ cs.length)
  refine gu X126 hx #[vr a1, vi (0 : Int32), vi (Int32.ofNat cs.length), vr lb, uu, uu] (D 2 rfl) rfl rfl ?_
  refine ga X126 hx (D 3 rfl) rfl rfl ?_
  refine gi X126 hx (D 4 rfl) rfl ?_
  refine ga X126 hx (D 5 rfl) rfl rfl ?_
  refine gk X126 hx 0 (D 6 rfl) rfl ?_
  refine gi X126 hx (D 7 rfl) rfl ?_
  refine kS (W := 0) (C := 1) (S := 1000) X126 hx hZ hown (wd hw 29 rfl) (wd hw 30 rfl) (wd hw 26 rfl) (wd hw 31 rfl) (rmC5 l Z a0 hw [] a1 lb kc _ cs h126 n0 V_a1 g_lb V_lb hk) pd_10 (D 8 rfl) e126 hml (by exact ⟨rfl, rfl, rfl, rfl⟩) (by decide) fun v127 T127 L127 Lc127 X127 hQ127 l127 => ?_
  obtain ⟨Nq127, K127, ⟨rfl, hla, Vl⟩ | ⟨us, cx, ws, hcs, gt, rfl⟩⟩ := hQ127
  ·
    have N127 := l127 N0 Nq127
    replace Od := Od.keep K127 (allS g_lb all0)
    replace V_a1 := V_a1.keep K127 (ninS ne_a1_lb nin0)
    replace Z0 := Nat.le_trans Z0 K127.1
    replace K0 := K0.trans K127 (allS (P := fun x => x ∈ _ ∨ _ ≤ x) (Or.inr sz_lb) all0)
    refine gT X127 hx #[vr a1, vi (0 : Int32), vi (Int32.ofNat cs.length), vr lb, vi (Int32.ofNat cs.length), uu] (D 9 rfl) rfl ?_
    refine gI X127 hx (D 10 rfl) rfl ?_
    refine gi X127 hx (D 11 rfl) rfl ?_
    refine cY X127 hx 57 (D 12 rfl) (teq (rfl : (Int32.ofNat cs.length) = (Int32.ofNat cs.length))).1 (by decide) ?_
    refine ga X127 hx (D 33 rfl) rfl rfl ?_
    exact Go.ret1 X127 hx Bd.returns Bd.notSynchronized rfl (Or.inr (Or.inr (Or.inr (Or.inr ⟨rfl, rfl, rfl⟩)))) (D 34 rfl) (by decide) (by decide) ⟨lb, _, rfl, sz_lb, N127, K0, Or.inl ⟨hla, Vl⟩⟩
  ·
    have hlt : us.length < cs.length := by rw [hcs, List.length_append, List.length_cons]; omega
    have hmem : cx ∈ cs := by rw [hcs]; exact List.mem_append_right _ (List.mem_cons_self ..)
    have N127 := l127 N0 Nq127
    replace Od := Od.keep K127 (allS g_lb all0)
    replace V_a1 := V_a1.keep K127 (ninS ne_a1_lb nin0)
    replace Z0 := Nat.le_trans Z0 K127.1
    replace K0 := K0.trans K127 (allS (P := fun x => x ∈ _ ∨ _ ≤ x) (Or.inr sz_lb) all0)
    refine gT X127 hx #[vr a1, vi (0 : Int32), vi (Int32.ofNat cs.length), vr lb, vi (Int32.ofNat us.length), uu] (D 9 rfl) rfl ?_
    refine gI X127 hx (D 10 rfl) rfl ?_
    refine gi X127 hx (D 11 rfl) rfl ?_
    refine cN X127 hx (D 12 rfl) (feq (o_ne hlt (by omega) : ¬ ((Int32.ofNat us.length) = (Int32.ofNat cs.length)))).1 ?_
    refine ga X127 hx (D 13 rfl) rfl rfl ?_
    refine gi X127 hx (D 14 rfl) rfl ?_
    refine gi X127 hx (D 15 rfl) rfl ?_
    refine kS (W := 0) (C := 2) (S := 3000) X127 hx hZ hown (wd hw 77 rfl) (wd hw 78 rfl) (wd hw 26 rfl) (wd hw 79 rfl) (rmTB l Z a0 hw [] a1 kc cs T127.heap n0 Z0 Od A1 HS LS V_a1 hk) pd_8 (D 16 rfl) rfl hml (by exact ⟨rfl, rfl, rfl, rfl⟩) (by decide) fun v128 T128 L128 Lc128 X128 hQ128 l128 => ?_
    obtain ⟨b, k_b, rfl, sz_b, Nq128, K128, V_b⟩ := hQ128
    have g_b : n0 ≤ b := Nat.le_trans Z0 sz_b
    have ne_a1_b : a1 ≠ b := Nat.ne_of_lt (Nat.lt_of_lt_of_le V_a1.lt sz_b)
    replace sz_b : h0.size ≤ b := Nat.le_trans K0.1 sz_b
    have N128 := l128 N127 Nq128
    replace Od := Od.keep K128 all0
    replace V_a1 := V_a1.keep K128 nin0
    replace Z0 := Nat.le_trans Z0 K128.1
    replace K0 := K0.trans K128 all0
    refine gU X128 hx #[vr a1, vi (0 : Int32), vi (Int32.ofNat cs.length), vr lb, vi (Int32.ofNat us.length), vr b] (D 17 rfl) rfl rfl ?_
    refine gA X128 hx (D 18 rfl) rfl rfl ?_
    refine gI X128 hx (D 19 rfl) rfl ?_
    refine kS (W := 0) (C := 2) (S := 3000) X128 hx hZ hown (wd hw 93 rfl) (wd hw 94 rfl) (wd hw 26 rfl) (wd hw 95 rfl) (rm21 l Z a0 hw [] b k_b (Int32.ofNat (2 * cs.length)) _ (Int32.ofNat us.length) (Int32.ofNat (2 * us.length)) (lo16 cx) (hi16 cx) cx T128.heap n0 Od A1 HS LS V_b (o_shl _) (o_in (by omega) (by omega)) (by rw [o_one]; exact o_in (by omega) (by omega)) (utf_at hcs (by omega)).1 (utf_at hcs (by omega)).2 (cc16 (hbd cx hmem))) pd_11 (D 20 rfl) rfl hml (by exact ⟨rfl, rfl, rfl, rfl⟩) (by decide) fun v129 T129 L129 Lc129 X129 hQ129 l129 => ?_
    obtain ⟨rfl, Nq129, e129⟩ := hQ129
    have N129 := l129 N128 Nq129
    refine gs X129 hx 255 (D 21 rfl) rfl ?_
    refine cY X129 hx 54 (D 22 rfl) (tlt gt).2.2.1 (by decide) ?_
    refine gA X129 hx (D 31 rfl) rfl rfl ?_
    exact Go.ret1 X129 hx Bd.returns Bd.notSynchronized rfl (Or.inr (Or.inr (Or.inr (Or.inr ⟨rfl, rfl, rfl⟩)))) (D 32 rfl) (by decide) (by decide) (by first | (rw [e129]; exact ⟨b, k_b, rfl, sz_b, N129, K0, Or.inr ⟨⟨cx, hmem, gt⟩, V_b⟩⟩) | exact ⟨b, k_b, rfl, sz_b, N129, K0, Or.inr ⟨⟨cx, hmem, gt⟩, V_b⟩⟩)
def Q_rmCO (Z : State) (b1 : Addr) (kb : ClassId) (N k r : Int32) (vs : List Value) (h0 : Heap) (n0 : Nat) : Option Value → Heap → List Loc → Prop := fun v h L => v = some (.int r) ∧ Fr n0 L ∧ h = h0
set_option maxRecDepth 65536 in
set_option maxHeartbeats 40000000 in
theorem rmCO (l : Launch) (Z : State) (a0 : Array Value) (hw : HW a0 Z) (ws : List Jvm.Cond) (b1 : Addr) (kb : ClassId) (N k r : Int32) (vs : List Value) (h0 : Heap) (n0 : Nat) (V_b1 : Arv Z h0 b1 kb .byte N vs (.int 0)) (hr : (((k - N).toUInt32 >>> ((31 : Int32) &&& 31).toUInt32).toInt32).toInt8.toInt32 = r) (h01 : r = 0 ∨ r = 1) :
    CT l (⟨"java/lang/StringUTF16", "coderFromArrayLen", "([BI)B"⟩ : MethodName) jdk_52_method_15_code 2 (some .byte) ws (⟨0, 0, 0, 0⟩ : Jvm.Room) #[(.ref b1), (.int k)] Z h0 (Q_rmCO Z b1 kb N k r vs h0 n0) := by
  refine Go.start (plainFor_of_name pn_2) #[vr b1, vi k] n0 (by first | (simp [argsToLocals, Value.category, maxLocals]; done) | rfl) ?_
  intro p e s m below meth c s₁ Bd hx hby hml hZ hown X0 e0 N0
  have D := @dB _ _ hby _ D8
  refine gi X0 hx (D 0 rfl) rfl ?_
  refine ga X0 hx (D 1 rfl) rfl rfl ?_
  refine gN X0 hx hZ e0 V_b1 (D 2 rfl) ?_
  refine gq (XS.isub X0.here hx rfl (D 3 rfl) rfl) rfl ?_
  refine gb X0 hx 31 (D 4 rfl) rfl ?_
  refine gq (XS.iushr X0.here hx rfl (D 5 rfl) rfl) rfl ?_
  refine gq (XS.i2b X0.here hx rfl (D 6 rfl) rfl) rfl ?_
  have hr' : ((((k - N).toUInt32 >>> ((31 : Int32) &&& 31).toUInt32).toInt32).toInt8.toInt32) = r := hr
  show Go p e below _ (s₁.setTop (mkF m 8 #[vr b1, vi k] [(.int ((((k - N).toUInt32 >>> ((31 : Int32) &&& 31).toUInt32).toInt32).toInt8.toInt32))]))
  rw [hr']
  exact Go.ret1 X0 hx Bd.returns Bd.notSynchronized (by rcases h01 with rfl | rfl <;> rfl) (Or.inl ⟨rfl, by simp, _, rfl⟩) (D 7 rfl) (by decide) (by decide) (by first | (rw [e0]; exact ⟨rfl, N0, rfl⟩) | exact ⟨rfl, N0, rfl⟩)
def Q_rmI5 (Z : State) (s1 : Addr) (a1 : Addr) (kc : ClassId) (cs : List Int32) (G1 : Int32) (h0 : Heap) (n0 : Nat) : Option Value → Heap → List Loc → Prop := fun v h L => v = none ∧ Fr n0 L ∧ Keep h0 h [s1] ∧ StrU Z h s1 cs
set_option maxRecDepth 65536 in
set_option maxHeartbeats 40000000 in
theorem rmI5 (l : Launch) (Z : State) (a0 : Array Value) (hw : HW a0 Z) (ws : List Jvm.Cond) (s1 : Addr) (a1 : Addr) (kc : ClassId) (cs : List Int32) (G1 : Int32) (h0 : Heap) (n0 : Nat) (Z0 : n0 ≤ h0.size) (Od : Old Z n0 h0) (A1 : SA1 Z) (HS : SHS Z) (LS : SLS Z) (O2 : SO2 Z G1) (P5 : ¬ (G1 = (0 : Int32))) (E_s1 : Exa Z h0 s1 "java/lang/String") (F_value_s1 : Fld Z h0 s1 "java/lang/String" "value" "[B" .null) (F_coder_s1 : Fld Z h0 s1 "java/lang/String" "coder" "B" (.int 0)) (g_s1 : n0 ≤ s1) (V_a1 : Arv Z h0 a1 kc .char (Int32.ofNat cs.length) (cs.map Value.int) (.int 0)) (hk : cs.length ≤ 1000) (h1 : 1 ≤ cs.length) (hbd : ∀ c ∈ cs, ¬ c < 0 ∧ ¬ (65535 : Int32) < c) :
    CT l (⟨"java/lang/String", "<init>", "([CIILjava/lang/Void;)V"⟩ : MethodName) jdk_42_method_149_code 6 none ws (⟨4, 2, 3000, 64⟩ : Jvm.Room) #[(.ref s1), (.ref a1), (.int (0 : Int32)), (.int (Int32.ofNat cs.length)), .null] Z h0 (Q_rmI5 Z s1 a1 kc cs G1 h0 n0) := by
  refine Go.start (plainFor_of_name pn_1) #[vr s1, vr a1, vi (0 : Int32), vi (Int32.ofNat cs.length), .val .null, uu] n0 (by first | (simp [argsToLocals, Value.category, maxLocals]; done) | rfl) ?_
  intro p e s m below meth c s₁ Bd hx hby hml hZ hown X0 e0 N0
  have hnm := (name_of_methodNamed Bd.named Bd.method).1
  have D := @dB _ _ hby _ D4
  have K0 : Keep h0 h0 [s1] := Keep.refl _ _
  refine ga X0 hx (D 0 rfl) rfl rfl ?_
  obtain ⟨T130, X130, e130, st130⟩ := initO X0 hx hZ hown (wd hw 20 rfl) (wd hw 21 rfl) (wd hw 22 rfl) e0 (g := (mkF m 1 #[vr s1, vr a1, vi (0 : Int32), vi (Int32.ofNat cs.length), .val .null, uu] [(.ref s1)])) rfl (by rw [hml]; rfl) rfl (D 1 rfl) (by decide) (W := 0) (by show 2 * 0 + _ ≤ _; exact Nat.le_of_eq rfl) (by decide)
  refine Go.by (fun t => st130 t) ?_
  show Go p e below _ (T130.setTop (mkF m 4 #[vr s1, vr a1, vi (0 : Int32), vi (Int32.ofNat cs.length), .val .null, uu] []))
  refine gi X130 hx (D 2 rfl) rfl ?_
  refine zY X130 hx 27 (D 3 rfl) ((if0 _ _).trans (feq (fun q => o_ne (a := 0) (b := cs.length) (by omega) (by omega) q.symm : ¬ ((Int32.ofNat cs.length) = (0 : Int32)))).2) (by decide) ?_
  refine gS X130 hx hZ hown (wd hw 23 rfl) e130 (O2.ext Od.2) (D 13 rfl) fun T131 X131 e131 => ?_
  refine zN X131 hx (D 14 rfl) ((if0 _ _).trans (feq P5).1) ?_
  refine ga X131 hx (D 15 rfl) rfl rfl ?_
  refine gi X131 hx (D 16 rfl) rfl ?_
  refine gi X131 hx (D 17 rfl) rfl ?_
  refine kS (W := 0) (C := 2) (S := 3000) X131 hx hZ hown (wd hw 24 rfl) (wd hw 25 rfl) (wd hw 26 rfl) (wd hw 27 rfl) (rmC3 l Z a0 hw [] a1 kc cs h0 n0 Z0 Od A1 HS LS V_a1 hk hbd) pd_8 (D 18 rfl) e131 hml (by exact ⟨rfl, rfl, rfl, rfl⟩) (by decide) fun v132 T132 L132 Lc132 X132 hQ132 l132 => ?_
  obtain ⟨b, k_b, rfl, sz_b, Nq132, K132, ⟨hla, V_b⟩ | ⟨hgt, V_b⟩⟩ := hQ132
  ·
    have g_b : n0 ≤ b := Nat.le_trans Z0 sz_b
    have ne_a1_b : a1 ≠ b := Nat.ne_of_lt (Nat.lt_of_lt_of_le V_a1.lt sz_b)
    have ne_s1_b : s1 ≠ b := Nat.ne_of_lt (Nat.lt_of_lt_of_le E_s1.lt sz_b)
    replace sz_b : h0.size ≤ b := Nat.le_trans K0.1 sz_b
    have N132 := l132 N0 Nq132
    replace Od := Od.keep K132 all0
    replace E_s1 := E_s1.keep K132
    replace F_value_s1 := F_value_s1.keep K132 nin0
    replace F_coder_s1 := F_coder_s1.keep K132 nin0
    replace V_a1 := V_a1.keep K132 nin0
    replace Z0 := Nat.le_trans Z0 K132.1
    replace K0 := K0.trans K132 all0
    refine gU X132 hx #[vr s1, vr a1, vi (0 : Int32), vi (Int32.ofNat cs.length), .val .null, vr b] (D 19 rfl) rfl rfl ?_
    refine ga X132 hx (D 20 rfl) rfl rfl ?_
    refine gA X132 hx (D 21 rfl) rfl rfl ?_
    refine gi X132 hx (D 22 rfl) rfl ?_
    refine kS (W := 1) (C := 2) (S := 3000) X132 hx hZ hown (wd hw 32 rfl) (wd hw 33 rfl) (wd hw 26 rfl) (wd hw 34 rfl) (rmCO l Z a0 hw [] b k_b (Int32.ofNat cs.length) (Int32.ofNat cs.length) 0 _ T132.heap n0 V_b (by rw [Int32.sub_self]; rfl) (Or.inl rfl)) pd_9 (D 23 rfl) rfl hml (by exact ⟨rfl, rfl, rfl, rfl⟩) (by decide) fun v133 T133 L133 Lc133 X133 hQ133 l133 => ?_
    obtain ⟨rfl, Nq133, e133⟩ := hQ133
    have N133 := l133 N132 Nq133
    obtain ⟨T134, h134, X134, e134, W134, st134⟩ := putFN X133 hx hZ hown (wd hw 35 rfl) Via.refl e133 F_coder_s1 E_s1 (Or.inr ⟨(wd hw 36 rfl), rfl, hnm⟩) (wd hw 11 rfl) (ty := .byte) (v' := (.int (0 : Int32))) (by decide) (by first | rfl | decide) (by first | rfl | decide | exact fits_nar_byte _) (g := (mkF m 48 #[vr s1, vr a1, vi (0 : Int32), vi (Int32.ofNat cs.length), .val .null, vr b] [(.int (0 : Int32)), (.ref s1)])) rfl rfl (D 24 rfl)
    refine Go.by (fun t => st134 t) ?_
    have ne_a1_s1 : a1 ≠ s1 := Ne.symm (Exa.neArv E_s1 V_a1 (wd hw 11 rfl))
    replace F_coder_s1 := F_coder_s1.same W134
    replace Od := Od.wr W134 g_s1
    replace E_s1 := E_s1.wr W134
    replace F_value_s1 := F_value_s1.other W134 (Or.inr (slot_ne (Or.inr (wd hw 38 rfl)) (Or.inr (wd hw 36 rfl)) (by decide) (t := (.array .byte)) (t' := .byte) (by decide) (by decide)))
    replace V_a1 := V_a1.other W134 ne_a1_s1
    replace V_b := V_b.other W134 (Ne.symm ne_s1_b)
    replace Z0 := Nat.le_trans Z0 (Keep.of_wr W134).1
    replace K0 := K0.wr W134 (Or.inl (List.mem_of_getElem? (i := 0) rfl))
    have N134 := Fr.snoc X134 N133 g_s1
    show Go p e below _ (T134.setTop (mkF m 51 #[vr s1, vr a1, vi (0 : Int32), vi (Int32.ofNat cs.length), .val .null, vr b] []))
    refine ga X134 hx (D 25 rfl) rfl rfl ?_
    refine gA X134 hx (D 26 rfl) rfl rfl ?_
    obtain ⟨T135, h135, X135, e135, W135, st135⟩ := putF X134 hx hZ hown (host := "") (Or.inl (wd hw 37 rfl)) Via.refl e134 F_value_s1 E_s1 (Or.inr ⟨(wd hw 38 rfl), rfl, hnm⟩) (wd hw 11 rfl) (ty := (.array .byte)) (by decide) rfl rfl (g := (mkF m 54 #[vr s1, vr a1, vi (0 : Int32), vi (Int32.ofNat cs.length), .val .null, vr b] [(.ref b), (.ref s1)])) rfl rfl (D 27 rfl)
    refine Go.by (fun t => st135 t) ?_
    replace F_value_s1 := F_value_s1.same W135
    replace Od := Od.wr W135 g_s1
    replace E_s1 := E_s1.wr W135
    replace F_coder_s1 := F_coder_s1.other W135 (Or.inr (slot_ne (Or.inr (wd hw 36 rfl)) (Or.inr (wd hw 38 rfl)) (by decide) (t := .byte) (t' := (.array .byte)) (by decide) (by decide)))
    replace V_a1 := V_a1.other W135 ne_a1_s1
    replace V_b := V_b.other W135 (Ne.symm ne_s1_b)
    replace Z0 := Nat.le_trans Z0 (Keep.of_wr W135).1
    replace K0 := K0.wr W135 (Or.inl (List.mem_of_getElem? (i := 0) rfl))
    have N135 := Fr.snoc X135 N134 g_s1
    show Go p e below _ (T135.setTop (mkF m 57 #[vr s1, vr a1, vi (0 : Int32), vi (Int32.ofNat cs.length), .val .null, vr b] []))
    exact Go.ret0 X135 hx Bd.returns Bd.notSynchronized (D 28 rfl) (by decide) (by decide) (by first | (rw [e135]; exact ⟨rfl, N135, K0, b, k_b, E_s1, F_value_s1, Or.inl ⟨F_coder_s1, fun c hc => ⟨(hbd c hc).1, hla c hc⟩, V_b⟩⟩) | exact ⟨rfl, N135, K0, b, k_b, E_s1, F_value_s1, Or.inl ⟨F_coder_s1, fun c hc => ⟨(hbd c hc).1, hla c hc⟩, V_b⟩⟩)
  ·
    have g_b : n0 ≤ b := Nat.le_trans Z0 sz_b
    have ne_a1_b : a1 ≠ b := Nat.ne_of_lt (Nat.lt_of_lt_of_le V_a1.lt sz_b)
    have ne_s1_b : s1 ≠ b := Nat.ne_of_lt (Nat.lt_of_lt_of_le E_s1.lt sz_b)
    replace sz_b : h0.size ≤ b := Nat.le_trans K0.1 sz_b
    have N132 := l132 N0 Nq132
    replace Od := Od.keep K132 all0
    replace E_s1 := E_s1.keep K132
    replace F_value_s1 := F_value_s1.keep K132 nin0
    replace F_coder_s1 := F_coder_s1.keep K132 nin0
    replace V_a1 := V_a1.keep K132 nin0
    replace Z0 := Nat.le_trans Z0 K132.1
    replace K0 := K0.trans K132 all0
    refine gU X132 hx #[vr s1, vr a1, vi (0 : Int32), vi (Int32.ofNat cs.length), .val .null, vr b] (D 19 rfl) rfl rfl ?_
    refine ga X132 hx (D 20 rfl) rfl rfl ?_
    refine gA X132 hx (D 21 rfl) rfl rfl ?_
    refine gi X132 hx (D 22 rfl) rfl ?_
    refine kS (W := 1) (C := 2) (S := 3000) X132 hx hZ hown (wd hw 32 rfl) (wd hw 33 rfl) (wd hw 26 rfl) (wd hw 34 rfl) (rmCO l Z a0 hw [] b k_b (Int32.ofNat (2 * cs.length)) (Int32.ofNat cs.length) 1 _ T132.heap n0 V_b (sgn_neg (o_dbl h1 (by omega))) (Or.inr rfl)) pd_9 (D 23 rfl) rfl hml (by exact ⟨rfl, rfl, rfl, rfl⟩) (by decide) fun v136 T136 L136 Lc136 X136 hQ136 l136 => ?_
    obtain ⟨rfl, Nq136, e136⟩ := hQ136
    have N136 := l136 N132 Nq136
    obtain ⟨T137, h137, X137, e137, W137, st137⟩ := putFN X136 hx hZ hown (wd hw 35 rfl) Via.refl e136 F_coder_s1 E_s1 (Or.inr ⟨(wd hw 36 rfl), rfl, hnm⟩) (wd hw 11 rfl) (ty := .byte) (v' := (.int (1 : Int32))) (by decide) (by first | rfl | decide) (by first | rfl | decide | exact fits_nar_byte _) (g := (mkF m 48 #[vr s1, vr a1, vi (0 : Int32), vi (Int32.ofNat cs.length), .val .null, vr b] [(.int (1 : Int32)), (.ref s1)])) rfl rfl (D 24 rfl)
    refine Go.by (fun t => st137 t) ?_
    have ne_a1_s1 : a1 ≠ s1 := Ne.symm (Exa.neArv E_s1 V_a1 (wd hw 11 rfl))
    replace F_coder_s1 := F_coder_s1.same W137
    replace Od := Od.wr W137 g_s1
    replace E_s1 := E_s1.wr W137
    replace F_value_s1 := F_value_s1.other W137 (Or.inr (slot_ne (Or.inr (wd hw 38 rfl)) (Or.inr (wd hw 36 rfl)) (by decide) (t := (.array .byte)) (t' := .byte) (by decide) (by decide)))
    replace V_a1 := V_a1.other W137 ne_a1_s1
    replace V_b := V_b.other W137 (Ne.symm ne_s1_b)
    replace Z0 := Nat.le_trans Z0 (Keep.of_wr W137).1
    replace K0 := K0.wr W137 (Or.inl (List.mem_of_getElem? (i := 0) rfl))
    have N137 := Fr.snoc X137 N136 g_s1
    show Go p e below _ (T137.setTop (mkF m 51 #[vr s1, vr a1, vi (0 : Int32), vi (Int32.ofNat cs.length), .val .null, vr b] []))
    refine ga X137 hx (D 25 rfl) rfl rfl ?_
    refine gA X137 hx (D 26 rfl) rfl rfl ?_
    obtain ⟨T138, h138, X138, e138, W138, st138⟩ := putF X137 hx hZ hown (host := "") (Or.inl (wd hw 37 rfl)) Via.refl e137 F_value_s1 E_s1 (Or.inr ⟨(wd hw 38 rfl), rfl, hnm⟩) (wd hw 11 rfl) (ty := (.array .byte)) (by decide) rfl rfl (g := (mkF m 54 #[vr s1, vr a1, vi (0 : Int32), vi (Int32.ofNat cs.length), .val .null, vr b] [(.ref b), (.ref s1)])) rfl rfl (D 27 rfl)
    refine Go.by (fun t => st138 t) ?_
    replace F_value_s1 := F_value_s1.same W138
    replace Od := Od.wr W138 g_s1
    replace E_s1 := E_s1.wr W138
    replace F_coder_s1 := F_coder_s1.other W138 (Or.inr (slot_ne (Or.inr (wd hw 36 rfl)) (Or.inr (wd hw 38 rfl)) (by decide) (t := .byte) (t' := (.array .byte)) (by decide) (by decide)))
    replace V_a1 := V_a1.other W138 ne_a1_s1
    replace V_b := V_b.other W138 (Ne.symm ne_s1_b)
    replace Z0 := Nat.le_trans Z0 (Keep.of_wr W138).1
    replace K0 := K0.wr W138 (Or.inl (List.mem_of_getElem? (i := 0) rfl))
    have N138 := Fr.snoc X138 N137 g_s1
    show Go p e below _ (T138.setTop (mkF m 57 #[vr s1, vr a1, vi (0 : Int32), vi (Int32.ofNat cs.length), .val .null, vr b] []))
    exact Go.ret0 X138 hx Bd.returns Bd.notSynchronized (D 28 rfl) (by decide) (by decide) (by first | (rw [e138]; exact ⟨rfl, N138, K0, b, k_b, E_s1, F_value_s1, Or.inr ⟨F_coder_s1, hgt, V_b⟩⟩) | exact ⟨rfl, N138, K0, b, k_b, E_s1, F_value_s1, Or.inr ⟨F_coder_s1, hgt, V_b⟩⟩)
def Q_rmI1 (Z : State) (s1 : Addr) (a1 : Addr) (kc : ClassId) (cs : List Int32) (G1 : Int32) (h0 : Heap) (n0 : Nat) : Option Value → Heap → List Loc → Prop := fun v h L => v = none ∧ Fr n0 L ∧ Keep h0 h [s1] ∧ StrU Z h s1 cs
set_option maxRecDepth 65536 in
set_option maxHeartbeats 40000000 in
theorem rmI1 (l : Launch) (Z : State) (a0 : Array Value) (hw : HW a0 Z) (ws : List Jvm.Cond) (s1 : Addr) (a1 : Addr) (kc : ClassId) (cs : List Int32) (G1 : Int32) (h0 : Heap) (n0 : Nat) (Z0 : n0 ≤ h0.size) (Od : Old Z n0 h0) (A1 : SA1 Z) (HS : SHS Z) (LS : SLS Z) (O2 : SO2 Z G1) (P5 : ¬ (G1 = (0 : Int32))) (E_s1 : Exa Z h0 s1 "java/lang/String") (F_value_s1 : Fld Z h0 s1 "java/lang/String" "value" "[B" .null) (F_coder_s1 : Fld Z h0 s1 "java/lang/String" "coder" "B" (.int 0)) (g_s1 : n0 ≤ s1) (V_a1 : Arv Z h0 a1 kc .char (Int32.ofNat cs.length) (cs.map Value.int) (.int 0)) (hk : cs.length ≤ 1000) (h1 : 1 ≤ cs.length) (hbd : ∀ c ∈ cs, ¬ c < 0 ∧ ¬ (65535 : Int32) < c) :
    CT l (⟨"java/lang/String", "<init>", "([C)V"⟩ : MethodName) jdk_42_method_3_code 2 none ws (⟨5, 2, 3000, 84⟩ : Jvm.Room) #[(.ref s1), (.ref a1)] Z h0 (Q_rmI1 Z s1 a1 kc cs G1 h0 n0) := by
  refine Go.start (plainFor_of_name pn_1) #[vr s1, vr a1] n0 (by first | (simp [argsToLocals, Value.category, maxLocals]; done) | rfl) ?_
  intro p e s m below meth c s₁ Bd hx hby hml hZ hown X0 e0 N0
  have D := @dB _ _ hby _ D3
  refine ga X0 hx (D 0 rfl) rfl rfl ?_
  refine ga X0 hx (D 1 rfl) rfl rfl ?_
  refine gk X0 hx 0 (D 2 rfl) rfl ?_
  refine ga X0 hx (D 3 rfl) rfl rfl ?_
  refine gN X0 hx hZ e0 V_a1 (D 4 rfl) ?_
  refine Go.by (fun t => XS.aconstNull X0.here hx rfl (D 5 rfl)) ?_
  show Go p e below _ (s₁.setTop (mkF m 6 #[vr s1, vr a1] [.null, (.int (Int32.ofNat cs.length)), (.int (0 : Int32)), (.ref a1), (.ref s1)]))
  refine kI (W := 0) (C := 2) (S := 3000) X0 hx hZ hown (wd hw 16 rfl) (wd hw 17 rfl) (wd hw 12 rfl) (wd hw 19 rfl) (rmI5 l Z a0 hw [] s1 a1 kc cs G1 h0 n0 Z0 Od A1 HS LS O2 P5 E_s1 F_value_s1 F_coder_s1 g_s1 V_a1 hk h1 hbd) pd_6 (D 6 rfl) e0 hml (by exact ⟨rfl, rfl, rfl, rfl⟩) (by decide) fun v139 T139 L139 Lc139 X139 hQ139 l139 => ?_
  obtain ⟨rfl, Nq139, K139, S1⟩ := hQ139
  have N139 := l139 N0 Nq139
  exact Go.ret0 X139 hx Bd.returns Bd.notSynchronized (D 7 rfl) (by decide) (by decide) ⟨rfl, N139, K139, S1⟩
def Q_rmE5 (Z : State) (a1 b2 : Addr) (h0 : Heap) (n0 : Nat) : Option Value → Heap → List Loc → Prop := fun v h L => v = none ∧ Fr n0 L ∧ Keep h0 h [a1] ∧ StrU Z h a1 []
set_option maxRecDepth 65536 in
set_option maxHeartbeats 40000000 in
theorem rmE5 (l : Launch) (Z : State) (a0 : Array Value) (hw : HW a0 Z) (ws : List Jvm.Cond) (a1 b2 : Addr) (h0 : Heap) (n0 : Nat) (E_a1 : Exa Z h0 a1 "java/lang/String") (F_value_a1 : Fld Z h0 a1 "java/lang/String" "value" "[B" .null) (F_coder_a1 : Fld Z h0 a1 "java/lang/String" "coder" "B" (.int 0)) (g_a1 : n0 ≤ a1) :
    CTW EL l (⟨"java/lang/String", "<init>", "([CIILjava/lang/Void;)V"⟩ : MethodName) jdk_42_method_149_code 6 none ws (⟨1, 4, 8, 12⟩ : Jvm.Room) #[(.ref a1), (.ref b2), (.int (0 : Int32)), (.int (0 : Int32)), .null] Z h0 (Q_rmE5 Z a1 b2 h0 n0) := by
  refine Go.startW (plainFor_of_name pn_1) #[vr a1, vr b2, vi (0 : Int32), vi (0 : Int32), .val .null, uu] n0 (by first | (simp [argsToLocals, Value.category, maxLocals]; done) | rfl) ?_
  intro p e s m below meth c s₁ Bd hx hby hml hZ hown X0 e0 N0 hS CR
  have hk : 0 ≤ h0.size := Nat.zero_le _
  have hEL := ew_of hw
  have hwS := ws_of hw
  have hnm := (name_of_methodNamed Bd.named Bd.method).1
  have D := @dB _ _ hby _ D4
  have Sf_a1 : Safe Z EL s.vm h0 a1 := Safe.null hZ.alike E_a1 F_value_a1 (wd hw 11 rfl)
  have K0 : Keep h0 h0 [a1] := Keep.refl _ _
  refine ga X0 hx (D 0 rfl) rfl rfl ?_
  obtain ⟨T140, X140, e140, st140⟩ := initO X0 hx hZ hown (wd hw 20 rfl) (wd hw 21 rfl) (wd hw 22 rfl) e0 (g := (mkF m 1 #[vr a1, vr b2, vi (0 : Int32), vi (0 : Int32), .val .null, uu] [(.ref a1)])) rfl (by rw [hml]; rfl) rfl (D 1 rfl) (by decide) (W := 0) (by show 2 * 0 + _ ≤ _; exact Nat.le_of_eq rfl) (by decide)
  refine Go.by (fun t => st140 t) ?_
  show Go p e below _ (T140.setTop (mkF m 4 #[vr a1, vr b2, vi (0 : Int32), vi (0 : Int32), .val .null, uu] []))
  refine gi X140 hx (D 2 rfl) rfl ?_
  refine zN X140 hx (D 3 rfl) ((if0 _ _).trans (teq (rfl : (0 : Int32) = (0 : Int32))).2) ?_
  refine ga X140 hx (D 4 rfl) rfl rfl ?_
  obtain ⟨c1, T141, h141, k141, t_c1, kb_c1, X141, e141, E141, hS141, hk141, hZ141, hown141, E_c1, F_coder_c1, F_value_c1, V_t_c1, lt_c1, ltb_c1, CRn, Lit141, sf141, st141⟩ := ldcCH X140 hx hZ hown (wd hw 373 rfl) hwS e140 hS hk hEL (by decide) CR.1 (vs := []) (z := 0) (by decide) (by decide) rfl (g := (mkF m 9 #[vr a1, vr b2, vi (0 : Int32), vi (0 : Int32), .val .null, uu] [(.ref a1)])) rfl (D 5 rfl) (n := 0) (by decide) (by decide) (by decide) (by decide)
  refine Go.by (fun t => st141 t) ?_
  replace Sf_a1 := CRn.safe E_a1.lt Sf_a1
  replace CR := CR.trans CRn
  replace E_a1 := E_a1.ext E141
  replace F_value_a1 := F_value_a1.ext E141
  replace F_coder_a1 := F_coder_a1.ext E141
  replace K0 := K0.ext E141
  clear CRn hS hk
  have hS := hS141
  have hk := hk141
  replace hZ := hZ141
  replace hown := hown141
  replace X141 := Stand.num (C := 2) (S := 4) X141 rfl rfl
  have ne_a1_c1 := (sf141 _ Sf_a1).1
  have ne_a1_t_c1 := (sf141 _ Sf_a1).2
  show Go p e below _ (T141.setTop (mkF m 11 #[vr a1, vr b2, vi (0 : Int32), vi (0 : Int32), .val .null, uu] [(.ref c1), (.ref a1)]))
  refine gF X141 hx hZ hown (wd hw 37 rfl) Via.refl e141 F_value_c1 (D 6 rfl) fun T142 X142 e142 => ?_
  obtain ⟨T143, h143, X143, e143, W143, st143⟩ := putF X142 hx hZ hown (host := "") (Or.inl (wd hw 37 rfl)) Via.refl e142 F_value_a1 E_a1 (Or.inr ⟨(wd hw 38 rfl), rfl, hnm⟩) (wd hw 11 rfl) (ty := (.array .byte)) (by decide) rfl rfl (g := (mkF m 14 #[vr a1, vr b2, vi (0 : Int32), vi (0 : Int32), .val .null, uu] [(.ref t_c1), (.ref a1)])) rfl rfl (D 7 rfl)
  refine Go.by (fun t => st143 t) ?_
  have Sfw : Safe Z EL T141.vm h141 a1 := Sf_a1
  replace Sf_a1 := Safe.wr W143 Sfw CR.1 Sf_a1
  replace CR := CR.trans (CHr.wr W143 Sfw CR.1)
  clear Sfw
  replace hk := Nat.le_trans hk (Keep.of_wr W143).1
  replace F_value_a1 := F_value_a1.same W143
  replace E_a1 := E_a1.wr W143
  replace F_coder_a1 := F_coder_a1.other W143 (Or.inr (slot_ne (Or.inr (wd hw 36 rfl)) (Or.inr (wd hw 38 rfl)) (by decide) (t := .byte) (t' := (.array .byte)) (by decide) (by decide)))
  replace E_c1 := E_c1.wr W143
  replace F_coder_c1 := F_coder_c1.other W143 (Or.inl (Ne.symm ne_a1_c1))
  replace F_value_c1 := F_value_c1.other W143 (Or.inl (Ne.symm ne_a1_c1))
  replace V_t_c1 := V_t_c1.other W143 (Ne.symm ne_a1_t_c1)
  replace K0 := K0.wr W143 (Or.inl (List.mem_of_getElem? (i := 0) rfl))
  have N143 := Fr.snoc X143 N0 g_a1
  show Go p e below _ (T143.setTop (mkF m 17 #[vr a1, vr b2, vi (0 : Int32), vi (0 : Int32), .val .null, uu] []))
  refine ga X143 hx (D 8 rfl) rfl rfl ?_
  obtain ⟨c2, T144, h144, k144, t_c2, kb_c2, X144, e144, E144, hS144, hk144, hZ144, hown144, E_c2, F_coder_c2, F_value_c2, V_t_c2, lt_c2, ltb_c2, CRn, Lit144, sf144, st144⟩ := ldcCH X143 hx hZ hown (wd hw 373 rfl) hwS e143 hS hk hEL (by decide) CR.1 (vs := []) (z := 0) (by decide) (by decide) rfl (g := (mkF m 18 #[vr a1, vr b2, vi (0 : Int32), vi (0 : Int32), .val .null, uu] [(.ref a1)])) rfl (D 9 rfl) (n := 0) (by decide) (by decide) (by decide) (by decide)
  refine Go.by (fun t => st144 t) ?_
  replace Sf_a1 := CRn.safe E_a1.lt Sf_a1
  replace CR := CR.trans CRn
  replace E_a1 := E_a1.ext E144
  replace F_value_a1 := F_value_a1.ext E144
  replace F_coder_a1 := F_coder_a1.ext E144
  replace E_c1 := E_c1.ext E144
  replace F_coder_c1 := F_coder_c1.ext E144
  replace F_value_c1 := F_value_c1.ext E144
  replace V_t_c1 := V_t_c1.ext E144
  replace K0 := K0.ext E144
  clear CRn hS hk
  have hS := hS144
  have hk := hk144
  replace hZ := hZ144
  replace hown := hown144
  replace X144 := Stand.num (C := 4) (S := 8) X144 rfl rfl
  have ne_a1_c2 := (sf144 _ Sf_a1).1
  have ne_a1_t_c2 := (sf144 _ Sf_a1).2
  show Go p e below _ (T144.setTop (mkF m 20 #[vr a1, vr b2, vi (0 : Int32), vi (0 : Int32), .val .null, uu] [(.ref c2), (.ref a1)]))
  refine gF X144 hx hZ hown (wd hw 35 rfl) Via.refl e144 F_coder_c2 (D 10 rfl) fun T145 X145 e145 => ?_
  obtain ⟨T146, h146, X146, e146, W146, st146⟩ := putFN X145 hx hZ hown (wd hw 35 rfl) Via.refl e145 F_coder_a1 E_a1 (Or.inr ⟨(wd hw 36 rfl), rfl, hnm⟩) (wd hw 11 rfl) (ty := .byte) (v' := (.int (0 : Int32))) (by decide) (by first | rfl | decide) (by first | rfl | decide | exact fits_nar_byte _) (g := (mkF m 23 #[vr a1, vr b2, vi (0 : Int32), vi (0 : Int32), .val .null, uu] [(.int (0 : Int32)), (.ref a1)])) rfl rfl (D 11 rfl)
  refine Go.by (fun t => st146 t) ?_
  have Sfw : Safe Z EL T144.vm h144 a1 := Sf_a1
  replace Sf_a1 := Safe.wr W146 Sfw CR.1 Sf_a1
  replace CR := CR.trans (CHr.wr W146 Sfw CR.1)
  clear Sfw
  replace hk := Nat.le_trans hk (Keep.of_wr W146).1
  replace F_coder_a1 := F_coder_a1.same W146
  replace E_a1 := E_a1.wr W146
  replace F_value_a1 := F_value_a1.other W146 (Or.inr (slot_ne (Or.inr (wd hw 38 rfl)) (Or.inr (wd hw 36 rfl)) (by decide) (t := (.array .byte)) (t' := .byte) (by decide) (by decide)))
  replace E_c1 := E_c1.wr W146
  replace F_coder_c1 := F_coder_c1.other W146 (Or.inl (Ne.symm ne_a1_c1))
  replace F_value_c1 := F_value_c1.other W146 (Or.inl (Ne.symm ne_a1_c1))
  replace V_t_c1 := V_t_c1.other W146 (Ne.symm ne_a1_t_c1)
  replace E_c2 := E_c2.wr W146
  replace F_coder_c2 := F_coder_c2.other W146 (Or.inl (Ne.symm ne_a1_c2))
  replace F_value_c2 := F_value_c2.other W146 (Or.inl (Ne.symm ne_a1_c2))
  replace V_t_c2 := V_t_c2.other W146 (Ne.symm ne_a1_t_c2)
  replace K0 := K0.wr W146 (Or.inl (List.mem_of_getElem? (i := 0) rfl))
  have N146 := Fr.snoc X146 N143 g_a1
  show Go p e below _ (T146.setTop (mkF m 26 #[vr a1, vr b2, vi (0 : Int32), vi (0 : Int32), .val .null, uu] []))
  exact Go.ret0W X146 hS (by rw [e146]; exact hk) (by rw [e146]; exact CR) hZ hEL hx Bd.returns Bd.notSynchronized (D 12 rfl) (by decide) (by decide) (by first | (rw [e146]; exact ⟨rfl, N146, K0, t_c1, kb_c1, E_a1, F_value_a1, Or.inl ⟨F_coder_a1, (fun _ h => nomatch h), V_t_c1⟩⟩) | exact ⟨rfl, N146, K0, t_c1, kb_c1, E_a1, F_value_a1, Or.inl ⟨F_coder_a1, (fun _ h => nomatch h), V_t_c1⟩⟩)
def Q_rmE1 (Z : State) (a1 b2 : Addr) (kc : ClassId) (vs : List Value) (dv : Value) (h0 : Heap) (n0 : Nat) : Option Value → Heap → List Loc → Prop := fun v h L => v = none ∧ Fr n0 L ∧ Keep h0 h [a1] ∧ StrU Z h a1 []
set_option maxRecDepth 65536 in
set_option maxHeartbeats 40000000 in
theorem rmE1 (l : Launch) (Z : State) (a0 : Array Value) (hw : HW a0 Z) (ws : List Jvm.Cond) (a1 b2 : Addr) (kc : ClassId) (vs : List Value) (dv : Value) (h0 : Heap) (n0 : Nat) (E_a1 : Exa Z h0 a1 "java/lang/String") (F_value_a1 : Fld Z h0 a1 "java/lang/String" "value" "[B" .null) (F_coder_a1 : Fld Z h0 a1 "java/lang/String" "coder" "B" (.int 0)) (g_a1 : n0 ≤ a1) (V_b2 : Arv Z h0 b2 kc .char (0 : Int32) vs dv) :
    CTW EL l (⟨"java/lang/String", "<init>", "([C)V"⟩ : MethodName) jdk_42_method_3_code 2 none ws (⟨2, 4, 8, 29⟩ : Jvm.Room) #[(.ref a1), (.ref b2)] Z h0 (Q_rmE1 Z a1 b2 kc vs dv h0 n0) := by
  refine Go.startW (plainFor_of_name pn_1) #[vr a1, vr b2] n0 (by first | (simp [argsToLocals, Value.category, maxLocals]; done) | rfl) ?_
  intro p e s m below meth c s₁ Bd hx hby hml hZ hown X0 e0 N0 hS CR
  have hk : 0 ≤ h0.size := Nat.zero_le _
  have hEL := ew_of hw
  have hwS := ws_of hw
  have D := @dB _ _ hby _ D3
  refine ga X0 hx (D 0 rfl) rfl rfl ?_
  refine ga X0 hx (D 1 rfl) rfl rfl ?_
  refine gk X0 hx 0 (D 2 rfl) rfl ?_
  refine ga X0 hx (D 3 rfl) rfl rfl ?_
  refine gN X0 hx hZ e0 V_b2 (D 4 rfl) ?_
  refine Go.by (fun t => XS.aconstNull X0.here hx rfl (D 5 rfl)) ?_
  show Go p e below _ (s₁.setTop (mkF m 6 #[vr a1, vr b2] [.null, (.int (0 : Int32)), (.int (0 : Int32)), (.ref b2), (.ref a1)]))
  obtain ⟨_, _, ⟨T147, L147, k147, n147⟩, -, X147, hSn, hgn, ⟨Lc147, hQ147, l147, y147, z147, CRn⟩, st147⟩ := X0.specialBackS hx (y := (⟨"java/lang/String", "<init>", "([CIILjava/lang/Void;)V"⟩ : MethodName)) rfl hown (mvT (s := s.setVm s.vm) hZ (wd hw 16 rfl)) (mvT (s := s.setVm s.vm) hZ (wd hw 17 rfl)) (mvT (s := s.setVm s.vm) hZ (wd hw 19 rfl)) (by decide) (backOfSH (W := 0) (rmE5 l Z a0 hw [] a1 b2 h0 n0 E_a1 F_value_a1 F_coder_a1 g_a1) hZ (wd hw 19 rfl) (wd hw 12 rfl) (by decide) (by decide) hEL CR.1) (g := (mkF m 6 #[vr a1, vr b2] [.null, (.int (0 : Int32)), (.int (0 : Int32)), (.ref b2), (.ref a1)])) rfl (by rw [hml]; rfl) (Steps.refl _) (a := a1) (argsL := [(.ref b2), (.int (0 : Int32)), (.int (0 : Int32)), .null]) (rest := []) (lenOf pd_6 rfl) rfl (by show 2 * 0 + _ ≤ _; exact Nat.le_of_eq rfl) (D 6 rfl) (fun _ _ => ⟨rfl, e0, (by decide : 0 + 4 ≤ _), (by decide : 0 + 8 ≤ _)⟩)
  dsimp only [Pt.U, Pt.locs, Pt.cells, Pt.slots] at X147 l147 y147 z147 st147 hQ147 hSn hgn CRn
  subst y147 z147
  rw [e0] at hgn
  obtain ⟨X147', hS147, hZ147, hown147⟩ := rebS hS hk X147 hSn hgn hZ hown
  obtain ⟨rfl, Nq147, K147, S1⟩ := hQ147
  have N147 : Fr n0 L147 := by rw [l147]; exact Fr.app N0 Nq147
  clear l147
  refine Go.by (fun t => st147.trans) ?_
  replace X147' := Stand.num (C := 4) (S := 8) X147' rfl rfl
  replace CR := CR.trans CRn
  clear CRn hS hk hSn
  have hS := hS147
  have hk : T147.heap.size ≤ T147.heap.size := Nat.le_refl _
  replace hZ := hZ147
  replace hown := hown147
  show Go p e below _ (T147.setTop (mkF m 9 #[vr a1, vr b2] []))
  exact Go.ret0W X147' hS hk CR hZ hEL hx Bd.returns Bd.notSynchronized (D 7 rfl) (by decide) (by decide) ⟨rfl, N147, K147, S1⟩
def Q_rmCD (Z : State) (s1 : Addr) (cd G1 : Int32) (h0 : Heap) (n0 : Nat) : Option Value → Heap → List Loc → Prop := fun v h L => v = some (.int cd) ∧ Fr n0 L ∧ h = h0
set_option maxRecDepth 65536 in
set_option maxHeartbeats 40000000 in
theorem rmCD (l : Launch) (Z : State) (a0 : Array Value) (hw : HW a0 Z) (ws : List Jvm.Cond) (s1 : Addr) (cd G1 : Int32) (h0 : Heap) (n0 : Nat) (Od : Old Z n0 h0) (O2 : SO2 Z G1) (P5 : ¬ (G1 = (0 : Int32))) (F_coder_s1 : Fld Z h0 s1 "java/lang/String" "coder" "B" (.int cd)) (h01 : cd = 0 ∨ cd = 1) :
    CT l (⟨"java/lang/String", "coder", "()B"⟩ : MethodName) jdk_42_method_152_code 1 (some .byte) ws (⟨0, 0, 0, 0⟩ : Jvm.Room) #[(.ref s1)] Z h0 (Q_rmCD Z s1 cd G1 h0 n0) := by
  refine Go.start (plainFor_of_name pn_1) #[vr s1] n0 (by first | (simp [argsToLocals, Value.category, maxLocals]; done) | rfl) ?_
  intro p e s m below meth c s₁ Bd hx hby hml hZ hown X0 e0 N0
  have D := @dB _ _ hby _ D11
  refine gS X0 hx hZ hown (wd hw 23 rfl) e0 (O2.ext Od.2) (D 0 rfl) fun T148 X148 e148 => ?_
  refine zN X148 hx (D 1 rfl) ((if0 _ _).trans (feq P5).1) ?_
  refine ga X148 hx (D 2 rfl) rfl rfl ?_
  refine gF X148 hx hZ hown (wd hw 35 rfl) Via.refl e148 F_coder_s1 (D 3 rfl) fun T149 X149 e149 => ?_
  refine gg X149 hx 14 (D 4 rfl) (by decide) ?_
  exact Go.ret1 X149 hx Bd.returns Bd.notSynchronized (by rcases h01 with rfl | rfl <;> rfl) (Or.inl ⟨rfl, by simp, _, rfl⟩) (D 6 rfl) (by decide) (by decide) (by first | (rw [e149]; exact ⟨rfl, N0, rfl⟩) | exact ⟨rfl, N0, rfl⟩)
def Q_rmSL (Z : State) (s1 t1 : Addr) (kt : ClassId) (N r cd : Int32) (vs : List Value) (G1 : Int32) (h0 : Heap) (n0 : Nat) : Option Value → Heap → List Loc → Prop := fun v h L => v = some (.int r) ∧ Fr n0 L ∧ h = h0
set_option maxRecDepth 65536 in
set_option maxHeartbeats 40000000 in
theorem rmSL (l : Launch) (Z : State) (a0 : Array Value) (hw : HW a0 Z) (ws : List Jvm.Cond) (s1 t1 : Addr) (kt : ClassId) (N r cd : Int32) (vs : List Value) (G1 : Int32) (h0 : Heap) (n0 : Nat) (Od : Old Z n0 h0) (O2 : SO2 Z G1) (P5 : ¬ (G1 = (0 : Int32))) (E_s1 : Exa Z h0 s1 "java/lang/String") (F_value_s1 : Fld Z h0 s1 "java/lang/String" "value" "[B" (.ref t1)) (F_coder_s1 : Fld Z h0 s1 "java/lang/String" "coder" "B" (.int cd)) (V_t1 : Arv Z h0 t1 kt .byte N vs (.int 0)) (h01 : cd = 0 ∨ cd = 1) (hr : (N >>> (cd &&& 31)) = r) :
    CT l (⟨"java/lang/String", "length", "()I"⟩ : MethodName) jdk_42_method_54_code 1 (some .int) ws (⟨1, 0, 0, 13⟩ : Jvm.Room) #[(.ref s1)] Z h0 (Q_rmSL Z s1 t1 kt N r cd vs G1 h0 n0) := by
  refine Go.start (plainFor_of_name pn_1) #[vr s1] n0 (by first | (simp [argsToLocals, Value.category, maxLocals]; done) | rfl) ?_
  intro p e s m below meth c s₁ Bd hx hby hml hZ hown X0 e0 N0
  have D := @dB _ _ hby _ D10
  refine ga X0 hx (D 0 rfl) rfl rfl ?_
  refine gF X0 hx hZ hown (wd hw 37 rfl) Via.refl e0 F_value_s1 (D 1 rfl) fun T150 X150 e150 => ?_
  refine gN X150 hx hZ e150 V_t1 (D 2 rfl) ?_
  refine ga X150 hx (D 3 rfl) rfl rfl ?_
  refine kV (W := 1) (C := 0) (S := 0) X150 hx hZ hown (wd hw 48 rfl) (wd hw 49 rfl) (wd hw 51 rfl) (wd hw 50 rfl) (wd hw 12 rfl) (wd hw 52 rfl) (notFace_of_selects (args := #[]) (mvT hZ (wd hw 51 rfl))) E_s1 (rmCD l Z a0 hw [] s1 cd G1 h0 n0 Od O2 P5 F_coder_s1 h01) pd_19 (D 4 rfl) e150 hml (by exact ⟨rfl, rfl, rfl, rfl⟩) (by decide) fun v151 T151 L151 Lc151 X151 hQ151 l151 => ?_
  obtain ⟨rfl, Nq151, e151⟩ := hQ151
  have N151 := l151 N0 Nq151
  refine gq (XS.ishr X151.here hx rfl (D 5 rfl) rfl) rfl ?_
  show Go p e below _ (T151.setTop (mkF m 10 #[vr s1] [(.int (N >>> (cd &&& 31)))]))
  rw [hr]
  exact Go.ret1 X151 hx Bd.returns Bd.notSynchronized rfl (Or.inl ⟨rfl, by simp, _, rfl⟩) (D 6 rfl) (by decide) (by decide) (by first | (rw [e151]; exact ⟨rfl, N151, rfl⟩) | exact ⟨rfl, N151, rfl⟩)
def Q_rmIL0 (Z : State) (s1 : Addr) (G1 : Int32) (h0 : Heap) (n0 : Nat) : Option Value → Heap → List Loc → Prop := fun v h L => v = some (.int 1) ∧ Fr n0 L ∧ h = h0
set_option maxRecDepth 65536 in
set_option maxHeartbeats 40000000 in
theorem rmIL0 (l : Launch) (Z : State) (a0 : Array Value) (hw : HW a0 Z) (ws : List Jvm.Cond) (s1 : Addr) (G1 : Int32) (h0 : Heap) (n0 : Nat) (Od : Old Z n0 h0) (O2 : SO2 Z G1) (P5 : ¬ (G1 = (0 : Int32))) (F_coder_s1 : Fld Z h0 s1 "java/lang/String" "coder" "B" (.int 0)) :
    CT l (⟨"java/lang/String", "isLatin1", "()Z"⟩ : MethodName) jdk_42_method_154_code 1 (some .boolean) ws (⟨0, 0, 0, 0⟩ : Jvm.Room) #[(.ref s1)] Z h0 (Q_rmIL0 Z s1 G1 h0 n0) := by
  refine Go.start (plainFor_of_name pn_1) #[vr s1] n0 (by first | (simp [argsToLocals, Value.category, maxLocals]; done) | rfl) ?_
  intro p e s m below meth c s₁ Bd hx hby hml hZ hown X0 e0 N0
  have D := @dB _ _ hby _ D15
  refine gS X0 hx hZ hown (wd hw 23 rfl) e0 (O2.ext Od.2) (D 0 rfl) fun T152 X152 e152 => ?_
  refine zN X152 hx (D 1 rfl) ((if0 _ _).trans (feq P5).1) ?_
  refine ga X152 hx (D 2 rfl) rfl rfl ?_
  refine gF X152 hx hZ hown (wd hw 35 rfl) Via.refl e152 F_coder_s1 (D 3 rfl) fun T153 X153 e153 => ?_
  refine zN X153 hx (D 4 rfl) ((if0 _ _).trans (teq (by decide : (0 : Int32) = (0 : Int32))).2) ?_
  refine gk X153 hx 1 (D 5 rfl) rfl ?_
  refine gg X153 hx 18 (D 6 rfl) (by decide) ?_
  exact Go.ret1 X153 hx Bd.returns Bd.notSynchronized (by first | rfl | decide) (Or.inl ⟨rfl, by simp, _, rfl⟩) (D 8 rfl) (by decide) (by decide) (by first | (rw [e153]; exact ⟨rfl, N0, rfl⟩) | exact ⟨rfl, N0, rfl⟩)
def Q_rmIL1 (Z : State) (s1 : Addr) (G1 : Int32) (h0 : Heap) (n0 : Nat) : Option Value → Heap → List Loc → Prop := fun v h L => v = some (.int 0) ∧ Fr n0 L ∧ h = h0
set_option maxRecDepth 65536 in
set_option maxHeartbeats 40000000 in
theorem rmIL1 (l : Launch) (Z : State) (a0 : Array Value) (hw : HW a0 Z) (ws : List Jvm.Cond) (s1 : Addr) (G1 : Int32) (h0 : Heap) (n0 : Nat) (Od : Old Z n0 h0) (O2 : SO2 Z G1) (P5 : ¬ (G1 = (0 : Int32))) (F_coder_s1 : Fld Z h0 s1 "java/lang/String" "coder" "B" (.int 1)) :
    CT l (⟨"java/lang/String", "isLatin1", "()Z"⟩ : MethodName) jdk_42_method_154_code 1 (some .boolean) ws (⟨0, 0, 0, 0⟩ : Jvm.Room) #[(.ref s1)] Z h0 (Q_rmIL1 Z s1 G1 h0 n0) := by
  refine Go.start (plainFor_of_name pn_1) #[vr s1] n0 (by first | (simp [argsToLocals, Value.category, maxLocals]; done) | rfl) ?_
  intro p e s m below meth c s₁ Bd hx hby hml hZ hown X0 e0 N0
  have D := @dB _ _ hby _ D15
  refine gS X0 hx hZ hown (wd hw 23 rfl) e0 (O2.ext Od.2) (D 0 rfl) fun T154 X154 e154 => ?_
  refine zN X154 hx (D 1 rfl) ((if0 _ _).trans (feq P5).1) ?_
  refine ga X154 hx (D 2 rfl) rfl rfl ?_
  refine gF X154 hx hZ hown (wd hw 35 rfl) Via.refl e154 F_coder_s1 (D 3 rfl) fun T155 X155 e155 => ?_
  refine zY X155 hx 17 (D 4 rfl) ((if0 _ _).trans (feq (by decide : ¬ ((1 : Int32) = (0 : Int32)))).2) (by decide) ?_
  refine gk X155 hx 0 (D 7 rfl) rfl ?_
  exact Go.ret1 X155 hx Bd.returns Bd.notSynchronized (by first | rfl | decide) (Or.inl ⟨rfl, by simp, _, rfl⟩) (D 8 rfl) (by decide) (by decide) (by first | (rw [e155]; exact ⟨rfl, N0, rfl⟩) | exact ⟨rfl, N0, rfl⟩)
def Q_rmLEN (Z : State) (s1 : Addr) (cs : List Int32) (G1 : Int32) (h0 : Heap) (n0 : Nat) : Option Value → Heap → List Loc → Prop := fun v h L => v = some (.int (Int32.ofNat cs.length)) ∧ Fr n0 L ∧ h = h0
set_option maxRecDepth 65536 in
set_option maxHeartbeats 40000000 in
theorem rmLEN (l : Launch) (Z : State) (a0 : Array Value) (hw : HW a0 Z) (ws : List Jvm.Cond) (s1 : Addr) (cs : List Int32) (G1 : Int32) (h0 : Heap) (n0 : Nat) (Od : Old Z n0 h0) (O2 : SO2 Z G1) (P5 : ¬ (G1 = (0 : Int32))) (S1 : StrU Z h0 s1 cs) (hk : cs.length < 1000000) :
    CT l (⟨"java/lang/String", "length", "()I"⟩ : MethodName) jdk_42_method_54_code 1 (some .int) ws (⟨1, 0, 0, 13⟩ : Jvm.Room) #[(.ref s1)] Z h0 (Q_rmLEN Z s1 cs G1 h0 n0) := by
  obtain ⟨t, kt, E, F, ⟨C, -, A⟩ | ⟨C, -, A⟩⟩ := S1
  · exact rmSL l Z a0 hw ws s1 t kt _ _ 0 _ G1 h0 n0 Od O2 P5 E F C A (Or.inl rfl) (o_shr0 _)
  · exact rmSL l Z a0 hw ws s1 t kt _ _ 1 _ G1 h0 n0 Od O2 P5 E F C A (Or.inr rfl) (o_shr (by omega))
def Q_rm27 (Z : State) (x1 : Addr) (G1 : Int32) (h0 : Heap) (n0 : Nat) : Option Value → Heap → List Loc → Prop := fun v h L => ∃ (vb : Addr) (kv : ClassId), v = none ∧ Fr n0 L ∧ Keep h0 h [x1] ∧ h0.size ≤ vb ∧ Fld Z h x1 "java/lang/AbstractStringBuilder" "value" "[B" (.ref vb) ∧ Fld Z h x1 "java/lang/AbstractStringBuilder" "coder" "B" (.int 0) ∧ Fld Z h x1 "java/lang/AbstractStringBuilder" "count" "I" (.int 0) ∧ Fld Z h x1 "java/lang/AbstractStringBuilder" "maybeLatin1" "Z" (.int 0) ∧ Arv Z h vb kv .byte (16 : Int32) [] (.int 0)
set_option maxRecDepth 65536 in
set_option maxHeartbeats 40000000 in
theorem rm27 (l : Launch) (Z : State) (a0 : Array Value) (hw : HW a0 Z) (ws : List Jvm.Cond) (x1 : Addr) (G1 : Int32) (h0 : Heap) (n0 : Nat) (Z0 : n0 ≤ h0.size) (Od : Old Z n0 h0) (O2 : SO2 Z G1) (P5 : ¬ (G1 = (0 : Int32))) (E_x1 : Exa Z h0 x1 "java/lang/StringBuilder") (F_value_x1 : Fld Z h0 x1 "java/lang/AbstractStringBuilder" "value" "[B" .null) (F_coder_x1 : Fld Z h0 x1 "java/lang/AbstractStringBuilder" "coder" "B" (.int 0)) (F_count_x1 : Fld Z h0 x1 "java/lang/AbstractStringBuilder" "count" "I" (.int 0)) (F_maybeLatin1_x1 : Fld Z h0 x1 "java/lang/AbstractStringBuilder" "maybeLatin1" "Z" (.int 0)) (g_x1 : n0 ≤ x1) :
    CT l (⟨"java/lang/AbstractStringBuilder", "<init>", "(I)V"⟩ : MethodName) jdk_68_method_2_code 2 none ws (⟨1, 1, 16, 12⟩ : Jvm.Room) #[(.ref x1), (.int (16 : Int32))] Z h0 (Q_rm27 Z x1 G1 h0 n0) := by
  refine Go.start (plainFor_of_name pn_8) #[vr x1, vi (16 : Int32)] n0 (by first | (simp [argsToLocals, Value.category, maxLocals]; done) | rfl) ?_
  intro p e s m below meth c s₁ Bd hx hby hml hZ hown X0 e0 N0
  have D := @dB _ _ hby _ D27
  have K0 : Keep h0 h0 [x1] := Keep.refl _ _
  refine ga X0 hx (D 0 rfl) rfl rfl ?_
  obtain ⟨T156, X156, e156, st156⟩ := initO X0 hx hZ hown (wd hw 124 rfl) (wd hw 21 rfl) (wd hw 22 rfl) e0 (g := (mkF m 1 #[vr x1, vi (16 : Int32)] [(.ref x1)])) rfl (by rw [hml]; rfl) rfl (D 1 rfl) (by decide) (W := 0) (by show 2 * 0 + _ ≤ _; exact Nat.le_of_eq rfl) (by decide)
  refine Go.by (fun t => st156 t) ?_
  show Go p e below _ (T156.setTop (mkF m 4 #[vr x1, vi (16 : Int32)] []))
  refine gS X156 hx hZ hown (wd hw 125 rfl) e156 (O2.ext Od.2) (D 2 rfl) fun T157 X157 e157 => ?_
  refine zN X157 hx (D 3 rfl) ((if0 _ _).trans (feq P5).1) ?_
  refine ga X157 hx (D 4 rfl) rfl rfl ?_
  refine gi X157 hx (D 5 rfl) rfl ?_
  obtain ⟨T158, h158, k158, X158, e158, E158, A158, st158⟩ := newP X157 hx hZ (wd hw 28 rfl) e157 (g := (mkF m 12 #[vr x1, vi (16 : Int32)] [(.int (16 : Int32)), (.ref x1)])) rfl (D 6 rfl) rfl (by decide) (cap := 16) (by decide) (by decide) (by decide) (by decide)
  obtain ⟨vb, g158⟩ : ∃ z, z = h0.size := ⟨_, rfl⟩
  rw [← g158] at A158 st158
  refine Go.by (fun t => st158 t) ?_
  have g_vb : n0 ≤ vb := Nat.le_trans Z0 (Nat.le_of_eq g158.symm)
  have sz_vb : h0.size ≤ vb := Nat.le_trans K0.1 (Nat.le_of_eq g158.symm)
  have ne_x1_vb : x1 ≠ vb := Nat.ne_of_lt (Nat.lt_of_lt_of_le E_x1.lt (Nat.le_of_eq g158.symm))
  replace Od := Od.ext E158
  replace E_x1 := E_x1.ext E158
  replace F_value_x1 := F_value_x1.ext E158
  replace F_coder_x1 := F_coder_x1.ext E158
  replace F_count_x1 := F_count_x1.ext E158
  replace F_maybeLatin1_x1 := F_maybeLatin1_x1.ext E158
  replace Z0 := Nat.le_trans Z0 E158.1
  replace K0 := K0.ext E158
  have V_vb : Arv Z h158 vb k158 .byte (16 : Int32) [(.int (0 : Int32)), (.int (0 : Int32)), (.int (0 : Int32)), (.int (0 : Int32)), (.int (0 : Int32)), (.int (0 : Int32)), (.int (0 : Int32)), (.int (0 : Int32)), (.int (0 : Int32)), (.int (0 : Int32)), (.int (0 : Int32)), (.int (0 : Int32)), (.int (0 : Int32)), (.int (0 : Int32)), (.int (0 : Int32)), (.int (0 : Int32))] (.int (0 : Int32)) := (Arv.new A158 (by decide)).pad (pad_rep [] (.int (0 : Int32)) 16)
  replace X158 := Stand.num (C := 1) (S := 16) X158 rfl rfl
  show Go p e below _ (T158.setTop (mkF m 14 #[vr x1, vi (16 : Int32)] [(.ref vb), (.ref x1)]))
  replace V_vb := V_vb.pad (vs' := []) (fun i => (pad_rep [] _ 16 i).symm)
  obtain ⟨T159, h159, X159, e159, W159, st159⟩ := putF X158 hx hZ hown (host := "") (Or.inl (wd hw 126 rfl)) Via.refl e158 F_value_x1 E_x1 (Or.inl (wd hw 127 rfl)) (wd hw 113 rfl) (ty := (.array .byte)) (by decide) rfl rfl (g := (mkF m 14 #[vr x1, vi (16 : Int32)] [(.ref vb), (.ref x1)])) rfl rfl (D 7 rfl)
  refine Go.by (fun t => st159 t) ?_
  replace F_value_x1 := F_value_x1.same W159
  replace Od := Od.wr W159 g_x1
  replace E_x1 := E_x1.wr W159
  replace F_coder_x1 := F_coder_x1.other W159 (Or.inr (slot_ne (Or.inl (wd hw 129 rfl)) (Or.inl (wd hw 127 rfl)) (by decide) (t := .byte) (t' := (.array .byte)) (by decide) (by decide)))
  replace F_count_x1 := F_count_x1.other W159 (Or.inr (slot_ne (Or.inl (wd hw 234 rfl)) (Or.inl (wd hw 127 rfl)) (by decide) (t := .int) (t' := (.array .byte)) (by decide) (by decide)))
  replace F_maybeLatin1_x1 := F_maybeLatin1_x1.other W159 (Or.inr (slot_ne (Or.inl (wd hw 349 rfl)) (Or.inl (wd hw 127 rfl)) (by decide) (t := .boolean) (t' := (.array .byte)) (by decide) (by decide)))
  replace V_vb := V_vb.other W159 (Ne.symm ne_x1_vb)
  replace Z0 := Nat.le_trans Z0 (Keep.of_wr W159).1
  replace K0 := K0.wr W159 (Or.inl (List.mem_of_getElem? (i := 0) rfl))
  have N159 := Fr.snoc X159 N0 g_x1
  show Go p e below _ (T159.setTop (mkF m 17 #[vr x1, vi (16 : Int32)] []))
  refine ga X159 hx (D 8 rfl) rfl rfl ?_
  refine gk X159 hx 0 (D 9 rfl) rfl ?_
  obtain ⟨T160, h160, X160, e160, W160, st160⟩ := putFN X159 hx hZ hown (wd hw 128 rfl) Via.refl e159 F_coder_x1 E_x1 (Or.inl (wd hw 129 rfl)) (wd hw 113 rfl) (ty := .byte) (v' := (.int (0 : Int32))) (by decide) (by first | rfl | decide) (by first | rfl | decide | exact fits_nar_byte _) (g := (mkF m 19 #[vr x1, vi (16 : Int32)] [(.int (0 : Int32)), (.ref x1)])) rfl rfl (D 10 rfl)
  refine Go.by (fun t => st160 t) ?_
  replace F_coder_x1 := F_coder_x1.same W160
  replace Od := Od.wr W160 g_x1
  replace E_x1 := E_x1.wr W160
  replace F_value_x1 := F_value_x1.other W160 (Or.inr (slot_ne (Or.inl (wd hw 127 rfl)) (Or.inl (wd hw 129 rfl)) (by decide) (t := (.array .byte)) (t' := .byte) (by decide) (by decide)))
  replace F_count_x1 := F_count_x1.other W160 (Or.inr (slot_ne (Or.inl (wd hw 234 rfl)) (Or.inl (wd hw 129 rfl)) (by decide) (t := .int) (t' := .byte) (by decide) (by decide)))
  replace F_maybeLatin1_x1 := F_maybeLatin1_x1.other W160 (Or.inr (slot_ne (Or.inl (wd hw 349 rfl)) (Or.inl (wd hw 129 rfl)) (by decide) (t := .boolean) (t' := .byte) (by decide) (by decide)))
  replace V_vb := V_vb.other W160 (Ne.symm ne_x1_vb)
  replace Z0 := Nat.le_trans Z0 (Keep.of_wr W160).1
  replace K0 := K0.wr W160 (Or.inl (List.mem_of_getElem? (i := 0) rfl))
  have N160 := Fr.snoc X160 N159 g_x1
  show Go p e below _ (T160.setTop (mkF m 22 #[vr x1, vi (16 : Int32)] []))
  refine gg X160 hx 38 (D 11 rfl) (by decide) ?_
  exact Go.ret0 X160 hx Bd.returns Bd.notSynchronized (D 19 rfl) (by decide) (by decide) (by first | (rw [e160]; exact ⟨vb, _, rfl, N160, K0, sz_vb, F_value_x1, F_coder_x1, F_count_x1, F_maybeLatin1_x1, V_vb⟩) | exact ⟨vb, _, rfl, N160, K0, sz_vb, F_value_x1, F_coder_x1, F_count_x1, F_maybeLatin1_x1, V_vb⟩)
def Q_rm26 (Z : State) (x1 : Addr) (G1 : Int32) (h0 : Heap) (n0 : Nat) : Option Value → Heap → List Loc → Prop := fun v h L => ∃ (vb : Addr) (kv : ClassId), v = none ∧ Fr n0 L ∧ Keep h0 h [x1] ∧ h0.size ≤ vb ∧ Fld Z h x1 "java/lang/AbstractStringBuilder" "value" "[B" (.ref vb) ∧ Fld Z h x1 "java/lang/AbstractStringBuilder" "coder" "B" (.int 0) ∧ Fld Z h x1 "java/lang/AbstractStringBuilder" "count" "I" (.int 0) ∧ Fld Z h x1 "java/lang/AbstractStringBuilder" "maybeLatin1" "Z" (.int 0) ∧ Arv Z h vb kv .byte (16 : Int32) [] (.int 0)
set_option maxRecDepth 65536 in
set_option maxHeartbeats 40000000 in
theorem rm26 (l : Launch) (Z : State) (a0 : Array Value) (hw : HW a0 Z) (ws : List Jvm.Cond) (x1 : Addr) (G1 : Int32) (h0 : Heap) (n0 : Nat) (Z0 : n0 ≤ h0.size) (Od : Old Z n0 h0) (O2 : SO2 Z G1) (P5 : ¬ (G1 = (0 : Int32))) (E_x1 : Exa Z h0 x1 "java/lang/StringBuilder") (F_value_x1 : Fld Z h0 x1 "java/lang/AbstractStringBuilder" "value" "[B" .null) (F_coder_x1 : Fld Z h0 x1 "java/lang/AbstractStringBuilder" "coder" "B" (.int 0)) (F_count_x1 : Fld Z h0 x1 "java/lang/AbstractStringBuilder" "count" "I" (.int 0)) (F_maybeLatin1_x1 : Fld Z h0 x1 "java/lang/AbstractStringBuilder" "maybeLatin1" "Z" (.int 0)) (g_x1 : n0 ≤ x1) :
    CT l (⟨"java/lang/StringBuilder", "<init>", "()V"⟩ : MethodName) jdk_67_method_1_code 1 none ws (⟨2, 1, 16, 28⟩ : Jvm.Room) #[(.ref x1)] Z h0 (Q_rm26 Z x1 G1 h0 n0) := by
  refine Go.start (plainFor_of_name pn_7) #[vr x1] n0 (by first | (simp [argsToLocals, Value.category, maxLocals]; done) | rfl) ?_
  intro p e s m below meth c s₁ Bd hx hby hml hZ hown X0 e0 N0
  have D := @dB _ _ hby _ D26
  refine ga X0 hx (D 0 rfl) rfl rfl ?_
  refine gb X0 hx 16 (D 1 rfl) rfl ?_
  refine kI (W := 0) (C := 1) (S := 16) X0 hx hZ hown (wd hw 118 rfl) (wd hw 119 rfl) (wd hw 122 rfl) (wd hw 123 rfl) (rm27 l Z a0 hw [] x1 G1 h0 n0 Z0 Od O2 P5 E_x1 F_value_x1 F_coder_x1 F_count_x1 F_maybeLatin1_x1 g_x1) pd_32 (D 2 rfl) e0 hml (by exact ⟨rfl, rfl, rfl, rfl⟩) (by decide) fun v161 T161 L161 Lc161 X161 hQ161 l161 => ?_
  obtain ⟨vb, kv, rfl, Nq161, K161, sz, f1, f2, f3, f4, V_vb⟩ := hQ161
  have N161 := l161 N0 Nq161
  exact Go.ret0 X161 hx Bd.returns Bd.notSynchronized (D 3 rfl) (by decide) (by decide) ⟨vb, kv, rfl, N161, K161, sz, f1, f2, f3, f4, V_vb⟩
def Q_rmAL0 (Z : State) (x1 : Addr) (G1 : Int32) (h0 : Heap) (n0 : Nat) : Option Value → Heap → List Loc → Prop := fun v h L => v = some (.int 1) ∧ Fr n0 L ∧ h = h0
set_option maxRecDepth 65536 in
set_option maxHeartbeats 40000000 in
theorem rmAL0 (l : Launch) (Z : State) (a0 : Array Value) (hw : HW a0 Z) (ws : List Jvm.Cond) (x1 : Addr) (G1 : Int32) (h0 : Heap) (n0 : Nat) (Od : Old Z n0 h0) (O2 : SO2 Z G1) (P5 : ¬ (G1 = (0 : Int32))) (F_coder_x1 : Fld Z h0 x1 "java/lang/AbstractStringBuilder" "coder" "B" (.int 0)) :
    CT l (⟨"java/lang/AbstractStringBuilder", "isLatin1", "()Z"⟩ : MethodName) jdk_68_method_68_code 1 (some .boolean) ws (⟨0, 0, 0, 0⟩ : Jvm.Room) #[(.ref x1)] Z h0 (Q_rmAL0 Z x1 G1 h0 n0) := by
  refine Go.start (plainFor_of_name pn_8) #[vr x1] n0 (by first | (simp [argsToLocals, Value.category, maxLocals]; done) | rfl) ?_
  intro p e s m below meth c s₁ Bd hx hby hml hZ hown X0 e0 N0
  have D := @dB _ _ hby _ D59
  refine gS X0 hx hZ hown (wd hw 125 rfl) e0 (O2.ext Od.2) (D 0 rfl) fun T162 X162 e162 => ?_
  refine zN X162 hx (D 1 rfl) ((if0 _ _).trans (feq P5).1) ?_
  refine ga X162 hx (D 2 rfl) rfl rfl ?_
  refine gF X162 hx hZ hown (wd hw 128 rfl) Via.refl e162 F_coder_x1 (D 3 rfl) fun T163 X163 e163 => ?_
  refine zN X163 hx (D 4 rfl) ((if0 _ _).trans (teq (by decide : (0 : Int32) = (0 : Int32))).2) ?_
  refine gk X163 hx 1 (D 5 rfl) rfl ?_
  refine gg X163 hx 18 (D 6 rfl) (by decide) ?_
  exact Go.ret1 X163 hx Bd.returns Bd.notSynchronized (by first | rfl | decide) (Or.inl ⟨rfl, by simp, _, rfl⟩) (D 8 rfl) (by decide) (by decide) (by first | (rw [e163]; exact ⟨rfl, N0, rfl⟩) | exact ⟨rfl, N0, rfl⟩)
def Q_rmAL1 (Z : State) (x1 : Addr) (G1 : Int32) (h0 : Heap) (n0 : Nat) : Option Value → Heap → List Loc → Prop := fun v h L => v = some (.int 0) ∧ Fr n0 L ∧ h = h0
set_option maxRecDepth 65536 in
set_option maxHeartbeats 40000000 in
theorem rmAL1 (l : Launch) (Z : State) (a0 : Array Value) (hw : HW a0 Z) (ws : List Jvm.Cond) (x1 : Addr) (G1 : Int32) (h0 : Heap) (n0 : Nat) (Od : Old Z n0 h0) (O2 : SO2 Z G1) (P5 : ¬ (G1 = (0 : Int32))) (F_coder_x1 : Fld Z h0 x1 "java/lang/AbstractStringBuilder" "coder" "B" (.int 1)) :
    CT l (⟨"java/lang/AbstractStringBuilder", "isLatin1", "()Z"⟩ : MethodName) jdk_68_method_68_code 1 (some .boolean) ws (⟨0, 0, 0, 0⟩ : Jvm.Room) #[(.ref x1)] Z h0 (Q_rmAL1 Z x1 G1 h0 n0) := by
  refine Go.start (plainFor_of_name pn_8) #[vr x1] n0 (by first | (simp [argsToLocals, Value.category, maxLocals]; done) | rfl) ?_
  intro p e s m below meth c s₁ Bd hx hby hml hZ hown X0 e0 N0
  have D := @dB _ _ hby _ D59
  refine gS X0 hx hZ hown (wd hw 125 rfl) e0 (O2.ext Od.2) (D 0 rfl) fun T164 X164 e164 => ?_
  refine zN X164 hx (D 1 rfl) ((if0 _ _).trans (feq P5).1) ?_
  refine ga X164 hx (D 2 rfl) rfl rfl ?_
  refine gF X164 hx hZ hown (wd hw 128 rfl) Via.refl e164 F_coder_x1 (D 3 rfl) fun T165 X165 e165 => ?_
  refine zY X165 hx 17 (D 4 rfl) ((if0 _ _).trans (feq (by decide : ¬ ((1 : Int32) = (0 : Int32)))).2) (by decide) ?_
  refine gk X165 hx 0 (D 7 rfl) rfl ?_
  exact Go.ret1 X165 hx Bd.returns Bd.notSynchronized (by first | rfl | decide) (Or.inl ⟨rfl, by simp, _, rfl⟩) (D 8 rfl) (by decide) (by decide) (by first | (rw [e165]; exact ⟨rfl, N0, rfl⟩) | exact ⟨rfl, N0, rfl⟩)
def Q_rmEC (Z : State) (x1 vb : Addr) (kv : ClassId) (N z m2 cd : Int32) (vs : List Value) (h0 : Heap) (n0 : Nat) : Option Value → Heap → List Loc → Prop := fun v h L => v = none ∧ Fr n0 L ∧ h = h0
set_option maxRecDepth 65536 in
set_option maxHeartbeats 40000000 in
theorem rmEC (l : Launch) (Z : State) (a0 : Array Value) (hw : HW a0 Z) (ws : List Jvm.Cond) (x1 vb : Addr) (kv : ClassId) (N z m2 cd : Int32) (vs : List Value) (h0 : Heap) (n0 : Nat) (F_value_x1 : Fld Z h0 x1 "java/lang/AbstractStringBuilder" "value" "[B" (.ref vb)) (F_coder_x1 : Fld Z h0 x1 "java/lang/AbstractStringBuilder" "coder" "B" (.int cd)) (V_vb : Arv Z h0 vb kv .byte N vs (.int 0)) (hz : (N >>> (cd &&& 31)) = z) (hle : ¬ ((0 : Int32) < (m2 - z))) :
    CT l (⟨"java/lang/AbstractStringBuilder", "ensureCapacityInternal", "(I)V"⟩ : MethodName) jdk_68_method_9_code 3 none ws (⟨0, 0, 0, 0⟩ : Jvm.Room) #[(.ref x1), (.int m2)] Z h0 (Q_rmEC Z x1 vb kv N z m2 cd vs h0 n0) := by
  refine Go.start (plainFor_of_name pn_8) #[vr x1, vi m2, uu] n0 (by first | (simp [argsToLocals, Value.category, maxLocals]; done) | rfl) ?_
  intro p e s m below meth c s₁ Bd hx hby hml hZ hown X0 e0 N0
  have D := @dB _ _ hby _ D51
  refine ga X0 hx (D 0 rfl) rfl rfl ?_
  refine gF X0 hx hZ hown (wd hw 126 rfl) Via.refl e0 F_value_x1 (D 1 rfl) fun T166 X166 e166 => ?_
  refine gN X166 hx hZ e166 V_vb (D 2 rfl) ?_
  refine ga X166 hx (D 3 rfl) rfl rfl ?_
  refine gF X166 hx hZ hown (wd hw 128 rfl) Via.refl e166 F_coder_x1 (D 4 rfl) fun T167 X167 e167 => ?_
  refine gq (XS.ishr X167.here hx rfl (D 5 rfl) rfl) rfl ?_
  show Go p e below _ (T167.setTop (mkF m 10 #[vr x1, vi m2, uu] [(.int (N >>> (cd &&& 31)))]))
  rw [hz]
  refine gt X167 hx #[vr x1, vi m2, vi z] (D 6 rfl) rfl ?_
  refine gi X167 hx (D 7 rfl) rfl ?_
  refine gi X167 hx (D 8 rfl) rfl ?_
  refine gq (XS.isub X167.here hx rfl (D 9 rfl) rfl) rfl ?_
  refine zY X167 hx 38 (D 10 rfl) ((if0 _ _).trans (flt hle).2.2.2) (by decide) ?_
  exact Go.ret0 X167 hx Bd.returns Bd.notSynchronized (D 22 rfl) (by decide) (by decide) (by first | (rw [e167]; exact ⟨rfl, N0, rfl⟩) | exact ⟨rfl, N0, rfl⟩)
def Q_rm43 (Z : State) (i1 z2 z3 : Int32) (G3 : Value) (h0 : Heap) (n0 : Nat) : Option Value → Heap → List Loc → Prop := fun v h L => v = some (.int i1) ∧ Fr n0 L ∧ h = h0
set_option maxRecDepth 65536 in
set_option maxHeartbeats 40000000 in
theorem rm43 (l : Launch) (Z : State) (a0 : Array Value) (hw : HW a0 Z) (ws : List Jvm.Cond) (i1 z2 z3 : Int32) (G3 : Value) (h0 : Heap) (n0 : Nat) (rG3 : G3.isRef = true) (q1 : ¬ (((z3 ||| i1) ||| z2) < (0 : Int32))) (q2 : ¬ ((z3 - i1) < z2)) :
    CT l (⟨"jdk/internal/util/Preconditions", "checkFromIndexSize", "(IIILjava/util/function/BiFunction;)I"⟩ : MethodName) jdk_41_method_13_code 4 (some .int) ws (⟨0, 0, 0, 0⟩ : Jvm.Room) #[(.int i1), (.int z2), (.int z3), G3] Z h0 (Q_rm43 Z i1 z2 z3 G3 h0 n0) := by
  refine Go.start (plainFor_of_name pn_5) #[vi i1, vi z2, vi z3, .val G3] n0 (by rcases ref_cases rG3 with rfl | ⟨_, rfl⟩ <;> first | (simp [argsToLocals, Value.category, maxLocals]; done) | rfl) ?_
  intro p e s m below meth c s₁ Bd hx hby hml hZ hown X0 e0 N0
  have D := @dB _ _ hby _ D43
  refine gi X0 hx (D 0 rfl) rfl ?_
  refine gi X0 hx (D 1 rfl) rfl ?_
  refine gq (XS.ior X0.here hx rfl (D 2 rfl) rfl) rfl ?_
  refine gi X0 hx (D 3 rfl) rfl ?_
  refine gq (XS.ior X0.here hx rfl (D 4 rfl) rfl) rfl ?_
  refine zN X0 hx (D 5 rfl) ((if0 _ _).trans (flt q1).1) ?_
  refine gi X0 hx (D 6 rfl) rfl ?_
  refine gi X0 hx (D 7 rfl) rfl ?_
  refine gi X0 hx (D 8 rfl) rfl ?_
  refine gq (XS.isub X0.here hx rfl (D 9 rfl) rfl) rfl ?_
  refine cY X0 hx 23 (D 10 rfl) (flt q2).2.2.2 (by decide) ?_
  refine gi X0 hx (D 17 rfl) rfl ?_
  exact Go.ret1 X0 hx Bd.returns Bd.notSynchronized rfl (Or.inl ⟨rfl, by simp, _, rfl⟩) (D 18 rfl) (by decide) (by decide) (by first | (rw [e0]; exact ⟨rfl, N0, rfl⟩) | exact ⟨rfl, N0, rfl⟩)
def Q_rm42 (Z : State) (i1 z2 z3 : Int32) (G3 : Value) (h0 : Heap) (n0 : Nat) : Option Value → Heap → List Loc → Prop := fun v h L => v = some (.int i1) ∧ Fr n0 L ∧ h = h0
set_option maxRecDepth 65536 in
set_option maxHeartbeats 40000000 in
theorem rm42 (l : Launch) (Z : State) (a0 : Array Value) (hw : HW a0 Z) (ws : List Jvm.Cond) (i1 z2 z3 : Int32) (G3 : Value) (h0 : Heap) (n0 : Nat) (Od : Old Z n0 h0) (O4 : SO4 Z G3) (rG3 : G3.isRef = true) (q1 : ¬ (((z3 ||| i1) ||| z2) < (0 : Int32))) (q2 : ¬ ((z3 - i1) < z2)) :
    CT l (⟨"java/lang/String", "checkBoundsOffCount", "(III)I"⟩ : MethodName) jdk_42_method_157_code 3 (some .int) ws (⟨1, 0, 0, 16⟩ : Jvm.Room) #[(.int i1), (.int z2), (.int z3)] Z h0 (Q_rm42 Z i1 z2 z3 G3 h0 n0) := by
  refine Go.start (plainFor_of_name pn_1) #[vi i1, vi z2, vi z3] n0 (by first | (simp [argsToLocals, Value.category, maxLocals]; done) | rfl) ?_
  intro p e s m below meth c s₁ Bd hx hby hml hZ hown X0 e0 N0
  have D := @dB _ _ hby _ D42
  refine gi X0 hx (D 0 rfl) rfl ?_
  refine gi X0 hx (D 1 rfl) rfl ?_
  refine gi X0 hx (D 2 rfl) rfl ?_
  refine gS X0 hx hZ hown (wd hw 165 rfl) e0 (O4.ext Od.2) (D 3 rfl) fun T168 X168 e168 => ?_
  refine kS (W := 0) (C := 0) (S := 0) X168 hx hZ hown (wd hw 196 rfl) (wd hw 197 rfl) (wd hw 65 rfl) (wd hw 198 rfl) (rm43 l Z a0 hw [] i1 z2 z3 G3 h0 n0 rG3 q1 q2) pd_23 (D 4 rfl) e168 hml (by exact ⟨rfl, rfl, rfl, rfl⟩) (by decide) fun v169 T169 L169 Lc169 X169 hQ169 l169 => ?_
  obtain ⟨rfl, Nq169, e169⟩ := hQ169
  have N169 := l169 N0 Nq169
  exact Go.ret1 X169 hx Bd.returns Bd.notSynchronized rfl (Or.inl ⟨rfl, by simp, _, rfl⟩) (D 5 rfl) (by decide) (by decide) (by first | (rw [e169]; exact ⟨rfl, N169, rfl⟩) | exact ⟨rfl, N169, rfl⟩)
def Q_rm41 (Z : State) (b1 : Addr) (kb : ClassId) (N : Int32) (vs : List Value) (i1 z2 z3 : Int32) (G3 : Value) (h0 : Heap) (n0 : Nat) : Option Value → Heap → List Loc → Prop := fun v h L => v = none ∧ Fr n0 L ∧ h = h0
set_option maxRecDepth 65536 in
set_option maxHeartbeats 40000000 in
theorem rm41 (l : Launch) (Z : State) (a0 : Array Value) (hw : HW a0 Z) (ws : List Jvm.Cond) (b1 : Addr) (kb : ClassId) (N : Int32) (vs : List Value) (i1 z2 z3 : Int32) (G3 : Value) (h0 : Heap) (n0 : Nat) (Od : Old Z n0 h0) (O4 : SO4 Z G3) (rG3 : G3.isRef = true) (V_b1 : Arv Z h0 b1 kb .byte N vs (.int 0)) (hr : (N >>> ((1 : Int32) &&& 31)) = z3) (q1 : ¬ (((z3 ||| i1) ||| z2) < (0 : Int32))) (q2 : ¬ ((z3 - i1) < z2)) :
    CT l (⟨"java/lang/StringUTF16", "checkBoundsOffCount", "(II[B)V"⟩ : MethodName) jdk_52_method_94_code 3 none ws (⟨2, 0, 0, 32⟩ : Jvm.Room) #[(.int i1), (.int z2), (.ref b1)] Z h0 (Q_rm41 Z b1 kb N vs i1 z2 z3 G3 h0 n0) := by
  refine Go.start (plainFor_of_name pn_2) #[vi i1, vi z2, vr b1] n0 (by first | (simp [argsToLocals, Value.category, maxLocals]; done) | rfl) ?_
  intro p e s m below meth c s₁ Bd hx hby hml hZ hown X0 e0 N0
  have D := @dB _ _ hby _ D41
  refine gi X0 hx (D 0 rfl) rfl ?_
  refine gi X0 hx (D 1 rfl) rfl ?_
  refine ga X0 hx (D 2 rfl) rfl rfl ?_
  refine kS (W := 2) (C := 0) (S := 0) X0 hx hZ hown (wd hw 159 rfl) (wd hw 160 rfl) (wd hw 26 rfl) (wd hw 161 rfl) (rm33 l Z a0 hw [] b1 kb N z3 vs (.int 0) h0 n0 V_b1 hr) pd_28 (D 3 rfl) e0 hml (by exact ⟨rfl, rfl, rfl, rfl⟩) (by decide) fun v170 T170 L170 Lc170 X170 hQ170 l170 => ?_
  obtain ⟨rfl, Nq170, e170⟩ := hQ170
  have N170 := l170 N0 Nq170
  refine kS (W := 0) (C := 0) (S := 0) X170 hx hZ hown (wd hw 193 rfl) (wd hw 194 rfl) (wd hw 12 rfl) (wd hw 195 rfl) (rm42 l Z a0 hw [] i1 z2 z3 G3 h0 n0 Od O4 rG3 q1 q2) pd_20 (D 4 rfl) e170 hml (by exact ⟨rfl, rfl, rfl, rfl⟩) (by decide) fun v171 T171 L171 Lc171 X171 hQ171 l171 => ?_
  obtain ⟨rfl, Nq171, e171⟩ := hQ171
  have N171 := l171 N170 Nq171
  refine gq (XS.pop X171.here hx rfl (D 5 rfl) rfl rfl) rfl ?_
  exact Go.ret0 X171 hx Bd.returns Bd.notSynchronized (D 6 rfl) (by decide) (by decide) (by first | (rw [e171]; exact ⟨rfl, N171, rfl⟩) | exact ⟨rfl, N171, rfl⟩)
def Q_rm46 (Z : State) (i1 i2 : Int32) (h0 : Heap) (n0 : Nat) : Option Value → Heap → List Loc → Prop := fun v h L => v = none ∧ Fr n0 L ∧ h = h0
set_option maxRecDepth 65536 in
set_option maxHeartbeats 40000000 in
theorem rm46 (l : Launch) (Z : State) (a0 : Array Value) (hw : HW a0 Z) (ws : List Jvm.Cond) (i1 i2 : Int32) (h0 : Heap) (n0 : Nat) (q : ¬ (i2 < i1)) :
    CT l (⟨"java/util/Arrays", "checkLength", "(II)V"⟩ : MethodName) jdk_65_method_131_code 2 none ws (⟨0, 0, 0, 0⟩ : Jvm.Room) #[(.int i1), (.int i2)] Z h0 (Q_rm46 Z i1 i2 h0 n0) := by
  refine Go.start (plainFor_of_name pn_9) #[vi i1, vi i2] n0 (by first | (simp [argsToLocals, Value.category, maxLocals]; done) | rfl) ?_
  intro p e s m below meth c s₁ Bd hx hby hml hZ hown X0 e0 N0
  have D := @dB _ _ hby _ D46
  refine gi X0 hx (D 0 rfl) rfl ?_
  refine gi X0 hx (D 1 rfl) rfl ?_
  refine cY X0 hx 37 (D 2 rfl) (flt q).2.1 (by decide) ?_
  exact Go.ret0 X0 hx Bd.returns Bd.notSynchronized (D 17 rfl) (by decide) (by decide) (by first | (rw [e0]; exact ⟨rfl, N0, rfl⟩) | exact ⟨rfl, N0, rfl⟩)
def Q_rm47 (Z : State) (i1 i2 : Int32) (h0 : Heap) (n0 : Nat) : Option Value → Heap → List Loc → Prop := fun v h L => v = some (.int i2) ∧ Fr n0 L ∧ h = h0
set_option maxRecDepth 65536 in
set_option maxHeartbeats 40000000 in
theorem rm47 (l : Launch) (Z : State) (a0 : Array Value) (hw : HW a0 Z) (ws : List Jvm.Cond) (i1 i2 : Int32) (h0 : Heap) (n0 : Nat) (q : i2 < i1) :
    CT l (⟨"java/lang/Math", "min", "(II)I"⟩ : MethodName) jdk_29_method_69_code 2 (some .int) ws (⟨0, 0, 0, 0⟩ : Jvm.Room) #[(.int i1), (.int i2)] Z h0 (Q_rm47 Z i1 i2 h0 n0) := by
  refine Go.start (Jvm.Free.JP.mathPlain rfl (by decide +kernel)) #[vi i1, vi i2] n0 (by first | (simp [argsToLocals, Value.category, maxLocals]; done) | rfl) ?_
  intro p e s m below meth c s₁ Bd hx hby hml hZ hown X0 e0 N0
  have D := @dB _ _ hby _ D47
  refine gi X0 hx (D 0 rfl) rfl ?_
  refine gi X0 hx (D 1 rfl) rfl ?_
  refine cY X0 hx 9 (D 2 rfl) (tlt q).2.2.1 (by decide) ?_
  refine gi X0 hx (D 5 rfl) rfl ?_
  exact Go.ret1 X0 hx Bd.returns Bd.notSynchronized rfl (Or.inl ⟨rfl, by simp, _, rfl⟩) (D 6 rfl) (by decide) (by decide) (by first | (rw [e0]; exact ⟨rfl, N0, rfl⟩) | exact ⟨rfl, N0, rfl⟩)
def Q_rmRB (Z : State) (a1 : Addr) (ka : ClassId) (us rs : List Value) (M mw : Int32) (h0 : Heap) (n0 : Nat) : Option Value → Heap → List Loc → Prop := fun v h L => ∃ (b : Addr) (kb : ClassId), v = some (.ref b) ∧ h0.size ≤ b ∧ Fr n0 L ∧ Keep h0 h [] ∧ Arv Z h b kb .byte mw us (.int 0)
set_option maxRecDepth 65536 in
set_option maxHeartbeats 40000000 in
theorem rmRB (l : Launch) (Z : State) (a0 : Array Value) (hw : HW a0 Z) (ws : List Jvm.Cond) (a1 : Addr) (ka : ClassId) (us rs : List Value) (M mw : Int32) (h0 : Heap) (n0 : Nat) (Z0 : n0 ≤ h0.size) (Od : Old Z n0 h0) (V_a1 : Arv Z h0 a1 ka .byte M (us ++ rs) (.int 0)) (hm : mw.toNatClampNeg = us.length) (hm0 : ¬ mw < 0) (hlt : mw < M) (hM : us.length ≤ M.toNatClampNeg) (hcap : us.length ≤ 300) :
    CT l (⟨"java/util/Arrays", "copyOfRangeByte", "([BII)[B"⟩ : MethodName) jdk_65_method_133_code 5 (some (.array .byte)) ws (⟨1, 1, 300, 40⟩ : Jvm.Room) #[(.ref a1), (.int (0 : Int32)), (.int mw)] Z h0 (Q_rmRB Z a1 ka us rs M mw h0 n0) := by
  refine Go.start (plainFor_of_name pn_9) #[vr a1, vi (0 : Int32), vi mw, uu, uu] n0 (by first | (simp [argsToLocals, Value.category, maxLocals]; done) | rfl) ?_
  intro p e s m below meth c s₁ Bd hx hby hml hZ hown X0 e0 N0
  have D := @dB _ _ hby _ D45
  have K0 : Keep h0 h0 [] := Keep.refl _ _
  refine gi X0 hx (D 0 rfl) rfl ?_
  refine gi X0 hx (D 1 rfl) rfl ?_
  refine kS (W := 0) (C := 0) (S := 0) X0 hx hZ hown (wd hw 206 rfl) (wd hw 207 rfl) (wd hw 201 rfl) (wd hw 208 rfl) (rm46 l Z a0 hw [] 0 mw h0 n0 hm0) pd_36 (D 2 rfl) e0 hml (by exact ⟨rfl, rfl, rfl, rfl⟩) (by decide) fun v172 T172 L172 Lc172 X172 hQ172 l172 => ?_
  obtain ⟨rfl, Nq172, e172⟩ := hQ172
  have N172 := l172 N0 Nq172
  refine gi X172 hx (D 3 rfl) rfl ?_
  refine gi X172 hx (D 4 rfl) rfl ?_
  refine gq (XS.isub X172.here hx rfl (D 5 rfl) rfl) rfl ?_
  show Go p e below _ (T172.setTop (mkF m 8 #[vr a1, vi (0 : Int32), vi mw, uu, uu] [(.int (mw - (0 : Int32)))]))
  rw [Int32.sub_zero mw]
  refine gt X172 hx #[vr a1, vi (0 : Int32), vi mw, vi mw, uu] (D 6 rfl) rfl ?_
  refine gi X172 hx (D 7 rfl) rfl ?_
  obtain ⟨T173, h173, k173, X173, e173, E173, A173, st173⟩ := newP X172 hx hZ (wd hw 28 rfl) e172 (g := (mkF m 10 #[vr a1, vi (0 : Int32), vi mw, vi mw, uu] [(.int mw)])) rfl (D 8 rfl) rfl hm0 (cap := 300) (by rw [hm]; exact hcap) (by decide) (by decide) (by decide)
  obtain ⟨b, g173⟩ : ∃ z, z = h0.size := ⟨_, rfl⟩
  rw [← g173] at A173 st173
  refine Go.by (fun t => st173 t) ?_
  have g_b : n0 ≤ b := Nat.le_trans Z0 (Nat.le_of_eq g173.symm)
  have sz_b : h0.size ≤ b := Nat.le_trans K0.1 (Nat.le_of_eq g173.symm)
  have ne_a1_b : a1 ≠ b := Nat.ne_of_lt (Nat.lt_of_lt_of_le V_a1.lt (Nat.le_of_eq g173.symm))
  replace Od := Od.ext E173
  replace V_a1 := V_a1.ext E173
  replace Z0 := Nat.le_trans Z0 E173.1
  replace K0 := K0.ext E173
  have V_b := Arv.new A173 hm0
  replace X173 := Stand.num (C := 1) (S := 300) X173 rfl rfl
  show Go p e below _ (T173.setTop (mkF m 12 #[vr a1, vi (0 : Int32), vi mw, vi mw, uu] [(.ref b)]))
  replace V_b : Arv Z h173 b k173 .byte mw (List.replicate us.length (.int 0)) (.int 0) := V_b.pad (pad_rep [] _ us.length)
  refine gU X173 hx #[vr a1, vi (0 : Int32), vi mw, vi mw, vr b] (D 9 rfl) rfl rfl ?_
  refine ga X173 hx (D 10 rfl) rfl rfl ?_
  refine gi X173 hx (D 11 rfl) rfl ?_
  refine gA X173 hx (D 12 rfl) rfl rfl ?_
  refine gk X173 hx 0 (D 13 rfl) rfl ?_
  refine ga X173 hx (D 14 rfl) rfl rfl ?_
  refine gN X173 hx hZ e173 V_a1 (D 15 rfl) ?_
  refine gi X173 hx (D 16 rfl) rfl ?_
  refine gq (XS.isub X173.here hx rfl (D 17 rfl) rfl) rfl ?_
  refine gi X173 hx (D 18 rfl) rfl ?_
  show Go p e below _ (T173.setTop (mkF m 24 #[vr a1, vi (0 : Int32), vi mw, vi mw, vr b] [(.int mw), (.int (M - (0 : Int32))), (.int (0 : Int32)), (.ref b), (.int (0 : Int32)), (.ref a1)]))
  rw [Int32.sub_zero M]
  refine kS (W := 4) (C := 1) (S := 300) X173 hx hZ hown (wd hw 209 rfl) (wd hw 210 rfl) (wd hw 211 rfl) (wd hw 212 rfl) (rm47 l Z a0 hw [] M mw h173 n0 hlt) pd_14 (D 19 rfl) e173 hml (by exact ⟨rfl, rfl, rfl, rfl⟩) (by decide) fun v174 T174 L174 Lc174 X174 hQ174 l174 => ?_
  obtain ⟨rfl, Nq174, e174⟩ := hQ174
  have N174 := l174 N172 Nq174
  obtain ⟨T175, h175, L175, X175, e175, N175, K175, Vn175, st175⟩ := cpA X174 hx hZ hown (wd hw 213 rfl) (wd hw 216 rfl) (wd hw 214 rfl) (wd hw 215 rfl) e174 V_a1 V_b (us := us) (Or.inl ⟨rfl, rfl⟩) (by decide) (by decide) hm0 (by rw [(show (0 : Int32).toNatClampNeg = 0 from rfl), Nat.zero_add, hm]; exact hM) (by rw [(show (0 : Int32).toNatClampNeg = 0 from rfl), Nat.zero_add]; exact Nat.le_refl _) (range_pre us rs _ hm rfl) (by rw [(show (0 : Int32).toNatClampNeg = 0 from rfl), Nat.zero_add, hm, List.length_replicate]; exact Nat.le_refl _) N174 g_b (g := (mkF m 27 #[vr a1, vi (0 : Int32), vi mw, vi mw, vr b] [(.int mw), (.int (0 : Int32)), (.ref b), (.int (0 : Int32)), (.ref a1)])) rfl (by rw [hml]; rfl) rfl (D 20 rfl) (by decide) (W := 0) (by show 2 * 0 + _ ≤ _; exact Nat.le_of_eq rfl) (by decide)
  refine Go.by (fun t => st175 t) ?_
  replace Od := Od.keep K175 (allS g_b all0)
  replace V_a1 := V_a1.keep K175 (ninS ne_a1_b nin0)
  replace Z0 := Nat.le_trans Z0 K175.1
  replace K0 := K0.trans K175 (allS (P := fun x => x ∈ _ ∨ _ ≤ x) (Or.inr sz_b) all0)
  clear V_b
  have V_b := Vn175
  show Go p e below _ (T175.setTop (mkF m 30 #[vr a1, vi (0 : Int32), vi mw, vi mw, vr b] []))
  replace V_b := arv_eq V_b (take0_copy us 0 _ rfl hm)
  refine gA X175 hx (D 21 rfl) rfl rfl ?_
  exact Go.ret1 X175 hx Bd.returns Bd.notSynchronized rfl (Or.inr (Or.inr (Or.inr (Or.inr ⟨rfl, rfl, rfl⟩)))) (D 22 rfl) (by decide) (by decide) (by first | (rw [e175]; exact ⟨b, _, rfl, sz_b, N175, K0, V_b⟩) | exact ⟨b, _, rfl, sz_b, N175, K0, V_b⟩)
def Q_rmRG (Z : State) (a1 : Addr) (ka : ClassId) (us rs : List Value) (M mw : Int32) (h0 : Heap) (n0 : Nat) : Option Value → Heap → List Loc → Prop := fun v h L => ∃ (b : Addr) (kb : ClassId), v = some (.ref b) ∧ h0.size ≤ b ∧ Fr n0 L ∧ Keep h0 h [] ∧ Arv Z h b kb .byte mw us (.int 0)
set_option maxRecDepth 65536 in
set_option maxHeartbeats 40000000 in
theorem rmRG (l : Launch) (Z : State) (a0 : Array Value) (hw : HW a0 Z) (ws : List Jvm.Cond) (a1 : Addr) (ka : ClassId) (us rs : List Value) (M mw : Int32) (h0 : Heap) (n0 : Nat) (Z0 : n0 ≤ h0.size) (Od : Old Z n0 h0) (V_a1 : Arv Z h0 a1 ka .byte M (us ++ rs) (.int 0)) (hm : mw.toNatClampNeg = us.length) (hm0 : ¬ mw < 0) (hlt : mw < M) (hM : us.length ≤ M.toNatClampNeg) (hcap : us.length ≤ 300) :
    CT l (⟨"java/util/Arrays", "copyOfRange", "([BII)[B"⟩ : MethodName) jdk_65_method_132_code 3 (some (.array .byte)) ws (⟨2, 1, 300, 58⟩ : Jvm.Room) #[(.ref a1), (.int (0 : Int32)), (.int mw)] Z h0 (Q_rmRG Z a1 ka us rs M mw h0 n0) := by
  refine Go.start (plainFor_of_name pn_9) #[vr a1, vi (0 : Int32), vi mw] n0 (by first | (simp [argsToLocals, Value.category, maxLocals]; done) | rfl) ?_
  intro p e s m below meth c s₁ Bd hx hby hml hZ hown X0 e0 N0
  have D := @dB _ _ hby _ D44
  refine gi X0 hx (D 0 rfl) rfl ?_
  refine zN X0 hx (D 1 rfl) ((if0 _ _).trans (teq (rfl : (0 : Int32) = (0 : Int32))).2) ?_
  refine gi X0 hx (D 2 rfl) rfl ?_
  refine ga X0 hx (D 3 rfl) rfl rfl ?_
  refine gN X0 hx hZ e0 V_a1 (D 4 rfl) ?_
  refine cN X0 hx (D 5 rfl) (feq (fun q => Int32.lt_irrefl (by have z := hlt; rw [q] at z; exact z) : ¬ (mw = M))).1 ?_
  refine ga X0 hx (D 6 rfl) rfl rfl ?_
  refine gi X0 hx (D 7 rfl) rfl ?_
  refine gi X0 hx (D 8 rfl) rfl ?_
  refine kS (W := 0) (C := 1) (S := 300) X0 hx hZ hown (wd hw 203 rfl) (wd hw 204 rfl) (wd hw 201 rfl) (wd hw 205 rfl) (rmRB l Z a0 hw [] a1 ka us rs M mw h0 n0 Z0 Od V_a1 hm hm0 hlt hM hcap) pd_40 (D 9 rfl) e0 hml (by exact ⟨rfl, rfl, rfl, rfl⟩) (by decide) fun v176 T176 L176 Lc176 X176 hQ176 l176 => ?_
  obtain ⟨b, k_b, rfl, sz_b, Nq176, K176, V_b⟩ := hQ176
  have N176 := l176 N0 Nq176
  exact Go.ret1 X176 hx Bd.returns Bd.notSynchronized rfl (Or.inr (Or.inr (Or.inr (Or.inr ⟨rfl, rfl, rfl⟩)))) (D 10 rfl) (by decide) (by decide) ⟨b, k_b, rfl, sz_b, N176, K176, V_b⟩
def Q_rm72 (Z : State) (a1 : Addr) (w2 : Addr) (h0 : Heap) (n0 : Nat) : Option Value → Heap → List Loc → Prop := fun v h L => v = some (.ref w2) ∧ Fr n0 L ∧ h = h0
set_option maxRecDepth 65536 in
set_option maxHeartbeats 40000000 in
theorem rm72 (l : Launch) (Z : State) (a0 : Array Value) (hw : HW a0 Z) (ws : List Jvm.Cond) (a1 : Addr) (w2 : Addr) (h0 : Heap) (n0 : Nat) (F_f_a1 : Fld Z h0 a1 "java/lang/AbstractStringBuilder" "value" "[B" (.ref w2)) :
    CT l (⟨"java/lang/AbstractStringBuilder", "getValue", "()[B"⟩ : MethodName) jdk_68_method_64_code 1 (some (.array .byte)) ws (⟨0, 0, 0, 0⟩ : Jvm.Room) #[(.ref a1)] Z h0 (Q_rm72 Z a1 w2 h0 n0) := by
  refine Go.start (plainFor_of_name pn_8) #[vr a1] n0 (by first | (simp [argsToLocals, Value.category, maxLocals]; done) | rfl) ?_
  intro p e s m below meth c s₁ Bd hx hby hml hZ hown X0 e0 N0
  have D := @dB _ _ hby _ D72
  refine ga X0 hx (D 0 rfl) rfl rfl ?_
  refine gF X0 hx hZ hown (wd hw 126 rfl) Via.refl e0 F_f_a1 (D 1 rfl) fun T177 X177 e177 => ?_
  exact Go.ret1 X177 hx Bd.returns Bd.notSynchronized rfl (Or.inr (Or.inr (Or.inr (Or.inr ⟨rfl, rfl, rfl⟩)))) (D 2 rfl) (by decide) (by decide) (by first | (rw [e177]; exact ⟨rfl, N0, rfl⟩) | exact ⟨rfl, N0, rfl⟩)
def Q_rm74 (Z : State) (a1 : Addr) (w2 : Int32) (h0 : Heap) (n0 : Nat) : Option Value → Heap → List Loc → Prop := fun v h L => v = some (.int w2) ∧ Fr n0 L ∧ h = h0
set_option maxRecDepth 65536 in
set_option maxHeartbeats 40000000 in
theorem rm74 (l : Launch) (Z : State) (a0 : Array Value) (hw : HW a0 Z) (ws : List Jvm.Cond) (a1 : Addr) (w2 : Int32) (h0 : Heap) (n0 : Nat) (F_f_a1 : Fld Z h0 a1 "java/lang/AbstractStringBuilder" "count" "I" (.int w2)) :
    CT l (⟨"java/lang/AbstractStringBuilder", "length", "()I"⟩ : MethodName) jdk_68_method_6_code 1 (some .int) ws (⟨0, 0, 0, 0⟩ : Jvm.Room) #[(.ref a1)] Z h0 (Q_rm74 Z a1 w2 h0 n0) := by
  refine Go.start (plainFor_of_name pn_8) #[vr a1] n0 (by first | (simp [argsToLocals, Value.category, maxLocals]; done) | rfl) ?_
  intro p e s m below meth c s₁ Bd hx hby hml hZ hown X0 e0 N0
  have D := @dB _ _ hby _ D74
  refine ga X0 hx (D 0 rfl) rfl rfl ?_
  refine gF X0 hx hZ hown (wd hw 233 rfl) Via.refl e0 F_f_a1 (D 1 rfl) fun T178 X178 e178 => ?_
  exact Go.ret1 X178 hx Bd.returns Bd.notSynchronized rfl (Or.inl ⟨rfl, by simp, _, rfl⟩) (D 2 rfl) (by decide) (by decide) (by first | (rw [e178]; exact ⟨rfl, N0, rfl⟩) | exact ⟨rfl, N0, rfl⟩)
def Q_rm73 (Z : State) (a1 : Addr) (w2 : Int32) (h0 : Heap) (n0 : Nat) : Option Value → Heap → List Loc → Prop := fun v h L => v = some (.int w2) ∧ Fr n0 L ∧ h = h0
set_option maxRecDepth 65536 in
set_option maxHeartbeats 40000000 in
theorem rm73 (l : Launch) (Z : State) (a0 : Array Value) (hw : HW a0 Z) (ws : List Jvm.Cond) (a1 : Addr) (w2 : Int32) (h0 : Heap) (n0 : Nat) (E_x1 : Exa Z h0 a1 "java/lang/StringBuilder") (F_f_a1 : Fld Z h0 a1 "java/lang/AbstractStringBuilder" "count" "I" (.int w2)) :
    CT l (⟨"java/lang/StringBuilder", "length", "()I"⟩ : MethodName) jdk_67_method_93_code 1 (some .int) ws (⟨1, 0, 0, 13⟩ : Jvm.Room) #[(.ref a1)] Z h0 (Q_rm73 Z a1 w2 h0 n0) := by
  refine Go.start (plainFor_of_name pn_7) #[vr a1] n0 (by first | (simp [argsToLocals, Value.category, maxLocals]; done) | rfl) ?_
  intro p e s m below meth c s₁ Bd hx hby hml hZ hown X0 e0 N0
  have D := @dB _ _ hby _ D73
  refine ga X0 hx (D 0 rfl) rfl rfl ?_
  obtain ⟨_, _, ⟨T179, L179, k179, n179⟩, -, X179, ⟨Lc179, hQ179, l179, y179, z179⟩, st179⟩ := superBack X0 hx hZ (y := (⟨"java/lang/AbstractStringBuilder", "length", "()I"⟩ : MethodName)) hown (wd hw 345 rfl) (sameSelf (wd hw 341 rfl) (wd hw 238 rfl) rfl (by decide)) (wd hw 341 rfl) (wd hw 229 rfl) (by decide) (backOf (W := 0) (rm74 l Z a0 hw [] a1 w2 h0 n0 F_f_a1) hZ (wd hw 346 rfl) (wd hw 122 rfl) (by decide) (by decide)) e0 (Ins.self E_x1) (g := (mkF m 1 #[vr a1] [(.ref a1)])) rfl (by rw [hml]; rfl) (wd hw 346 rfl) (argsL := []) (rest := []) (lenOf pd_13 rfl) rfl (by show 2 * 0 + _ ≤ _; exact Nat.le_of_eq rfl) (D 1 rfl) (fun _ _ => ⟨rfl, e0, (by decide : 0 + 0 ≤ _), (by decide : 0 + 0 ≤ _)⟩)
  dsimp only [Pt.U, Pt.locs, Pt.cells, Pt.slots] at X179 l179 y179 z179 st179 hQ179
  subst y179 z179
  obtain ⟨rfl, Nq179, e179⟩ := hQ179
  have N179 : Fr n0 L179 := by rw [l179]; exact Fr.app N0 Nq179
  clear l179
  refine Go.by (fun t => st179.trans) ?_
  show Go p e below _ (T179.setTop (mkF m 4 #[vr a1] [(.int w2)]))
  exact Go.ret1 X179 hx Bd.returns Bd.notSynchronized rfl (Or.inl ⟨rfl, by simp, _, rfl⟩) (D 2 rfl) (by decide) (by decide) (by first | (rw [e179]; exact ⟨rfl, N179, rfl⟩) | exact ⟨rfl, N179, rfl⟩)
def Q_rmT20 (Z : State) (s1 x1 : Addr) (vb : Addr) (kv : ClassId) (us rs : List Value) (tot Mb : Nat) (G1 : Int32) (h0 : Heap) (n0 : Nat) : Option Value → Heap → List Loc → Prop := fun v h L => ∃ (t : Addr) (kt : ClassId), v = none ∧ Fr n0 L ∧ Keep h0 h [s1] ∧ h0.size ≤ t ∧ Fld Z h s1 "java/lang/String" "value" "[B" (.ref t) ∧ Fld Z h s1 "java/lang/String" "coder" "B" (.int 0) ∧ Arv Z h t kt .byte (Int32.ofNat us.length) us (.int 0)
set_option maxRecDepth 65536 in
set_option maxHeartbeats 40000000 in
theorem rmT20 (l : Launch) (Z : State) (a0 : Array Value) (hw : HW a0 Z) (ws : List Jvm.Cond) (s1 x1 : Addr) (vb : Addr) (kv : ClassId) (us rs : List Value) (tot Mb : Nat) (G1 : Int32) (h0 : Heap) (n0 : Nat) (Z0 : n0 ≤ h0.size) (Od : Old Z n0 h0) (O2 : SO2 Z G1) (P5 : ¬ (G1 = (0 : Int32))) (E_s1 : Exa Z h0 s1 "java/lang/String") (F_value_s1 : Fld Z h0 s1 "java/lang/String" "value" "[B" .null) (F_coder_s1 : Fld Z h0 s1 "java/lang/String" "coder" "B" (.int 0)) (g_s1 : n0 ≤ s1) (E_x1 : Exa Z h0 x1 "java/lang/StringBuilder") (F_value_x1 : Fld Z h0 x1 "java/lang/AbstractStringBuilder" "value" "[B" (.ref vb)) (F_coder_x1 : Fld Z h0 x1 "java/lang/AbstractStringBuilder" "coder" "B" (.int 0)) (F_count_x1 : Fld Z h0 x1 "java/lang/AbstractStringBuilder" "count" "I" (.int (Int32.ofNat tot))) (F_maybeLatin1_x1 : Fld Z h0 x1 "java/lang/AbstractStringBuilder" "maybeLatin1" "Z" (.int 0)) (V_vb : Arv Z h0 vb kv .byte (Int32.ofNat Mb) (us ++ rs) (.int 0)) (hu : us.length = tot) (hlt : us.length < Mb) (hMb : Mb ≤ 100000) (hcap : us.length ≤ 300) :
    CT l (⟨"java/lang/String", "<init>", "(Ljava/lang/AbstractStringBuilder;Ljava/lang/Void;)V"⟩ : MethodName) jdk_42_method_150_code 5 none ws (⟨3, 1, 300, 78⟩ : Jvm.Room) #[(.ref s1), (.ref x1), .null] Z h0 (Q_rmT20 Z s1 x1 vb kv us rs tot Mb G1 h0 n0) := by
  refine Go.start (plainFor_of_name pn_1) #[vr s1, vr x1, .val .null, uu, uu] n0 (by first | (simp [argsToLocals, Value.category, maxLocals]; done) | rfl) ?_
  intro p e s m below meth c s₁ Bd hx hby hml hZ hown X0 e0 N0
  have hnm := (name_of_methodNamed Bd.named Bd.method).1
  have D := @dB _ _ hby _ D71
  have K0 : Keep h0 h0 [s1] := Keep.refl _ _
  refine ga X0 hx (D 0 rfl) rfl rfl ?_
  obtain ⟨T180, X180, e180, st180⟩ := initO X0 hx hZ hown (wd hw 20 rfl) (wd hw 21 rfl) (wd hw 22 rfl) e0 (g := (mkF m 1 #[vr s1, vr x1, .val .null, uu, uu] [(.ref s1)])) rfl (by rw [hml]; rfl) rfl (D 1 rfl) (by decide) (W := 0) (by show 2 * 0 + _ ≤ _; exact Nat.le_of_eq rfl) (by decide)
  refine Go.by (fun t => st180 t) ?_
  show Go p e below _ (T180.setTop (mkF m 4 #[vr s1, vr x1, .val .null, uu, uu] []))
  refine ga X180 hx (D 2 rfl) rfl rfl ?_
  refine kV (W := 0) (C := 0) (S := 0) X180 hx hZ hown (wd hw 334 rfl) (wd hw 335 rfl) (wd hw 337 rfl) (wd hw 336 rfl) (wd hw 122 rfl) (wd hw 338 rfl) (notFace_of_selects (args := #[]) (mvT hZ (wd hw 337 rfl))) E_x1 (rm72 l Z a0 hw [] x1 vb h0 n0 F_value_x1) pd_54 (D 3 rfl) e180 hml (by exact ⟨rfl, rfl, rfl, rfl⟩) (by decide) fun v181 T181 L181 Lc181 X181 hQ181 l181 => ?_
  obtain ⟨rfl, Nq181, e181⟩ := hQ181
  have N181 := l181 N0 Nq181
  refine gu X181 hx #[vr s1, vr x1, .val .null, vr vb, uu] (D 4 rfl) rfl rfl ?_
  refine ga X181 hx (D 5 rfl) rfl rfl ?_
  refine kV (W := 0) (C := 0) (S := 0) X181 hx hZ hown (wd hw 339 rfl) (wd hw 340 rfl) (wd hw 342 rfl) (wd hw 343 rfl) (wd hw 114 rfl) (wd hw 344 rfl) (faceOf (a1 := #[]) (mvT hZ (wd hw 238 rfl)) rfl) E_x1 (rm73 l Z a0 hw [] x1 (Int32.ofNat tot) h0 n0 E_x1 F_count_x1) pd_13 (D 6 rfl) e181 hml (by exact ⟨rfl, rfl, rfl, rfl⟩) (by decide) fun v182 T182 L182 Lc182 X182 hQ182 l182 => ?_
  obtain ⟨rfl, Nq182, e182⟩ := hQ182
  have N182 := l182 N181 Nq182
  refine gT X182 hx #[vr s1, vr x1, .val .null, vr vb, vi (Int32.ofNat tot)] (D 7 rfl) rfl ?_
  refine ga X182 hx (D 8 rfl) rfl rfl ?_
  refine kV (W := 0) (C := 0) (S := 0) X182 hx hZ hown (wd hw 347 rfl) (wd hw 274 rfl) (wd hw 276 rfl) (wd hw 275 rfl) (wd hw 122 rfl) (wd hw 277 rfl) (notFace_of_selects (args := #[]) (mvT hZ (wd hw 276 rfl))) E_x1 (rmAL0 l Z a0 hw [] x1 G1 h0 n0 Od O2 P5 F_coder_x1) pd_21 (D 9 rfl) e182 hml (by exact ⟨rfl, rfl, rfl, rfl⟩) (by decide) fun v183 T183 L183 Lc183 X183 hQ183 l183 => ?_
  obtain ⟨rfl, Nq183, e183⟩ := hQ183
  have N183 := l183 N182 Nq183
  refine zN X183 hx (D 10 rfl) ((if0 _ _).trans (feq (by decide : ¬ ((1 : Int32) = (0 : Int32)))).1) ?_
  refine ga X183 hx (D 11 rfl) rfl rfl ?_
  refine gk X183 hx 0 (D 12 rfl) rfl ?_
  obtain ⟨T184, h184, X184, e184, W184, st184⟩ := putFN X183 hx hZ hown (wd hw 35 rfl) Via.refl e183 F_coder_s1 E_s1 (Or.inr ⟨(wd hw 36 rfl), rfl, hnm⟩) (wd hw 11 rfl) (ty := .byte) (v' := (.int (0 : Int32))) (by decide) (by first | rfl | decide) (by first | rfl | decide | exact fits_nar_byte _) (g := (mkF m 24 #[vr s1, vr x1, .val .null, vr vb, vi (Int32.ofNat tot)] [(.int (0 : Int32)), (.ref s1)])) rfl rfl (D 13 rfl)
  refine Go.by (fun t => st184 t) ?_
  have ne_x1_s1 : x1 ≠ s1 := Exa.ne E_x1 E_s1 (by decide)
  have ne_vb_s1 : vb ≠ s1 := Ne.symm (Exa.neArv E_s1 V_vb (wd hw 11 rfl))
  replace F_coder_s1 := F_coder_s1.same W184
  replace E_s1 := E_s1.wr W184
  replace F_value_s1 := F_value_s1.other W184 (Or.inr (slot_ne (Or.inr (wd hw 38 rfl)) (Or.inr (wd hw 36 rfl)) (by decide) (t := (.array .byte)) (t' := .byte) (by decide) (by decide)))
  replace Od := Od.wr W184 g_s1
  replace E_x1 := E_x1.wr W184
  replace F_value_x1 := F_value_x1.other W184 (Or.inl ne_x1_s1)
  replace F_coder_x1 := F_coder_x1.other W184 (Or.inl ne_x1_s1)
  replace F_count_x1 := F_count_x1.other W184 (Or.inl ne_x1_s1)
  replace F_maybeLatin1_x1 := F_maybeLatin1_x1.other W184 (Or.inl ne_x1_s1)
  replace V_vb := V_vb.other W184 ne_vb_s1
  replace Z0 := Nat.le_trans Z0 (Keep.of_wr W184).1
  replace K0 := K0.wr W184 (Or.inl (List.mem_of_getElem? (i := 0) rfl))
  have N184 := Fr.snoc X184 N183 g_s1
  show Go p e below _ (T184.setTop (mkF m 27 #[vr s1, vr x1, .val .null, vr vb, vi (Int32.ofNat tot)] []))
  refine ga X184 hx (D 14 rfl) rfl rfl ?_
  refine ga X184 hx (D 15 rfl) rfl rfl ?_
  refine gk X184 hx 0 (D 16 rfl) rfl ?_
  refine gI X184 hx (D 17 rfl) rfl ?_
  show Go p e below _ (T184.setTop (mkF m 32 #[vr s1, vr x1, .val .null, vr vb, vi (Int32.ofNat tot)] [(.int (Int32.ofNat tot)), (.int (0 : Int32)), (.ref vb), (.ref s1)]))
  rw [show Int32.ofNat tot = Int32.ofNat us.length from by rw [hu]]
  refine kS (W := 1) (C := 1) (S := 300) X184 hx hZ hown (wd hw 350 rfl) (wd hw 200 rfl) (wd hw 201 rfl) (wd hw 202 rfl) (rmRG l Z a0 hw [] vb kv us rs _ (Int32.ofNat us.length) h184 n0 Z0 Od V_vb (o_nat (by omega)) (o_nn (by omega)) ((o_lt (by omega) (by omega)).2 hlt) (by rw [o_nat (by omega)]; omega) hcap) pd_40 (D 18 rfl) e184 hml (by exact ⟨rfl, rfl, rfl, rfl⟩) (by decide) fun v185 T185 L185 Lc185 X185 hQ185 l185 => ?_
  obtain ⟨b, k_b, rfl, sz_b, Nq185, K185, V_b⟩ := hQ185
  have g_b : n0 ≤ b := Nat.le_trans Z0 sz_b
  have ne_s1_b : s1 ≠ b := Nat.ne_of_lt (Nat.lt_of_lt_of_le E_s1.lt sz_b)
  have ne_vb_b : vb ≠ b := Nat.ne_of_lt (Nat.lt_of_lt_of_le V_vb.lt sz_b)
  have ne_x1_b : x1 ≠ b := Nat.ne_of_lt (Nat.lt_of_lt_of_le E_x1.lt sz_b)
  replace sz_b : h0.size ≤ b := Nat.le_trans K0.1 sz_b
  have N185 := l185 N184 Nq185
  replace E_s1 := E_s1.keep K185
  replace F_value_s1 := F_value_s1.keep K185 nin0
  replace F_coder_s1 := F_coder_s1.keep K185 nin0
  replace Od := Od.keep K185 all0
  replace E_x1 := E_x1.keep K185
  replace F_value_x1 := F_value_x1.keep K185 nin0
  replace F_coder_x1 := F_coder_x1.keep K185 nin0
  replace F_count_x1 := F_count_x1.keep K185 nin0
  replace F_maybeLatin1_x1 := F_maybeLatin1_x1.keep K185 nin0
  replace V_vb := V_vb.keep K185 nin0
  replace Z0 := Nat.le_trans Z0 K185.1
  replace K0 := K0.trans K185 all0
  obtain ⟨T186, h186, X186, e186, W186, st186⟩ := putF X185 hx hZ hown (host := "") (Or.inl (wd hw 37 rfl)) Via.refl rfl F_value_s1 E_s1 (Or.inr ⟨(wd hw 38 rfl), rfl, hnm⟩) (wd hw 11 rfl) (ty := (.array .byte)) (by decide) rfl rfl (g := (mkF m 35 #[vr s1, vr x1, .val .null, vr vb, vi (Int32.ofNat us.length)] [(.ref b), (.ref s1)])) rfl rfl (D 19 rfl)
  refine Go.by (fun t => st186 t) ?_
  replace F_value_s1 := F_value_s1.same W186
  replace E_s1 := E_s1.wr W186
  replace F_coder_s1 := F_coder_s1.other W186 (Or.inr (slot_ne (Or.inr (wd hw 36 rfl)) (Or.inr (wd hw 38 rfl)) (by decide) (t := .byte) (t' := (.array .byte)) (by decide) (by decide)))
  replace Od := Od.wr W186 g_s1
  replace E_x1 := E_x1.wr W186
  replace F_value_x1 := F_value_x1.other W186 (Or.inl ne_x1_s1)
  replace F_coder_x1 := F_coder_x1.other W186 (Or.inl ne_x1_s1)
  replace F_count_x1 := F_count_x1.other W186 (Or.inl ne_x1_s1)
  replace F_maybeLatin1_x1 := F_maybeLatin1_x1.other W186 (Or.inl ne_x1_s1)
  replace V_vb := V_vb.other W186 ne_vb_s1
  replace V_b := V_b.other W186 (Ne.symm ne_s1_b)
  replace Z0 := Nat.le_trans Z0 (Keep.of_wr W186).1
  replace K0 := K0.wr W186 (Or.inl (List.mem_of_getElem? (i := 0) rfl))
  have N186 := Fr.snoc X186 N185 g_s1
  show Go p e below _ (T186.setTop (mkF m 38 #[vr s1, vr x1, .val .null, vr vb, vi (Int32.ofNat us.length)] []))
  refine gg X186 hx 97 (D 20 rfl) (by decide) ?_
  exact Go.ret0 X186 hx Bd.returns Bd.notSynchronized (D 50 rfl) (by decide) (by decide) (by first | (rw [e186]; exact ⟨b, k_b, rfl, N186, K0, sz_b, F_value_s1, F_coder_s1, V_b⟩) | exact ⟨b, k_b, rfl, N186, K0, sz_b, F_value_s1, F_coder_s1, V_b⟩)
def Q_rmT21 (Z : State) (s1 x1 : Addr) (vb : Addr) (kv : ClassId) (us rs : List Value) (tot Mb : Nat) (G1 : Int32) (h0 : Heap) (n0 : Nat) : Option Value → Heap → List Loc → Prop := fun v h L => ∃ (t : Addr) (kt : ClassId), v = none ∧ Fr n0 L ∧ Keep h0 h [s1] ∧ h0.size ≤ t ∧ Fld Z h s1 "java/lang/String" "value" "[B" (.ref t) ∧ Fld Z h s1 "java/lang/String" "coder" "B" (.int 1) ∧ Arv Z h t kt .byte (Int32.ofNat us.length) us (.int 0)
set_option maxRecDepth 65536 in
set_option maxHeartbeats 40000000 in
theorem rmT21 (l : Launch) (Z : State) (a0 : Array Value) (hw : HW a0 Z) (ws : List Jvm.Cond) (s1 x1 : Addr) (vb : Addr) (kv : ClassId) (us rs : List Value) (tot Mb : Nat) (G1 : Int32) (h0 : Heap) (n0 : Nat) (Z0 : n0 ≤ h0.size) (Od : Old Z n0 h0) (O2 : SO2 Z G1) (P5 : ¬ (G1 = (0 : Int32))) (E_s1 : Exa Z h0 s1 "java/lang/String") (F_value_s1 : Fld Z h0 s1 "java/lang/String" "value" "[B" .null) (F_coder_s1 : Fld Z h0 s1 "java/lang/String" "coder" "B" (.int 0)) (g_s1 : n0 ≤ s1) (E_x1 : Exa Z h0 x1 "java/lang/StringBuilder") (F_value_x1 : Fld Z h0 x1 "java/lang/AbstractStringBuilder" "value" "[B" (.ref vb)) (F_coder_x1 : Fld Z h0 x1 "java/lang/AbstractStringBuilder" "coder" "B" (.int 1)) (F_count_x1 : Fld Z h0 x1 "java/lang/AbstractStringBuilder" "count" "I" (.int (Int32.ofNat tot))) (F_maybeLatin1_x1 : Fld Z h0 x1 "java/lang/AbstractStringBuilder" "maybeLatin1" "Z" (.int 0)) (V_vb : Arv Z h0 vb kv .byte (Int32.ofNat Mb) (us ++ rs) (.int 0)) (hu : us.length = 2 * tot) (hlt : us.length < Mb) (hMb : Mb ≤ 100000) (hcap : us.length ≤ 300) :
    CT l (⟨"java/lang/String", "<init>", "(Ljava/lang/AbstractStringBuilder;Ljava/lang/Void;)V"⟩ : MethodName) jdk_42_method_150_code 5 none ws (⟨3, 1, 300, 78⟩ : Jvm.Room) #[(.ref s1), (.ref x1), .null] Z h0 (Q_rmT21 Z s1 x1 vb kv us rs tot Mb G1 h0 n0) := by
  refine Go.start (plainFor_of_name pn_1) #[vr s1, vr x1, .val .null, uu, uu] n0 (by first | (simp [argsToLocals, Value.category, maxLocals]; done) | rfl) ?_
  intro p e s m below meth c s₁ Bd hx hby hml hZ hown X0 e0 N0
  have hnm := (name_of_methodNamed Bd.named Bd.method).1
  have D := @dB _ _ hby _ D71
  have K0 : Keep h0 h0 [s1] := Keep.refl _ _
  refine ga X0 hx (D 0 rfl) rfl rfl ?_
  obtain ⟨T187, X187, e187, st187⟩ := initO X0 hx hZ hown (wd hw 20 rfl) (wd hw 21 rfl) (wd hw 22 rfl) e0 (g := (mkF m 1 #[vr s1, vr x1, .val .null, uu, uu] [(.ref s1)])) rfl (by rw [hml]; rfl) rfl (D 1 rfl) (by decide) (W := 0) (by show 2 * 0 + _ ≤ _; exact Nat.le_of_eq rfl) (by decide)
  refine Go.by (fun t => st187 t) ?_
  show Go p e below _ (T187.setTop (mkF m 4 #[vr s1, vr x1, .val .null, uu, uu] []))
  refine ga X187 hx (D 2 rfl) rfl rfl ?_
  refine kV (W := 0) (C := 0) (S := 0) X187 hx hZ hown (wd hw 334 rfl) (wd hw 335 rfl) (wd hw 337 rfl) (wd hw 336 rfl) (wd hw 122 rfl) (wd hw 338 rfl) (notFace_of_selects (args := #[]) (mvT hZ (wd hw 337 rfl))) E_x1 (rm72 l Z a0 hw [] x1 vb h0 n0 F_value_x1) pd_54 (D 3 rfl) e187 hml (by exact ⟨rfl, rfl, rfl, rfl⟩) (by decide) fun v188 T188 L188 Lc188 X188 hQ188 l188 => ?_
  obtain ⟨rfl, Nq188, e188⟩ := hQ188
  have N188 := l188 N0 Nq188
  refine gu X188 hx #[vr s1, vr x1, .val .null, vr vb, uu] (D 4 rfl) rfl rfl ?_
  refine ga X188 hx (D 5 rfl) rfl rfl ?_
  refine kV (W := 0) (C := 0) (S := 0) X188 hx hZ hown (wd hw 339 rfl) (wd hw 340 rfl) (wd hw 342 rfl) (wd hw 343 rfl) (wd hw 114 rfl) (wd hw 344 rfl) (faceOf (a1 := #[]) (mvT hZ (wd hw 238 rfl)) rfl) E_x1 (rm73 l Z a0 hw [] x1 (Int32.ofNat tot) h0 n0 E_x1 F_count_x1) pd_13 (D 6 rfl) e188 hml (by exact ⟨rfl, rfl, rfl, rfl⟩) (by decide) fun v189 T189 L189 Lc189 X189 hQ189 l189 => ?_
  obtain ⟨rfl, Nq189, e189⟩ := hQ189
  have N189 := l189 N188 Nq189
  refine gT X189 hx #[vr s1, vr x1, .val .null, vr vb, vi (Int32.ofNat tot)] (D 7 rfl) rfl ?_
  refine ga X189 hx (D 8 rfl) rfl rfl ?_
  refine kV (W := 0) (C := 0) (S := 0) X189 hx hZ hown (wd hw 347 rfl) (wd hw 274 rfl) (wd hw 276 rfl) (wd hw 275 rfl) (wd hw 122 rfl) (wd hw 277 rfl) (notFace_of_selects (args := #[]) (mvT hZ (wd hw 276 rfl))) E_x1 (rmAL1 l Z a0 hw [] x1 G1 h0 n0 Od O2 P5 F_coder_x1) pd_21 (D 9 rfl) e189 hml (by exact ⟨rfl, rfl, rfl, rfl⟩) (by decide) fun v190 T190 L190 Lc190 X190 hQ190 l190 => ?_
  obtain ⟨rfl, Nq190, e190⟩ := hQ190
  have N190 := l190 N189 Nq190
  refine zY X190 hx 41 (D 10 rfl) ((if0 _ _).trans (teq (rfl : (0 : Int32) = (0 : Int32))).1) (by decide) ?_
  refine gS X190 hx hZ hown (wd hw 23 rfl) e190 (O2.ext Od.2) (D 21 rfl) fun T191 X191 e191 => ?_
  refine zN X191 hx (D 22 rfl) ((if0 _ _).trans (feq P5).1) ?_
  refine ga X191 hx (D 23 rfl) rfl rfl ?_
  refine gF X191 hx hZ hown (wd hw 348 rfl) Via.refl e191 F_maybeLatin1_x1 (D 24 rfl) fun T192 X192 e192 => ?_
  refine zY X192 hx 79 (D 25 rfl) ((if0 _ _).trans (teq (rfl : (0 : Int32) = (0 : Int32))).1) (by decide) ?_
  refine ga X192 hx (D 39 rfl) rfl rfl ?_
  refine gk X192 hx 1 (D 40 rfl) rfl ?_
  show Go p e below _ (T192.setTop (mkF m 81 #[vr s1, vr x1, .val .null, vr vb, vi (Int32.ofNat tot)] [(.int (1 : Int32)), (.ref s1)]))
  obtain ⟨T193, h193, X193, e193, W193, st193⟩ := putFN X192 hx hZ hown (wd hw 35 rfl) Via.refl e192 F_coder_s1 E_s1 (Or.inr ⟨(wd hw 36 rfl), rfl, hnm⟩) (wd hw 11 rfl) (ty := .byte) (v' := (.int (1 : Int32))) (by decide) (by first | rfl | decide) (by first | rfl | decide | exact fits_nar_byte _) (g := (mkF m 81 #[vr s1, vr x1, .val .null, vr vb, vi (Int32.ofNat tot)] [(.int (1 : Int32)), (.ref s1)])) rfl rfl (D 41 rfl)
  refine Go.by (fun t => st193 t) ?_
  have ne_x1_s1 : x1 ≠ s1 := Exa.ne E_x1 E_s1 (by decide)
  have ne_vb_s1 : vb ≠ s1 := Ne.symm (Exa.neArv E_s1 V_vb (wd hw 11 rfl))
  replace F_coder_s1 := F_coder_s1.same W193
  replace E_s1 := E_s1.wr W193
  replace F_value_s1 := F_value_s1.other W193 (Or.inr (slot_ne (Or.inr (wd hw 38 rfl)) (Or.inr (wd hw 36 rfl)) (by decide) (t := (.array .byte)) (t' := .byte) (by decide) (by decide)))
  replace Od := Od.wr W193 g_s1
  replace E_x1 := E_x1.wr W193
  replace F_value_x1 := F_value_x1.other W193 (Or.inl ne_x1_s1)
  replace F_coder_x1 := F_coder_x1.other W193 (Or.inl ne_x1_s1)
  replace F_count_x1 := F_count_x1.other W193 (Or.inl ne_x1_s1)
  replace F_maybeLatin1_x1 := F_maybeLatin1_x1.other W193 (Or.inl ne_x1_s1)
  replace V_vb := V_vb.other W193 ne_vb_s1
  replace Z0 := Nat.le_trans Z0 (Keep.of_wr W193).1
  replace K0 := K0.wr W193 (Or.inl (List.mem_of_getElem? (i := 0) rfl))
  have N193 := Fr.snoc X193 N190 g_s1
  show Go p e below _ (T193.setTop (mkF m 84 #[vr s1, vr x1, .val .null, vr vb, vi (Int32.ofNat tot)] []))
  refine ga X193 hx (D 42 rfl) rfl rfl ?_
  refine ga X193 hx (D 43 rfl) rfl rfl ?_
  refine gk X193 hx 0 (D 44 rfl) rfl ?_
  refine gI X193 hx (D 45 rfl) rfl ?_
  refine gk X193 hx 1 (D 46 rfl) rfl ?_
  refine gq (XS.ishl X193.here hx rfl (D 47 rfl) rfl) rfl ?_
  show Go p e below _ (T193.setTop (mkF m 91 #[vr s1, vr x1, .val .null, vr vb, vi (Int32.ofNat tot)] [(.int ((Int32.ofNat tot) <<< ((1 : Int32) &&& 31))), (.int (0 : Int32)), (.ref vb), (.ref s1)]))
  rw [show (Int32.ofNat tot <<< ((1 : Int32) &&& 31)) = Int32.ofNat us.length from by rw [hu]; exact o_shl _]
  refine kS (W := 1) (C := 1) (S := 300) X193 hx hZ hown (wd hw 350 rfl) (wd hw 200 rfl) (wd hw 201 rfl) (wd hw 202 rfl) (rmRG l Z a0 hw [] vb kv us rs _ (Int32.ofNat us.length) h193 n0 Z0 Od V_vb (o_nat (by omega)) (o_nn (by omega)) ((o_lt (by omega) (by omega)).2 hlt) (by rw [o_nat (by omega)]; omega) hcap) pd_40 (D 48 rfl) e193 hml (by exact ⟨rfl, rfl, rfl, rfl⟩) (by decide) fun v194 T194 L194 Lc194 X194 hQ194 l194 => ?_
  obtain ⟨b, k_b, rfl, sz_b, Nq194, K194, V_b⟩ := hQ194
  have g_b : n0 ≤ b := Nat.le_trans Z0 sz_b
  have ne_s1_b : s1 ≠ b := Nat.ne_of_lt (Nat.lt_of_lt_of_le E_s1.lt sz_b)
  have ne_vb_b : vb ≠ b := Nat.ne_of_lt (Nat.lt_of_lt_of_le V_vb.lt sz_b)
  have ne_x1_b : x1 ≠ b := Nat.ne_of_lt (Nat.lt_of_lt_of_le E_x1.lt sz_b)
  replace sz_b : h0.size ≤ b := Nat.le_trans K0.1 sz_b
  have N194 := l194 N193 Nq194
  replace E_s1 := E_s1.keep K194
  replace F_value_s1 := F_value_s1.keep K194 nin0
  replace F_coder_s1 := F_coder_s1.keep K194 nin0
  replace Od := Od.keep K194 all0
  replace E_x1 := E_x1.keep K194
  replace F_value_x1 := F_value_x1.keep K194 nin0
  replace F_coder_x1 := F_coder_x1.keep K194 nin0
  replace F_count_x1 := F_count_x1.keep K194 nin0
  replace F_maybeLatin1_x1 := F_maybeLatin1_x1.keep K194 nin0
  replace V_vb := V_vb.keep K194 nin0
  replace Z0 := Nat.le_trans Z0 K194.1
  replace K0 := K0.trans K194 all0
  obtain ⟨T195, h195, X195, e195, W195, st195⟩ := putF X194 hx hZ hown (host := "") (Or.inl (wd hw 37 rfl)) Via.refl rfl F_value_s1 E_s1 (Or.inr ⟨(wd hw 38 rfl), rfl, hnm⟩) (wd hw 11 rfl) (ty := (.array .byte)) (by decide) rfl rfl (g := (mkF m 94 #[vr s1, vr x1, .val .null, vr vb, vi (Int32.ofNat tot)] [(.ref b), (.ref s1)])) rfl rfl (D 49 rfl)
  refine Go.by (fun t => st195 t) ?_
  replace F_value_s1 := F_value_s1.same W195
  replace E_s1 := E_s1.wr W195
  replace F_coder_s1 := F_coder_s1.other W195 (Or.inr (slot_ne (Or.inr (wd hw 36 rfl)) (Or.inr (wd hw 38 rfl)) (by decide) (t := .byte) (t' := (.array .byte)) (by decide) (by decide)))
  replace Od := Od.wr W195 g_s1
  replace E_x1 := E_x1.wr W195
  replace F_value_x1 := F_value_x1.other W195 (Or.inl ne_x1_s1)
  replace F_coder_x1 := F_coder_x1.other W195 (Or.inl ne_x1_s1)
  replace F_count_x1 := F_count_x1.other W195 (Or.inl ne_x1_s1)
  replace F_maybeLatin1_x1 := F_maybeLatin1_x1.other W195 (Or.inl ne_x1_s1)
  replace V_vb := V_vb.other W195 ne_vb_s1
  replace V_b := V_b.other W195 (Ne.symm ne_s1_b)
  replace Z0 := Nat.le_trans Z0 (Keep.of_wr W195).1
  replace K0 := K0.wr W195 (Or.inl (List.mem_of_getElem? (i := 0) rfl))
  have N195 := Fr.snoc X195 N194 g_s1
  show Go p e below _ (T195.setTop (mkF m 97 #[vr s1, vr x1, .val .null, vr vb, vi (Int32.ofNat tot)] []))
  exact Go.ret0 X195 hx Bd.returns Bd.notSynchronized (D 50 rfl) (by decide) (by decide) (by first | (rw [e195]; exact ⟨b, k_b, rfl, N195, K0, sz_b, F_value_s1, F_coder_s1, V_b⟩) | exact ⟨b, k_b, rfl, N195, K0, sz_b, F_value_s1, F_coder_s1, V_b⟩)
def Q_rmT2 (Z : State) (s1 x1 : Addr) (vb : Addr) (kv : ClassId) (us rs : List Value) (tot Mb : Nat) (G1 : Int32) (cd : Int32) (h0 : Heap) (n0 : Nat) : Option Value → Heap → List Loc → Prop := fun v h L => ∃ (t : Addr) (kt : ClassId), v = none ∧ Fr n0 L ∧ Keep h0 h [s1] ∧ h0.size ≤ t ∧ Fld Z h s1 "java/lang/String" "value" "[B" (.ref t) ∧ Fld Z h s1 "java/lang/String" "coder" "B" (.int cd) ∧ Arv Z h t kt .byte (Int32.ofNat us.length) us (.int 0)
set_option maxRecDepth 65536 in
set_option maxHeartbeats 40000000 in
theorem rmT2 (l : Launch) (Z : State) (a0 : Array Value) (hw : HW a0 Z) (ws : List Jvm.Cond) (s1 x1 : Addr) (vb : Addr) (kv : ClassId) (us rs : List Value) (tot Mb : Nat) (G1 : Int32) (cd : Int32) (h0 : Heap) (n0 : Nat) (Z0 : n0 ≤ h0.size) (Od : Old Z n0 h0) (O2 : SO2 Z G1) (P5 : ¬ (G1 = (0 : Int32))) (E_s1 : Exa Z h0 s1 "java/lang/String") (F_value_s1 : Fld Z h0 s1 "java/lang/String" "value" "[B" .null) (F_coder_s1 : Fld Z h0 s1 "java/lang/String" "coder" "B" (.int 0)) (g_s1 : n0 ≤ s1) (E_x1 : Exa Z h0 x1 "java/lang/StringBuilder") (F_value_x1 : Fld Z h0 x1 "java/lang/AbstractStringBuilder" "value" "[B" (.ref vb)) (F_coder_x1 : Fld Z h0 x1 "java/lang/AbstractStringBuilder" "coder" "B" (.int cd)) (F_count_x1 : Fld Z h0 x1 "java/lang/AbstractStringBuilder" "count" "I" (.int (Int32.ofNat tot))) (F_maybeLatin1_x1 : Fld Z h0 x1 "java/lang/AbstractStringBuilder" "maybeLatin1" "Z" (.int 0)) (V_vb : Arv Z h0 vb kv .byte (Int32.ofNat Mb) (us ++ rs) (.int 0)) (hc : (cd = 0 ∧ us.length = tot) ∨ (cd = 1 ∧ us.length = 2 * tot)) (hlt : us.length < Mb) (hMb : Mb ≤ 100000) (hcap : us.length ≤ 300) :
    CT l (⟨"java/lang/String", "<init>", "(Ljava/lang/AbstractStringBuilder;Ljava/lang/Void;)V"⟩ : MethodName) jdk_42_method_150_code 5 none ws (⟨3, 1, 300, 78⟩ : Jvm.Room) #[(.ref s1), (.ref x1), .null] Z h0 (Q_rmT2 Z s1 x1 vb kv us rs tot Mb G1 cd h0 n0) := by
  rcases hc with ⟨rfl, hu⟩ | ⟨rfl, hu⟩
  · exact rmT20 l Z a0 hw ws s1 x1 vb kv us rs tot Mb G1 h0 n0 Z0 Od O2 P5 E_s1 F_value_s1 F_coder_s1 g_s1 E_x1 F_value_x1 F_coder_x1 F_count_x1 F_maybeLatin1_x1 V_vb hu hlt hMb hcap
  · exact rmT21 l Z a0 hw ws s1 x1 vb kv us rs tot Mb G1 h0 n0 Z0 Od O2 P5 E_s1 F_value_s1 F_coder_s1 g_s1 E_x1 F_value_x1 F_coder_x1 F_count_x1 F_maybeLatin1_x1 V_vb hu hlt hMb hcap
def Q_rmT1 (Z : State) (s1 x1 : Addr) (vb : Addr) (kv : ClassId) (us rs : List Value) (tot Mb : Nat) (G1 : Int32) (cd : Int32) (h0 : Heap) (n0 : Nat) : Option Value → Heap → List Loc → Prop := fun v h L => ∃ (t : Addr) (kt : ClassId), v = none ∧ Fr n0 L ∧ Keep h0 h [s1] ∧ h0.size ≤ t ∧ Fld Z h s1 "java/lang/String" "value" "[B" (.ref t) ∧ Fld Z h s1 "java/lang/String" "coder" "B" (.int cd) ∧ Arv Z h t kt .byte (Int32.ofNat us.length) us (.int 0)
set_option maxRecDepth 65536 in
set_option maxHeartbeats 40000000 in
theorem rmT1 (l : Launch) (Z : State) (a0 : Array Value) (hw : HW a0 Z) (ws : List Jvm.Cond) (s1 x1 : Addr) (vb : Addr) (kv : ClassId) (us rs : List Value) (tot Mb : Nat) (G1 : Int32) (cd : Int32) (h0 : Heap) (n0 : Nat) (Z0 : n0 ≤ h0.size) (Od : Old Z n0 h0) (O2 : SO2 Z G1) (P5 : ¬ (G1 = (0 : Int32))) (E_s1 : Exa Z h0 s1 "java/lang/String") (F_value_s1 : Fld Z h0 s1 "java/lang/String" "value" "[B" .null) (F_coder_s1 : Fld Z h0 s1 "java/lang/String" "coder" "B" (.int 0)) (g_s1 : n0 ≤ s1) (E_x1 : Exa Z h0 x1 "java/lang/StringBuilder") (F_value_x1 : Fld Z h0 x1 "java/lang/AbstractStringBuilder" "value" "[B" (.ref vb)) (F_coder_x1 : Fld Z h0 x1 "java/lang/AbstractStringBuilder" "coder" "B" (.int cd)) (F_count_x1 : Fld Z h0 x1 "java/lang/AbstractStringBuilder" "count" "I" (.int (Int32.ofNat tot))) (F_maybeLatin1_x1 : Fld Z h0 x1 "java/lang/AbstractStringBuilder" "maybeLatin1" "Z" (.int 0)) (V_vb : Arv Z h0 vb kv .byte (Int32.ofNat Mb) (us ++ rs) (.int 0)) (hc : (cd = 0 ∧ us.length = tot) ∨ (cd = 1 ∧ us.length = 2 * tot)) (hlt : us.length < Mb) (hMb : Mb ≤ 100000) (hcap : us.length ≤ 300) :
    CT l (⟨"java/lang/String", "<init>", "(Ljava/lang/StringBuilder;)V"⟩ : MethodName) jdk_42_method_53_code 2 none ws (⟨4, 1, 300, 98⟩ : Jvm.Room) #[(.ref s1), (.ref x1)] Z h0 (Q_rmT1 Z s1 x1 vb kv us rs tot Mb G1 cd h0 n0) := by
  refine Go.start (plainFor_of_name pn_1) #[vr s1, vr x1] n0 (by first | (simp [argsToLocals, Value.category, maxLocals]; done) | rfl) ?_
  intro p e s m below meth c s₁ Bd hx hby hml hZ hown X0 e0 N0
  have D := @dB _ _ hby _ D70
  refine ga X0 hx (D 0 rfl) rfl rfl ?_
  refine ga X0 hx (D 1 rfl) rfl rfl ?_
  refine Go.by (fun t => XS.aconstNull X0.here hx rfl (D 2 rfl)) ?_
  show Go p e below _ (s₁.setTop (mkF m 3 #[vr s1, vr x1] [.null, (.ref x1), (.ref s1)]))
  refine kI (W := 0) (C := 1) (S := 300) X0 hx hZ hown (wd hw 331 rfl) (wd hw 332 rfl) (wd hw 12 rfl) (wd hw 333 rfl) (rmT2 l Z a0 hw [] s1 x1 vb kv us rs tot Mb G1 cd h0 n0 Z0 Od O2 P5 E_s1 F_value_s1 F_coder_s1 g_s1 E_x1 F_value_x1 F_coder_x1 F_count_x1 F_maybeLatin1_x1 V_vb hc hlt hMb hcap) pd_53 (D 3 rfl) e0 hml (by exact ⟨rfl, rfl, rfl, rfl⟩) (by decide) fun v196 T196 L196 Lc196 X196 hQ196 l196 => ?_
  obtain ⟨t, kt, rfl, Nq196, K196, sz_t, Fv, Fc, V_t⟩ := hQ196
  have N196 := l196 N0 Nq196
  exact Go.ret0 X196 hx Bd.returns Bd.notSynchronized (D 4 rfl) (by decide) (by decide) ⟨t, kt, rfl, N196, K196, sz_t, Fv, Fc, V_t⟩
def Q_rmTS (Z : State) (x1 : Addr) (vb : Addr) (kv : ClassId) (us rs : List Value) (tot Mb : Nat) (G1 : Int32) (cd : Int32) (h0 : Heap) (n0 : Nat) : Option Value → Heap → List Loc → Prop := fun v h L => ∃ (r t : Addr) (kt : ClassId), v = some (.ref r) ∧ Fr n0 L ∧ Keep h0 h [] ∧ h0.size ≤ r ∧ Exa Z h r "java/lang/String" ∧ Fld Z h r "java/lang/String" "value" "[B" (.ref t) ∧ Fld Z h r "java/lang/String" "coder" "B" (.int cd) ∧ Arv Z h t kt .byte (Int32.ofNat us.length) us (.int 0)
set_option maxRecDepth 65536 in
set_option maxHeartbeats 40000000 in
theorem rmTS (l : Launch) (Z : State) (a0 : Array Value) (hw : HW a0 Z) (ws : List Jvm.Cond) (x1 : Addr) (vb : Addr) (kv : ClassId) (us rs : List Value) (tot Mb : Nat) (G1 : Int32) (cd : Int32) (h0 : Heap) (n0 : Nat) (Z0 : n0 ≤ h0.size) (Od : Old Z n0 h0) (O2 : SO2 Z G1) (P5 : ¬ (G1 = (0 : Int32))) (E_x1 : Exa Z h0 x1 "java/lang/StringBuilder") (F_value_x1 : Fld Z h0 x1 "java/lang/AbstractStringBuilder" "value" "[B" (.ref vb)) (F_coder_x1 : Fld Z h0 x1 "java/lang/AbstractStringBuilder" "coder" "B" (.int cd)) (F_count_x1 : Fld Z h0 x1 "java/lang/AbstractStringBuilder" "count" "I" (.int (Int32.ofNat tot))) (F_maybeLatin1_x1 : Fld Z h0 x1 "java/lang/AbstractStringBuilder" "maybeLatin1" "Z" (.int 0)) (V_vb : Arv Z h0 vb kv .byte (Int32.ofNat Mb) (us ++ rs) (.int 0)) (hc : (cd = 0 ∧ us.length = tot) ∨ (cd = 1 ∧ us.length = 2 * tot)) (hlt : us.length < Mb) (hMb : Mb ≤ 100000) (hcap : us.length ≤ 300) :
    CT l (⟨"java/lang/StringBuilder", "toString", "()Ljava/lang/String;"⟩ : MethodName) jdk_67_method_42_code 1 (some (.object "java/lang/String")) ws (⟨5, 2, 304, 114⟩ : Jvm.Room) #[(.ref x1)] Z h0 (Q_rmTS Z x1 vb kv us rs tot Mb G1 cd h0 n0) := by
  refine Go.start (plainFor_of_name pn_7) #[vr x1] n0 (by first | (simp [argsToLocals, Value.category, maxLocals]; done) | rfl) ?_
  intro p e s m below meth c s₁ Bd hx hby hml hZ hown X0 e0 N0
  have D := @dB _ _ hby _ D69
  have K0 : Keep h0 h0 [] := Keep.refl _ _
  obtain ⟨T197, h197, X197, e197, E197, A197, D197, -, st197⟩ := newO X0 hx hZ hown (wd hw 327 rfl) (wd hw 11 rfl) (wd hw 12 rfl) e0 (g := (mkF m 0 #[vr x1] [])) rfl (D 0 rfl) (by decide) (by decide)
  obtain ⟨s1, g197⟩ : ∃ z, z = h0.size := ⟨_, rfl⟩
  rw [← g197] at A197 D197 st197
  refine Go.by (fun t => st197 t) ?_
  have g_s1 : n0 ≤ s1 := Nat.le_trans Z0 (Nat.le_of_eq g197.symm)
  have sz_s1 : h0.size ≤ s1 := Nat.le_trans K0.1 (Nat.le_of_eq g197.symm)
  have ne_vb_s1 : vb ≠ s1 := Nat.ne_of_lt (Nat.lt_of_lt_of_le V_vb.lt (Nat.le_of_eq g197.symm))
  have ne_x1_s1 : x1 ≠ s1 := Nat.ne_of_lt (Nat.lt_of_lt_of_le E_x1.lt (Nat.le_of_eq g197.symm))
  replace Od := Od.ext E197
  replace E_x1 := E_x1.ext E197
  replace F_value_x1 := F_value_x1.ext E197
  replace F_coder_x1 := F_coder_x1.ext E197
  replace F_count_x1 := F_count_x1.ext E197
  replace F_maybeLatin1_x1 := F_maybeLatin1_x1.ext E197
  replace V_vb := V_vb.ext E197
  replace Z0 := Nat.le_trans Z0 E197.1
  replace K0 := K0.ext E197
  have E_s1 := A197
  have F_coder_s1 : Fld Z h197 s1 "java/lang/String" "coder" "B" (.int (0 : Int32)) := D197 (Or.inr (wd hw 36 rfl)) (ty := .byte) (by decide)
  have F_value_s1 : Fld Z h197 s1 "java/lang/String" "value" "[B" .null := D197 (Or.inr (wd hw 38 rfl)) (ty := (.array .byte)) (by decide)
  replace X197 := Stand.num (C := 1) (S := 4) X197 rfl rfl
  show Go p e below _ (T197.setTop (mkF m 3 #[vr x1] [(.ref s1)]))
  refine gq (XS.dup X197.here hx rfl (D 1 rfl) rfl rfl) rfl ?_
  refine ga X197 hx (D 2 rfl) rfl rfl ?_
  refine kI (W := 1) (C := 2) (S := 304) X197 hx hZ hown (wd hw 328 rfl) (wd hw 329 rfl) (wd hw 12 rfl) (wd hw 330 rfl) (rmT1 l Z a0 hw [] s1 x1 vb kv us rs tot Mb G1 cd h197 n0 Z0 Od O2 P5 E_s1 F_value_s1 F_coder_s1 g_s1 E_x1 F_value_x1 F_coder_x1 F_count_x1 F_maybeLatin1_x1 V_vb hc hlt hMb hcap) pd_52 (D 3 rfl) e197 hml (by exact ⟨rfl, rfl, rfl, rfl⟩) (by decide) fun v198 T198 L198 Lc198 X198 hQ198 l198 => ?_
  obtain ⟨t, kt, rfl, Nq198, K198, sz_t, Fv, Fc, V_t⟩ := hQ198
  have N198 := l198 N0 Nq198
  replace E_s1 := E_s1.keep K198
  replace Z0 := Nat.le_trans Z0 K198.1
  replace K0 := K0.trans K198 (allS (P := fun x => x ∈ _ ∨ _ ≤ x) (Or.inr sz_s1) all0)
  exact Go.ret1 X198 hx Bd.returns Bd.notSynchronized rfl (Or.inr (Or.inr (Or.inr (Or.inr ⟨rfl, rfl, rfl⟩)))) (D 4 rfl) (by decide) (by decide) ⟨s1, t, kt, rfl, N198, K0, sz_s1, E_s1, Fv, Fc, V_t⟩
def Q_rm77 (Z : State) (t1 : Addr) (kt : ClassId) (N : Int32) (vs : List Value) (i1 x1 c1 : Int32) (G3 : Value) (h0 : Heap) (n0 : Nat) : Option Value → Heap → List Loc → Prop := fun v h L => v = some (.int c1) ∧ Fr n0 L ∧ h = h0
set_option maxRecDepth 65536 in
set_option maxHeartbeats 40000000 in
theorem rm77 (l : Launch) (Z : State) (a0 : Array Value) (hw : HW a0 Z) (ws : List Jvm.Cond) (t1 : Addr) (kt : ClassId) (N : Int32) (vs : List Value) (i1 x1 c1 : Int32) (G3 : Value) (h0 : Heap) (n0 : Nat) (Od : Old Z n0 h0) (O4 : SO4 Z G3) (rG3 : G3.isRef = true) (V_t1 : Arv Z h0 t1 kt .byte N vs (.int 0)) (q1 : ¬ (i1 < (0 : Int32))) (q2 : i1 < N) (at1 : vs.getD i1.toNatClampNeg (.int 0) = .int x1) (hch : (x1 &&& (255 : Int32)).toUInt32.toUInt16.toUInt32.toInt32 = c1) :
    CT l (⟨"java/lang/StringLatin1", "charAt", "([BI)C"⟩ : MethodName) jdk_43_method_2_code 2 (some .char) ws (⟨2, 0, 0, 32⟩ : Jvm.Room) #[(.ref t1), (.int i1)] Z h0 (Q_rm77 Z t1 kt N vs i1 x1 c1 G3 h0 n0) := by
  refine Go.start (plainFor_of_name pn_11) #[vr t1, vi i1] n0 (by first | (simp [argsToLocals, Value.category, maxLocals]; done) | rfl) ?_
  intro p e s m below meth c s₁ Bd hx hby hml hZ hown X0 e0 N0
  have D := @dB _ _ hby _ D77
  refine gi X0 hx (D 0 rfl) rfl ?_
  refine ga X0 hx (D 1 rfl) rfl rfl ?_
  refine gN X0 hx hZ e0 V_t1 (D 2 rfl) ?_
  refine kS (W := 0) (C := 0) (S := 0) X0 hx hZ hown (wd hw 361 rfl) (wd hw 163 rfl) (wd hw 12 rfl) (wd hw 164 rfl) (rm34 l Z a0 hw [] i1 N G3 h0 n0 Od O4 rG3 q1 q2) pd_36 (D 3 rfl) e0 hml (by exact ⟨rfl, rfl, rfl, rfl⟩) (by decide) fun v199 T199 L199 Lc199 X199 hQ199 l199 => ?_
  obtain ⟨rfl, Nq199, e199⟩ := hQ199
  have N199 := l199 N0 Nq199
  refine ga X199 hx (D 4 rfl) rfl rfl ?_
  refine gi X199 hx (D 5 rfl) rfl ?_
  refine gB X199 hx hZ e199 V_t1 ⟨q1, q2⟩ (.int x1) at1 (D 6 rfl) ?_
  refine gs X199 hx 255 (D 7 rfl) rfl ?_
  refine gq (XS.iand X199.here hx rfl (D 8 rfl) rfl) rfl ?_
  refine gq (XS.i2c X199.here hx rfl (D 9 rfl) rfl) rfl ?_
  have hch' : ((x1 &&& (255 : Int32)).toUInt32.toUInt16.toUInt32.toInt32) = c1 := hch
  show Go p e below _ (T199.setTop (mkF m 14 #[vr t1, vi i1] [(.int ((x1 &&& (255 : Int32)).toUInt32.toUInt16.toUInt32.toInt32))]))
  rw [hch']
  exact Go.ret1 X199 hx Bd.returns Bd.notSynchronized (by rw [← hch]; exact nar_i2c _) (Or.inl ⟨rfl, by simp, _, rfl⟩) (D 10 rfl) (by decide) (by decide) (by first | (rw [e199]; exact ⟨rfl, N199, rfl⟩) | exact ⟨rfl, N199, rfl⟩)
def Q_rmCA0 (Z : State) (s1 t1 : Addr) (kt : ClassId) (N : Int32) (vs : List Value) (i1 x1 c1 : Int32) (G1 : Int32) (G3 : Value) (h0 : Heap) (n0 : Nat) : Option Value → Heap → List Loc → Prop := fun v h L => v = some (.int c1) ∧ Fr n0 L ∧ h = h0
set_option maxRecDepth 65536 in
set_option maxHeartbeats 40000000 in
theorem rmCA0 (l : Launch) (Z : State) (a0 : Array Value) (hw : HW a0 Z) (ws : List Jvm.Cond) (s1 t1 : Addr) (kt : ClassId) (N : Int32) (vs : List Value) (i1 x1 c1 : Int32) (G1 : Int32) (G3 : Value) (h0 : Heap) (n0 : Nat) (Od : Old Z n0 h0) (A1 : SA1 Z) (HS : SHS Z) (LS : SLS Z) (O4 : SO4 Z G3) (rG3 : G3.isRef = true) (O2 : SO2 Z G1) (P5 : ¬ (G1 = (0 : Int32))) (E_s1 : Exa Z h0 s1 "java/lang/String") (F_value_s1 : Fld Z h0 s1 "java/lang/String" "value" "[B" (.ref t1)) (F_coder_s1 : Fld Z h0 s1 "java/lang/String" "coder" "B" (.int 0)) (V_t1 : Arv Z h0 t1 kt .byte N vs (.int 0)) (q1 : ¬ (i1 < (0 : Int32))) (q2 : i1 < N) (at1 : vs.getD i1.toNatClampNeg (.int 0) = .int x1) (hch : (x1 &&& (255 : Int32)).toUInt32.toUInt16.toUInt32.toInt32 = c1) :
    CT l (⟨"java/lang/String", "charAt", "(I)C"⟩ : MethodName) jdk_42_method_56_code 2 (some .char) ws (⟨4, 0, 0, 62⟩ : Jvm.Room) #[(.ref s1), (.int i1)] Z h0 (Q_rmCA0 Z s1 t1 kt N vs i1 x1 c1 G1 G3 h0 n0) := by
  refine Go.start (plainFor_of_name pn_1) #[vr s1, vi i1] n0 (by first | (simp [argsToLocals, Value.category, maxLocals]; done) | rfl) ?_
  intro p e s m below meth c s₁ Bd hx hby hml hZ hown X0 e0 N0
  have D := @dB _ _ hby _ D30
  refine ga X0 hx (D 0 rfl) rfl rfl ?_
  refine kV (W := 0) (C := 0) (S := 0) X0 hx hZ hown (wd hw 67 rfl) (wd hw 68 rfl) (wd hw 70 rfl) (wd hw 69 rfl) (wd hw 12 rfl) (wd hw 71 rfl) (notFace_of_selects (args := #[]) (mvT hZ (wd hw 70 rfl))) E_s1 (rmIL0 l Z a0 hw [] s1 G1 h0 n0 Od O2 P5 F_coder_s1) pd_21 (D 1 rfl) e0 hml (by exact ⟨rfl, rfl, rfl, rfl⟩) (by decide) fun v201 T201 L201 Lc201 X201 hQ201 l201 => ?_
  obtain ⟨rfl, Nq201, e201⟩ := hQ201
  have N201 := l201 N0 Nq201
  refine zN X201 hx (D 2 rfl) ((if0 _ _).trans (feq (by decide : ¬ ((1 : Int32) = (0 : Int32)))).1) ?_
  refine ga X201 hx (D 3 rfl) rfl rfl ?_
  refine gF X201 hx hZ hown (wd hw 37 rfl) Via.refl e201 F_value_s1 (D 4 rfl) fun T202 X202 e202 => ?_
  refine gi X202 hx (D 5 rfl) rfl ?_
  refine kS (W := 0) (C := 0) (S := 0) X202 hx hZ hown (wd hw 358 rfl) (wd hw 359 rfl) (wd hw 281 rfl) (wd hw 360 rfl) (rm77 l Z a0 hw [] t1 kt N vs i1 x1 c1 G3 h0 n0 Od O4 rG3 V_t1 q1 q2 at1 hch) pd_11 (D 6 rfl) e202 hml (by exact ⟨rfl, rfl, rfl, rfl⟩) (by decide) fun v203 T203 L203 Lc203 X203 hQ203 l203 => ?_
  obtain ⟨rfl, Nq203, e203⟩ := hQ203
  have N203 := l203 N201 Nq203
  exact Go.ret1 X203 hx Bd.returns Bd.notSynchronized (by rw [← hch]; exact nar_i2c _) (Or.inl ⟨rfl, by simp, _, rfl⟩) (D 7 rfl) (by decide) (by decide) (by first | (rw [e203]; exact ⟨rfl, N203, rfl⟩) | exact ⟨rfl, N203, rfl⟩)
def Q_rmCA1 (Z : State) (s1 t1 : Addr) (kt : ClassId) (N : Int32) (vs : List Value) (i1 j1 x1 y1 c1 z2 : Int32) (G1 : Int32) (G3 : Value) (h0 : Heap) (n0 : Nat) : Option Value → Heap → List Loc → Prop := fun v h L => v = some (.int c1) ∧ Fr n0 L ∧ h = h0
set_option maxRecDepth 65536 in
set_option maxHeartbeats 40000000 in
theorem rmCA1 (l : Launch) (Z : State) (a0 : Array Value) (hw : HW a0 Z) (ws : List Jvm.Cond) (s1 t1 : Addr) (kt : ClassId) (N : Int32) (vs : List Value) (i1 j1 x1 y1 c1 z2 : Int32) (G1 : Int32) (G3 : Value) (h0 : Heap) (n0 : Nat) (Od : Old Z n0 h0) (A1 : SA1 Z) (HS : SHS Z) (LS : SLS Z) (O4 : SO4 Z G3) (rG3 : G3.isRef = true) (O2 : SO2 Z G1) (P5 : ¬ (G1 = (0 : Int32))) (E_s1 : Exa Z h0 s1 "java/lang/String") (F_value_s1 : Fld Z h0 s1 "java/lang/String" "value" "[B" (.ref t1)) (F_coder_s1 : Fld Z h0 s1 "java/lang/String" "coder" "B" (.int 1)) (V_t1 : Arv Z h0 t1 kt .byte N vs (.int 0)) (hr : (N >>> ((1 : Int32) &&& 31)) = z2) (q1 : ¬ (i1 < (0 : Int32))) (q2 : i1 < z2) (hj1 : (i1 <<< ((1 : Int32) &&& 31)) = j1) (in1 : ¬ j1 < 0 ∧ j1 < N) (in2 : ¬ (j1 + (1 : Int32)) < 0 ∧ (j1 + (1 : Int32)) < N) (at1 : vs.getD j1.toNatClampNeg (.int 0) = .int x1) (at2 : vs.getD (j1 + (1 : Int32)).toNatClampNeg (.int 0) = .int y1) (hch : ch16 x1 y1 = c1) :
    CT l (⟨"java/lang/String", "charAt", "(I)C"⟩ : MethodName) jdk_42_method_56_code 2 (some .char) ws (⟨4, 0, 0, 62⟩ : Jvm.Room) #[(.ref s1), (.int i1)] Z h0 (Q_rmCA1 Z s1 t1 kt N vs i1 j1 x1 y1 c1 z2 G1 G3 h0 n0) := by
  refine Go.start (plainFor_of_name pn_1) #[vr s1, vi i1] n0 (by first | (simp [argsToLocals, Value.category, maxLocals]; done) | rfl) ?_
  intro p e s m below meth c s₁ Bd hx hby hml hZ hown X0 e0 N0
  have D := @dB _ _ hby _ D30
  refine ga X0 hx (D 0 rfl) rfl rfl ?_
  refine kV (W := 0) (C := 0) (S := 0) X0 hx hZ hown (wd hw 67 rfl) (wd hw 68 rfl) (wd hw 70 rfl) (wd hw 69 rfl) (wd hw 12 rfl) (wd hw 71 rfl) (notFace_of_selects (args := #[]) (mvT hZ (wd hw 70 rfl))) E_s1 (rmIL1 l Z a0 hw [] s1 G1 h0 n0 Od O2 P5 F_coder_s1) pd_21 (D 1 rfl) e0 hml (by exact ⟨rfl, rfl, rfl, rfl⟩) (by decide) fun v204 T204 L204 Lc204 X204 hQ204 l204 => ?_
  obtain ⟨rfl, Nq204, e204⟩ := hQ204
  have N204 := l204 N0 Nq204
  refine zY X204 hx 16 (D 2 rfl) ((if0 _ _).trans (teq (rfl : (0 : Int32) = (0 : Int32))).1) (by decide) ?_
  refine ga X204 hx (D 8 rfl) rfl rfl ?_
  refine gF X204 hx hZ hown (wd hw 37 rfl) Via.refl e204 F_value_s1 (D 9 rfl) fun T205 X205 e205 => ?_
  refine gi X205 hx (D 10 rfl) rfl ?_
  refine kS (W := 0) (C := 0) (S := 0) X205 hx hZ hown (wd hw 153 rfl) (wd hw 154 rfl) (wd hw 26 rfl) (wd hw 155 rfl) (rm31 l Z a0 hw [] t1 kt N vs i1 j1 x1 y1 c1 z2 G3 h0 n0 Od A1 HS LS O4 rG3 V_t1 hr q1 q2 hj1 in1 in2 at1 at2 hch) pd_11 (D 11 rfl) e205 hml (by exact ⟨rfl, rfl, rfl, rfl⟩) (by decide) fun v206 T206 L206 Lc206 X206 hQ206 l206 => ?_
  obtain ⟨rfl, Nq206, e206⟩ := hQ206
  have N206 := l206 N204 Nq206
  exact Go.ret1 X206 hx Bd.returns Bd.notSynchronized (by rw [← hch]; exact nar_ch16 _ _) (Or.inl ⟨rfl, by simp, _, rfl⟩) (D 12 rfl) (by decide) (by decide) (by first | (rw [e206]; exact ⟨rfl, N206, rfl⟩) | exact ⟨rfl, N206, rfl⟩)
def Q_rmCA (Z : State) (s1 : Addr) (cs us : List Int32) (cx : Int32) (vs : List Int32) (i1 G1 : Int32) (G3 : Value) (h0 : Heap) (n0 : Nat) : Option Value → Heap → List Loc → Prop := fun v h L => v = some (.int cx) ∧ Fr n0 L ∧ h = h0
set_option maxRecDepth 65536 in
set_option maxHeartbeats 40000000 in
theorem rmCA (l : Launch) (Z : State) (a0 : Array Value) (hw : HW a0 Z) (ws : List Jvm.Cond) (s1 : Addr) (cs us : List Int32) (cx : Int32) (vs : List Int32) (i1 G1 : Int32) (G3 : Value) (h0 : Heap) (n0 : Nat) (Od : Old Z n0 h0) (A1 : SA1 Z) (HS : SHS Z) (LS : SLS Z) (O4 : SO4 Z G3) (rG3 : G3.isRef = true) (O2 : SO2 Z G1) (P5 : ¬ (G1 = (0 : Int32))) (S1 : StrU Z h0 s1 cs) (hk : cs.length < 1000000) (hcs : cs = us ++ cx :: vs) (hi : i1 = Int32.ofNat us.length) (bd : ¬ cx < 0 ∧ ¬ (65535 : Int32) < cx) :
    CT l (⟨"java/lang/String", "charAt", "(I)C"⟩ : MethodName) jdk_42_method_56_code 2 (some .char) ws (⟨4, 0, 0, 62⟩ : Jvm.Room) #[(.ref s1), (.int i1)] Z h0 (Q_rmCA Z s1 cs us cx vs i1 G1 G3 h0 n0) := by
  subst hi
  obtain ⟨t, kt, E, F, ⟨C, la, A⟩ | ⟨C, -, A⟩⟩ := S1
  · exact rmCA0 l Z a0 hw ws s1 t kt _ _ _ (cx.toInt8.toInt32) cx G1 G3 h0 n0 Od A1 HS LS O4 rG3 O2 P5 E F C A (in_mid hcs (by omega)).1 (in_mid hcs (by omega)).2 (lat_at hcs (by omega)) (lat_and (la cx (by rw [hcs]; exact List.mem_append_right _ (List.mem_cons_self ..))))
  · have hn : cs.length = us.length + (vs.length + 1) := by rw [hcs, List.length_append, List.length_cons]
    exact rmCA1 l Z a0 hw ws s1 t kt _ _ _ (Int32.ofNat (2 * us.length)) (lo16 cx) (hi16 cx) cx (Int32.ofNat cs.length) G1 G3 h0 n0 Od A1 HS LS O4 rG3 O2 P5 E F C A (o_shr (by omega)) (in_mid hcs (by omega)).1 (in_mid hcs (by omega)).2 (o_shl _) (o_in (by omega) (by omega)) (by rw [o_one]; exact o_in (by omega) (by omega)) (utf_at hcs (by omega)).1 (utf_at hcs (by omega)).2 (cc16 bd)
theorem o_pred {a : Nat} (h : 1 ≤ a) : Int32.ofNat a + (-1 : Int32) = Int32.ofNat (a - 1) := by
  have e : a = (a - 1) + 1 := by omega
  rw [show Int32.ofNat a = Int32.ofNat (a - 1) + Int32.ofNat 1 by rw [← Int32.ofNat_add, ← e], Int32.add_assoc]
  show Int32.ofNat (a - 1) + 0 = _
  rw [Int32.add_zero]
theorem mem_mid {cs us ws : List Int32} {x : Int32} (h : cs = us ++ x :: ws) : x ∈ cs := by rw [h]; exact List.mem_append_right _ (List.mem_cons_self ..)
theorem lat_lo {c : Int32} (h : ¬ c < 0 ∧ ¬ (255 : Int32) < c) : c < (55296 : Int32) := by
  have h2 := h.2
  rw [Int32.lt_iff_toInt_lt] at h2 ⊢
  have e2 : (255 : Int32).toInt = 255 := rfl
  have e3 : (55296 : Int32).toInt = 55296 := rfl
  omega
theorem hi_big {c : Int32} (h : ¬ (c < (55296 : Int32)) ∧ c < (56320 : Int32)) (g : ¬ c < 0 ∧ ¬ (255 : Int32) < c) : False := h.1 (lat_lo g)
theorem lat_16 {c : Int32} (h : ¬ c < 0 ∧ ¬ (255 : Int32) < c) : ¬ c < 0 ∧ ¬ (65535 : Int32) < c := by
  refine ⟨h.1, fun q => h.2 ?_⟩
  rw [Int32.lt_iff_toInt_lt] at q ⊢
  have e2 : (255 : Int32).toInt = 255 := rfl
  have e3 : (65535 : Int32).toInt = 65535 := rfl
  omega
theorem sur_16 {c : Int32} {a b : Nat} (ha : 255 ≤ a) (ha2 : a ≤ 60000) (hb : b ≤ 60000) (h : ¬ (c < Int32.ofNat a) ∧ c < Int32.ofNat b) : (¬ c < 0 ∧ ¬ (65535 : Int32) < c) := by
  obtain ⟨h1, h2⟩ := h
  rw [Int32.lt_iff_toInt_lt, Int32.toInt_ofNat_of_lt (by omega)] at h1 h2
  have e1 : (0 : Int32).toInt = 0 := rfl
  have e3 : (65535 : Int32).toInt = 65535 := rfl
  constructor <;> rw [Int32.lt_iff_toInt_lt] <;> omega
theorem pair_bd {cs us0 ws0 : List Int32} {hi lo : Int32} (hsh : cs = us0 ++ hi :: lo :: ws0) (lu : LatP us0) (lw : LatP ws0) (hh : ¬ (hi < (55296 : Int32)) ∧ hi < (56320 : Int32)) (hlo : ¬ (lo < (56320 : Int32)) ∧ lo < (57344 : Int32)) : ∀ c ∈ cs, ¬ c < 0 ∧ ¬ (65535 : Int32) < c := by
  intro c hc
  rw [hsh] at hc
  rcases List.mem_append.mp hc with q | q
  · exact lat_16 (lu c q)
  · rcases List.mem_cons.mp q with rfl | q
    · exact sur_16 (a := 55296) (b := 56320) (by decide) (by decide) (by decide) hh
    · rcases List.mem_cons.mp q with rfl | q
      · exact sur_16 (a := 56320) (b := 57344) (by decide) (by decide) (by decide) hlo
      · exact lat_16 (lw c q)
theorem snoc_pred (us : List Int32) (x : Int32) (h : 1 ≤ us.length) : Int32.ofNat (us.length - 1) + (1 : Int32) = Int32.ofNat ((us ++ [x]).length - 1) := by
  rw [o_one, List.length_append]; congr 1; show us.length - 1 + 1 = us.length + 1 - 1; omega
def utfI : List Int32 → List Int32
  | [] => []
  | c :: r => lo16 c :: hi16 c :: utfI r
theorem utf_map : ∀ cs : List Int32, utfL cs = (utfI cs).map Value.int
  | [] => rfl
  | _ :: r => by rw [utfL, utf_map r]; rfl
theorem utfI_len (cs : List Int32) : (utfI cs).length = 2 * cs.length := by
  have := utf_len cs
  rw [utf_map, List.length_map] at this
  exact this
theorem utf_cut (cs : List Int32) (p : Nat) : utfL cs = utfL (cs.take p) ++ utfL (cs.drop p) := by rw [← utf_app, List.take_append_drop]
theorem lat_cut (cs : List Int32) (p : Nat) : latL cs = latL (cs.take p) ++ latL (cs.drop p) := by rw [← lat_app, List.take_append_drop]
/-- StrU, its byte[] named -/
def StrT (Z : State) (h : Heap) (x t : Addr) (cs : List Int32) : Prop := ∃ kt : ClassId, Exa Z h x "java/lang/String" ∧ Fld Z h x "java/lang/String" "value" "[B" (.ref t) ∧ ((Fld Z h x "java/lang/String" "coder" "B" (.int 0) ∧ LatP cs ∧ Arv Z h t kt .byte (Int32.ofNat cs.length) (latL cs) (.int 0)) ∨ (Fld Z h x "java/lang/String" "coder" "B" (.int 1) ∧ (∃ c ∈ cs, (255 : Int32) < c) ∧ Arv Z h t kt .byte (Int32.ofNat (2 * cs.length)) (utfL cs) (.int 0)))
theorem StrT.u {Z : State} {h : Heap} {x t : Addr} {cs : List Int32} (S : StrT Z h x t cs) : StrU Z h x cs := by obtain ⟨kt, S⟩ := S; exact ⟨t, kt, S⟩
section
variable {Z : State} {h h' : Heap} {x t o : Addr} {cs : List Int32} {ws : List Addr} {sl : Nat} {v : Value}
theorem StrT.exa (S : StrT Z h x t cs) : Exa Z h x "java/lang/String" := S.u.exa
theorem StrT.lt (S : StrT Z h x t cs) : x < h.size := S.exa.lt
theorem StrT.tlt (S : StrT Z h x t cs) : t < h.size := by obtain ⟨_, -, -, ⟨-, -, A⟩ | ⟨-, -, A⟩⟩ := S <;> exact A.lt
theorem StrT.ext (S : StrT Z h x t cs) (E : Ext h h') : StrT Z h' x t cs := by
  obtain ⟨kt, a, b, ⟨c, q, d⟩ | ⟨c, q, d⟩⟩ := S
  · exact ⟨kt, a.ext E, b.ext E, Or.inl ⟨c.ext E, q, d.ext E⟩⟩
  · exact ⟨kt, a.ext E, b.ext E, Or.inr ⟨c.ext E, q, d.ext E⟩⟩
theorem StrT.keep2 (S : StrT Z h x t cs) (K : Keep h h' ws) (hx : x ∉ ws) (ht : t ∉ ws) : StrT Z h' x t cs := by
  obtain ⟨kt, a, b, ⟨c, q, d⟩ | ⟨c, q, d⟩⟩ := S
  · exact ⟨kt, a.keep K, b.keep K hx, Or.inl ⟨c.keep K hx, q, d.keep K ht⟩⟩
  · exact ⟨kt, a.keep K, b.keep K hx, Or.inr ⟨c.keep K hx, q, d.keep K ht⟩⟩
theorem StrT.arv (S : StrT Z h x t cs) : ∃ kb N vs, Arv Z h t kb .byte N vs (.int 0) := by obtain ⟨kt, -, -, ⟨-, -, A⟩ | ⟨-, -, A⟩⟩ := S <;> exact ⟨_, _, _, A⟩
theorem StrT.keep (S : StrT Z h x t cs) (K : Keep h h' ws) (hx : x ∉ ws) (ht : ∀ t kb N vs, Arv Z h t kb .byte N vs (.int 0) → t ∉ ws) : StrT Z h' x t cs := by
  obtain ⟨_, _, _, A⟩ := S.arv
  exact S.keep2 K hx (ht _ _ _ _ A)
theorem StrT.wr (S : StrT Z h x t cs) (W : Wr h h' o sl v) (hx : x ≠ o) (ht : ∀ t kb N vs, Arv Z h t kb .byte N vs (.int 0) → t ≠ o) : StrT Z h' x t cs := S.keep (Keep.of_wr W) (ninS hx nin0) fun _ _ _ _ A => ninS (ht _ _ _ _ A) nin0
end
theorem hi_255 {c : Int32} (h : ¬ (c < (55296 : Int32)) ∧ c < (56320 : Int32)) : (255 : Int32) < c := by
  have h1 := h.1
  rw [Int32.lt_iff_toInt_lt] at h1 ⊢
  have e2 : (255 : Int32).toInt = 255 := rfl
  have e3 : (55296 : Int32).toInt = 55296 := rfl
  omega
theorem take_mem {us ws : List Int32} {x : Int32} {n : Nat} (h : us.length < n) : x ∈ (us ++ x :: ws).take n := by
  rw [List.take_append, List.mem_append]
  right
  obtain ⟨k, hk⟩ : ∃ k, n - us.length = k + 1 := ⟨n - us.length - 1, by omega⟩
  rw [hk, List.take_succ_cons]
  exact List.mem_cons_self ..

def Q_rmHS0 (Z : State) (cx : Int32) (h0 : Heap) (n0 : Nat) : Option Value → Heap → List Loc → Prop := fun v h L => v = some (.int 0) ∧ Fr n0 L ∧ h = h0
set_option maxRecDepth 65536 in
set_option maxHeartbeats 40000000 in
theorem rmHS0 (l : Launch) (Z : State) (a0 : Array Value) (hw : HW a0 Z) (ws : List Jvm.Cond) (cx : Int32) (h0 : Heap) (n0 : Nat) (q : cx < (55296 : Int32)) :
    CT l (⟨"java/lang/Character", "isHighSurrogate", "(C)Z"⟩ : MethodName) jdk_89_method_14_code 1 (some .boolean) ws (⟨0, 0, 0, 0⟩ : Jvm.Room) #[(.int cx)] Z h0 (Q_rmHS0 Z cx h0 n0) := by
  refine Go.start (plainFor_of_name pn_6) #[vi cx] n0 (by first | (simp [argsToLocals, Value.category, maxLocals]; done) | rfl) ?_
  intro p e s m below meth c s₁ Bd hx hby hml hZ hown X0 e0 N0
  have D := @dB _ _ hby _ D24
  refine gi X0 hx (D 0 rfl) rfl ?_
  refine Go.by (fun t => X0.ldcInt hx hown (mvT hZ (wd hw 106 rfl)) (g := (mkF m 1 #[vi cx] [(.int cx)])) rfl (D 1 rfl) t) ?_
  show Go p e below _ (s₁.setTop (mkF m 3 #[vi cx] [(.int (55296 : Int32)), (.int cx)]))
  refine cY X0 hx 16 (D 2 rfl) (tlt q).1 (by decide) ?_
  refine gk X0 hx 0 (D 8 rfl) rfl ?_
  exact Go.ret1 X0 hx Bd.returns Bd.notSynchronized (by first | rfl | decide) (Or.inl ⟨rfl, by simp, _, rfl⟩) (D 9 rfl) (by decide) (by decide) (by first | (rw [e0]; exact ⟨rfl, N0, rfl⟩) | exact ⟨rfl, N0, rfl⟩)
def Q_rmHS1 (Z : State) (cx : Int32) (h0 : Heap) (n0 : Nat) : Option Value → Heap → List Loc → Prop := fun v h L => v = some (.int 1) ∧ Fr n0 L ∧ h = h0
set_option maxRecDepth 65536 in
set_option maxHeartbeats 40000000 in
theorem rmHS1 (l : Launch) (Z : State) (a0 : Array Value) (hw : HW a0 Z) (ws : List Jvm.Cond) (cx : Int32) (h0 : Heap) (n0 : Nat) (q : ¬ (cx < (55296 : Int32))) (q2 : cx < (56320 : Int32)) :
    CT l (⟨"java/lang/Character", "isHighSurrogate", "(C)Z"⟩ : MethodName) jdk_89_method_14_code 1 (some .boolean) ws (⟨0, 0, 0, 0⟩ : Jvm.Room) #[(.int cx)] Z h0 (Q_rmHS1 Z cx h0 n0) := by
  refine Go.start (plainFor_of_name pn_6) #[vi cx] n0 (by first | (simp [argsToLocals, Value.category, maxLocals]; done) | rfl) ?_
  intro p e s m below meth c s₁ Bd hx hby hml hZ hown X0 e0 N0
  have D := @dB _ _ hby _ D24
  refine gi X0 hx (D 0 rfl) rfl ?_
  refine Go.by (fun t => X0.ldcInt hx hown (mvT hZ (wd hw 106 rfl)) (g := (mkF m 1 #[vi cx] [(.int cx)])) rfl (D 1 rfl) t) ?_
  show Go p e below _ (s₁.setTop (mkF m 3 #[vi cx] [(.int (55296 : Int32)), (.int cx)]))
  refine cN X0 hx (D 2 rfl) (flt q).1 ?_
  refine gi X0 hx (D 3 rfl) rfl ?_
  refine Go.by (fun t => X0.ldcInt hx hown (mvT hZ (wd hw 107 rfl)) (g := (mkF m 7 #[vi cx] [(.int cx)])) rfl (D 4 rfl) t) ?_
  show Go p e below _ (s₁.setTop (mkF m 9 #[vi cx] [(.int (56320 : Int32)), (.int cx)]))
  refine cN X0 hx (D 5 rfl) (tlt q2).2.1 ?_
  refine gk X0 hx 1 (D 6 rfl) rfl ?_
  refine gg X0 hx 17 (D 7 rfl) (by decide) ?_
  exact Go.ret1 X0 hx Bd.returns Bd.notSynchronized (by first | rfl | decide) (Or.inl ⟨rfl, by simp, _, rfl⟩) (D 9 rfl) (by decide) (by decide) (by first | (rw [e0]; exact ⟨rfl, N0, rfl⟩) | exact ⟨rfl, N0, rfl⟩)
def Q_rmLS1 (Z : State) (cx : Int32) (h0 : Heap) (n0 : Nat) : Option Value → Heap → List Loc → Prop := fun v h L => v = some (.int 1) ∧ Fr n0 L ∧ h = h0
set_option maxRecDepth 65536 in
set_option maxHeartbeats 40000000 in
theorem rmLS1 (l : Launch) (Z : State) (a0 : Array Value) (hw : HW a0 Z) (ws : List Jvm.Cond) (cx : Int32) (h0 : Heap) (n0 : Nat) (q : ¬ (cx < (56320 : Int32))) (q2 : cx < (57344 : Int32)) :
    CT l (⟨"java/lang/Character", "isLowSurrogate", "(C)Z"⟩ : MethodName) jdk_89_method_15_code 1 (some .boolean) ws (⟨0, 0, 0, 0⟩ : Jvm.Room) #[(.int cx)] Z h0 (Q_rmLS1 Z cx h0 n0) := by
  refine Go.start (plainFor_of_name pn_6) #[vi cx] n0 (by first | (simp [argsToLocals, Value.category, maxLocals]; done) | rfl) ?_
  intro p e s m below meth c s₁ Bd hx hby hml hZ hown X0 e0 N0
  have D := @dB _ _ hby _ D25
  refine gi X0 hx (D 0 rfl) rfl ?_
  refine Go.by (fun t => X0.ldcInt hx hown (mvT hZ (wd hw 107 rfl)) (g := (mkF m 1 #[vi cx] [(.int cx)])) rfl (D 1 rfl) t) ?_
  show Go p e below _ (s₁.setTop (mkF m 3 #[vi cx] [(.int (56320 : Int32)), (.int cx)]))
  refine cN X0 hx (D 2 rfl) (flt q).1 ?_
  refine gi X0 hx (D 3 rfl) rfl ?_
  refine Go.by (fun t => X0.ldcInt hx hown (mvT hZ (wd hw 111 rfl)) (g := (mkF m 7 #[vi cx] [(.int cx)])) rfl (D 4 rfl) t) ?_
  show Go p e below _ (s₁.setTop (mkF m 9 #[vi cx] [(.int (57344 : Int32)), (.int cx)]))
  refine cN X0 hx (D 5 rfl) (tlt q2).2.1 ?_
  refine gk X0 hx 1 (D 6 rfl) rfl ?_
  refine gg X0 hx 17 (D 7 rfl) (by decide) ?_
  exact Go.ret1 X0 hx Bd.returns Bd.notSynchronized (by first | rfl | decide) (Or.inl ⟨rfl, by simp, _, rfl⟩) (D 9 rfl) (by decide) (by decide) (by first | (rw [e0]; exact ⟨rfl, N0, rfl⟩) | exact ⟨rfl, N0, rfl⟩)
def Q_rm14 (Z : State) (i1 i2 i3 : Int32) (G3 : Value) (h0 : Heap) (n0 : Nat) : Option Value → Heap → List Loc → Prop := fun v h L => v = some (.int i1) ∧ Fr n0 L ∧ h = h0
set_option maxRecDepth 65536 in
set_option maxHeartbeats 40000000 in
theorem rm14 (l : Launch) (Z : State) (a0 : Array Value) (hw : HW a0 Z) (ws : List Jvm.Cond) (i1 i2 i3 : Int32) (G3 : Value) (h0 : Heap) (n0 : Nat) (rG3 : G3.isRef = true) (q1 : ¬ (i1 < (0 : Int32))) (q2 : ¬ (i2 < i1)) (q3 : ¬ (i3 < i2)) :
    CT l (⟨"jdk/internal/util/Preconditions", "checkFromToIndex", "(IIILjava/util/function/BiFunction;)I"⟩ : MethodName) jdk_41_method_12_code 4 (some .int) ws (⟨0, 0, 0, 0⟩ : Jvm.Room) #[(.int i1), (.int i2), (.int i3), G3] Z h0 (Q_rm14 Z i1 i2 i3 G3 h0 n0) := by
  refine Go.start (plainFor_of_name pn_5) #[vi i1, vi i2, vi i3, .val G3] n0 (by rcases ref_cases rG3 with rfl | ⟨_, rfl⟩ <;> first | (simp [argsToLocals, Value.category, maxLocals]; done) | rfl) ?_
  intro p e s m below meth c s₁ Bd hx hby hml hZ hown X0 e0 N0
  have D := @dB _ _ hby _ D14
  refine gi X0 hx (D 0 rfl) rfl ?_
  refine zN X0 hx (D 1 rfl) ((if0 _ _).trans (flt q1).1) ?_
  refine gi X0 hx (D 2 rfl) rfl ?_
  refine gi X0 hx (D 3 rfl) rfl ?_
  refine cN X0 hx (D 4 rfl) (flt q2).2.2.1 ?_
  refine gi X0 hx (D 5 rfl) rfl ?_
  refine gi X0 hx (D 6 rfl) rfl ?_
  refine cY X0 hx 22 (D 7 rfl) (flt q3).2.2.2 (by decide) ?_
  refine gi X0 hx (D 14 rfl) rfl ?_
  exact Go.ret1 X0 hx Bd.returns Bd.notSynchronized rfl (Or.inl ⟨rfl, by simp, _, rfl⟩) (D 15 rfl) (by decide) (by decide) (by first | (rw [e0]; exact ⟨rfl, N0, rfl⟩) | exact ⟨rfl, N0, rfl⟩)
def Q_rm13 (Z : State) (i1 i2 i3 : Int32) (h0 : Heap) (n0 : Nat) : Option Value → Heap → List Loc → Prop := fun v h L => v = some (.int i1) ∧ Fr n0 L ∧ h = h0
set_option maxRecDepth 65536 in
set_option maxHeartbeats 40000000 in
theorem rm13 (l : Launch) (Z : State) (a0 : Array Value) (hw : HW a0 Z) (ws : List Jvm.Cond) (i1 i2 i3 : Int32) (h0 : Heap) (n0 : Nat) (q1 : ¬ (i1 < (0 : Int32))) (q2 : ¬ (i2 < i1)) (q3 : ¬ (i3 < i2)) :
    CT l (⟨"java/util/Objects", "checkFromToIndex", "(III)I"⟩ : MethodName) jdk_31_method_18_code 3 (some .int) ws (⟨1, 0, 0, 17⟩ : Jvm.Room) #[(.int i1), (.int i2), (.int i3)] Z h0 (Q_rm13 Z i1 i2 i3 h0 n0) := by
  refine Go.start (plainFor_of_name pn_4) #[vi i1, vi i2, vi i3] n0 (by first | (simp [argsToLocals, Value.category, maxLocals]; done) | rfl) ?_
  intro p e s m below meth c s₁ Bd hx hby hml hZ hown X0 e0 N0
  have D := @dB _ _ hby _ D13
  refine gi X0 hx (D 0 rfl) rfl ?_
  refine gi X0 hx (D 1 rfl) rfl ?_
  refine gi X0 hx (D 2 rfl) rfl ?_
  refine Go.by (fun t => XS.aconstNull X0.here hx rfl (D 3 rfl)) ?_
  show Go p e below _ (s₁.setTop (mkF m 4 #[vi i1, vi i2, vi i3] [.null, (.int i3), (.int i2), (.int i1)]))
  refine kS (W := 0) (C := 0) (S := 0) X0 hx hZ hown (wd hw 63 rfl) (wd hw 64 rfl) (wd hw 65 rfl) (wd hw 66 rfl) (rm14 l Z a0 hw [] i1 i2 i3 .null h0 n0 rfl q1 q2 q3) pd_23 (D 4 rfl) e0 hml (by exact ⟨rfl, rfl, rfl, rfl⟩) (by decide) fun v207 T207 L207 Lc207 X207 hQ207 l207 => ?_
  obtain ⟨rfl, Nq207, e207⟩ := hQ207
  have N207 := l207 N0 Nq207
  exact Go.ret1 X207 hx Bd.returns Bd.notSynchronized rfl (Or.inl ⟨rfl, by simp, _, rfl⟩) (D 5 rfl) (by decide) (by decide) (by first | (rw [e207]; exact ⟨rfl, N207, rfl⟩) | exact ⟨rfl, N207, rfl⟩)
def Q_rm37 (Z : State) (i1 i2 i3 : Int32) (G3 : Value) (h0 : Heap) (n0 : Nat) : Option Value → Heap → List Loc → Prop := fun v h L => v = none ∧ Fr n0 L ∧ h = h0
set_option maxRecDepth 65536 in
set_option maxHeartbeats 40000000 in
theorem rm37 (l : Launch) (Z : State) (a0 : Array Value) (hw : HW a0 Z) (ws : List Jvm.Cond) (i1 i2 i3 : Int32) (G3 : Value) (h0 : Heap) (n0 : Nat) (Od : Old Z n0 h0) (O4 : SO4 Z G3) (rG3 : G3.isRef = true) (q1 : ¬ (i1 < (0 : Int32))) (q2 : ¬ (i2 < i1)) (q3 : ¬ (i3 < i2)) :
    CT l (⟨"java/lang/String", "checkBoundsBeginEnd", "(III)V"⟩ : MethodName) jdk_42_method_158_code 3 none ws (⟨1, 0, 0, 17⟩ : Jvm.Room) #[(.int i1), (.int i2), (.int i3)] Z h0 (Q_rm37 Z i1 i2 i3 G3 h0 n0) := by
  refine Go.start (plainFor_of_name pn_1) #[vi i1, vi i2, vi i3] n0 (by first | (simp [argsToLocals, Value.category, maxLocals]; done) | rfl) ?_
  intro p e s m below meth c s₁ Bd hx hby hml hZ hown X0 e0 N0
  have D := @dB _ _ hby _ D37
  refine gi X0 hx (D 0 rfl) rfl ?_
  refine gi X0 hx (D 1 rfl) rfl ?_
  refine gi X0 hx (D 2 rfl) rfl ?_
  refine gS X0 hx hZ hown (wd hw 165 rfl) e0 (O4.ext Od.2) (D 3 rfl) fun T208 X208 e208 => ?_
  refine kS (W := 0) (C := 0) (S := 0) X208 hx hZ hown (wd hw 179 rfl) (wd hw 64 rfl) (wd hw 65 rfl) (wd hw 66 rfl) (rm14 l Z a0 hw [] i1 i2 i3 G3 h0 n0 rG3 q1 q2 q3) pd_23 (D 4 rfl) e208 hml (by exact ⟨rfl, rfl, rfl, rfl⟩) (by decide) fun v209 T209 L209 Lc209 X209 hQ209 l209 => ?_
  obtain ⟨rfl, Nq209, e209⟩ := hQ209
  have N209 := l209 N0 Nq209
  refine gq (XS.pop X209.here hx rfl (D 5 rfl) rfl rfl) rfl ?_
  exact Go.ret0 X209 hx Bd.returns Bd.notSynchronized (D 6 rfl) (by decide) (by decide) (by first | (rw [e209]; exact ⟨rfl, N209, rfl⟩) | exact ⟨rfl, N209, rfl⟩)
def Q_rm67 (Z : State) (b1 : Addr) (kb : ClassId) (N : Int32) (vs : List Value) (i1 i2 i3 : Int32) (G3 : Value) (h0 : Heap) (n0 : Nat) : Option Value → Heap → List Loc → Prop := fun v h L => v = none ∧ Fr n0 L ∧ h = h0
set_option maxRecDepth 65536 in
set_option maxHeartbeats 40000000 in
theorem rm67 (l : Launch) (Z : State) (a0 : Array Value) (hw : HW a0 Z) (ws : List Jvm.Cond) (b1 : Addr) (kb : ClassId) (N : Int32) (vs : List Value) (i1 i2 i3 : Int32) (G3 : Value) (h0 : Heap) (n0 : Nat) (Od : Old Z n0 h0) (O4 : SO4 Z G3) (rG3 : G3.isRef = true) (V_b1 : Arv Z h0 b1 kb .byte N vs (.int 0)) (hr : (N >>> ((1 : Int32) &&& 31)) = i3) (q1 : ¬ (i1 < (0 : Int32))) (q2 : ¬ (i2 < i1)) (q3 : ¬ (i3 < i2)) :
    CT l (⟨"java/lang/StringUTF16", "checkBoundsBeginEnd", "(II[B)V"⟩ : MethodName) jdk_52_method_93_code 3 none ws (⟨2, 0, 0, 33⟩ : Jvm.Room) #[(.int i1), (.int i2), (.ref b1)] Z h0 (Q_rm67 Z b1 kb N vs i1 i2 i3 G3 h0 n0) := by
  refine Go.start (plainFor_of_name pn_2) #[vi i1, vi i2, vr b1] n0 (by first | (simp [argsToLocals, Value.category, maxLocals]; done) | rfl) ?_
  intro p e s m below meth c s₁ Bd hx hby hml hZ hown X0 e0 N0
  have D := @dB _ _ hby _ D67
  refine gi X0 hx (D 0 rfl) rfl ?_
  refine gi X0 hx (D 1 rfl) rfl ?_
  refine ga X0 hx (D 2 rfl) rfl rfl ?_
  refine kS (W := 2) (C := 0) (S := 0) X0 hx hZ hown (wd hw 159 rfl) (wd hw 160 rfl) (wd hw 26 rfl) (wd hw 161 rfl) (rm33 l Z a0 hw [] b1 kb N i3 vs (.int 0) h0 n0 V_b1 hr) pd_28 (D 3 rfl) e0 hml (by exact ⟨rfl, rfl, rfl, rfl⟩) (by decide) fun v210 T210 L210 Lc210 X210 hQ210 l210 => ?_
  obtain ⟨rfl, Nq210, e210⟩ := hQ210
  have N210 := l210 N0 Nq210
  refine kS (W := 0) (C := 0) (S := 0) X210 hx hZ hown (wd hw 315 rfl) (wd hw 177 rfl) (wd hw 12 rfl) (wd hw 178 rfl) (rm37 l Z a0 hw [] i1 i2 i3 G3 h0 n0 Od O4 rG3 q1 q2 q3) pd_38 (D 4 rfl) e210 hml (by exact ⟨rfl, rfl, rfl, rfl⟩) (by decide) fun v211 T211 L211 Lc211 X211 hQ211 l211 => ?_
  obtain ⟨rfl, Nq211, e211⟩ := hQ211
  have N211 := l211 N210 Nq211
  exact Go.ret0 X211 hx Bd.returns Bd.notSynchronized (D 5 rfl) (by decide) (by decide) (by first | (rw [e211]; exact ⟨rfl, N211, rfl⟩) | exact ⟨rfl, N211, rfl⟩)
def Q_rm23 (Z : State) (b1 : Addr) (kb : ClassId) (cs us0 ws0 : List Int32) (hi lo : Int32) (h0 : Heap) (n0 : Nat) : Option Value → Heap → List Loc → Prop := fun v h L => v = some (.int (Int32.ofNat (cs.length - 1))) ∧ Fr n0 L ∧ h = h0
set_option maxRecDepth 65536 in
set_option maxHeartbeats 40000000 in
theorem rm23 (l : Launch) (Z : State) (a0 : Array Value) (hw : HW a0 Z) (ws : List Jvm.Cond) (b1 : Addr) (kb : ClassId) (cs us0 ws0 : List Int32) (hi lo : Int32) (h0 : Heap) (n0 : Nat) (Od : Old Z n0 h0) (A1 : SA1 Z) (HS : SHS Z) (LS : SLS Z) (V_b1 : Arv Z h0 b1 kb .byte (Int32.ofNat (2 * cs.length)) (utfL cs) (.int 0)) (hk : cs.length ≤ 1000) (hsh : cs = us0 ++ hi :: lo :: ws0) (lu : LatP us0) (lw : LatP ws0) (hh : ¬ (hi < (55296 : Int32)) ∧ hi < (56320 : Int32)) (hlo : ¬ (lo < (56320 : Int32)) ∧ lo < (57344 : Int32)) :
    CT l (⟨"java/lang/StringUTF16", "codePointCount", "([BIIZ)I"⟩ : MethodName) jdk_52_method_11_code 6 (some .int) ws (⟨1, 0, 0, 16⟩ : Jvm.Room) #[(.ref b1), (.int (0 : Int32)), (.int (Int32.ofNat cs.length)), (.int (0 : Int32))] Z h0 (Q_rm23 Z b1 kb cs us0 ws0 hi lo h0 n0) := by
  refine Go.start (plainFor_of_name pn_2) #[vr b1, vi (0 : Int32), vi (Int32.ofNat cs.length), vi (0 : Int32), uu, uu] n0 (by first | (simp [argsToLocals, Value.category, maxLocals]; done) | rfl) ?_
  intro p e s m below meth c s₁ Bd hx hby hml hZ hown X0 e0 N0
  have D := @dB _ _ hby _ D23
  have h2 : cs.length = us0.length + (ws0.length + 2) := by rw [hsh, List.length_append]; rfl
  have hbd : ∀ c ∈ cs, ¬ c < 0 ∧ ¬ (65535 : Int32) < c := pair_bd hsh lu lw hh hlo
  have loopB : ∀ (ws us : List Int32) (Tl : State) (Ll : List Loc) (hcs : cs = us ++ ws) (hla : LatP ws) (Xl : Stand p l e (⟨1, 0, 0, 16⟩ : Jvm.Room) s m #[(.ref b1), (.int (0 : Int32)), (.int (Int32.ofNat cs.length)), (.int (0 : Int32))] below meth c Tl Ll 0 0) (Nl : Fr n0 Ll) (eT : Tl.heap = h0), Go p e below (End (fun v h L => v = some (.int (Int32.ofNat (cs.length - 1))) ∧ Fr n0 L ∧ h = h0) s 0 0) (Tl.setTop (mkF m 44 #[vr b1, vi (0 : Int32), vi (Int32.ofNat cs.length), vi (0 : Int32), vi (Int32.ofNat (cs.length - 1)), vi (Int32.ofNat us.length)] [])) := by
    intro ws
    induction ws with
    | nil =>
      intro us Tl Ll hcs hla Xl Nl eT
      have hu : us.length = cs.length := by rw [hcs, List.append_nil]
      refine gI Xl hx (D 24 rfl) rfl ?_
      refine gi Xl hx (D 25 rfl) rfl ?_
      refine gk Xl hx 1 (D 26 rfl) rfl ?_
      refine gq (XS.isub Xl.here hx rfl (D 27 rfl) rfl) rfl ?_
      show Go p e below _ (Tl.setTop (mkF m 49 #[vr b1, vi (0 : Int32), vi (Int32.ofNat cs.length), vi (0 : Int32), vi (Int32.ofNat (cs.length - 1)), vi (Int32.ofNat us.length)] [(.int ((Int32.ofNat cs.length) - (1 : Int32))), (.int (Int32.ofNat us.length))]))
      rw [show ((Int32.ofNat cs.length) - (1 : Int32)) = (Int32.ofNat (cs.length - 1)) from o_sub (b := 1) (by omega) (by omega)]
      refine cY Xl hx 88 (D 28 rfl) (flt (by rw [o_lt (by omega) (by omega)]; omega : ¬ ((Int32.ofNat us.length) < (Int32.ofNat (cs.length - 1))))).2.1 (by decide) ?_
      refine gI Xl hx (D 43 rfl) rfl ?_
      exact Go.ret1 Xl hx Bd.returns Bd.notSynchronized rfl (Or.inl ⟨rfl, by simp, _, rfl⟩) (D 44 rfl) (by decide) (by decide) (by first | (rw [eT]; exact ⟨rfl, Nl, rfl⟩) | exact ⟨rfl, Nl, rfl⟩)
    | cons cx ws ih =>
      intro us Tl Ll hcs hla Xl Nl eT
      have hl : cs.length < 2147483648 := by omega
      have hn : cs.length = us.length + (ws.length + 1) := by rw [hcs, List.length_append, List.length_cons]
      refine gI Xl hx (D 24 rfl) rfl ?_
      refine gi Xl hx (D 25 rfl) rfl ?_
      refine gk Xl hx 1 (D 26 rfl) rfl ?_
      refine gq (XS.isub Xl.here hx rfl (D 27 rfl) rfl) rfl ?_
      show Go p e below _ (Tl.setTop (mkF m 49 #[vr b1, vi (0 : Int32), vi (Int32.ofNat cs.length), vi (0 : Int32), vi (Int32.ofNat (cs.length - 1)), vi (Int32.ofNat us.length)] [(.int ((Int32.ofNat cs.length) - (1 : Int32))), (.int (Int32.ofNat us.length))]))
      rw [show ((Int32.ofNat cs.length) - (1 : Int32)) = (Int32.ofNat (cs.length - 1)) from o_sub (b := 1) (by omega) (by omega)]
      by_cases hz0 : ws.length = 0
      ·
        refine cY Xl hx 88 (D 28 rfl) (flt (by rw [o_lt (by omega) (by omega)]; omega : ¬ ((Int32.ofNat us.length) < (Int32.ofNat (cs.length - 1))))).2.1 (by decide) ?_
        refine gI Xl hx (D 43 rfl) rfl ?_
        exact Go.ret1 Xl hx Bd.returns Bd.notSynchronized rfl (Or.inl ⟨rfl, by simp, _, rfl⟩) (D 44 rfl) (by decide) (by decide) (by first | (rw [eT]; exact ⟨rfl, Nl, rfl⟩) | exact ⟨rfl, Nl, rfl⟩)
      refine cN Xl hx (D 28 rfl) (tlt ((o_lt (by omega) (by omega)).2 (by omega) : (Int32.ofNat us.length) < (Int32.ofNat (cs.length - 1)))).2.1 ?_
      refine ga Xl hx (D 29 rfl) rfl rfl ?_
      refine gI Xl hx (D 30 rfl) rfl ?_
      refine gn Xl hx #[vr b1, vi (0 : Int32), vi (Int32.ofNat cs.length), vi (0 : Int32), vi (Int32.ofNat (cs.length - 1)), vi ((Int32.ofNat us.length) + (1 : Int32))] (D 31 rfl) rfl rfl ?_
      refine kS (W := 0) (C := 0) (S := 0) Xl hx hZ hown (wd hw 93 rfl) (wd hw 94 rfl) (wd hw 26 rfl) (wd hw 95 rfl) (rm21 l Z a0 hw [] b1 kb (Int32.ofNat (2 * cs.length)) _ _ (Int32.ofNat (2 * us.length)) (lo16 cx) (hi16 cx) cx h0 n0 Od A1 HS LS V_b1 (o_shl _) (o_in (by omega) (by omega)) (by rw [o_one]; exact o_in (by omega) (by omega)) (utf_at hcs (by omega)).1 (utf_at hcs (by omega)).2 (cc16 (hbd _ (mem_mid hcs)))) pd_11 (D 32 rfl) eT hml (by exact ⟨rfl, rfl, rfl, rfl⟩) (by decide) fun v212 T212 L212 Lc212 X212 hQ212 l212 => ?_
      obtain ⟨rfl, Nq212, e212⟩ := hQ212
      have N212 := l212 Nl Nq212
      refine kS (W := 0) (C := 0) (S := 0) X212 hx hZ hown (wd hw 102 rfl) (wd hw 103 rfl) (wd hw 104 rfl) (wd hw 105 rfl) (rmHS0 l Z a0 hw [] cx h0 n0 (lat_lo (hla cx (List.mem_cons_self ..)))) pd_31 (D 33 rfl) e212 hml (by exact ⟨rfl, rfl, rfl, rfl⟩) (by decide) fun v213 T213 L213 Lc213 X213 hQ213 l213 => ?_
      obtain ⟨rfl, Nq213, e213⟩ := hQ213
      have N213 := l213 N212 Nq213
      refine zY X213 hx 44 (D 34 rfl) ((if0 _ _).trans (teq (rfl : (0 : Int32) = (0 : Int32))).1) (by decide) ?_
      show Go p e below _ (T213.setTop (mkF m 44 #[vr b1, vi (0 : Int32), vi (Int32.ofNat cs.length), vi (0 : Int32), vi (Int32.ofNat (cs.length - 1)), vi ((Int32.ofNat us.length) + (1 : Int32))] []))
      rw [snoc_len us cx]
      exact ih (us ++ [cx]) _ _ (snoc_app hcs) (fun c hc => hla c (List.mem_cons_of_mem _ hc)) X213 N213 e213
  have loopA : ∀ (ws us : List Int32) (Tl : State) (Ll : List Loc) (hcs : cs = us ++ (ws ++ hi :: lo :: ws0)) (hla : LatP ws) (Xl : Stand p l e (⟨1, 0, 0, 16⟩ : Jvm.Room) s m #[(.ref b1), (.int (0 : Int32)), (.int (Int32.ofNat cs.length)), (.int (0 : Int32))] below meth c Tl Ll 0 0) (Nl : Fr n0 Ll) (eT : Tl.heap = h0), Go p e below (End (fun v h L => v = some (.int (Int32.ofNat (cs.length - 1))) ∧ Fr n0 L ∧ h = h0) s 0 0) (Tl.setTop (mkF m 44 #[vr b1, vi (0 : Int32), vi (Int32.ofNat cs.length), vi (0 : Int32), vi (Int32.ofNat cs.length), vi (Int32.ofNat us.length)] [])) := by
    intro ws
    induction ws with
    | nil =>
      intro us Tl Ll hcs hla Xl Nl eT
      have hc1 : cs = us ++ hi :: (lo :: ws0) := hcs
      have hc2 : cs = (us ++ [hi]) ++ lo :: ws0 := snoc_app hc1
      have hn : cs.length = us.length + (ws0.length + 2) := by rw [hc1, List.length_append]; rfl
      have hn2 : (us ++ [hi]).length = us.length + 1 := by rw [List.length_append]; rfl
      refine gI Xl hx (D 24 rfl) rfl ?_
      refine gi Xl hx (D 25 rfl) rfl ?_
      refine gk Xl hx 1 (D 26 rfl) rfl ?_
      refine gq (XS.isub Xl.here hx rfl (D 27 rfl) rfl) rfl ?_
      show Go p e below _ (Tl.setTop (mkF m 49 #[vr b1, vi (0 : Int32), vi (Int32.ofNat cs.length), vi (0 : Int32), vi (Int32.ofNat cs.length), vi (Int32.ofNat us.length)] [(.int ((Int32.ofNat cs.length) - (1 : Int32))), (.int (Int32.ofNat us.length))]))
      rw [show ((Int32.ofNat cs.length) - (1 : Int32)) = (Int32.ofNat (cs.length - 1)) from o_sub (b := 1) (by omega) (by omega)]
      refine cN Xl hx (D 28 rfl) (tlt ((o_lt (by omega) (by omega)).2 (by omega) : (Int32.ofNat us.length) < (Int32.ofNat (cs.length - 1)))).2.1 ?_
      refine ga Xl hx (D 29 rfl) rfl rfl ?_
      refine gI Xl hx (D 30 rfl) rfl ?_
      refine gn Xl hx #[vr b1, vi (0 : Int32), vi (Int32.ofNat cs.length), vi (0 : Int32), vi (Int32.ofNat cs.length), vi ((Int32.ofNat us.length) + (1 : Int32))] (D 31 rfl) rfl rfl ?_
      refine kS (W := 0) (C := 0) (S := 0) Xl hx hZ hown (wd hw 93 rfl) (wd hw 94 rfl) (wd hw 26 rfl) (wd hw 95 rfl) (rm21 l Z a0 hw [] b1 kb (Int32.ofNat (2 * cs.length)) _ _ (Int32.ofNat (2 * us.length)) (lo16 hi) (hi16 hi) hi h0 n0 Od A1 HS LS V_b1 (o_shl _) (o_in (by omega) (by omega)) (by rw [o_one]; exact o_in (by omega) (by omega)) (utf_at hc1 (by omega)).1 (utf_at hc1 (by omega)).2 (cc16 (hbd _ (mem_mid hc1)))) pd_11 (D 32 rfl) eT hml (by exact ⟨rfl, rfl, rfl, rfl⟩) (by decide) fun v214 T214 L214 Lc214 X214 hQ214 l214 => ?_
      obtain ⟨rfl, Nq214, e214⟩ := hQ214
      have N214 := l214 Nl Nq214
      refine kS (W := 0) (C := 0) (S := 0) X214 hx hZ hown (wd hw 102 rfl) (wd hw 103 rfl) (wd hw 104 rfl) (wd hw 105 rfl) (rmHS1 l Z a0 hw [] hi h0 n0 hh.1 hh.2) pd_31 (D 33 rfl) e214 hml (by exact ⟨rfl, rfl, rfl, rfl⟩) (by decide) fun v215 T215 L215 Lc215 X215 hQ215 l215 => ?_
      obtain ⟨rfl, Nq215, e215⟩ := hQ215
      have N215 := l215 N214 Nq215
      refine zN X215 hx (D 34 rfl) ((if0 _ _).trans (feq (by decide : ¬ ((1 : Int32) = (0 : Int32)))).1) ?_
      refine ga X215 hx (D 35 rfl) rfl rfl ?_
      refine gI X215 hx (D 36 rfl) rfl ?_
      show Go p e below _ (T215.setTop (mkF m 70 #[vr b1, vi (0 : Int32), vi (Int32.ofNat cs.length), vi (0 : Int32), vi (Int32.ofNat cs.length), vi ((Int32.ofNat us.length) + (1 : Int32))] [(.int ((Int32.ofNat us.length) + (1 : Int32))), (.ref b1)]))
      rw [snoc_len us hi]
      refine kS (W := 0) (C := 0) (S := 0) X215 hx hZ hown (wd hw 93 rfl) (wd hw 94 rfl) (wd hw 26 rfl) (wd hw 95 rfl) (rm21 l Z a0 hw [] b1 kb (Int32.ofNat (2 * cs.length)) _ _ (Int32.ofNat (2 * (us ++ [hi]).length)) (lo16 lo) (hi16 lo) lo h0 n0 Od A1 HS LS V_b1 (o_shl _) (o_in (by omega) (by omega)) (by rw [o_one]; exact o_in (by omega) (by omega)) (utf_at hc2 (by omega)).1 (utf_at hc2 (by omega)).2 (cc16 (hbd _ (mem_mid hc2)))) pd_11 (D 37 rfl) e215 hml (by exact ⟨rfl, rfl, rfl, rfl⟩) (by decide) fun v216 T216 L216 Lc216 X216 hQ216 l216 => ?_
      obtain ⟨rfl, Nq216, e216⟩ := hQ216
      have N216 := l216 N215 Nq216
      refine kS (W := 0) (C := 0) (S := 0) X216 hx hZ hown (wd hw 108 rfl) (wd hw 109 rfl) (wd hw 104 rfl) (wd hw 110 rfl) (rmLS1 l Z a0 hw [] lo h0 n0 hlo.1 hlo.2) pd_31 (D 38 rfl) e216 hml (by exact ⟨rfl, rfl, rfl, rfl⟩) (by decide) fun v217 T217 L217 Lc217 X217 hQ217 l217 => ?_
      obtain ⟨rfl, Nq217, e217⟩ := hQ217
      have N217 := l217 N216 Nq217
      refine zN X217 hx (D 39 rfl) ((if0 _ _).trans (feq (by decide : ¬ ((1 : Int32) = (0 : Int32)))).1) ?_
      refine gn X217 hx #[vr b1, vi (0 : Int32), vi (Int32.ofNat cs.length), vi (0 : Int32), vi ((Int32.ofNat cs.length) + (-1 : Int32)), vi (Int32.ofNat (us ++ [hi]).length)] (D 40 rfl) rfl rfl ?_
      refine gn X217 hx #[vr b1, vi (0 : Int32), vi (Int32.ofNat cs.length), vi (0 : Int32), vi ((Int32.ofNat cs.length) + (-1 : Int32)), vi ((Int32.ofNat (us ++ [hi]).length) + (1 : Int32))] (D 41 rfl) rfl rfl ?_
      refine gg X217 hx 44 (D 42 rfl) (by decide) ?_
      rw [snoc_len (us ++ [hi]) lo, show (Int32.ofNat cs.length) + (-1 : Int32) = (Int32.ofNat (cs.length - 1)) from o_pred (by omega)]
      exact loopB ws0 ((us ++ [hi]) ++ [lo]) _ _ (snoc_app hc2) lw X217 N217 e217
    | cons cx ws ih =>
      intro us Tl Ll hcs hla Xl Nl eT
      have hc1 : cs = us ++ cx :: (ws ++ hi :: lo :: ws0) := hcs
      have hn : cs.length = us.length + (ws.length + (ws0.length + 3)) := by rw [hc1, List.length_append, List.length_cons, List.length_append]; simp only [List.length_cons]; omega
      refine gI Xl hx (D 24 rfl) rfl ?_
      refine gi Xl hx (D 25 rfl) rfl ?_
      refine gk Xl hx 1 (D 26 rfl) rfl ?_
      refine gq (XS.isub Xl.here hx rfl (D 27 rfl) rfl) rfl ?_
      show Go p e below _ (Tl.setTop (mkF m 49 #[vr b1, vi (0 : Int32), vi (Int32.ofNat cs.length), vi (0 : Int32), vi (Int32.ofNat cs.length), vi (Int32.ofNat us.length)] [(.int ((Int32.ofNat cs.length) - (1 : Int32))), (.int (Int32.ofNat us.length))]))
      rw [show ((Int32.ofNat cs.length) - (1 : Int32)) = (Int32.ofNat (cs.length - 1)) from o_sub (b := 1) (by omega) (by omega)]
      refine cN Xl hx (D 28 rfl) (tlt ((o_lt (by omega) (by omega)).2 (by omega) : (Int32.ofNat us.length) < (Int32.ofNat (cs.length - 1)))).2.1 ?_
      refine ga Xl hx (D 29 rfl) rfl rfl ?_
      refine gI Xl hx (D 30 rfl) rfl ?_
      refine gn Xl hx #[vr b1, vi (0 : Int32), vi (Int32.ofNat cs.length), vi (0 : Int32), vi (Int32.ofNat cs.length), vi ((Int32.ofNat us.length) + (1 : Int32))] (D 31 rfl) rfl rfl ?_
      refine kS (W := 0) (C := 0) (S := 0) Xl hx hZ hown (wd hw 93 rfl) (wd hw 94 rfl) (wd hw 26 rfl) (wd hw 95 rfl) (rm21 l Z a0 hw [] b1 kb (Int32.ofNat (2 * cs.length)) _ _ (Int32.ofNat (2 * us.length)) (lo16 cx) (hi16 cx) cx h0 n0 Od A1 HS LS V_b1 (o_shl _) (o_in (by omega) (by omega)) (by rw [o_one]; exact o_in (by omega) (by omega)) (utf_at hc1 (by omega)).1 (utf_at hc1 (by omega)).2 (cc16 (hbd _ (mem_mid hc1)))) pd_11 (D 32 rfl) eT hml (by exact ⟨rfl, rfl, rfl, rfl⟩) (by decide) fun v218 T218 L218 Lc218 X218 hQ218 l218 => ?_
      obtain ⟨rfl, Nq218, e218⟩ := hQ218
      have N218 := l218 Nl Nq218
      refine kS (W := 0) (C := 0) (S := 0) X218 hx hZ hown (wd hw 102 rfl) (wd hw 103 rfl) (wd hw 104 rfl) (wd hw 105 rfl) (rmHS0 l Z a0 hw [] cx h0 n0 (lat_lo (hla cx (List.mem_cons_self ..)))) pd_31 (D 33 rfl) e218 hml (by exact ⟨rfl, rfl, rfl, rfl⟩) (by decide) fun v219 T219 L219 Lc219 X219 hQ219 l219 => ?_
      obtain ⟨rfl, Nq219, e219⟩ := hQ219
      have N219 := l219 N218 Nq219
      refine zY X219 hx 44 (D 34 rfl) ((if0 _ _).trans (teq (rfl : (0 : Int32) = (0 : Int32))).1) (by decide) ?_
      show Go p e below _ (T219.setTop (mkF m 44 #[vr b1, vi (0 : Int32), vi (Int32.ofNat cs.length), vi (0 : Int32), vi (Int32.ofNat cs.length), vi ((Int32.ofNat us.length) + (1 : Int32))] []))
      rw [snoc_len us cx]
      exact ih (us ++ [cx]) _ _ (snoc_app hc1) (fun c hc => hla c (List.mem_cons_of_mem _ hc)) X219 N219 e219
  refine gS X0 hx hZ hown (wd hw 90 rfl) e0 (A1.ext Od.2) (D 0 rfl) fun T220 X220 e220 => ?_
  refine zY X220 hx 19 (D 1 rfl) ((if0 _ _).trans (feq (by decide : ¬ ((1 : Int32) = (0 : Int32)))).2) (by decide) ?_
  refine gi X220 hx (D 9 rfl) rfl ?_
  refine gi X220 hx (D 10 rfl) rfl ?_
  refine gq (XS.isub X220.here hx rfl (D 11 rfl) rfl) rfl ?_
  show Go p e below _ (T220.setTop (mkF m 22 #[vr b1, vi (0 : Int32), vi (Int32.ofNat cs.length), vi (0 : Int32), uu, uu] [(.int ((Int32.ofNat cs.length) - (0 : Int32)))]))
  rw [Int32.sub_zero _]
  refine gT X220 hx #[vr b1, vi (0 : Int32), vi (Int32.ofNat cs.length), vi (0 : Int32), vi (Int32.ofNat cs.length), uu] (D 12 rfl) rfl ?_
  refine gi X220 hx (D 13 rfl) rfl ?_
  refine gT X220 hx #[vr b1, vi (0 : Int32), vi (Int32.ofNat cs.length), vi (0 : Int32), vi (Int32.ofNat cs.length), vi (0 : Int32)] (D 14 rfl) rfl ?_
  refine gi X220 hx (D 15 rfl) rfl ?_
  refine zY X220 hx 44 (D 16 rfl) ((if0 _ _).trans (teq (rfl : (0 : Int32) = (0 : Int32))).1) (by decide) ?_
  exact loopA us0 [] _ _ hsh lu X220 N0 e220
def Q_rm22 (Z : State) (b1 : Addr) (kb : ClassId) (cs us0 ws0 : List Int32) (hi lo : Int32) (h0 : Heap) (n0 : Nat) : Option Value → Heap → List Loc → Prop := fun v h L => v = some (.int (Int32.ofNat (cs.length - 1))) ∧ Fr n0 L ∧ h = h0
set_option maxRecDepth 65536 in
set_option maxHeartbeats 40000000 in
theorem rm22 (l : Launch) (Z : State) (a0 : Array Value) (hw : HW a0 Z) (ws : List Jvm.Cond) (b1 : Addr) (kb : ClassId) (cs us0 ws0 : List Int32) (hi lo : Int32) (h0 : Heap) (n0 : Nat) (Od : Old Z n0 h0) (A1 : SA1 Z) (HS : SHS Z) (LS : SLS Z) (V_b1 : Arv Z h0 b1 kb .byte (Int32.ofNat (2 * cs.length)) (utfL cs) (.int 0)) (hk : cs.length ≤ 1000) (hsh : cs = us0 ++ hi :: lo :: ws0) (lu : LatP us0) (lw : LatP ws0) (hh : ¬ (hi < (55296 : Int32)) ∧ hi < (56320 : Int32)) (hlo : ¬ (lo < (56320 : Int32)) ∧ lo < (57344 : Int32)) :
    CT l (⟨"java/lang/StringUTF16", "codePointCount", "([BII)I"⟩ : MethodName) jdk_52_method_12_code 3 (some .int) ws (⟨2, 0, 0, 36⟩ : Jvm.Room) #[(.ref b1), (.int (0 : Int32)), (.int (Int32.ofNat cs.length))] Z h0 (Q_rm22 Z b1 kb cs us0 ws0 hi lo h0 n0) := by
  refine Go.start (plainFor_of_name pn_2) #[vr b1, vi (0 : Int32), vi (Int32.ofNat cs.length)] n0 (by first | (simp [argsToLocals, Value.category, maxLocals]; done) | rfl) ?_
  intro p e s m below meth c s₁ Bd hx hby hml hZ hown X0 e0 N0
  have D := @dB _ _ hby _ D22
  refine ga X0 hx (D 0 rfl) rfl rfl ?_
  refine gi X0 hx (D 1 rfl) rfl ?_
  refine gi X0 hx (D 2 rfl) rfl ?_
  refine gk X0 hx 0 (D 3 rfl) rfl ?_
  refine kS (W := 0) (C := 0) (S := 0) X0 hx hZ hown (wd hw 99 rfl) (wd hw 100 rfl) (wd hw 26 rfl) (wd hw 101 rfl) (rm23 l Z a0 hw [] b1 kb cs us0 ws0 hi lo h0 n0 Od A1 HS LS V_b1 hk hsh lu lw hh hlo) pd_29 (D 4 rfl) e0 hml (by exact ⟨rfl, rfl, rfl, rfl⟩) (by decide) fun v221 T221 L221 Lc221 X221 hQ221 l221 => ?_
  obtain ⟨rfl, Nq221, e221⟩ := hQ221
  have N221 := l221 N0 Nq221
  exact Go.ret1 X221 hx Bd.returns Bd.notSynchronized rfl (Or.inl ⟨rfl, by simp, _, rfl⟩) (D 5 rfl) (by decide) (by decide) (by first | (rw [e221]; exact ⟨rfl, N221, rfl⟩) | exact ⟨rfl, N221, rfl⟩)
def TxtP (cs : List Int32) (k : Nat) : Prop := (LatP cs ∧ k = cs.length) ∨ ∃ us0 ws0 hi lo, cs = us0 ++ hi :: lo :: ws0 ∧ LatP us0 ∧ LatP ws0 ∧ (¬ (hi < (55296 : Int32)) ∧ hi < (56320 : Int32)) ∧ (¬ (lo < (56320 : Int32)) ∧ lo < (57344 : Int32)) ∧ k = cs.length - 1
def Q_rm12 (Z : State) (s1 : Addr) (cs : List Int32) (k : Nat) (G1 : Int32) (h0 : Heap) (n0 : Nat) : Option Value → Heap → List Loc → Prop := fun v h L => v = some (.int (Int32.ofNat k)) ∧ Fr n0 L ∧ h = h0
set_option maxRecDepth 65536 in
set_option maxHeartbeats 40000000 in
theorem rm12 (l : Launch) (Z : State) (a0 : Array Value) (hw : HW a0 Z) (ws : List Jvm.Cond) (s1 : Addr) (cs : List Int32) (k : Nat) (G1 : Int32) (h0 : Heap) (n0 : Nat) (Od : Old Z n0 h0) (A1 : SA1 Z) (HS : SHS Z) (LS : SLS Z) (O2 : SO2 Z G1) (P5 : ¬ (G1 = (0 : Int32))) (S1 : StrU Z h0 s1 cs) (hk : cs.length ≤ 1000) (tp : TxtP cs k) :
    CT l (⟨"java/lang/String", "codePointCount", "(II)I"⟩ : MethodName) jdk_42_method_59_code 3 (some .int) ws (⟨3, 0, 0, 52⟩ : Jvm.Room) #[(.ref s1), (.int (0 : Int32)), (.int (Int32.ofNat cs.length))] Z h0 (Q_rm12 Z s1 cs k G1 h0 n0) := by
  refine Go.start (plainFor_of_name pn_1) #[vr s1, vi (0 : Int32), vi (Int32.ofNat cs.length)] n0 (by first | (simp [argsToLocals, Value.category, maxLocals]; done) | rfl) ?_
  intro p e s m below meth c s₁ Bd hx hby hml hZ hown X0 e0 N0
  have D := @dB _ _ hby _ D12
  refine gi X0 hx (D 0 rfl) rfl ?_
  refine gi X0 hx (D 1 rfl) rfl ?_
  refine ga X0 hx (D 2 rfl) rfl rfl ?_
  refine kV (W := 2) (C := 0) (S := 0) X0 hx hZ hown (wd hw 58 rfl) (wd hw 44 rfl) (wd hw 46 rfl) (wd hw 45 rfl) (wd hw 12 rfl) (wd hw 47 rfl) (notFace_of_selects (args := #[]) (mvT hZ (wd hw 46 rfl))) S1.exa (rmLEN l Z a0 hw [] s1 cs G1 h0 n0 Od O2 P5 S1 (by omega)) pd_13 (D 3 rfl) e0 hml (by exact ⟨rfl, rfl, rfl, rfl⟩) (by decide) fun v222 T222 L222 Lc222 X222 hQ222 l222 => ?_
  obtain ⟨rfl, Nq222, e222⟩ := hQ222
  have N222 := l222 N0 Nq222
  refine kS (W := 0) (C := 0) (S := 0) X222 hx hZ hown (wd hw 59 rfl) (wd hw 60 rfl) (wd hw 61 rfl) (wd hw 62 rfl) (rm13 l Z a0 hw [] 0 (Int32.ofNat cs.length) (Int32.ofNat cs.length) h0 n0 (by decide) (o_nn (by omega)) Int32.lt_irrefl) pd_20 (D 4 rfl) e222 hml (by exact ⟨rfl, rfl, rfl, rfl⟩) (by decide) fun v223 T223 L223 Lc223 X223 hQ223 l223 => ?_
  obtain ⟨rfl, Nq223, e223⟩ := hQ223
  have N223 := l223 N222 Nq223
  refine gq (XS.pop X223.here hx rfl (D 5 rfl) rfl rfl) rfl ?_
  refine ga X223 hx (D 6 rfl) rfl rfl ?_
  obtain ⟨t1, kt, E_s1, F_value_s1, ⟨F_coder_s1, la, V_t1⟩ | ⟨F_coder_s1, hg, V_t1⟩⟩ := S1
  ·
    refine kV (W := 0) (C := 0) (S := 0) X223 hx hZ hown (wd hw 67 rfl) (wd hw 68 rfl) (wd hw 70 rfl) (wd hw 69 rfl) (wd hw 12 rfl) (wd hw 71 rfl) (notFace_of_selects (args := #[]) (mvT hZ (wd hw 70 rfl))) E_s1 (rmIL0 l Z a0 hw [] s1 G1 h0 n0 Od O2 P5 F_coder_s1) pd_21 (D 7 rfl) e223 hml (by exact ⟨rfl, rfl, rfl, rfl⟩) (by decide) fun v224 T224 L224 Lc224 X224 hQ224 l224 => ?_
    obtain ⟨rfl, Nq224, e224⟩ := hQ224
    have N224 := l224 N223 Nq224
    refine zN X224 hx (D 8 rfl) ((if0 _ _).trans (feq (by decide : ¬ ((1 : Int32) = (0 : Int32)))).1) ?_
    refine gi X224 hx (D 9 rfl) rfl ?_
    refine gi X224 hx (D 10 rfl) rfl ?_
    refine gq (XS.isub X224.here hx rfl (D 11 rfl) rfl) rfl ?_
    have hkk : k = cs.length := by rcases tp with ⟨-, h⟩ | ⟨us0, ws0, hi, lo, h, -, -, hh, -, -⟩; exact h; exact absurd (la hi (by rw [h]; exact mem_mid rfl)) (fun z => hi_big hh z)
    subst hkk
    show Go p e below _ (T224.setTop (mkF m 20 #[vr s1, vi (0 : Int32), vi (Int32.ofNat cs.length)] [(.int ((Int32.ofNat cs.length) - (0 : Int32)))]))
    rw [Int32.sub_zero _]
    exact Go.ret1 X224 hx Bd.returns Bd.notSynchronized rfl (Or.inl ⟨rfl, by simp, _, rfl⟩) (D 12 rfl) (by decide) (by decide) (by first | (rw [e224]; exact ⟨rfl, N224, rfl⟩) | exact ⟨rfl, N224, rfl⟩)
  ·
    refine kV (W := 0) (C := 0) (S := 0) X223 hx hZ hown (wd hw 67 rfl) (wd hw 68 rfl) (wd hw 70 rfl) (wd hw 69 rfl) (wd hw 12 rfl) (wd hw 71 rfl) (notFace_of_selects (args := #[]) (mvT hZ (wd hw 70 rfl))) E_s1 (rmIL1 l Z a0 hw [] s1 G1 h0 n0 Od O2 P5 F_coder_s1) pd_21 (D 7 rfl) e223 hml (by exact ⟨rfl, rfl, rfl, rfl⟩) (by decide) fun v225 T225 L225 Lc225 X225 hQ225 l225 => ?_
    obtain ⟨rfl, Nq225, e225⟩ := hQ225
    have N225 := l225 N223 Nq225
    refine zY X225 hx 21 (D 8 rfl) ((if0 _ _).trans (teq (rfl : (0 : Int32) = (0 : Int32))).1) (by decide) ?_
    refine ga X225 hx (D 13 rfl) rfl rfl ?_
    obtain ⟨us0, ws0, hi, lo, hsh, lu, lw, hh, hlo, rfl⟩ : ∃ us0 ws0 hi lo, cs = us0 ++ hi :: lo :: ws0 ∧ LatP us0 ∧ LatP ws0 ∧ (¬ (hi < (55296 : Int32)) ∧ hi < (56320 : Int32)) ∧ (¬ (lo < (56320 : Int32)) ∧ lo < (57344 : Int32)) ∧ k = cs.length - 1 := by rcases tp with ⟨h, -⟩ | h; exact absurd hg (fun ⟨c, hc, q⟩ => (h c hc).2 q); exact h
    refine gF X225 hx hZ hown (wd hw 37 rfl) Via.refl e225 F_value_s1 (D 14 rfl) fun T226 X226 e226 => ?_
    refine gi X226 hx (D 15 rfl) rfl ?_
    refine gi X226 hx (D 16 rfl) rfl ?_
    refine kS (W := 0) (C := 0) (S := 0) X226 hx hZ hown (wd hw 96 rfl) (wd hw 97 rfl) (wd hw 26 rfl) (wd hw 98 rfl) (rm22 l Z a0 hw [] t1 kt cs us0 ws0 hi lo h0 n0 Od A1 HS LS V_t1 hk hsh lu lw hh hlo) pd_22 (D 17 rfl) e226 hml (by exact ⟨rfl, rfl, rfl, rfl⟩) (by decide) fun v227 T227 L227 Lc227 X227 hQ227 l227 => ?_
    obtain ⟨rfl, Nq227, e227⟩ := hQ227
    have N227 := l227 N225 Nq227
    exact Go.ret1 X227 hx Bd.returns Bd.notSynchronized rfl (Or.inl ⟨rfl, by simp, _, rfl⟩) (D 18 rfl) (by decide) (by decide) (by first | (rw [e227]; exact ⟨rfl, N227, rfl⟩) | exact ⟨rfl, N227, rfl⟩)
def OffP (cs : List Int32) (p : Nat) : Prop := (∃ ps rs, cs = ps ++ rs ∧ ps.length = 64 ∧ LatP ps ∧ 64 < cs.length ∧ p = 64) ∨ ∃ us0 hi lo ws0 rs, cs = us0 ++ hi :: lo :: (ws0 ++ rs) ∧ LatP us0 ∧ LatP ws0 ∧ us0.length + ws0.length + 1 = 64 ∧ (¬ (hi < (55296 : Int32)) ∧ hi < (56320 : Int32)) ∧ (¬ (lo < (56320 : Int32)) ∧ lo < (57344 : Int32)) ∧ 65 < cs.length ∧ p = 65
def Q_rm29 (Z : State) (s1 : Addr) (cs : List Int32) (p1 : Nat) (G1 : Int32) (G3 : Value) (h0 : Heap) (n0 : Nat) : Option Value → Heap → List Loc → Prop := fun v h L => v = some (.int (Int32.ofNat p1)) ∧ Fr n0 L ∧ h = h0
set_option maxRecDepth 65536 in
set_option maxHeartbeats 40000000 in
theorem rm29 (l : Launch) (Z : State) (a0 : Array Value) (hw : HW a0 Z) (ws : List Jvm.Cond) (s1 : Addr) (cs : List Int32) (p1 : Nat) (G1 : Int32) (G3 : Value) (h0 : Heap) (n0 : Nat) (Od : Old Z n0 h0) (A1 : SA1 Z) (HS : SHS Z) (LS : SLS Z) (O4 : SO4 Z G3) (rG3 : G3.isRef = true) (O2 : SO2 Z G1) (P5 : ¬ (G1 = (0 : Int32))) (S1 : StrU Z h0 s1 cs) (hk : cs.length ≤ 1000) (hbd : ∀ c ∈ cs, ¬ c < 0 ∧ ¬ (65535 : Int32) < c) (op : OffP cs p1) :
    CT l (⟨"java/lang/Character", "offsetByCodePoints", "(Ljava/lang/CharSequence;II)I"⟩ : MethodName) jdk_89_method_36_code 6 (some .int) ws (⟨5, 0, 0, 78⟩ : Jvm.Room) #[(.ref s1), (.int (0 : Int32)), (.int (64 : Int32))] Z h0 (Q_rm29 Z s1 cs p1 G1 G3 h0 n0) := by
  refine Go.start (plainFor_of_name pn_6) #[vr s1, vi (0 : Int32), vi (64 : Int32), uu, uu, uu] n0 (by first | (simp [argsToLocals, Value.category, maxLocals]; done) | rfl) ?_
  intro p e s m below meth c s₁ Bd hx hby hml hZ hown X0 e0 N0
  have D := @dB _ _ hby _ D29
  refine ga X0 hx (D 0 rfl) rfl rfl ?_
  obtain ⟨cq228, kq228, q228a, q228b, q228c⟩ := isOf hZ e0 S1.exa
  obtain ⟨_, _, ⟨T228, L228, k228, n228⟩, -, X228, ⟨Lc228, hQ228, l228, y228, z228⟩, st228⟩ := X0.interfaceBack hx (xi := (⟨"java/lang/CharSequence", "length", "()I"⟩ : MethodName)) (y := (⟨"java/lang/String", "length", "()I"⟩ : MethodName)) hown (mvT hZ (wd hw 138 rfl)) (mvT hZ (wd hw 139 rfl)) (mvT hZ (wd hw 140 rfl)) (mvT hZ (wd hw 141 rfl)) (mvT hZ (wd hw 45 rfl)) (mvT hZ (wd hw 142 rfl)) (mvT hZ (wd hw 143 rfl)) (mvT hZ (wd hw 144 rfl)) (by decide) (backOf (W := 0) (rmLEN l Z a0 hw [] s1 cs G1 h0 n0 Od O2 P5 S1 (by omega)) hZ (wd hw 47 rfl) (wd hw 12 rfl) (by decide) (by decide)) q228a q228b q228c (g := (mkF m 1 #[vr s1, vi (0 : Int32), vi (64 : Int32), uu, uu, uu] [(.ref s1)])) rfl (by rw [hml]; rfl) (Steps.refl _) (argsL := []) (rest := []) (lenOf pd_13 rfl) rfl (by show 2 * 0 + _ ≤ _; exact Nat.le_of_eq rfl) (D 1 rfl) (fun _ _ => ⟨rfl, e0, (by decide : 0 + 0 ≤ _), (by decide : 0 + 0 ≤ _)⟩)
  dsimp only [Pt.U, Pt.locs, Pt.cells, Pt.slots] at X228 l228 y228 z228 st228 hQ228
  subst y228 z228
  obtain ⟨rfl, Nq228, e228⟩ := hQ228
  have N228 : Fr n0 L228 := by rw [l228]; exact Fr.app N0 Nq228
  clear l228
  refine Go.by (fun t => st228.trans) ?_
  show Go p e below _ (T228.setTop (mkF m 6 #[vr s1, vi (0 : Int32), vi (64 : Int32), uu, uu, uu] [(.int (Int32.ofNat cs.length))]))
  refine gt X228 hx #[vr s1, vi (0 : Int32), vi (64 : Int32), vi (Int32.ofNat cs.length), uu, uu] (D 2 rfl) rfl ?_
  refine gi X228 hx (D 3 rfl) rfl ?_
  refine zN X228 hx (D 4 rfl) ((if0 _ _).trans (flt (by decide : ¬ ((0 : Int32) < (0 : Int32)))).1) ?_
  refine gi X228 hx (D 5 rfl) rfl ?_
  refine gi X228 hx (D 6 rfl) rfl ?_
  refine cY X228 hx 24 (D 7 rfl) (flt (o_nn (by omega) : ¬ ((Int32.ofNat cs.length) < (0 : Int32)))).2.2.2 (by decide) ?_
  refine gi X228 hx (D 12 rfl) rfl ?_
  refine gT X228 hx #[vr s1, vi (0 : Int32), vi (64 : Int32), vi (Int32.ofNat cs.length), vi (0 : Int32), uu] (D 13 rfl) rfl ?_
  refine gi X228 hx (D 14 rfl) rfl ?_
  refine zN X228 hx (D 15 rfl) ((if0 _ _).trans (flt (by decide : ¬ ((64 : Int32) < (0 : Int32)))).1) ?_
  refine gk X228 hx 0 (D 16 rfl) rfl ?_
  refine gT X228 hx #[vr s1, vi (0 : Int32), vi (64 : Int32), vi (Int32.ofNat cs.length), vi (0 : Int32), vi (0 : Int32)] (D 17 rfl) rfl ?_
  rcases op with ⟨ps, rs, hsh, h64, lp, hlt, hp1⟩ | ⟨us0, hi, lo, ws0, rs, hsh, lu, lw, h64, hh, hlo, hlt, hp1⟩
  ·
    have loop : ∀ (ws us : List Int32) (Tl : State) (Ll : List Loc) (hps : ps = us ++ ws) (hla : LatP ws) (Xl : Stand p l e (⟨5, 0, 0, 78⟩ : Jvm.Room) s m #[(.ref s1), (.int (0 : Int32)), (.int (64 : Int32))] below meth c Tl Ll 0 0) (Nl : Fr n0 Ll) (eT : Tl.heap = h0), Go p e below (End (fun v h L => v = some (.int (Int32.ofNat p1)) ∧ Fr n0 L ∧ h = h0) s 0 0) (Tl.setTop (mkF m 34 #[vr s1, vi (0 : Int32), vi (64 : Int32), vi (Int32.ofNat cs.length), vi (Int32.ofNat us.length), vi (Int32.ofNat us.length)] [])) := by
      intro ws
      induction ws with
      | nil =>
        intro us Tl Ll hps hla Xl Nl eT
        have hu : us.length = 64 := by rw [← h64, hps, List.append_nil]
        refine gI Xl hx (D 18 rfl) rfl ?_
        refine gi Xl hx (D 19 rfl) rfl ?_
        refine cN Xl hx (D 20 rfl) (tlt ((o_lt (by omega) (by omega)).2 (by omega) : (Int32.ofNat us.length) < (Int32.ofNat cs.length))).2.1 ?_
        refine gI Xl hx (D 21 rfl) rfl ?_
        refine gi Xl hx (D 22 rfl) rfl ?_
        refine cY Xl hx 92 (D 23 rfl) (flt (by rw [show (64 : Int32) = Int32.ofNat 64 from rfl, o_lt (by omega) (by decide)]; omega : ¬ ((Int32.ofNat us.length) < (64 : Int32)))).2.1 (by decide) ?_
        refine gI Xl hx (D 41 rfl) rfl ?_
        refine gi Xl hx (D 42 rfl) rfl ?_
        refine cY Xl hx 106 (D 43 rfl) (flt (by rw [show (64 : Int32) = Int32.ofNat 64 from rfl, o_lt (by omega) (by decide)]; omega : ¬ ((Int32.ofNat us.length) < (64 : Int32)))).2.1 (by decide) ?_
        refine gg Xl hx 182 (D 48 rfl) (by decide) ?_
        refine gI Xl hx (D 79 rfl) rfl ?_
        show Go p e below _ (Tl.setTop (mkF m 184 #[vr s1, vi (0 : Int32), vi (64 : Int32), vi (Int32.ofNat cs.length), vi (Int32.ofNat us.length), vi (Int32.ofNat us.length)] [(.int (Int32.ofNat us.length))]))
        exact Go.ret1 Xl hx Bd.returns Bd.notSynchronized rfl (Or.inl ⟨rfl, by simp, _, rfl⟩) (D 80 rfl) (by decide) (by decide) (by first | (rw [eT]; exact ⟨by rw [hu, hp1], Nl, rfl⟩) | exact ⟨by rw [hu, hp1], Nl, rfl⟩)
      | cons cx ws ih =>
        intro us Tl Ll hps hla Xl Nl eT
        have hc1 : cs = us ++ cx :: (ws ++ rs) := by rw [hsh, hps, List.append_assoc]; rfl
        have hn : us.length < 64 := by rw [← h64, hps, List.length_append, List.length_cons]; omega
        refine gI Xl hx (D 18 rfl) rfl ?_
        refine gi Xl hx (D 19 rfl) rfl ?_
        refine cN Xl hx (D 20 rfl) (tlt ((o_lt (by omega) (by omega)).2 (by omega) : (Int32.ofNat us.length) < (Int32.ofNat cs.length))).2.1 ?_
        refine gI Xl hx (D 21 rfl) rfl ?_
        refine gi Xl hx (D 22 rfl) rfl ?_
        refine cN Xl hx (D 23 rfl) (tlt ((o_lt (b := 64) (by omega) (by decide)).2 (by omega) : (Int32.ofNat us.length) < (64 : Int32))).2.1 ?_
        refine ga Xl hx (D 24 rfl) rfl rfl ?_
        refine gI Xl hx (D 25 rfl) rfl ?_
        refine gn Xl hx #[vr s1, vi (0 : Int32), vi (64 : Int32), vi (Int32.ofNat cs.length), vi ((Int32.ofNat us.length) + (1 : Int32)), vi (Int32.ofNat us.length)] (D 26 rfl) rfl rfl ?_
        obtain ⟨cq229, kq229, q229a, q229b, q229c⟩ := isOf hZ eT S1.exa
        obtain ⟨_, _, ⟨T229, L229, k229, n229⟩, -, X229, ⟨Lc229, hQ229, l229, y229, z229⟩, st229⟩ := Xl.interfaceBack hx (xi := (⟨"java/lang/CharSequence", "charAt", "(I)C"⟩ : MethodName)) (y := (⟨"java/lang/String", "charAt", "(I)C"⟩ : MethodName)) hown (mvT hZ (wd hw 145 rfl)) (mvT hZ (wd hw 146 rfl)) (mvT hZ (wd hw 147 rfl)) (mvT hZ (wd hw 148 rfl)) (mvT hZ (wd hw 149 rfl)) (mvT hZ (wd hw 150 rfl)) (mvT hZ (wd hw 151 rfl)) (mvT hZ (wd hw 144 rfl)) (by decide) (backOf (W := 0) (rmCA l Z a0 hw [] s1 cs us cx _ (Int32.ofNat us.length) G1 G3 h0 n0 Od A1 HS LS O4 rG3 O2 P5 S1 (by omega) hc1 rfl (hbd _ (mem_mid hc1))) hZ (wd hw 152 rfl) (wd hw 12 rfl) (by decide) (by decide)) q229a q229b q229c (g := (mkF m 52 #[vr s1, vi (0 : Int32), vi (64 : Int32), vi (Int32.ofNat cs.length), vi ((Int32.ofNat us.length) + (1 : Int32)), vi (Int32.ofNat us.length)] [(.int (Int32.ofNat us.length)), (.ref s1)])) rfl (by rw [hml]; rfl) (Steps.refl _) (argsL := [(.int (Int32.ofNat us.length))]) (rest := []) (lenOf pd_34 rfl) rfl (by show 2 * 0 + _ ≤ _; exact Nat.le_of_eq rfl) (D 27 rfl) (fun _ _ => ⟨rfl, eT, (by decide : 0 + 0 ≤ _), (by decide : 0 + 0 ≤ _)⟩)
        dsimp only [Pt.U, Pt.locs, Pt.cells, Pt.slots] at X229 l229 y229 z229 st229 hQ229
        subst y229 z229
        obtain ⟨rfl, Nq229, e229⟩ := hQ229
        have N229 : Fr n0 L229 := by rw [l229]; exact Fr.app Nl Nq229
        clear l229
        refine Go.by (fun t => st229.trans) ?_
        show Go p e below _ (T229.setTop (mkF m 57 #[vr s1, vi (0 : Int32), vi (64 : Int32), vi (Int32.ofNat cs.length), vi ((Int32.ofNat us.length) + (1 : Int32)), vi (Int32.ofNat us.length)] [(.int cx)]))
        refine kS (W := 0) (C := 0) (S := 0) X229 hx hZ hown (wd hw 169 rfl) (wd hw 103 rfl) (wd hw 104 rfl) (wd hw 105 rfl) (rmHS0 l Z a0 hw [] cx h0 n0 (lat_lo (hla cx (List.mem_cons_self ..)))) pd_31 (D 28 rfl) e229 hml (by exact ⟨rfl, rfl, rfl, rfl⟩) (by decide) fun v230 T230 L230 Lc230 X230 hQ230 l230 => ?_
        obtain ⟨rfl, Nq230, e230⟩ := hQ230
        have N230 := l230 N229 Nq230
        refine zY X230 hx 86 (D 29 rfl) ((if0 _ _).trans (teq (rfl : (0 : Int32) = (0 : Int32))).1) (by decide) ?_
        refine gn X230 hx #[vr s1, vi (0 : Int32), vi (64 : Int32), vi (Int32.ofNat cs.length), vi ((Int32.ofNat us.length) + (1 : Int32)), vi ((Int32.ofNat us.length) + (1 : Int32))] (D 39 rfl) rfl rfl ?_
        refine gg X230 hx 34 (D 40 rfl) (by decide) ?_
        show Go p e below _ (T230.setTop (mkF m 34 #[vr s1, vi (0 : Int32), vi (64 : Int32), vi (Int32.ofNat cs.length), vi ((Int32.ofNat us.length) + (1 : Int32)), vi ((Int32.ofNat us.length) + (1 : Int32))] []))
        rw [snoc_len us cx]
        exact ih (us ++ [cx]) _ _ (snoc_app hps) (fun c hc => hla c (List.mem_cons_of_mem _ hc)) X230 N230 e230
    exact loop ps [] _ _ rfl lp X228 N228 e228
  ·
    have h2 : cs.length = us0.length + (ws0.length + rs.length + 2) := by rw [hsh, List.length_append, List.length_cons, List.length_cons, List.length_append]
    have loopB : ∀ (ws us : List Int32) (Tl : State) (Ll : List Loc) (hcs : cs = us ++ (ws ++ rs)) (hla : LatP ws) (hu1 : 1 ≤ us.length) (hrs : rs.length + 65 = cs.length) (Xl : Stand p l e (⟨5, 0, 0, 78⟩ : Jvm.Room) s m #[(.ref s1), (.int (0 : Int32)), (.int (64 : Int32))] below meth c Tl Ll 0 0) (Nl : Fr n0 Ll) (eT : Tl.heap = h0), Go p e below (End (fun v h L => v = some (.int (Int32.ofNat p1)) ∧ Fr n0 L ∧ h = h0) s 0 0) (Tl.setTop (mkF m 34 #[vr s1, vi (0 : Int32), vi (64 : Int32), vi (Int32.ofNat cs.length), vi (Int32.ofNat us.length), vi (Int32.ofNat (us.length - 1))] [])) := by
      intro ws
      induction ws with
      | nil =>
        intro us Tl Ll hcs hla hu1 hrs Xl Nl eT
        have hu : us.length = 65 := by have q := congrArg List.length hcs; simp only [List.length_append, List.length_nil] at q; omega
        refine gI Xl hx (D 18 rfl) rfl ?_
        refine gi Xl hx (D 19 rfl) rfl ?_
        refine cN Xl hx (D 20 rfl) (tlt ((o_lt (by omega) (by omega)).2 (by omega) : (Int32.ofNat us.length) < (Int32.ofNat cs.length))).2.1 ?_
        refine gI Xl hx (D 21 rfl) rfl ?_
        refine gi Xl hx (D 22 rfl) rfl ?_
        refine cY Xl hx 92 (D 23 rfl) (flt (by rw [show (64 : Int32) = Int32.ofNat 64 from rfl, o_lt (by omega) (by decide)]; omega : ¬ ((Int32.ofNat (us.length - 1)) < (64 : Int32)))).2.1 (by decide) ?_
        refine gI Xl hx (D 41 rfl) rfl ?_
        refine gi Xl hx (D 42 rfl) rfl ?_
        refine cY Xl hx 106 (D 43 rfl) (flt (by rw [show (64 : Int32) = Int32.ofNat 64 from rfl, o_lt (by omega) (by decide)]; omega : ¬ ((Int32.ofNat (us.length - 1)) < (64 : Int32)))).2.1 (by decide) ?_
        refine gg Xl hx 182 (D 48 rfl) (by decide) ?_
        refine gI Xl hx (D 79 rfl) rfl ?_
        show Go p e below _ (Tl.setTop (mkF m 184 #[vr s1, vi (0 : Int32), vi (64 : Int32), vi (Int32.ofNat cs.length), vi (Int32.ofNat us.length), vi (Int32.ofNat (us.length - 1))] [(.int (Int32.ofNat us.length))]))
        exact Go.ret1 Xl hx Bd.returns Bd.notSynchronized rfl (Or.inl ⟨rfl, by simp, _, rfl⟩) (D 80 rfl) (by decide) (by decide) (by first | (rw [eT]; exact ⟨by rw [hu, hp1], Nl, rfl⟩) | exact ⟨by rw [hu, hp1], Nl, rfl⟩)
      | cons cx ws ih =>
        intro us Tl Ll hcs hla hu1 hrs Xl Nl eT
        have hc1 : cs = us ++ cx :: (ws ++ rs) := hcs
        have q := congrArg List.length hcs; simp only [List.length_append, List.length_cons] at q
        have hn : us.length < 65 := by omega
        refine gI Xl hx (D 18 rfl) rfl ?_
        refine gi Xl hx (D 19 rfl) rfl ?_
        refine cN Xl hx (D 20 rfl) (tlt ((o_lt (by omega) (by omega)).2 (by omega) : (Int32.ofNat us.length) < (Int32.ofNat cs.length))).2.1 ?_
        refine gI Xl hx (D 21 rfl) rfl ?_
        refine gi Xl hx (D 22 rfl) rfl ?_
        refine cN Xl hx (D 23 rfl) (tlt ((o_lt (b := 64) (by omega) (by decide)).2 (by omega) : (Int32.ofNat (us.length - 1)) < (64 : Int32))).2.1 ?_
        refine ga Xl hx (D 24 rfl) rfl rfl ?_
        refine gI Xl hx (D 25 rfl) rfl ?_
        refine gn Xl hx #[vr s1, vi (0 : Int32), vi (64 : Int32), vi (Int32.ofNat cs.length), vi ((Int32.ofNat us.length) + (1 : Int32)), vi (Int32.ofNat (us.length - 1))] (D 26 rfl) rfl rfl ?_
        obtain ⟨cq231, kq231, q231a, q231b, q231c⟩ := isOf hZ eT S1.exa
        obtain ⟨_, _, ⟨T231, L231, k231, n231⟩, -, X231, ⟨Lc231, hQ231, l231, y231, z231⟩, st231⟩ := Xl.interfaceBack hx (xi := (⟨"java/lang/CharSequence", "charAt", "(I)C"⟩ : MethodName)) (y := (⟨"java/lang/String", "charAt", "(I)C"⟩ : MethodName)) hown (mvT hZ (wd hw 145 rfl)) (mvT hZ (wd hw 146 rfl)) (mvT hZ (wd hw 147 rfl)) (mvT hZ (wd hw 148 rfl)) (mvT hZ (wd hw 149 rfl)) (mvT hZ (wd hw 150 rfl)) (mvT hZ (wd hw 151 rfl)) (mvT hZ (wd hw 144 rfl)) (by decide) (backOf (W := 0) (rmCA l Z a0 hw [] s1 cs us cx _ (Int32.ofNat us.length) G1 G3 h0 n0 Od A1 HS LS O4 rG3 O2 P5 S1 (by omega) hc1 rfl (hbd _ (mem_mid hc1))) hZ (wd hw 152 rfl) (wd hw 12 rfl) (by decide) (by decide)) q231a q231b q231c (g := (mkF m 52 #[vr s1, vi (0 : Int32), vi (64 : Int32), vi (Int32.ofNat cs.length), vi ((Int32.ofNat us.length) + (1 : Int32)), vi (Int32.ofNat (us.length - 1))] [(.int (Int32.ofNat us.length)), (.ref s1)])) rfl (by rw [hml]; rfl) (Steps.refl _) (argsL := [(.int (Int32.ofNat us.length))]) (rest := []) (lenOf pd_34 rfl) rfl (by show 2 * 0 + _ ≤ _; exact Nat.le_of_eq rfl) (D 27 rfl) (fun _ _ => ⟨rfl, eT, (by decide : 0 + 0 ≤ _), (by decide : 0 + 0 ≤ _)⟩)
        dsimp only [Pt.U, Pt.locs, Pt.cells, Pt.slots] at X231 l231 y231 z231 st231 hQ231
        subst y231 z231
        obtain ⟨rfl, Nq231, e231⟩ := hQ231
        have N231 : Fr n0 L231 := by rw [l231]; exact Fr.app Nl Nq231
        clear l231
        refine Go.by (fun t => st231.trans) ?_
        show Go p e below _ (T231.setTop (mkF m 57 #[vr s1, vi (0 : Int32), vi (64 : Int32), vi (Int32.ofNat cs.length), vi ((Int32.ofNat us.length) + (1 : Int32)), vi (Int32.ofNat (us.length - 1))] [(.int cx)]))
        refine kS (W := 0) (C := 0) (S := 0) X231 hx hZ hown (wd hw 169 rfl) (wd hw 103 rfl) (wd hw 104 rfl) (wd hw 105 rfl) (rmHS0 l Z a0 hw [] cx h0 n0 (lat_lo (hla cx (List.mem_cons_self ..)))) pd_31 (D 28 rfl) e231 hml (by exact ⟨rfl, rfl, rfl, rfl⟩) (by decide) fun v232 T232 L232 Lc232 X232 hQ232 l232 => ?_
        obtain ⟨rfl, Nq232, e232⟩ := hQ232
        have N232 := l232 N231 Nq232
        refine zY X232 hx 86 (D 29 rfl) ((if0 _ _).trans (teq (rfl : (0 : Int32) = (0 : Int32))).1) (by decide) ?_
        refine gn X232 hx #[vr s1, vi (0 : Int32), vi (64 : Int32), vi (Int32.ofNat cs.length), vi ((Int32.ofNat us.length) + (1 : Int32)), vi ((Int32.ofNat (us.length - 1)) + (1 : Int32))] (D 39 rfl) rfl rfl ?_
        refine gg X232 hx 34 (D 40 rfl) (by decide) ?_
        show Go p e below _ (T232.setTop (mkF m 34 #[vr s1, vi (0 : Int32), vi (64 : Int32), vi (Int32.ofNat cs.length), vi ((Int32.ofNat us.length) + (1 : Int32)), vi ((Int32.ofNat (us.length - 1)) + (1 : Int32))] []))
        rw [snoc_len us cx, snoc_pred us cx hu1]
        exact ih (us ++ [cx]) _ _ (snoc_app hc1) (fun c hc => hla c (List.mem_cons_of_mem _ hc)) (by rw [List.length_append]; omega) hrs X232 N232 e232
    have loopA : ∀ (ws us : List Int32) (Tl : State) (Ll : List Loc) (hcs : cs = us ++ (ws ++ hi :: lo :: (ws0 ++ rs))) (hla : LatP ws) (Xl : Stand p l e (⟨5, 0, 0, 78⟩ : Jvm.Room) s m #[(.ref s1), (.int (0 : Int32)), (.int (64 : Int32))] below meth c Tl Ll 0 0) (Nl : Fr n0 Ll) (eT : Tl.heap = h0), Go p e below (End (fun v h L => v = some (.int (Int32.ofNat p1)) ∧ Fr n0 L ∧ h = h0) s 0 0) (Tl.setTop (mkF m 34 #[vr s1, vi (0 : Int32), vi (64 : Int32), vi (Int32.ofNat cs.length), vi (Int32.ofNat us.length), vi (Int32.ofNat us.length)] [])) := by
      intro ws
      induction ws with
      | nil =>
        intro us Tl Ll hcs hla Xl Nl eT
        have hc1 : cs = us ++ hi :: (lo :: (ws0 ++ rs)) := hcs
        have hc2 : cs = (us ++ [hi]) ++ lo :: (ws0 ++ rs) := snoc_app hc1
        have q := congrArg List.length hcs; simp only [List.length_append, List.length_cons, List.length_nil] at q
        have hn2 : (us ++ [hi]).length = us.length + 1 := by rw [List.length_append]; rfl
        refine gI Xl hx (D 18 rfl) rfl ?_
        refine gi Xl hx (D 19 rfl) rfl ?_
        refine cN Xl hx (D 20 rfl) (tlt ((o_lt (by omega) (by omega)).2 (by omega) : (Int32.ofNat us.length) < (Int32.ofNat cs.length))).2.1 ?_
        refine gI Xl hx (D 21 rfl) rfl ?_
        refine gi Xl hx (D 22 rfl) rfl ?_
        refine cN Xl hx (D 23 rfl) (tlt ((o_lt (b := 64) (by omega) (by decide)).2 (by omega) : (Int32.ofNat us.length) < (64 : Int32))).2.1 ?_
        refine ga Xl hx (D 24 rfl) rfl rfl ?_
        refine gI Xl hx (D 25 rfl) rfl ?_
        refine gn Xl hx #[vr s1, vi (0 : Int32), vi (64 : Int32), vi (Int32.ofNat cs.length), vi ((Int32.ofNat us.length) + (1 : Int32)), vi (Int32.ofNat us.length)] (D 26 rfl) rfl rfl ?_
        obtain ⟨cq233, kq233, q233a, q233b, q233c⟩ := isOf hZ eT S1.exa
        obtain ⟨_, _, ⟨T233, L233, k233, n233⟩, -, X233, ⟨Lc233, hQ233, l233, y233, z233⟩, st233⟩ := Xl.interfaceBack hx (xi := (⟨"java/lang/CharSequence", "charAt", "(I)C"⟩ : MethodName)) (y := (⟨"java/lang/String", "charAt", "(I)C"⟩ : MethodName)) hown (mvT hZ (wd hw 145 rfl)) (mvT hZ (wd hw 146 rfl)) (mvT hZ (wd hw 147 rfl)) (mvT hZ (wd hw 148 rfl)) (mvT hZ (wd hw 149 rfl)) (mvT hZ (wd hw 150 rfl)) (mvT hZ (wd hw 151 rfl)) (mvT hZ (wd hw 144 rfl)) (by decide) (backOf (W := 0) (rmCA l Z a0 hw [] s1 cs us hi _ (Int32.ofNat us.length) G1 G3 h0 n0 Od A1 HS LS O4 rG3 O2 P5 S1 (by omega) hc1 rfl (hbd _ (mem_mid hc1))) hZ (wd hw 152 rfl) (wd hw 12 rfl) (by decide) (by decide)) q233a q233b q233c (g := (mkF m 52 #[vr s1, vi (0 : Int32), vi (64 : Int32), vi (Int32.ofNat cs.length), vi ((Int32.ofNat us.length) + (1 : Int32)), vi (Int32.ofNat us.length)] [(.int (Int32.ofNat us.length)), (.ref s1)])) rfl (by rw [hml]; rfl) (Steps.refl _) (argsL := [(.int (Int32.ofNat us.length))]) (rest := []) (lenOf pd_34 rfl) rfl (by show 2 * 0 + _ ≤ _; exact Nat.le_of_eq rfl) (D 27 rfl) (fun _ _ => ⟨rfl, eT, (by decide : 0 + 0 ≤ _), (by decide : 0 + 0 ≤ _)⟩)
        dsimp only [Pt.U, Pt.locs, Pt.cells, Pt.slots] at X233 l233 y233 z233 st233 hQ233
        subst y233 z233
        obtain ⟨rfl, Nq233, e233⟩ := hQ233
        have N233 : Fr n0 L233 := by rw [l233]; exact Fr.app Nl Nq233
        clear l233
        refine Go.by (fun t => st233.trans) ?_
        show Go p e below _ (T233.setTop (mkF m 57 #[vr s1, vi (0 : Int32), vi (64 : Int32), vi (Int32.ofNat cs.length), vi ((Int32.ofNat us.length) + (1 : Int32)), vi (Int32.ofNat us.length)] [(.int hi)]))
        refine kS (W := 0) (C := 0) (S := 0) X233 hx hZ hown (wd hw 169 rfl) (wd hw 103 rfl) (wd hw 104 rfl) (wd hw 105 rfl) (rmHS1 l Z a0 hw [] hi h0 n0 hh.1 hh.2) pd_31 (D 28 rfl) e233 hml (by exact ⟨rfl, rfl, rfl, rfl⟩) (by decide) fun v234 T234 L234 Lc234 X234 hQ234 l234 => ?_
        obtain ⟨rfl, Nq234, e234⟩ := hQ234
        have N234 := l234 N233 Nq234
        refine zN X234 hx (D 29 rfl) ((if0 _ _).trans (feq (by decide : ¬ ((1 : Int32) = (0 : Int32)))).1) ?_
        rw [snoc_len us hi]
        refine gI X234 hx (D 30 rfl) rfl ?_
        refine gi X234 hx (D 31 rfl) rfl ?_
        refine cN X234 hx (D 32 rfl) (tlt ((o_lt (by omega) (by omega)).2 (by omega) : (Int32.ofNat (us ++ [hi]).length) < (Int32.ofNat cs.length))).2.1 ?_
        refine ga X234 hx (D 33 rfl) rfl rfl ?_
        refine gI X234 hx (D 34 rfl) rfl ?_
        obtain ⟨cq235, kq235, q235a, q235b, q235c⟩ := isOf hZ e234 S1.exa
        obtain ⟨_, _, ⟨T235, L235, k235, n235⟩, -, X235, ⟨Lc235, hQ235, l235, y235, z235⟩, st235⟩ := X234.interfaceBack hx (xi := (⟨"java/lang/CharSequence", "charAt", "(I)C"⟩ : MethodName)) (y := (⟨"java/lang/String", "charAt", "(I)C"⟩ : MethodName)) hown (mvT hZ (wd hw 145 rfl)) (mvT hZ (wd hw 146 rfl)) (mvT hZ (wd hw 147 rfl)) (mvT hZ (wd hw 148 rfl)) (mvT hZ (wd hw 149 rfl)) (mvT hZ (wd hw 150 rfl)) (mvT hZ (wd hw 151 rfl)) (mvT hZ (wd hw 144 rfl)) (by decide) (backOf (W := 0) (rmCA l Z a0 hw [] s1 cs (us ++ [hi]) lo _ (Int32.ofNat (us ++ [hi]).length) G1 G3 h0 n0 Od A1 HS LS O4 rG3 O2 P5 S1 (by omega) hc2 rfl (hbd _ (mem_mid hc2))) hZ (wd hw 152 rfl) (wd hw 12 rfl) (by decide) (by decide)) q235a q235b q235c (g := (mkF m 72 #[vr s1, vi (0 : Int32), vi (64 : Int32), vi (Int32.ofNat cs.length), vi (Int32.ofNat (us ++ [hi]).length), vi (Int32.ofNat us.length)] [(.int (Int32.ofNat (us ++ [hi]).length)), (.ref s1)])) rfl (by rw [hml]; rfl) (Steps.refl _) (argsL := [(.int (Int32.ofNat (us ++ [hi]).length))]) (rest := []) (lenOf pd_34 rfl) rfl (by show 2 * 0 + _ ≤ _; exact Nat.le_of_eq rfl) (D 35 rfl) (fun _ _ => ⟨rfl, e234, (by decide : 0 + 0 ≤ _), (by decide : 0 + 0 ≤ _)⟩)
        dsimp only [Pt.U, Pt.locs, Pt.cells, Pt.slots] at X235 l235 y235 z235 st235 hQ235
        subst y235 z235
        obtain ⟨rfl, Nq235, e235⟩ := hQ235
        have N235 : Fr n0 L235 := by rw [l235]; exact Fr.app N234 Nq235
        clear l235
        refine Go.by (fun t => st235.trans) ?_
        show Go p e below _ (T235.setTop (mkF m 77 #[vr s1, vi (0 : Int32), vi (64 : Int32), vi (Int32.ofNat cs.length), vi (Int32.ofNat (us ++ [hi]).length), vi (Int32.ofNat us.length)] [(.int lo)]))
        refine kS (W := 0) (C := 0) (S := 0) X235 hx hZ hown (wd hw 170 rfl) (wd hw 109 rfl) (wd hw 104 rfl) (wd hw 110 rfl) (rmLS1 l Z a0 hw [] lo h0 n0 hlo.1 hlo.2) pd_31 (D 36 rfl) e235 hml (by exact ⟨rfl, rfl, rfl, rfl⟩) (by decide) fun v236 T236 L236 Lc236 X236 hQ236 l236 => ?_
        obtain ⟨rfl, Nq236, e236⟩ := hQ236
        have N236 := l236 N235 Nq236
        refine zN X236 hx (D 37 rfl) ((if0 _ _).trans (feq (by decide : ¬ ((1 : Int32) = (0 : Int32)))).1) ?_
        refine gn X236 hx #[vr s1, vi (0 : Int32), vi (64 : Int32), vi (Int32.ofNat cs.length), vi ((Int32.ofNat (us ++ [hi]).length) + (1 : Int32)), vi (Int32.ofNat us.length)] (D 38 rfl) rfl rfl ?_
        refine gn X236 hx #[vr s1, vi (0 : Int32), vi (64 : Int32), vi (Int32.ofNat cs.length), vi ((Int32.ofNat (us ++ [hi]).length) + (1 : Int32)), vi ((Int32.ofNat us.length) + (1 : Int32))] (D 39 rfl) rfl rfl ?_
        refine gg X236 hx 34 (D 40 rfl) (by decide) ?_
        rw [snoc_len (us ++ [hi]) lo, show Int32.ofNat us.length + (1 : Int32) = Int32.ofNat (((us ++ [hi]) ++ [lo]).length - 1) from by rw [o_one, List.length_append, hn2]; rfl]
        exact loopB ws0 ((us ++ [hi]) ++ [lo]) _ _ (snoc_app hc2) lw (by rw [List.length_append, hn2]; omega) (by omega) X236 N236 e236
      | cons cx ws ih =>
        intro us Tl Ll hcs hla Xl Nl eT
        have hc1 : cs = us ++ cx :: (ws ++ hi :: lo :: (ws0 ++ rs)) := hcs
        have q := congrArg List.length hcs; simp only [List.length_append, List.length_cons] at q
        refine gI Xl hx (D 18 rfl) rfl ?_
        refine gi Xl hx (D 19 rfl) rfl ?_
        refine cN Xl hx (D 20 rfl) (tlt ((o_lt (by omega) (by omega)).2 (by omega) : (Int32.ofNat us.length) < (Int32.ofNat cs.length))).2.1 ?_
        refine gI Xl hx (D 21 rfl) rfl ?_
        refine gi Xl hx (D 22 rfl) rfl ?_
        refine cN Xl hx (D 23 rfl) (tlt ((o_lt (b := 64) (by omega) (by decide)).2 (by omega) : (Int32.ofNat us.length) < (64 : Int32))).2.1 ?_
        refine ga Xl hx (D 24 rfl) rfl rfl ?_
        refine gI Xl hx (D 25 rfl) rfl ?_
        refine gn Xl hx #[vr s1, vi (0 : Int32), vi (64 : Int32), vi (Int32.ofNat cs.length), vi ((Int32.ofNat us.length) + (1 : Int32)), vi (Int32.ofNat us.length)] (D 26 rfl) rfl rfl ?_
        obtain ⟨cq237, kq237, q237a, q237b, q237c⟩ := isOf hZ eT S1.exa
        obtain ⟨_, _, ⟨T237, L237, k237, n237⟩, -, X237, ⟨Lc237, hQ237, l237, y237, z237⟩, st237⟩ := Xl.interfaceBack hx (xi := (⟨"java/lang/CharSequence", "charAt", "(I)C"⟩ : MethodName)) (y := (⟨"java/lang/String", "charAt", "(I)C"⟩ : MethodName)) hown (mvT hZ (wd hw 145 rfl)) (mvT hZ (wd hw 146 rfl)) (mvT hZ (wd hw 147 rfl)) (mvT hZ (wd hw 148 rfl)) (mvT hZ (wd hw 149 rfl)) (mvT hZ (wd hw 150 rfl)) (mvT hZ (wd hw 151 rfl)) (mvT hZ (wd hw 144 rfl)) (by decide) (backOf (W := 0) (rmCA l Z a0 hw [] s1 cs us cx _ (Int32.ofNat us.length) G1 G3 h0 n0 Od A1 HS LS O4 rG3 O2 P5 S1 (by omega) hc1 rfl (hbd _ (mem_mid hc1))) hZ (wd hw 152 rfl) (wd hw 12 rfl) (by decide) (by decide)) q237a q237b q237c (g := (mkF m 52 #[vr s1, vi (0 : Int32), vi (64 : Int32), vi (Int32.ofNat cs.length), vi ((Int32.ofNat us.length) + (1 : Int32)), vi (Int32.ofNat us.length)] [(.int (Int32.ofNat us.length)), (.ref s1)])) rfl (by rw [hml]; rfl) (Steps.refl _) (argsL := [(.int (Int32.ofNat us.length))]) (rest := []) (lenOf pd_34 rfl) rfl (by show 2 * 0 + _ ≤ _; exact Nat.le_of_eq rfl) (D 27 rfl) (fun _ _ => ⟨rfl, eT, (by decide : 0 + 0 ≤ _), (by decide : 0 + 0 ≤ _)⟩)
        dsimp only [Pt.U, Pt.locs, Pt.cells, Pt.slots] at X237 l237 y237 z237 st237 hQ237
        subst y237 z237
        obtain ⟨rfl, Nq237, e237⟩ := hQ237
        have N237 : Fr n0 L237 := by rw [l237]; exact Fr.app Nl Nq237
        clear l237
        refine Go.by (fun t => st237.trans) ?_
        show Go p e below _ (T237.setTop (mkF m 57 #[vr s1, vi (0 : Int32), vi (64 : Int32), vi (Int32.ofNat cs.length), vi ((Int32.ofNat us.length) + (1 : Int32)), vi (Int32.ofNat us.length)] [(.int cx)]))
        refine kS (W := 0) (C := 0) (S := 0) X237 hx hZ hown (wd hw 169 rfl) (wd hw 103 rfl) (wd hw 104 rfl) (wd hw 105 rfl) (rmHS0 l Z a0 hw [] cx h0 n0 (lat_lo (hla cx (List.mem_cons_self ..)))) pd_31 (D 28 rfl) e237 hml (by exact ⟨rfl, rfl, rfl, rfl⟩) (by decide) fun v238 T238 L238 Lc238 X238 hQ238 l238 => ?_
        obtain ⟨rfl, Nq238, e238⟩ := hQ238
        have N238 := l238 N237 Nq238
        refine zY X238 hx 86 (D 29 rfl) ((if0 _ _).trans (teq (rfl : (0 : Int32) = (0 : Int32))).1) (by decide) ?_
        refine gn X238 hx #[vr s1, vi (0 : Int32), vi (64 : Int32), vi (Int32.ofNat cs.length), vi ((Int32.ofNat us.length) + (1 : Int32)), vi ((Int32.ofNat us.length) + (1 : Int32))] (D 39 rfl) rfl rfl ?_
        refine gg X238 hx 34 (D 40 rfl) (by decide) ?_
        show Go p e below _ (T238.setTop (mkF m 34 #[vr s1, vi (0 : Int32), vi (64 : Int32), vi (Int32.ofNat cs.length), vi ((Int32.ofNat us.length) + (1 : Int32)), vi ((Int32.ofNat us.length) + (1 : Int32))] []))
        rw [snoc_len us cx]
        exact ih (us ++ [cx]) _ _ (snoc_app hc1) (fun c hc => hla c (List.mem_cons_of_mem _ hc)) X238 N238 e238
    exact loopA us0 [] _ _ hsh lu X228 N228 e228
def Q_rm28 (Z : State) (s1 : Addr) (cs : List Int32) (p1 : Nat) (G1 : Int32) (G3 : Value) (h0 : Heap) (n0 : Nat) : Option Value → Heap → List Loc → Prop := fun v h L => v = some (.int (Int32.ofNat p1)) ∧ Fr n0 L ∧ h = h0
set_option maxRecDepth 65536 in
set_option maxHeartbeats 40000000 in
theorem rm28 (l : Launch) (Z : State) (a0 : Array Value) (hw : HW a0 Z) (ws : List Jvm.Cond) (s1 : Addr) (cs : List Int32) (p1 : Nat) (G1 : Int32) (G3 : Value) (h0 : Heap) (n0 : Nat) (Od : Old Z n0 h0) (A1 : SA1 Z) (HS : SHS Z) (LS : SLS Z) (O4 : SO4 Z G3) (rG3 : G3.isRef = true) (O2 : SO2 Z G1) (P5 : ¬ (G1 = (0 : Int32))) (S1 : StrU Z h0 s1 cs) (hk : cs.length ≤ 1000) (hbd : ∀ c ∈ cs, ¬ c < 0 ∧ ¬ (65535 : Int32) < c) (op : OffP cs p1) :
    CT l (⟨"java/lang/String", "offsetByCodePoints", "(II)I"⟩ : MethodName) jdk_42_method_60_code 3 (some .int) ws (⟨6, 0, 0, 98⟩ : Jvm.Room) #[(.ref s1), (.int (0 : Int32)), (.int (64 : Int32))] Z h0 (Q_rm28 Z s1 cs p1 G1 G3 h0 n0) := by
  refine Go.start (plainFor_of_name pn_1) #[vr s1, vi (0 : Int32), vi (64 : Int32)] n0 (by first | (simp [argsToLocals, Value.category, maxLocals]; done) | rfl) ?_
  intro p e s m below meth c s₁ Bd hx hby hml hZ hown X0 e0 N0
  have D := @dB _ _ hby _ D28
  refine ga X0 hx (D 0 rfl) rfl rfl ?_
  refine gi X0 hx (D 1 rfl) rfl ?_
  refine gi X0 hx (D 2 rfl) rfl ?_
  refine kS (W := 0) (C := 0) (S := 0) X0 hx hZ hown (wd hw 135 rfl) (wd hw 136 rfl) (wd hw 104 rfl) (wd hw 137 rfl) (rm29 l Z a0 hw [] s1 cs p1 G1 G3 h0 n0 Od A1 HS LS O4 rG3 O2 P5 S1 hk hbd op) pd_33 (D 3 rfl) e0 hml (by exact ⟨rfl, rfl, rfl, rfl⟩) (by decide) fun v239 T239 L239 Lc239 X239 hQ239 l239 => ?_
  obtain ⟨rfl, Nq239, e239⟩ := hQ239
  have N239 := l239 N0 Nq239
  exact Go.ret1 X239 hx Bd.returns Bd.notSynchronized rfl (Or.inl ⟨rfl, by simp, _, rfl⟩) (D 4 rfl) (by decide) (by decide) (by first | (rw [e239]; exact ⟨rfl, N239, rfl⟩) | exact ⟨rfl, N239, rfl⟩)
def Q_rm48 (Z : State) (s1 b1 : Addr) (cd : Int32) (h0 : Heap) (n0 : Nat) : Option Value → Heap → List Loc → Prop := fun v h L => v = none ∧ Fr n0 L ∧ Keep h0 h [s1] ∧ Fld Z h s1 "java/lang/String" "value" "[B" (.ref b1) ∧ Fld Z h s1 "java/lang/String" "coder" "B" (.int cd)
set_option maxRecDepth 65536 in
set_option maxHeartbeats 40000000 in
theorem rm48 (l : Launch) (Z : State) (a0 : Array Value) (hw : HW a0 Z) (ws : List Jvm.Cond) (s1 b1 : Addr) (cd : Int32) (h0 : Heap) (n0 : Nat) (E_s1 : Exa Z h0 s1 "java/lang/String") (F_value_s1 : Fld Z h0 s1 "java/lang/String" "value" "[B" .null) (F_coder_s1 : Fld Z h0 s1 "java/lang/String" "coder" "B" (.int 0)) (g_s1 : n0 ≤ s1) (h01 : cd = 0 ∨ cd = 1) :
    CT l (⟨"java/lang/String", "<init>", "([BB)V"⟩ : MethodName) jdk_42_method_151_code 3 none ws (⟨1, 0, 0, 12⟩ : Jvm.Room) #[(.ref s1), (.ref b1), (.int cd)] Z h0 (Q_rm48 Z s1 b1 cd h0 n0) := by
  refine Go.start (plainFor_of_name pn_1) #[vr s1, vr b1, vi cd] n0 (by first | (simp [argsToLocals, Value.category, maxLocals]; done) | rfl) ?_
  intro p e s m below meth c s₁ Bd hx hby hml hZ hown X0 e0 N0
  have hnm := (name_of_methodNamed Bd.named Bd.method).1
  have D := @dB _ _ hby _ D48
  have hnr : narrow .byte (.int cd) = .int cd := by rcases h01 with rfl | rfl <;> rfl
  have hfi : fits .byte (.int cd) = true := by rcases h01 with rfl | rfl <;> rfl
  have K0 : Keep h0 h0 [s1] := Keep.refl _ _
  refine ga X0 hx (D 0 rfl) rfl rfl ?_
  obtain ⟨T240, X240, e240, st240⟩ := initO X0 hx hZ hown (wd hw 20 rfl) (wd hw 21 rfl) (wd hw 22 rfl) e0 (g := (mkF m 1 #[vr s1, vr b1, vi cd] [(.ref s1)])) rfl (by rw [hml]; rfl) rfl (D 1 rfl) (by decide) (W := 0) (by show 2 * 0 + _ ≤ _; exact Nat.le_of_eq rfl) (by decide)
  refine Go.by (fun t => st240 t) ?_
  show Go p e below _ (T240.setTop (mkF m 4 #[vr s1, vr b1, vi cd] []))
  refine ga X240 hx (D 2 rfl) rfl rfl ?_
  refine ga X240 hx (D 3 rfl) rfl rfl ?_
  obtain ⟨T241, h241, X241, e241, W241, st241⟩ := putF X240 hx hZ hown (host := "") (Or.inl (wd hw 37 rfl)) Via.refl e240 F_value_s1 E_s1 (Or.inr ⟨(wd hw 38 rfl), rfl, hnm⟩) (wd hw 11 rfl) (ty := (.array .byte)) (by decide) rfl rfl (g := (mkF m 6 #[vr s1, vr b1, vi cd] [(.ref b1), (.ref s1)])) rfl rfl (D 4 rfl)
  refine Go.by (fun t => st241 t) ?_
  replace F_value_s1 := F_value_s1.same W241
  replace E_s1 := E_s1.wr W241
  replace F_coder_s1 := F_coder_s1.other W241 (Or.inr (slot_ne (Or.inr (wd hw 36 rfl)) (Or.inr (wd hw 38 rfl)) (by decide) (t := .byte) (t' := (.array .byte)) (by decide) (by decide)))
  replace K0 := K0.wr W241 (Or.inl (List.mem_of_getElem? (i := 0) rfl))
  have N241 := Fr.snoc X241 N0 g_s1
  show Go p e below _ (T241.setTop (mkF m 9 #[vr s1, vr b1, vi cd] []))
  refine ga X241 hx (D 5 rfl) rfl rfl ?_
  refine gi X241 hx (D 6 rfl) rfl ?_
  obtain ⟨T242, h242, X242, e242, W242, st242⟩ := putFN X241 hx hZ hown (wd hw 35 rfl) Via.refl e241 F_coder_s1 E_s1 (Or.inr ⟨(wd hw 36 rfl), rfl, hnm⟩) (wd hw 11 rfl) (ty := .byte) (v' := (.int cd)) (by decide) hnr hfi (g := (mkF m 11 #[vr s1, vr b1, vi cd] [(.int cd), (.ref s1)])) rfl rfl (D 7 rfl)
  refine Go.by (fun t => st242 t) ?_
  replace F_coder_s1 := F_coder_s1.same W242
  replace E_s1 := E_s1.wr W242
  replace F_value_s1 := F_value_s1.other W242 (Or.inr (slot_ne (Or.inr (wd hw 38 rfl)) (Or.inr (wd hw 36 rfl)) (by decide) (t := (.array .byte)) (t' := .byte) (by decide) (by decide)))
  replace K0 := K0.wr W242 (Or.inl (List.mem_of_getElem? (i := 0) rfl))
  have N242 := Fr.snoc X242 N241 g_s1
  show Go p e below _ (T242.setTop (mkF m 14 #[vr s1, vr b1, vi cd] []))
  exact Go.ret0 X242 hx Bd.returns Bd.notSynchronized (D 8 rfl) (by decide) (by decide) (by first | (rw [e242]; exact ⟨rfl, N242, K0, F_value_s1, F_coder_s1⟩) | exact ⟨rfl, N242, K0, F_value_s1, F_coder_s1⟩)
def Q_rm78 (Z : State) (t1 : Addr) (kt : ClassId) (cs : List Int32) (p1 : Nat) (h0 : Heap) (n0 : Nat) : Option Value → Heap → List Loc → Prop := fun v h L => ∃ r t : Addr, v = some (.ref r) ∧ Fr n0 L ∧ Keep h0 h [] ∧ h0.size ≤ r ∧ h0.size ≤ t ∧ StrT Z h r t (cs.take p1)
set_option maxRecDepth 65536 in
set_option maxHeartbeats 40000000 in
theorem rm78 (l : Launch) (Z : State) (a0 : Array Value) (hw : HW a0 Z) (ws : List Jvm.Cond) (t1 : Addr) (kt : ClassId) (cs : List Int32) (p1 : Nat) (h0 : Heap) (n0 : Nat) (Z0 : n0 ≤ h0.size) (Od : Old Z n0 h0) (V_t1 : Arv Z h0 t1 kt .byte (Int32.ofNat cs.length) (latL cs) (.int 0)) (la : LatP cs) (hk : cs.length ≤ 1000) (hp : 1 ≤ p1 ∧ p1 < cs.length) (hp2 : 2 * p1 ≤ 300) :
    CT l (⟨"java/lang/StringLatin1", "newString", "([BII)Ljava/lang/String;"⟩ : MethodName) jdk_43_method_47_code 3 (some (.object "java/lang/String")) ws (⟨3, 2, 304, 78⟩ : Jvm.Room) #[(.ref t1), (.int (0 : Int32)), (.int (Int32.ofNat p1))] Z h0 (Q_rm78 Z t1 kt cs p1 h0 n0) := by
  refine Go.start (plainFor_of_name pn_11) #[vr t1, vi (0 : Int32), vi (Int32.ofNat p1)] n0 (by first | (simp [argsToLocals, Value.category, maxLocals]; done) | rfl) ?_
  intro p e s m below meth c s₁ Bd hx hby hml hZ hown X0 e0 N0
  have D := @dB _ _ hby _ D78
  have K0 : Keep h0 h0 [] := Keep.refl _ _
  refine gi X0 hx (D 0 rfl) rfl ?_
  refine zY X0 hx 7 (D 1 rfl) ((if0 _ _).trans (feq (fun q => o_ne (a := 0) (b := p1) (by omega) (by omega) q.symm : ¬ ((Int32.ofNat p1) = (0 : Int32)))).2) (by decide) ?_
  obtain ⟨T243, h243, X243, e243, E243, A243, D243, -, st243⟩ := newO X0 hx hZ hown (wd hw 365 rfl) (wd hw 11 rfl) (wd hw 12 rfl) e0 (g := (mkF m 7 #[vr t1, vi (0 : Int32), vi (Int32.ofNat p1)] [])) rfl (D 4 rfl) (by decide) (by decide)
  obtain ⟨r, g243⟩ : ∃ z, z = h0.size := ⟨_, rfl⟩
  rw [← g243] at A243 D243 st243
  refine Go.by (fun t => st243 t) ?_
  have g_r : n0 ≤ r := Nat.le_trans Z0 (Nat.le_of_eq g243.symm)
  have sz_r : h0.size ≤ r := Nat.le_trans K0.1 (Nat.le_of_eq g243.symm)
  have ne_t1_r : t1 ≠ r := Nat.ne_of_lt (Nat.lt_of_lt_of_le V_t1.lt (Nat.le_of_eq g243.symm))
  replace Od := Od.ext E243
  replace V_t1 := V_t1.ext E243
  replace Z0 := Nat.le_trans Z0 E243.1
  replace K0 := K0.ext E243
  have E_r := A243
  have F_coder_r : Fld Z h243 r "java/lang/String" "coder" "B" (.int (0 : Int32)) := D243 (Or.inr (wd hw 36 rfl)) (ty := .byte) (by decide)
  have F_value_r : Fld Z h243 r "java/lang/String" "value" "[B" .null := D243 (Or.inr (wd hw 38 rfl)) (ty := (.array .byte)) (by decide)
  replace X243 := Stand.num (C := 1) (S := 4) X243 rfl rfl
  show Go p e below _ (T243.setTop (mkF m 10 #[vr t1, vi (0 : Int32), vi (Int32.ofNat p1)] [(.ref r)]))
  refine gq (XS.dup X243.here hx rfl (D 5 rfl) rfl rfl) rfl ?_
  refine ga X243 hx (D 6 rfl) rfl rfl ?_
  refine gi X243 hx (D 7 rfl) rfl ?_
  refine gi X243 hx (D 8 rfl) rfl ?_
  refine gi X243 hx (D 9 rfl) rfl ?_
  refine gq (XS.iadd X243.here hx rfl (D 10 rfl) rfl) rfl ?_
  show Go p e below _ (T243.setTop (mkF m 16 #[vr t1, vi (0 : Int32), vi (Int32.ofNat p1)] [(.int ((0 : Int32) + (Int32.ofNat p1))), (.int (0 : Int32)), (.ref t1), (.ref r), (.ref r)]))
  rw [Int32.zero_add (Int32.ofNat p1)]
  have V_t2 := arv_eq V_t1 (lat_cut cs p1)
  have hlp : (latL (cs.take p1)).length = p1 := by rw [lat_len, List.length_take]; omega
  refine kS (W := 2) (C := 2) (S := 304) X243 hx hZ hown (wd hw 366 rfl) (wd hw 200 rfl) (wd hw 201 rfl) (wd hw 202 rfl) (rmRG l Z a0 hw [] t1 kt (latL (cs.take p1)) (latL (cs.drop p1)) (Int32.ofNat cs.length) (Int32.ofNat p1) h243 n0 Z0 Od V_t2 (by rw [hlp]; exact o_nat (by omega)) (o_nn (by omega)) ((o_lt (by omega) (by omega)).2 hp.2) (by rw [hlp, o_nat (by omega)]; omega) (by rw [hlp]; omega)) pd_40 (D 11 rfl) e243 hml (by exact ⟨rfl, rfl, rfl, rfl⟩) (by decide) fun v244 T244 L244 Lc244 X244 hQ244 l244 => ?_
  clear V_t2
  obtain ⟨b, k_b, rfl, sz_b, Nq244, K244, V_b⟩ := hQ244
  have g_b : n0 ≤ b := Nat.le_trans Z0 sz_b
  have ne_r_b : r ≠ b := Nat.ne_of_lt (Nat.lt_of_lt_of_le E_r.lt sz_b)
  have ne_t1_b : t1 ≠ b := Nat.ne_of_lt (Nat.lt_of_lt_of_le V_t1.lt sz_b)
  replace sz_b : h0.size ≤ b := Nat.le_trans K0.1 sz_b
  have N244 := l244 N0 Nq244
  replace Od := Od.keep K244 all0
  replace V_t1 := V_t1.keep K244 nin0
  replace E_r := E_r.keep K244
  replace F_coder_r := F_coder_r.keep K244 nin0
  replace F_value_r := F_value_r.keep K244 nin0
  replace Z0 := Nat.le_trans Z0 K244.1
  replace K0 := K0.trans K244 all0
  refine gk X244 hx 0 (D 12 rfl) rfl ?_
  refine kI (W := 1) (C := 2) (S := 304) X244 hx hZ hown (wd hw 367 rfl) (wd hw 220 rfl) (wd hw 12 rfl) (wd hw 221 rfl) (rm48 l Z a0 hw [] r b 0 T244.heap n0 E_r F_value_r F_coder_r g_r (Or.inl rfl)) pd_41 (D 13 rfl) rfl hml (by exact ⟨rfl, rfl, rfl, rfl⟩) (by decide) fun v245 T245 L245 Lc245 X245 hQ245 l245 => ?_
  obtain ⟨rfl, Nq245, K245, Fv, Fc⟩ := hQ245
  have N245 := l245 N244 Nq245
  replace E_r := E_r.keep K245
  replace V_b := V_b.keep K245 (ninS (Ne.symm ne_r_b) nin0)
  replace Z0 := Nat.le_trans Z0 K245.1
  replace K0 := K0.trans K245 (allS (P := fun x => x ∈ _ ∨ _ ≤ x) (Or.inr sz_r) all0)
  have hlt : (cs.take p1).length = p1 := by rw [List.length_take]; omega
  exact Go.ret1 X245 hx Bd.returns Bd.notSynchronized rfl (Or.inr (Or.inr (Or.inr (Or.inr ⟨rfl, rfl, rfl⟩)))) (D 14 rfl) (by decide) (by decide) ⟨r, b, rfl, N245, K0, sz_r, sz_b, k_b, E_r, Fv, Or.inl ⟨Fc, fun c hc => la c (List.mem_of_mem_take hc), by rw [hlt]; exact V_b⟩⟩
def Q_rm40 (Z : State) (a1 b1 : Addr) (ka kb : ClassId) (cs qs rest : List Int32) (G3 : Value) (h0 : Heap) (n0 : Nat) : Option Value → Heap → List Loc → Prop := fun v h L => Fr n0 L ∧ Keep h0 h [b1] ∧ ((v = some (.int (Int32.ofNat qs.length)) ∧ (∀ c ∈ qs, ¬ (255 : Int32) < c) ∧ Arv Z h b1 kb .byte (Int32.ofNat qs.length) (latL qs) (.int 0)) ∨ ∃ us cx ws, qs = us ++ cx :: ws ∧ (255 : Int32) < cx ∧ v = some (.int (Int32.ofNat us.length)))
set_option maxRecDepth 65536 in
set_option maxHeartbeats 40000000 in
theorem rm40 (l : Launch) (Z : State) (a0 : Array Value) (hw : HW a0 Z) (ws : List Jvm.Cond) (a1 b1 : Addr) (ka kb : ClassId) (cs qs rest : List Int32) (G3 : Value) (h0 : Heap) (n0 : Nat) (Od : Old Z n0 h0) (A1 : SA1 Z) (HS : SHS Z) (LS : SLS Z) (O4 : SO4 Z G3) (rG3 : G3.isRef = true) (V_a1 : Arv Z h0 a1 ka .byte (Int32.ofNat (2 * cs.length)) (utfL cs) (.int 0)) (g_b1 : n0 ≤ b1) (V_b1 : Arv Z h0 b1 kb .byte (Int32.ofNat qs.length) (List.replicate qs.length (.int 0)) (.int 0)) (ne_a1_b1 : a1 ≠ b1) (hk : cs.length ≤ 1000) (hbd : ∀ c ∈ cs, ¬ c < 0 ∧ ¬ (65535 : Int32) < c) (hq : cs = qs ++ rest) :
    CT l (⟨"java/lang/StringUTF16", "compress", "([BI[BII)I"⟩ : MethodName) jdk_52_method_22_code 7 (some .int) ws (⟨3, 0, 0, 50⟩ : Jvm.Room) #[(.ref a1), (.int (0 : Int32)), (.ref b1), (.int (0 : Int32)), (.int (Int32.ofNat qs.length))] Z h0 (Q_rm40 Z a1 b1 ka kb cs qs rest G3 h0 n0) := by
  refine Go.start (plainFor_of_name pn_2) #[vr a1, vi (0 : Int32), vr b1, vi (0 : Int32), vi (Int32.ofNat qs.length), uu, uu] n0 (by first | (simp [argsToLocals, Value.category, maxLocals]; done) | rfl) ?_
  intro p e s m below meth c s₁ Bd hx hby hml hZ hown X0 e0 N0
  have D := @dB _ _ hby _ D40
  have hql : cs.length = qs.length + rest.length := by rw [hq, List.length_append]
  have K0 : Keep h0 h0 [b1] := Keep.refl _ _
  refine gi X0 hx (D 0 rfl) rfl ?_
  refine gI X0 hx (D 1 rfl) rfl ?_
  refine ga X0 hx (D 2 rfl) rfl rfl ?_
  refine kS (W := 0) (C := 0) (S := 0) X0 hx hZ hown (wd hw 190 rfl) (wd hw 191 rfl) (wd hw 26 rfl) (wd hw 192 rfl) (rm41 l Z a0 hw [] a1 ka (Int32.ofNat (2 * cs.length)) _ 0 (Int32.ofNat qs.length) (Int32.ofNat cs.length) G3 h0 n0 Od O4 rG3 V_a1 (o_shr (by omega)) (or_nn (by omega) (by omega)) (by rw [Int32.sub_zero, o_lt (by omega) (by omega)]; omega)) pd_30 (D 3 rfl) e0 hml (by exact ⟨rfl, rfl, rfl, rfl⟩) (by decide) fun v246 T246 L246 Lc246 X246 hQ246 l246 => ?_
  obtain ⟨rfl, Nq246, e246⟩ := hQ246
  have N246 := l246 N0 Nq246
  refine gk X246 hx 0 (D 4 rfl) rfl ?_
  refine gT X246 hx #[vr a1, vi (0 : Int32), vr b1, vi (0 : Int32), vi (Int32.ofNat qs.length), vi (0 : Int32), uu] (D 5 rfl) rfl ?_
  replace K0 : Keep h0 T246.heap [b1] := by rw [e246]; exact K0
  replace Od : Old Z n0 T246.heap := by rw [e246]; exact Od
  replace V_a1 : Arv Z T246.heap a1 ka .byte (Int32.ofNat (2 * cs.length)) (utfL cs) (.int 0) := by rw [e246]; exact V_a1
  replace V_b1 : Arv Z T246.heap b1 kb .byte (Int32.ofNat qs.length) (List.replicate qs.length (.int 0)) (.int 0) := by rw [e246]; exact V_b1
  have loop : ∀ (ws us : List Int32) (sl6 : Slot) (hsl6 : One sl6) (Tl : State) (Ll : List Loc) (hqs : qs = us ++ ws) (hla : ∀ c ∈ us, ¬ (255 : Int32) < c) (Xl : Stand p l e (⟨3, 0, 0, 50⟩ : Jvm.Room) s m #[(.ref a1), (.int (0 : Int32)), (.ref b1), (.int (0 : Int32)), (.int (Int32.ofNat qs.length))] below meth c Tl Ll 0 0) (Nl : Fr n0 Ll) (K0 : Keep h0 Tl.heap [b1]) (Od : Old Z n0 Tl.heap) (V_a1 : Arv Z Tl.heap a1 ka .byte (Int32.ofNat (2 * cs.length)) (utfL cs) (.int 0)) (V_b1 : Arv Z Tl.heap b1 kb .byte (Int32.ofNat qs.length) (latL us ++ List.replicate ws.length (.int 0)) (.int 0)), Go p e below (End (fun v h L => Fr n0 L ∧ Keep h0 h [b1] ∧ ((v = some (.int (Int32.ofNat qs.length)) ∧ (∀ c ∈ qs, ¬ (255 : Int32) < c) ∧ Arv Z h b1 kb .byte (Int32.ofNat qs.length) (latL qs) (.int 0)) ∨ ∃ us cx ws, qs = us ++ cx :: ws ∧ (255 : Int32) < cx ∧ v = some (.int (Int32.ofNat us.length)))) s 0 0) (Tl.setTop (mkF m 10 #[vr a1, vi (Int32.ofNat us.length), vr b1, vi (Int32.ofNat us.length), vi (Int32.ofNat qs.length), vi (Int32.ofNat us.length), sl6] [])) := by
    intro ws
    induction ws with
    | nil =>
      intro us sl6 hsl6 Tl Ll hqs hla Xl Nl K0 Od V_a1 V_b1
      have hu : us = qs := by rw [hqs, List.append_nil]
      refine gI Xl hx (D 6 rfl) rfl ?_
      refine gI Xl hx (D 7 rfl) rfl ?_
      refine cY Xl hx 53 (D 8 rfl) (flt (by rw [hu]; exact Int32.lt_irrefl : ¬ ((Int32.ofNat us.length) < (Int32.ofNat qs.length)))).2.1 (by decide) ?_
      refine gI Xl hx (D 27 rfl) rfl ?_
      have V_f : Arv Z Tl.heap b1 kb .byte (Int32.ofNat qs.length) (latL us ++ []) (.int 0) := V_b1
      rw [List.append_nil, hu] at V_f
      rw [hu] at hla
      exact Go.ret1 Xl hx Bd.returns Bd.notSynchronized rfl (Or.inl ⟨rfl, by simp, _, rfl⟩) (D 28 rfl) (by decide) (by decide) ⟨Nl, K0, Or.inl ⟨rfl, hla, V_f⟩⟩
    | cons cx ws ih =>
      intro us sl6 hsl6 Tl Ll hqs hla Xl Nl K0 Od V_a1 V_b1
      have hn : qs.length = us.length + (ws.length + 1) := by rw [hqs, List.length_append, List.length_cons]
      have hc1 : cs = us ++ cx :: (ws ++ rest) := by rw [hq, hqs, List.append_assoc]; rfl
      refine gI Xl hx (D 6 rfl) rfl ?_
      refine gI Xl hx (D 7 rfl) rfl ?_
      refine cN Xl hx (D 8 rfl) (tlt ((o_lt (by omega) (by omega)).2 (by omega) : (Int32.ofNat us.length) < (Int32.ofNat qs.length))).2.1 ?_
      refine ga Xl hx (D 9 rfl) rfl rfl ?_
      refine gi Xl hx (D 10 rfl) rfl ?_
      refine kS (W := 0) (C := 0) (S := 0) Xl hx hZ hown (wd hw 93 rfl) (wd hw 94 rfl) (wd hw 26 rfl) (wd hw 95 rfl) (rm21 l Z a0 hw [] a1 ka (Int32.ofNat (2 * cs.length)) _ (Int32.ofNat us.length) (Int32.ofNat (2 * us.length)) (lo16 cx) (hi16 cx) cx Tl.heap n0 Od A1 HS LS V_a1 (o_shl _) (o_in (by omega) (by omega)) (by rw [o_one]; exact o_in (by omega) (by omega)) (utf_at hc1 (by omega)).1 (utf_at hc1 (by omega)).2 (cc16 (hbd _ (mem_mid hc1)))) pd_11 (D 11 rfl) rfl hml (by exact ⟨rfl, rfl, rfl, rfl⟩) (by decide) fun v247 T247 L247 Lc247 X247 hQ247 l247 => ?_
      obtain ⟨rfl, Nq247, e247⟩ := hQ247
      have N247 := l247 Nl Nq247
      refine gT X247 hx #[vr a1, vi (Int32.ofNat us.length), vr b1, vi (Int32.ofNat us.length), vi (Int32.ofNat qs.length), vi (Int32.ofNat us.length), vi cx] (D 12 rfl) (by rcases hsl6 with rfl | ⟨wz, rfl, hwz⟩ <;> first | rfl | (cases wz <;> first | rfl | (simp [Value.category] at hwz))) ?_
      refine gI X247 hx (D 13 rfl) rfl ?_
      refine gs X247 hx 255 (D 14 rfl) rfl ?_
      by_cases gt : (255 : Int32) < cx
      ·
        refine cN X247 hx (D 15 rfl) (tlt gt).2.2.2 ?_
        refine gI X247 hx (D 16 rfl) rfl ?_
        exact Go.ret1 X247 hx Bd.returns Bd.notSynchronized rfl (Or.inl ⟨rfl, by simp, _, rfl⟩) (D 17 rfl) (by decide) (by decide) (by first | (rw [e247]; exact ⟨N247, K0, Or.inr ⟨us, cx, ws, hqs, gt, rfl⟩⟩) | exact ⟨N247, K0, Or.inr ⟨us, cx, ws, hqs, gt, rfl⟩⟩)
      refine cY X247 hx 35 (D 15 rfl) (flt gt).2.2.2 (by decide) ?_
      refine ga X247 hx (D 18 rfl) rfl rfl ?_
      refine gi X247 hx (D 19 rfl) rfl ?_
      refine gI X247 hx (D 20 rfl) rfl ?_
      refine gq (XS.i2b X247.here hx rfl (D 21 rfl) rfl) rfl ?_
      refine sB X247 hx hZ e247 V_b1 (o_in (by omega) (by omega)) us.length (o_nat (by omega)) (by rw [List.length_append, lat_len, List.length_replicate, List.length_cons]; omega) _ (rfl) (D 22 rfl) fun T248 h248 X248 e248 W248 Vn248 => ?_
      replace V_b1 := Vn248
      clear Vn248
      replace Od := Od.wr W248 g_b1
      replace V_a1 := V_a1.other W248 ne_a1_b1
      replace K0 := K0.wr W248 (Or.inl (List.mem_of_getElem? (i := 0) rfl))
      have N248 := Fr.snoc X248 N247 g_b1
      replace V_b1 := arv_eq V_b1 (lat_put us cx ws.length _ (nar_i8 cx))
      refine gn X248 hx #[vr a1, vi ((Int32.ofNat us.length) + (1 : Int32)), vr b1, vi (Int32.ofNat us.length), vi (Int32.ofNat qs.length), vi (Int32.ofNat us.length), vi cx] (D 23 rfl) rfl rfl ?_
      refine gn X248 hx #[vr a1, vi ((Int32.ofNat us.length) + (1 : Int32)), vr b1, vi ((Int32.ofNat us.length) + (1 : Int32)), vi (Int32.ofNat qs.length), vi (Int32.ofNat us.length), vi cx] (D 24 rfl) rfl rfl ?_
      refine gn X248 hx #[vr a1, vi ((Int32.ofNat us.length) + (1 : Int32)), vr b1, vi ((Int32.ofNat us.length) + (1 : Int32)), vi (Int32.ofNat qs.length), vi ((Int32.ofNat us.length) + (1 : Int32)), vi cx] (D 25 rfl) rfl rfl ?_
      refine gg X248 hx 10 (D 26 rfl) (by decide) ?_
      subst e248
      show Go p e below _ (T248.setTop (mkF m 10 #[vr a1, vi ((Int32.ofNat us.length) + (1 : Int32)), vr b1, vi ((Int32.ofNat us.length) + (1 : Int32)), vi (Int32.ofNat qs.length), vi ((Int32.ofNat us.length) + (1 : Int32)), vi cx] []))
      rw [snoc_len us cx]
      exact ih (us ++ [cx]) _ (One.val rfl) _ _ (snoc_app hqs) (all_snoc hla gt) X248 N248 K0 Od V_a1 V_b1
  exact loop qs [] _ One.u _ _ rfl (fun _ h => nomatch h) X246 N246 K0 Od V_a1 V_b1
def Q_rm39 (Z : State) (a1 : Addr) (ka : ClassId) (cs qs rest : List Int32) (G3 : Value) (h0 : Heap) (n0 : Nat) : Option Value → Heap → List Loc → Prop := fun v h L => ∃ (b : Addr) (kb : ClassId), v = some (.ref b) ∧ h0.size ≤ b ∧ Fr n0 L ∧ Keep h0 h [] ∧ (((∀ c ∈ qs, ¬ (255 : Int32) < c) ∧ Arv Z h b kb .byte (Int32.ofNat qs.length) (latL qs) (.int 0)) ∨ ((∃ c ∈ qs, (255 : Int32) < c) ∧ Arv Z h b kb .byte (Int32.ofNat (2 * qs.length)) (utfL qs) (.int 0)))
set_option maxRecDepth 65536 in
set_option maxHeartbeats 40000000 in
theorem rm39 (l : Launch) (Z : State) (a0 : Array Value) (hw : HW a0 Z) (ws : List Jvm.Cond) (a1 : Addr) (ka : ClassId) (cs qs rest : List Int32) (G3 : Value) (h0 : Heap) (n0 : Nat) (Z0 : n0 ≤ h0.size) (Od : Old Z n0 h0) (A1 : SA1 Z) (HS : SHS Z) (LS : SLS Z) (O4 : SO4 Z G3) (rG3 : G3.isRef = true) (V_a1 : Arv Z h0 a1 ka .byte (Int32.ofNat (2 * cs.length)) (utfL cs) (.int 0)) (hk : cs.length ≤ 1000) (hbd : ∀ c ∈ cs, ¬ c < 0 ∧ ¬ (65535 : Int32) < c) (hq : cs = qs ++ rest) (hp : 1 ≤ qs.length ∧ qs.length < cs.length) (hp2 : 2 * qs.length ≤ 300) :
    CT l (⟨"java/lang/StringUTF16", "compress", "([BII)[B"⟩ : MethodName) jdk_52_method_17_code 6 (some (.array .byte)) ws (⟨4, 2, 600, 72⟩ : Jvm.Room) #[(.ref a1), (.int (0 : Int32)), (.int (Int32.ofNat qs.length))] Z h0 (Q_rm39 Z a1 ka cs qs rest G3 h0 n0) := by
  refine Go.start (plainFor_of_name pn_2) #[vr a1, vi (0 : Int32), vi (Int32.ofNat qs.length), uu, uu, uu] n0 (by first | (simp [argsToLocals, Value.category, maxLocals]; done) | rfl) ?_
  intro p e s m below meth c s₁ Bd hx hby hml hZ hown X0 e0 N0
  have D := @dB _ _ hby _ D39
  have hql : cs.length = qs.length + rest.length := by rw [hq, List.length_append]
  have K0 : Keep h0 h0 [] := Keep.refl _ _
  refine gi X0 hx (D 0 rfl) rfl ?_
  obtain ⟨T249, h249, k249, X249, e249, E249, A249, st249⟩ := newP X0 hx hZ (wd hw 28 rfl) e0 (g := (mkF m 1 #[vr a1, vi (0 : Int32), vi (Int32.ofNat qs.length), uu, uu, uu] [(.int (Int32.ofNat qs.length))])) rfl (D 1 rfl) rfl (o_nn (by omega)) (cap := 300) (by rw [o_nat (by omega)]; omega) (by decide) (by decide) (by decide)
  obtain ⟨lb, g249⟩ : ∃ z, z = h0.size := ⟨_, rfl⟩
  rw [← g249] at A249 st249
  refine Go.by (fun t => st249 t) ?_
  have g_lb : n0 ≤ lb := Nat.le_trans Z0 (Nat.le_of_eq g249.symm)
  have sz_lb : h0.size ≤ lb := Nat.le_trans K0.1 (Nat.le_of_eq g249.symm)
  have ne_a1_lb : a1 ≠ lb := Nat.ne_of_lt (Nat.lt_of_lt_of_le V_a1.lt (Nat.le_of_eq g249.symm))
  replace Od := Od.ext E249
  replace V_a1 := V_a1.ext E249
  replace Z0 := Nat.le_trans Z0 E249.1
  replace K0 := K0.ext E249
  have V_lb := Arv.new A249 (o_nn (by omega))
  replace X249 := Stand.num (C := 1) (S := 300) X249 rfl rfl
  show Go p e below _ (T249.setTop (mkF m 3 #[vr a1, vi (0 : Int32), vi (Int32.ofNat qs.length), uu, uu, uu] [(.ref lb)]))
  replace V_lb : Arv Z h249 lb k249 .byte (Int32.ofNat qs.length) (List.replicate qs.length (.int 0)) (.int 0) := V_lb.pad (pad_rep [] _ qs.length)
  refine gu X249 hx #[vr a1, vi (0 : Int32), vi (Int32.ofNat qs.length), vr lb, uu, uu] (D 2 rfl) rfl rfl ?_
  refine ga X249 hx (D 3 rfl) rfl rfl ?_
  refine gi X249 hx (D 4 rfl) rfl ?_
  refine ga X249 hx (D 5 rfl) rfl rfl ?_
  refine gk X249 hx 0 (D 6 rfl) rfl ?_
  refine gi X249 hx (D 7 rfl) rfl ?_
  refine kS (W := 0) (C := 1) (S := 300) X249 hx hZ hown (wd hw 187 rfl) (wd hw 188 rfl) (wd hw 26 rfl) (wd hw 189 rfl) (rm40 l Z a0 hw [] a1 lb ka _ cs qs rest G3 h249 n0 Od A1 HS LS O4 rG3 V_a1 g_lb V_lb ne_a1_lb hk hbd hq) pd_12 (D 8 rfl) e249 hml (by exact ⟨rfl, rfl, rfl, rfl⟩) (by decide) fun v250 T250 L250 Lc250 X250 hQ250 l250 => ?_
  obtain ⟨Nq250, K250, ⟨rfl, hla, Vl⟩ | ⟨us, cx, ws, hqs, gt, rfl⟩⟩ := hQ250
  ·
    have N250 := l250 N0 Nq250
    replace Od := Od.keep K250 (allS g_lb all0)
    replace V_a1 := V_a1.keep K250 (ninS ne_a1_lb nin0)
    replace Z0 := Nat.le_trans Z0 K250.1
    replace K0 := K0.trans K250 (allS (P := fun x => x ∈ _ ∨ _ ≤ x) (Or.inr sz_lb) all0)
    refine gT X250 hx #[vr a1, vi (0 : Int32), vi (Int32.ofNat qs.length), vr lb, vi (Int32.ofNat qs.length), uu] (D 9 rfl) rfl ?_
    refine gI X250 hx (D 10 rfl) rfl ?_
    refine gi X250 hx (D 11 rfl) rfl ?_
    refine cY X250 hx 64 (D 12 rfl) (teq (rfl : (Int32.ofNat qs.length) = (Int32.ofNat qs.length))).1 (by decide) ?_
    refine ga X250 hx (D 38 rfl) rfl rfl ?_
    exact Go.ret1 X250 hx Bd.returns Bd.notSynchronized rfl (Or.inr (Or.inr (Or.inr (Or.inr ⟨rfl, rfl, rfl⟩)))) (D 39 rfl) (by decide) (by decide) ⟨lb, _, rfl, sz_lb, N250, K0, Or.inl ⟨hla, Vl⟩⟩
  ·
    have hlt : us.length < qs.length := by rw [hqs, List.length_append, List.length_cons]; omega
    have hc1 : cs = us ++ cx :: (ws ++ rest) := by rw [hq, hqs, List.append_assoc]; rfl
    have N250 := l250 N0 Nq250
    replace Od := Od.keep K250 (allS g_lb all0)
    replace V_a1 := V_a1.keep K250 (ninS ne_a1_lb nin0)
    replace Z0 := Nat.le_trans Z0 K250.1
    replace K0 := K0.trans K250 (allS (P := fun x => x ∈ _ ∨ _ ≤ x) (Or.inr sz_lb) all0)
    refine gT X250 hx #[vr a1, vi (0 : Int32), vi (Int32.ofNat qs.length), vr lb, vi (Int32.ofNat us.length), uu] (D 9 rfl) rfl ?_
    refine gI X250 hx (D 10 rfl) rfl ?_
    refine gi X250 hx (D 11 rfl) rfl ?_
    refine cN X250 hx (D 12 rfl) (feq (o_ne hlt (by omega) : ¬ ((Int32.ofNat us.length) = (Int32.ofNat qs.length)))).1 ?_
    refine ga X250 hx (D 13 rfl) rfl rfl ?_
    refine gi X250 hx (D 14 rfl) rfl ?_
    refine gk X250 hx 1 (D 15 rfl) rfl ?_
    refine gq (XS.ishl X250.here hx rfl (D 16 rfl) rfl) rfl ?_
    show Go p e below _ (T250.setTop (mkF m 24 #[vr a1, vi (0 : Int32), vi (Int32.ofNat qs.length), vr lb, vi (Int32.ofNat us.length), uu] [(.int ((0 : Int32) <<< ((1 : Int32) &&& 31))), (.ref a1)]))
    rw [show ((0 : Int32) <<< ((1 : Int32) &&& 31)) = (0 : Int32) from by decide]
    refine gi X250 hx (D 17 rfl) rfl ?_
    refine gi X250 hx (D 18 rfl) rfl ?_
    refine gq (XS.iadd X250.here hx rfl (D 19 rfl) rfl) rfl ?_
    show Go p e below _ (T250.setTop (mkF m 27 #[vr a1, vi (0 : Int32), vi (Int32.ofNat qs.length), vr lb, vi (Int32.ofNat us.length), uu] [(.int ((0 : Int32) + (Int32.ofNat qs.length))), (.int (0 : Int32)), (.ref a1)]))
    rw [Int32.zero_add (Int32.ofNat qs.length)]
    refine kS (W := 2) (C := 1) (S := 300) X250 hx hZ hown (wd hw 83 rfl) (wd hw 84 rfl) (wd hw 26 rfl) (wd hw 85 rfl) (rm19 l Z a0 hw [] (Int32.ofNat qs.length) (Int32.ofNat (2 * qs.length)) T250.heap n0 (o_nn (by omega)) ((o_lt (b := 1073741823) (by omega) (by decide)).2 (by omega)) (o_shl _)) pd_27 (D 20 rfl) rfl hml (by exact ⟨rfl, rfl, rfl, rfl⟩) (by decide) fun v251 T251 L251 Lc251 X251 hQ251 l251 => ?_
    obtain ⟨rfl, Nq251, e251⟩ := hQ251
    have N251 := l251 N250 Nq251
    have V_a2 := arv_eq V_a1 (show utfL cs = utfL qs ++ utfL rest by rw [hq, utf_app])
    refine kS (W := 0) (C := 2) (S := 600) X251 hx hZ hown (wd hw 199 rfl) (wd hw 200 rfl) (wd hw 201 rfl) (wd hw 202 rfl) (rmRG l Z a0 hw [] a1 ka (utfL qs) (utfL rest) (Int32.ofNat (2 * cs.length)) (Int32.ofNat (2 * qs.length)) T250.heap n0 Z0 Od V_a2 (by rw [utf_len]; exact o_nat (by omega)) (o_nn (by omega)) ((o_lt (by omega) (by omega)).2 (by omega)) (by rw [utf_len, o_nat (by omega)]; omega) (by rw [utf_len]; omega)) pd_40 (D 21 rfl) e251 hml (by exact ⟨rfl, rfl, rfl, rfl⟩) (by decide) fun v252 T252 L252 Lc252 X252 hQ252 l252 => ?_
    clear V_a2
    obtain ⟨b, k_b, rfl, sz_b, Nq252, K252, V_b⟩ := hQ252
    have g_b : n0 ≤ b := Nat.le_trans Z0 sz_b
    have ne_a1_b : a1 ≠ b := Nat.ne_of_lt (Nat.lt_of_lt_of_le V_a1.lt sz_b)
    replace sz_b : h0.size ≤ b := Nat.le_trans K0.1 sz_b
    have N252 := l252 N251 Nq252
    replace Od := Od.keep K252 all0
    replace V_a1 := V_a1.keep K252 nin0
    replace Z0 := Nat.le_trans Z0 K252.1
    replace K0 := K0.trans K252 all0
    refine gU X252 hx #[vr a1, vi (0 : Int32), vi (Int32.ofNat qs.length), vr lb, vi (Int32.ofNat us.length), vr b] (D 22 rfl) rfl rfl ?_
    refine gA X252 hx (D 23 rfl) rfl rfl ?_
    refine gI X252 hx (D 24 rfl) rfl ?_
    refine kS (W := 0) (C := 2) (S := 600) X252 hx hZ hown (wd hw 93 rfl) (wd hw 94 rfl) (wd hw 26 rfl) (wd hw 95 rfl) (rm21 l Z a0 hw [] b k_b (Int32.ofNat (2 * qs.length)) _ (Int32.ofNat us.length) (Int32.ofNat (2 * us.length)) (lo16 cx) (hi16 cx) cx T252.heap n0 Od A1 HS LS V_b (o_shl _) (o_in (by omega) (by omega)) (by rw [o_one]; exact o_in (by omega) (by omega)) (utf_at hqs (by omega)).1 (utf_at hqs (by omega)).2 (cc16 (hbd _ (mem_mid hc1)))) pd_11 (D 25 rfl) rfl hml (by exact ⟨rfl, rfl, rfl, rfl⟩) (by decide) fun v253 T253 L253 Lc253 X253 hQ253 l253 => ?_
    obtain ⟨rfl, Nq253, e253⟩ := hQ253
    have N253 := l253 N252 Nq253
    refine gs X253 hx 255 (D 26 rfl) rfl ?_
    refine cY X253 hx 61 (D 27 rfl) (tlt gt).2.2.1 (by decide) ?_
    refine gA X253 hx (D 36 rfl) rfl rfl ?_
    exact Go.ret1 X253 hx Bd.returns Bd.notSynchronized rfl (Or.inr (Or.inr (Or.inr (Or.inr ⟨rfl, rfl, rfl⟩)))) (D 37 rfl) (by decide) (by decide) (by first | (rw [e253]; exact ⟨b, k_b, rfl, sz_b, N253, K0, Or.inr ⟨⟨cx, mem_mid hqs, gt⟩, V_b⟩⟩) | exact ⟨b, k_b, rfl, sz_b, N253, K0, Or.inr ⟨⟨cx, mem_mid hqs, gt⟩, V_b⟩⟩)
def Q_rm38 (Z : State) (t1 : Addr) (kt : ClassId) (cs : List Int32) (p1 : Nat) (G1 : Int32) (G3 : Value) (h0 : Heap) (n0 : Nat) : Option Value → Heap → List Loc → Prop := fun v h L => ∃ r t : Addr, v = some (.ref r) ∧ Fr n0 L ∧ Keep h0 h [] ∧ h0.size ≤ r ∧ h0.size ≤ t ∧ StrT Z h r t (cs.take p1)
set_option maxRecDepth 65536 in
set_option maxHeartbeats 40000000 in
theorem rm38 (l : Launch) (Z : State) (a0 : Array Value) (hw : HW a0 Z) (ws : List Jvm.Cond) (t1 : Addr) (kt : ClassId) (cs : List Int32) (p1 : Nat) (G1 : Int32) (G3 : Value) (h0 : Heap) (n0 : Nat) (Z0 : n0 ≤ h0.size) (Od : Old Z n0 h0) (A1 : SA1 Z) (HS : SHS Z) (LS : SLS Z) (O4 : SO4 Z G3) (rG3 : G3.isRef = true) (O2 : SO2 Z G1) (P5 : ¬ (G1 = (0 : Int32))) (V_t1 : Arv Z h0 t1 kt .byte (Int32.ofNat (2 * cs.length)) (utfL cs) (.int 0)) (hk : cs.length ≤ 1000) (hbd : ∀ c ∈ cs, ¬ c < 0 ∧ ¬ (65535 : Int32) < c) (hp : 1 ≤ p1 ∧ p1 < cs.length) (hp2 : 2 * p1 ≤ 300) :
    CT l (⟨"java/lang/StringUTF16", "newString", "([BII)Ljava/lang/String;"⟩ : MethodName) jdk_52_method_69_code 5 (some (.object "java/lang/String")) ws (⟨5, 3, 604, 92⟩ : Jvm.Room) #[(.ref t1), (.int (0 : Int32)), (.int (Int32.ofNat p1))] Z h0 (Q_rm38 Z t1 kt cs p1 G1 G3 h0 n0) := by
  refine Go.start (plainFor_of_name pn_2) #[vr t1, vi (0 : Int32), vi (Int32.ofNat p1), uu, uu] n0 (by first | (simp [argsToLocals, Value.category, maxLocals]; done) | rfl) ?_
  intro p e s m below meth c s₁ Bd hx hby hml hZ hown X0 e0 N0
  have D := @dB _ _ hby _ D38
  have K0 : Keep h0 h0 [] := Keep.refl _ _
  refine gi X0 hx (D 0 rfl) rfl ?_
  refine zY X0 hx 8 (D 1 rfl) ((if0 _ _).trans (feq (fun q => o_ne (a := 0) (b := p1) (by omega) (by omega) q.symm : ¬ ((Int32.ofNat p1) = (0 : Int32)))).2) (by decide) ?_
  refine gS X0 hx hZ hown (wd hw 183 rfl) e0 (O2.ext Od.2) (D 4 rfl) fun T254 X254 e254 => ?_
  refine zN X254 hx (D 5 rfl) ((if0 _ _).trans (feq P5).1) ?_
  refine ga X254 hx (D 6 rfl) rfl rfl ?_
  refine gi X254 hx (D 7 rfl) rfl ?_
  refine gi X254 hx (D 8 rfl) rfl ?_
  have hlq : (cs.take p1).length = p1 := by rw [List.length_take]; omega
  rw [show (Int32.ofNat p1) = Int32.ofNat (cs.take p1).length from by rw [hlq]]
  refine kS (W := 0) (C := 2) (S := 600) X254 hx hZ hown (wd hw 184 rfl) (wd hw 185 rfl) (wd hw 26 rfl) (wd hw 186 rfl) (rm39 l Z a0 hw [] t1 kt cs (cs.take p1) (cs.drop p1) G3 h0 n0 Z0 Od A1 HS LS O4 rG3 V_t1 hk hbd (List.take_append_drop p1 cs).symm (by rw [hlq]; exact hp) (by rw [hlq]; exact hp2)) pd_40 (D 9 rfl) e254 hml (by exact ⟨rfl, rfl, rfl, rfl⟩) (by decide) fun v255 T255 L255 Lc255 X255 hQ255 l255 => ?_
  obtain ⟨b, k_b, rfl, sz_b, Nq255, K255, ⟨hla, V_b⟩ | ⟨hgt, V_b⟩⟩ := hQ255
  ·
    have g_b : n0 ≤ b := Nat.le_trans Z0 sz_b
    have ne_t1_b : t1 ≠ b := Nat.ne_of_lt (Nat.lt_of_lt_of_le V_t1.lt sz_b)
    replace sz_b : h0.size ≤ b := Nat.le_trans K0.1 sz_b
    have N255 := l255 N0 Nq255
    replace Od := Od.keep K255 all0
    replace V_t1 := V_t1.keep K255 nin0
    replace Z0 := Nat.le_trans Z0 K255.1
    replace K0 := K0.trans K255 all0
    refine gu X255 hx #[vr t1, vi (0 : Int32), vi (Int32.ofNat (cs.take p1).length), vr b, uu] (D 10 rfl) rfl rfl ?_
    refine ga X255 hx (D 11 rfl) rfl rfl ?_
    refine gi X255 hx (D 12 rfl) rfl ?_
    refine kS (W := 0) (C := 2) (S := 600) X255 hx hZ hown (wd hw 217 rfl) (wd hw 33 rfl) (wd hw 26 rfl) (wd hw 34 rfl) (rmCO l Z a0 hw [] b k_b (Int32.ofNat (cs.take p1).length) (Int32.ofNat (cs.take p1).length) 0 _ T255.heap n0 V_b (by rw [Int32.sub_self]; rfl) (Or.inl rfl)) pd_9 (D 13 rfl) rfl hml (by exact ⟨rfl, rfl, rfl, rfl⟩) (by decide) fun v256 T256 L256 Lc256 X256 hQ256 l256 => ?_
    obtain ⟨rfl, Nq256, e256⟩ := hQ256
    have N256 := l256 N255 Nq256
    refine gT X256 hx #[vr t1, vi (0 : Int32), vi (Int32.ofNat (cs.take p1).length), vr b, vi (0 : Int32)] (D 14 rfl) rfl ?_
    obtain ⟨T257, h257, X257, e257, E257, A257, D257, -, st257⟩ := newO X256 hx hZ hown (wd hw 218 rfl) (wd hw 11 rfl) (wd hw 12 rfl) e256 (g := (mkF m 28 #[vr t1, vi (0 : Int32), vi (Int32.ofNat (cs.take p1).length), vr b, vi (0 : Int32)] [])) rfl (D 15 rfl) (by decide) (by decide)
    obtain ⟨r, g257⟩ : ∃ z, z = T255.heap.size := ⟨_, rfl⟩
    rw [← g257] at A257 D257 st257
    refine Go.by (fun t => st257 t) ?_
    have g_r : n0 ≤ r := Nat.le_trans Z0 (Nat.le_of_eq g257.symm)
    have sz_r : h0.size ≤ r := Nat.le_trans K0.1 (Nat.le_of_eq g257.symm)
    have ne_b_r : b ≠ r := Nat.ne_of_lt (Nat.lt_of_lt_of_le V_b.lt (Nat.le_of_eq g257.symm))
    have ne_t1_r : t1 ≠ r := Nat.ne_of_lt (Nat.lt_of_lt_of_le V_t1.lt (Nat.le_of_eq g257.symm))
    replace Od := Od.ext E257
    replace V_t1 := V_t1.ext E257
    replace V_b := V_b.ext E257
    replace Z0 := Nat.le_trans Z0 E257.1
    replace K0 := K0.ext E257
    have E_r := A257
    have F_coder_r : Fld Z h257 r "java/lang/String" "coder" "B" (.int (0 : Int32)) := D257 (Or.inr (wd hw 36 rfl)) (ty := .byte) (by decide)
    have F_value_r : Fld Z h257 r "java/lang/String" "value" "[B" .null := D257 (Or.inr (wd hw 38 rfl)) (ty := (.array .byte)) (by decide)
    replace X257 := Stand.num (C := 3) (S := 604) X257 rfl rfl
    show Go p e below _ (T257.setTop (mkF m 31 #[vr t1, vi (0 : Int32), vi (Int32.ofNat (cs.take p1).length), vr b, vi (0 : Int32)] [(.ref r)]))
    refine gq (XS.dup X257.here hx rfl (D 16 rfl) rfl rfl) rfl ?_
    refine ga X257 hx (D 17 rfl) rfl rfl ?_
    refine gI X257 hx (D 18 rfl) rfl ?_
    refine kI (W := 1) (C := 3) (S := 604) X257 hx hZ hown (wd hw 219 rfl) (wd hw 220 rfl) (wd hw 12 rfl) (wd hw 221 rfl) (rm48 l Z a0 hw [] r b 0 h257 n0 E_r F_value_r F_coder_r g_r (Or.inl rfl)) pd_41 (D 19 rfl) e257 hml (by exact ⟨rfl, rfl, rfl, rfl⟩) (by decide) fun v258 T258 L258 Lc258 X258 hQ258 l258 => ?_
    obtain ⟨rfl, Nq258, K258, Fv, Fc⟩ := hQ258
    have N258 := l258 N256 Nq258
    replace V_b := V_b.keep K258 (ninS ne_b_r nin0)
    replace E_r := E_r.keep K258
    replace Z0 := Nat.le_trans Z0 K258.1
    replace K0 := K0.trans K258 (allS (P := fun x => x ∈ _ ∨ _ ≤ x) (Or.inr sz_r) all0)
    have hlt : (cs.take p1).length = p1 := by rw [List.length_take]; omega
    exact Go.ret1 X258 hx Bd.returns Bd.notSynchronized rfl (Or.inr (Or.inr (Or.inr (Or.inr ⟨rfl, rfl, rfl⟩)))) (D 20 rfl) (by decide) (by decide) ⟨r, b, rfl, N258, K0, sz_r, sz_b, k_b, E_r, Fv, Or.inl ⟨Fc, fun c hc => ⟨(hbd c (List.mem_of_mem_take hc)).1, hla c hc⟩, V_b⟩⟩
  ·
    have g_b : n0 ≤ b := Nat.le_trans Z0 sz_b
    have ne_t1_b : t1 ≠ b := Nat.ne_of_lt (Nat.lt_of_lt_of_le V_t1.lt sz_b)
    replace sz_b : h0.size ≤ b := Nat.le_trans K0.1 sz_b
    have N255 := l255 N0 Nq255
    replace Od := Od.keep K255 all0
    replace V_t1 := V_t1.keep K255 nin0
    replace Z0 := Nat.le_trans Z0 K255.1
    replace K0 := K0.trans K255 all0
    refine gu X255 hx #[vr t1, vi (0 : Int32), vi (Int32.ofNat (cs.take p1).length), vr b, uu] (D 10 rfl) rfl rfl ?_
    refine ga X255 hx (D 11 rfl) rfl rfl ?_
    refine gi X255 hx (D 12 rfl) rfl ?_
    refine kS (W := 0) (C := 2) (S := 600) X255 hx hZ hown (wd hw 217 rfl) (wd hw 33 rfl) (wd hw 26 rfl) (wd hw 34 rfl) (rmCO l Z a0 hw [] b k_b (Int32.ofNat (2 * (cs.take p1).length)) (Int32.ofNat (cs.take p1).length) 1 _ T255.heap n0 V_b (sgn_neg (o_dbl (by omega) (by omega))) (Or.inr rfl)) pd_9 (D 13 rfl) rfl hml (by exact ⟨rfl, rfl, rfl, rfl⟩) (by decide) fun v259 T259 L259 Lc259 X259 hQ259 l259 => ?_
    obtain ⟨rfl, Nq259, e259⟩ := hQ259
    have N259 := l259 N255 Nq259
    refine gT X259 hx #[vr t1, vi (0 : Int32), vi (Int32.ofNat (cs.take p1).length), vr b, vi (1 : Int32)] (D 14 rfl) rfl ?_
    obtain ⟨T260, h260, X260, e260, E260, A260, D260, -, st260⟩ := newO X259 hx hZ hown (wd hw 218 rfl) (wd hw 11 rfl) (wd hw 12 rfl) e259 (g := (mkF m 28 #[vr t1, vi (0 : Int32), vi (Int32.ofNat (cs.take p1).length), vr b, vi (1 : Int32)] [])) rfl (D 15 rfl) (by decide) (by decide)
    obtain ⟨r, g260⟩ : ∃ z, z = T255.heap.size := ⟨_, rfl⟩
    rw [← g260] at A260 D260 st260
    refine Go.by (fun t => st260 t) ?_
    have g_r : n0 ≤ r := Nat.le_trans Z0 (Nat.le_of_eq g260.symm)
    have sz_r : h0.size ≤ r := Nat.le_trans K0.1 (Nat.le_of_eq g260.symm)
    have ne_b_r : b ≠ r := Nat.ne_of_lt (Nat.lt_of_lt_of_le V_b.lt (Nat.le_of_eq g260.symm))
    have ne_t1_r : t1 ≠ r := Nat.ne_of_lt (Nat.lt_of_lt_of_le V_t1.lt (Nat.le_of_eq g260.symm))
    replace Od := Od.ext E260
    replace V_t1 := V_t1.ext E260
    replace V_b := V_b.ext E260
    replace Z0 := Nat.le_trans Z0 E260.1
    replace K0 := K0.ext E260
    have E_r := A260
    have F_coder_r : Fld Z h260 r "java/lang/String" "coder" "B" (.int (0 : Int32)) := D260 (Or.inr (wd hw 36 rfl)) (ty := .byte) (by decide)
    have F_value_r : Fld Z h260 r "java/lang/String" "value" "[B" .null := D260 (Or.inr (wd hw 38 rfl)) (ty := (.array .byte)) (by decide)
    replace X260 := Stand.num (C := 3) (S := 604) X260 rfl rfl
    show Go p e below _ (T260.setTop (mkF m 31 #[vr t1, vi (0 : Int32), vi (Int32.ofNat (cs.take p1).length), vr b, vi (1 : Int32)] [(.ref r)]))
    refine gq (XS.dup X260.here hx rfl (D 16 rfl) rfl rfl) rfl ?_
    refine ga X260 hx (D 17 rfl) rfl rfl ?_
    refine gI X260 hx (D 18 rfl) rfl ?_
    refine kI (W := 1) (C := 3) (S := 604) X260 hx hZ hown (wd hw 219 rfl) (wd hw 220 rfl) (wd hw 12 rfl) (wd hw 221 rfl) (rm48 l Z a0 hw [] r b 1 h260 n0 E_r F_value_r F_coder_r g_r (Or.inr rfl)) pd_41 (D 19 rfl) e260 hml (by exact ⟨rfl, rfl, rfl, rfl⟩) (by decide) fun v261 T261 L261 Lc261 X261 hQ261 l261 => ?_
    obtain ⟨rfl, Nq261, K261, Fv, Fc⟩ := hQ261
    have N261 := l261 N259 Nq261
    replace V_b := V_b.keep K261 (ninS ne_b_r nin0)
    replace E_r := E_r.keep K261
    replace Z0 := Nat.le_trans Z0 K261.1
    replace K0 := K0.trans K261 (allS (P := fun x => x ∈ _ ∨ _ ≤ x) (Or.inr sz_r) all0)
    have hlt : (cs.take p1).length = p1 := by rw [List.length_take]; omega
    exact Go.ret1 X261 hx Bd.returns Bd.notSynchronized rfl (Or.inr (Or.inr (Or.inr (Or.inr ⟨rfl, rfl, rfl⟩)))) (D 20 rfl) (by decide) (by decide) ⟨r, b, rfl, N261, K0, sz_r, sz_b, k_b, E_r, Fv, Or.inr ⟨Fc, hgt, V_b⟩⟩
def Q_rm36 (Z : State) (s1 : Addr) (cs : List Int32) (p1 : Nat) (G1 : Int32) (G3 : Value) (h0 : Heap) (n0 : Nat) : Option Value → Heap → List Loc → Prop := fun v h L => ∃ r t : Addr, v = some (.ref r) ∧ Fr n0 L ∧ Keep h0 h [] ∧ h0.size ≤ r ∧ h0.size ≤ t ∧ StrT Z h r t (cs.take p1)
set_option maxRecDepth 65536 in
set_option maxHeartbeats 40000000 in
theorem rm36 (l : Launch) (Z : State) (a0 : Array Value) (hw : HW a0 Z) (ws : List Jvm.Cond) (s1 : Addr) (cs : List Int32) (p1 : Nat) (G1 : Int32) (G3 : Value) (h0 : Heap) (n0 : Nat) (Z0 : n0 ≤ h0.size) (Od : Old Z n0 h0) (A1 : SA1 Z) (HS : SHS Z) (LS : SLS Z) (O4 : SO4 Z G3) (rG3 : G3.isRef = true) (O2 : SO2 Z G1) (P5 : ¬ (G1 = (0 : Int32))) (S1 : StrU Z h0 s1 cs) (hk : cs.length ≤ 1000) (hbd : ∀ c ∈ cs, ¬ c < 0 ∧ ¬ (65535 : Int32) < c) (hp : 1 ≤ p1 ∧ p1 < cs.length) (hp2 : 2 * p1 ≤ 300) :
    CT l (⟨"java/lang/String", "substring", "(II)Ljava/lang/String;"⟩ : MethodName) jdk_42_method_92_code 5 (some (.object "java/lang/String")) ws (⟨6, 3, 604, 112⟩ : Jvm.Room) #[(.ref s1), (.int (0 : Int32)), (.int (Int32.ofNat p1))] Z h0 (Q_rm36 Z s1 cs p1 G1 G3 h0 n0) := by
  refine Go.start (plainFor_of_name pn_1) #[vr s1, vi (0 : Int32), vi (Int32.ofNat p1), uu, uu] n0 (by first | (simp [argsToLocals, Value.category, maxLocals]; done) | rfl) ?_
  intro p e s m below meth c s₁ Bd hx hby hml hZ hown X0 e0 N0
  have D := @dB _ _ hby _ D36
  refine ga X0 hx (D 0 rfl) rfl rfl ?_
  refine kV (W := 0) (C := 0) (S := 0) X0 hx hZ hown (wd hw 58 rfl) (wd hw 44 rfl) (wd hw 46 rfl) (wd hw 45 rfl) (wd hw 12 rfl) (wd hw 47 rfl) (notFace_of_selects (args := #[]) (mvT hZ (wd hw 46 rfl))) S1.exa (rmLEN l Z a0 hw [] s1 cs G1 h0 n0 Od O2 P5 S1 (by omega)) pd_13 (D 1 rfl) e0 hml (by exact ⟨rfl, rfl, rfl, rfl⟩) (by decide) fun v262 T262 L262 Lc262 X262 hQ262 l262 => ?_
  obtain ⟨rfl, Nq262, e262⟩ := hQ262
  have N262 := l262 N0 Nq262
  refine gt X262 hx #[vr s1, vi (0 : Int32), vi (Int32.ofNat p1), vi (Int32.ofNat cs.length), uu] (D 2 rfl) rfl ?_
  refine gi X262 hx (D 3 rfl) rfl ?_
  refine gi X262 hx (D 4 rfl) rfl ?_
  refine gi X262 hx (D 5 rfl) rfl ?_
  refine kS (W := 0) (C := 0) (S := 0) X262 hx hZ hown (wd hw 176 rfl) (wd hw 177 rfl) (wd hw 12 rfl) (wd hw 178 rfl) (rm37 l Z a0 hw [] 0 (Int32.ofNat p1) (Int32.ofNat cs.length) G3 h0 n0 Od O4 rG3 (by decide) (o_nn (by omega)) (by rw [o_lt (by omega) (by omega)]; omega)) pd_38 (D 6 rfl) e262 hml (by exact ⟨rfl, rfl, rfl, rfl⟩) (by decide) fun v263 T263 L263 Lc263 X263 hQ263 l263 => ?_
  obtain ⟨rfl, Nq263, e263⟩ := hQ263
  have N263 := l263 N262 Nq263
  refine gi X263 hx (D 7 rfl) rfl ?_
  refine zN X263 hx (D 8 rfl) ((if0 _ _).trans (teq (rfl : (0 : Int32) = (0 : Int32))).2) ?_
  refine gi X263 hx (D 9 rfl) rfl ?_
  refine gi X263 hx (D 10 rfl) rfl ?_
  refine cY X263 hx 22 (D 11 rfl) (feq (o_ne hp.2 (by omega) : ¬ ((Int32.ofNat p1) = (Int32.ofNat cs.length)))).2 (by decide) ?_
  refine gi X263 hx (D 14 rfl) rfl ?_
  refine gi X263 hx (D 15 rfl) rfl ?_
  refine gq (XS.isub X263.here hx rfl (D 16 rfl) rfl) rfl ?_
  show Go p e below _ (T263.setTop (mkF m 25 #[vr s1, vi (0 : Int32), vi (Int32.ofNat p1), vi (Int32.ofNat cs.length), uu] [(.int ((Int32.ofNat p1) - (0 : Int32)))]))
  rw [Int32.sub_zero (Int32.ofNat p1)]
  refine gT X263 hx #[vr s1, vi (0 : Int32), vi (Int32.ofNat p1), vi (Int32.ofNat cs.length), vi (Int32.ofNat p1)] (D 17 rfl) rfl ?_
  refine ga X263 hx (D 18 rfl) rfl rfl ?_
  obtain ⟨t1, kt, E_s1, F_value_s1, ⟨F_coder_s1, la, V_t1⟩ | ⟨F_coder_s1, hg, V_t1⟩⟩ := S1
  ·
    refine kV (W := 0) (C := 0) (S := 0) X263 hx hZ hown (wd hw 67 rfl) (wd hw 68 rfl) (wd hw 70 rfl) (wd hw 69 rfl) (wd hw 12 rfl) (wd hw 71 rfl) (notFace_of_selects (args := #[]) (mvT hZ (wd hw 70 rfl))) E_s1 (rmIL0 l Z a0 hw [] s1 G1 h0 n0 Od O2 P5 F_coder_s1) pd_21 (D 19 rfl) e263 hml (by exact ⟨rfl, rfl, rfl, rfl⟩) (by decide) fun v264 T264 L264 Lc264 X264 hQ264 l264 => ?_
    obtain ⟨rfl, Nq264, e264⟩ := hQ264
    have N264 := l264 N263 Nq264
    refine zN X264 hx (D 20 rfl) ((if0 _ _).trans (feq (by decide : ¬ ((1 : Int32) = (0 : Int32)))).1) ?_
    refine ga X264 hx (D 21 rfl) rfl rfl ?_
    refine gF X264 hx hZ hown (wd hw 37 rfl) Via.refl e264 F_value_s1 (D 22 rfl) fun T265 X265 e265 => ?_
    refine gi X265 hx (D 23 rfl) rfl ?_
    refine gI X265 hx (D 24 rfl) rfl ?_
    refine kS (W := 0) (C := 2) (S := 304) X265 hx hZ hown (wd hw 362 rfl) (wd hw 363 rfl) (wd hw 281 rfl) (wd hw 364 rfl) (rm78 l Z a0 hw [] t1 kt cs p1 h0 n0 Z0 Od V_t1 la hk hp hp2) pd_39 (D 25 rfl) e265 hml (by exact ⟨rfl, rfl, rfl, rfl⟩) (by decide) fun v266 T266 L266 Lc266 X266 hQ266 l266 => ?_
    obtain ⟨r, t, rfl, Nq266, K266, sr, st, Sr⟩ := hQ266
    have N266 := l266 N264 Nq266
    refine gg X266 hx 57 (D 26 rfl) (by decide) ?_
    exact Go.ret1 X266 hx Bd.returns Bd.notSynchronized rfl (Or.inr (Or.inr (Or.inr (Or.inr ⟨rfl, rfl, rfl⟩)))) (D 32 rfl) (by decide) (by decide) ⟨r, t, rfl, N266, K266, sr, st, Sr⟩
  ·
    refine kV (W := 0) (C := 0) (S := 0) X263 hx hZ hown (wd hw 67 rfl) (wd hw 68 rfl) (wd hw 70 rfl) (wd hw 69 rfl) (wd hw 12 rfl) (wd hw 71 rfl) (notFace_of_selects (args := #[]) (mvT hZ (wd hw 70 rfl))) E_s1 (rmIL1 l Z a0 hw [] s1 G1 h0 n0 Od O2 P5 F_coder_s1) pd_21 (D 19 rfl) e263 hml (by exact ⟨rfl, rfl, rfl, rfl⟩) (by decide) fun v267 T267 L267 Lc267 X267 hQ267 l267 => ?_
    obtain ⟨rfl, Nq267, e267⟩ := hQ267
    have N267 := l267 N263 Nq267
    refine zY X267 hx 47 (D 20 rfl) ((if0 _ _).trans (teq (rfl : (0 : Int32) = (0 : Int32))).1) (by decide) ?_
    refine ga X267 hx (D 27 rfl) rfl rfl ?_
    refine gF X267 hx hZ hown (wd hw 37 rfl) Via.refl e267 F_value_s1 (D 28 rfl) fun T268 X268 e268 => ?_
    refine gi X268 hx (D 29 rfl) rfl ?_
    refine gI X268 hx (D 30 rfl) rfl ?_
    refine kS (W := 0) (C := 3) (S := 604) X268 hx hZ hown (wd hw 180 rfl) (wd hw 181 rfl) (wd hw 26 rfl) (wd hw 182 rfl) (rm38 l Z a0 hw [] t1 kt cs p1 G1 G3 h0 n0 Z0 Od A1 HS LS O4 rG3 O2 P5 V_t1 hk hbd hp hp2) pd_39 (D 31 rfl) e268 hml (by exact ⟨rfl, rfl, rfl, rfl⟩) (by decide) fun v269 T269 L269 Lc269 X269 hQ269 l269 => ?_
    obtain ⟨r, t, rfl, Nq269, K269, sr, st, Sr⟩ := hQ269
    have N269 := l269 N267 Nq269
    exact Go.ret1 X269 hx Bd.returns Bd.notSynchronized rfl (Or.inr (Or.inr (Or.inr (Or.inr ⟨rfl, rfl, rfl⟩)))) (D 32 rfl) (by decide) (by decide) ⟨r, t, rfl, N269, K269, sr, st, Sr⟩
def Q_rm76 (Z : State) (a1 b1 : Addr) (ka kb : ClassId) (cs : List Int32) (h0 : Heap) (n0 : Nat) : Option Value → Heap → List Loc → Prop := fun v h L => v = some (.int 1) ∧ Fr n0 L ∧ h = h0
set_option maxRecDepth 65536 in
set_option maxHeartbeats 40000000 in
theorem rm76 (l : Launch) (Z : State) (a0 : Array Value) (hw : HW a0 Z) (ws : List Jvm.Cond) (a1 b1 : Addr) (ka kb : ClassId) (cs : List Int32) (h0 : Heap) (n0 : Nat) (V_a1 : Arv Z h0 a1 ka .byte (Int32.ofNat cs.length) (cs.map Value.int) (.int 0)) (V_b1 : Arv Z h0 b1 kb .byte (Int32.ofNat cs.length) (cs.map Value.int) (.int 0)) (hk : cs.length ≤ 2000) :
    CT l (⟨"java/lang/StringLatin1", "equals", "([B[B)Z"⟩ : MethodName) jdk_43_method_13_code 3 (some .boolean) ws (⟨0, 0, 0, 0⟩ : Jvm.Room) #[(.ref a1), (.ref b1)] Z h0 (Q_rm76 Z a1 b1 ka kb cs h0 n0) := by
  refine Go.start (plainFor_of_name pn_11) #[vr a1, vr b1, uu] n0 (by first | (simp [argsToLocals, Value.category, maxLocals]; done) | rfl) ?_
  intro p e s m below meth c s₁ Bd hx hby hml hZ hown X0 e0 N0
  have D := @dB _ _ hby _ D76
  refine ga X0 hx (D 0 rfl) rfl rfl ?_
  refine gN X0 hx hZ e0 V_a1 (D 1 rfl) ?_
  refine ga X0 hx (D 2 rfl) rfl rfl ?_
  refine gN X0 hx hZ e0 V_b1 (D 3 rfl) ?_
  refine cN X0 hx (D 4 rfl) (teq (rfl : (Int32.ofNat cs.length) = (Int32.ofNat cs.length))).2 ?_
  refine gk X0 hx 0 (D 5 rfl) rfl ?_
  refine gt X0 hx #[vr a1, vr b1, vi (0 : Int32)] (D 6 rfl) rfl ?_
  have loop : ∀ (ws us : List Int32) (Tl : State) (Ll : List Loc) (hcs : cs = us ++ ws) (Xl : Stand p l e (⟨0, 0, 0, 0⟩ : Jvm.Room) s m #[(.ref a1), (.ref b1)] below meth c Tl Ll 0 0) (Nl : Fr n0 Ll) (eT : Tl.heap = h0), Go p e below (End (fun v h L => v = some (.int 1) ∧ Fr n0 L ∧ h = h0) s 0 0) (Tl.setTop (mkF m 9 #[vr a1, vr b1, vi (Int32.ofNat us.length)] [])) := by
    intro ws
    induction ws with
    | nil =>
      intro us Tl Ll hcs Xl Nl eT
      have hu : us = cs := by rw [hcs, List.append_nil]
      refine gi Xl hx (D 7 rfl) rfl ?_
      refine ga Xl hx (D 8 rfl) rfl rfl ?_
      refine gN Xl hx hZ eT V_a1 (D 9 rfl) ?_
      refine cY Xl hx 32 (D 10 rfl) (flt (by rw [hu]; exact Int32.lt_irrefl : ¬ ((Int32.ofNat us.length) < (Int32.ofNat cs.length)))).2.1 (by decide) ?_
      refine gk Xl hx 1 (D 22 rfl) rfl ?_
      exact Go.ret1 Xl hx Bd.returns Bd.notSynchronized (by first | rfl | decide) (Or.inl ⟨rfl, by simp, _, rfl⟩) (D 23 rfl) (by decide) (by decide) (by first | (rw [eT]; exact ⟨rfl, Nl, rfl⟩) | exact ⟨rfl, Nl, rfl⟩)
    | cons cx ws ih =>
      intro us Tl Ll hcs Xl Nl eT
      have hl : cs.length < 2147483648 := by omega
      have hn : cs.length = us.length + (ws.length + 1) := by rw [hcs, List.length_append, List.length_cons]
      refine gi Xl hx (D 7 rfl) rfl ?_
      refine ga Xl hx (D 8 rfl) rfl rfl ?_
      refine gN Xl hx hZ eT V_a1 (D 9 rfl) ?_
      refine cN Xl hx (D 10 rfl) (tlt ((in_mid hcs hl).2 : (Int32.ofNat us.length) < (Int32.ofNat cs.length))).2.1 ?_
      refine ga Xl hx (D 11 rfl) rfl rfl ?_
      refine gi Xl hx (D 12 rfl) rfl ?_
      refine gB Xl hx hZ eT V_a1 (in_mid hcs hl) (.int cx) (at_mid hcs hl) (D 13 rfl) ?_
      refine ga Xl hx (D 14 rfl) rfl rfl ?_
      refine gi Xl hx (D 15 rfl) rfl ?_
      refine gB Xl hx hZ eT V_b1 (in_mid hcs hl) (.int cx) (at_mid hcs hl) (D 16 rfl) ?_
      refine cY Xl hx 26 (D 17 rfl) (teq (rfl : cx = cx)).1 (by decide) ?_
      show Go p e below _ (Tl.setTop (mkF m 26 #[vr a1, vr b1, vi (Int32.ofNat us.length)] []))
      refine gn Xl hx #[vr a1, vr b1, vi ((Int32.ofNat us.length) + (1 : Int32))] (D 20 rfl) rfl rfl ?_
      refine gg Xl hx 9 (D 21 rfl) (by decide) ?_
      show Go p e below _ (Tl.setTop (mkF m 9 #[vr a1, vr b1, vi ((Int32.ofNat us.length) + (1 : Int32))] []))
      rw [snoc_len us cx]
      exact ih (us ++ [cx]) _ _ (snoc_app hcs) Xl Nl eT
  exact loop cs [] _ _ rfl X0 N0 e0
def Q_rm16 (Z : State) (s1 s2 : Addr) (cs : List Int32) (G1 : Int32) (h0 : Heap) (n0 : Nat) : Option Value → Heap → List Loc → Prop := fun v h L => v = some (.int 1) ∧ Fr n0 L ∧ h = h0
set_option maxRecDepth 65536 in
set_option maxHeartbeats 40000000 in
theorem rm16 (l : Launch) (Z : State) (a0 : Array Value) (hw : HW a0 Z) (ws : List Jvm.Cond) (s1 s2 : Addr) (cs : List Int32) (G1 : Int32) (h0 : Heap) (n0 : Nat) (Od : Old Z n0 h0) (O2 : SO2 Z G1) (P5 : ¬ (G1 = (0 : Int32))) (S1 : StrU Z h0 s1 cs) (S2 : StrU Z h0 s2 cs) (hk : cs.length ≤ 1000) :
    CT l (⟨"java/lang/String", "equals", "(Ljava/lang/Object;)Z"⟩ : MethodName) jdk_42_method_66_code 3 (some .boolean) ws (⟨1, 0, 0, 16⟩ : Jvm.Room) #[(.ref s1), (.ref s2)] Z h0 (Q_rm16 Z s1 s2 cs G1 h0 n0) := by
  refine Go.start (plainFor_of_name pn_1) #[vr s1, vr s2, uu] n0 (by first | (simp [argsToLocals, Value.category, maxLocals]; done) | rfl) ?_
  intro p e s m below meth c s₁ Bd hx hby hml hZ hown X0 e0 N0
  have D := @dB _ _ hby _ D16
  refine ga X0 hx (D 0 rfl) rfl rfl ?_
  refine ga X0 hx (D 1 rfl) rfl rfl ?_
  by_cases hss : s1 = s2
  ·
    refine Go.by (fun t => Jvm.RoadKit.acmp (g := (mkF m 2 #[vr s1, vr s2, uu] [(.ref s2), (.ref s1)])) X0 hx rfl rfl rfl (pc0 := 2) (pc' := 5) (same := true) rfl (D 2 rfl) rfl (decide_eq_true (by rw [hss])) (by decide) (by decide)) ?_
    show Go p e below _ (s₁.setTop (mkF m 5 #[vr s1, vr s2, uu] []))
    refine gk X0 hx 1 (D 3 rfl) rfl ?_
    exact Go.ret1 X0 hx Bd.returns Bd.notSynchronized (by first | rfl | decide) (Or.inl ⟨rfl, by simp, _, rfl⟩) (D 4 rfl) (by decide) (by decide) (by first | (rw [e0]; exact ⟨rfl, N0, rfl⟩) | exact ⟨rfl, N0, rfl⟩)
  ·
    refine Go.by (fun t => Jvm.RoadKit.acmp (g := (mkF m 2 #[vr s1, vr s2, uu] [(.ref s2), (.ref s1)])) X0 hx rfl rfl rfl (pc0 := 2) (pc' := 7) (same := false) rfl (D 2 rfl) rfl (decide_eq_false (fun q => hss (by injection q))) (by decide) (by decide)) ?_
    show Go p e below _ (s₁.setTop (mkF m 7 #[vr s1, vr s2, uu] []))
    obtain ⟨t1, k1, E_s1, F_value_s1, S1⟩ := S1
    obtain ⟨t2, k2, E_s2, F_value_s2, S2⟩ := S2
    refine ga X0 hx (D 5 rfl) rfl rfl ?_
    obtain ⟨T272, X272, e272, st272⟩ := instY X0 hx hZ hown (wd hw 354 rfl) e0 (Ins.self E_s2) (g := (mkF m 8 #[vr s1, vr s2, uu] [(.ref s2)])) rfl rfl (D 6 rfl)
    refine Go.by (fun t => st272 t) ?_
    show Go p e below _ (T272.setTop (mkF m 11 #[vr s1, vr s2, uu] [(.int (1 : Int32))]))
    refine zN X272 hx (D 7 rfl) ((if0 _ _).trans (feq (by decide : ¬ ((1 : Int32) = (0 : Int32)))).1) ?_
    refine ga X272 hx (D 8 rfl) rfl rfl ?_
    obtain ⟨T273, X273, e273, st273⟩ := castY X272 hx hZ hown (wd hw 354 rfl) e272 (Ins.self E_s2) (g := (mkF m 15 #[vr s1, vr s2, uu] [(.ref s2)])) rfl rfl (D 9 rfl)
    refine Go.by (fun t => st273 t) ?_
    show Go p e below _ (T273.setTop (mkF m 18 #[vr s1, vr s2, uu] [(.ref s2)]))
    refine gu X273 hx #[vr s1, vr s2, vr s2] (D 10 rfl) rfl rfl ?_
    refine gS X273 hx hZ hown (wd hw 23 rfl) e273 (O2.ext Od.2) (D 11 rfl) fun T274 X274 e274 => ?_
    refine zN X274 hx (D 12 rfl) ((if0 _ _).trans (feq P5).1) ?_
    refine ga X274 hx (D 13 rfl) rfl rfl ?_
    rcases S1 with ⟨F_coder_s1, la, V_t1⟩ | ⟨F_coder_s1, hg, V_t1⟩ <;> rcases S2 with ⟨F_coder_s2, la2, V_t2⟩ | ⟨F_coder_s2, hg2, V_t2⟩
    ·
      refine gF X274 hx hZ hown (wd hw 35 rfl) Via.refl e274 F_coder_s1 (D 14 rfl) fun T275 X275 e275 => ?_
      refine ga X275 hx (D 15 rfl) rfl rfl ?_
      refine gF X275 hx hZ hown (wd hw 35 rfl) Via.refl e275 F_coder_s2 (D 16 rfl) fun T276 X276 e276 => ?_
      refine cN X276 hx (D 17 rfl) (teq (rfl : (0 : Int32) = (0 : Int32))).2 ?_
      refine ga X276 hx (D 18 rfl) rfl rfl ?_
      refine gF X276 hx hZ hown (wd hw 37 rfl) Via.refl e276 F_value_s1 (D 19 rfl) fun T277 X277 e277 => ?_
      refine ga X277 hx (D 20 rfl) rfl rfl ?_
      refine gF X277 hx hZ hown (wd hw 37 rfl) Via.refl e277 F_value_s2 (D 21 rfl) fun T278 X278 e278 => ?_
      have W_t1 : Arv Z h0 t1 k1 .byte (Int32.ofNat (cs.map fun c => c.toInt8.toInt32).length) ((cs.map fun c => c.toInt8.toInt32).map Value.int) (.int 0) := by rw [List.length_map]; exact V_t1
      have W_t2 : Arv Z h0 t2 k2 .byte (Int32.ofNat (cs.map fun c => c.toInt8.toInt32).length) ((cs.map fun c => c.toInt8.toInt32).map Value.int) (.int 0) := by rw [List.length_map]; exact V_t2
      refine kS (W := 0) (C := 0) (S := 0) X278 hx hZ hown (wd hw 355 rfl) (wd hw 356 rfl) (wd hw 281 rfl) (wd hw 357 rfl) (rm76 l Z a0 hw [] t1 t2 k1 k2 (cs.map fun c => c.toInt8.toInt32) h0 n0 W_t1 W_t2 (by rw [List.length_map]; omega)) pd_24 (D 22 rfl) e278 hml (by exact ⟨rfl, rfl, rfl, rfl⟩) (by decide) fun v279 T279 L279 Lc279 X279 hQ279 l279 => ?_
      obtain ⟨rfl, Nq279, e279⟩ := hQ279
      have N279 := l279 N0 Nq279
      refine zN X279 hx (D 23 rfl) ((if0 _ _).trans (feq (by decide : ¬ ((1 : Int32) = (0 : Int32)))).1) ?_
      show Go p e below _ (T279.setTop (mkF m 50 #[vr s1, vr s2, vr s2] []))
      refine gk X279 hx 1 (D 24 rfl) rfl ?_
      refine gg X279 hx 55 (D 25 rfl) (by decide) ?_
      exact Go.ret1 X279 hx Bd.returns Bd.notSynchronized (by first | rfl | decide) (Or.inl ⟨rfl, by simp, _, rfl⟩) (D 27 rfl) (by decide) (by decide) (by first | (rw [e279]; exact ⟨rfl, N279, rfl⟩) | exact ⟨rfl, N279, rfl⟩)
    ·
      obtain ⟨z, hz, gz⟩ := hg2
      exact absurd gz (la z hz).2
    ·
      obtain ⟨z, hz, gz⟩ := hg
      exact absurd gz (la2 z hz).2
    ·
      refine gF X274 hx hZ hown (wd hw 35 rfl) Via.refl e274 F_coder_s1 (D 14 rfl) fun T280 X280 e280 => ?_
      refine ga X280 hx (D 15 rfl) rfl rfl ?_
      refine gF X280 hx hZ hown (wd hw 35 rfl) Via.refl e280 F_coder_s2 (D 16 rfl) fun T281 X281 e281 => ?_
      refine cN X281 hx (D 17 rfl) (teq (rfl : (1 : Int32) = (1 : Int32))).2 ?_
      refine ga X281 hx (D 18 rfl) rfl rfl ?_
      refine gF X281 hx hZ hown (wd hw 37 rfl) Via.refl e281 F_value_s1 (D 19 rfl) fun T282 X282 e282 => ?_
      refine ga X282 hx (D 20 rfl) rfl rfl ?_
      refine gF X282 hx hZ hown (wd hw 37 rfl) Via.refl e282 F_value_s2 (D 21 rfl) fun T283 X283 e283 => ?_
      have W_t1 : Arv Z h0 t1 k1 .byte (Int32.ofNat (utfI cs).length) ((utfI cs).map Value.int) (.int 0) := by rw [utfI_len, ← utf_map]; exact V_t1
      have W_t2 : Arv Z h0 t2 k2 .byte (Int32.ofNat (utfI cs).length) ((utfI cs).map Value.int) (.int 0) := by rw [utfI_len, ← utf_map]; exact V_t2
      refine kS (W := 0) (C := 0) (S := 0) X283 hx hZ hown (wd hw 355 rfl) (wd hw 356 rfl) (wd hw 281 rfl) (wd hw 357 rfl) (rm76 l Z a0 hw [] t1 t2 k1 k2 (utfI cs) h0 n0 W_t1 W_t2 (by rw [utfI_len]; omega)) pd_24 (D 22 rfl) e283 hml (by exact ⟨rfl, rfl, rfl, rfl⟩) (by decide) fun v284 T284 L284 Lc284 X284 hQ284 l284 => ?_
      obtain ⟨rfl, Nq284, e284⟩ := hQ284
      have N284 := l284 N0 Nq284
      refine zN X284 hx (D 23 rfl) ((if0 _ _).trans (feq (by decide : ¬ ((1 : Int32) = (0 : Int32)))).1) ?_
      show Go p e below _ (T284.setTop (mkF m 50 #[vr s1, vr s2, vr s2] []))
      refine gk X284 hx 1 (D 24 rfl) rfl ?_
      refine gg X284 hx 55 (D 25 rfl) (by decide) ?_
      exact Go.ret1 X284 hx Bd.returns Bd.notSynchronized (by first | rfl | decide) (Or.inl ⟨rfl, by simp, _, rfl⟩) (D 27 rfl) (by decide) (by decide) (by first | (rw [e284]; exact ⟨rfl, N284, rfl⟩) | exact ⟨rfl, N284, rfl⟩)
theorem cp_pad (us : List Value) (z : Value) {a M n : Nat} (ha : a = 0) (h : us.length ≤ M) (h2 : M ≤ n) : ∀ i, us.getD i z = ((List.replicate n z).take a ++ (List.range M).map (fun i => us.getD (a + i) z) ++ (List.replicate n z).drop (a + M)).getD i z := by
  subst ha
  intro i
  simp only [List.take_zero, List.nil_append, Nat.zero_add]
  by_cases hi : i < M
  · rw [List.getD_eq_getElem?_getD (l := _ ++ _), List.getElem?_append_left (by simpa using hi)]
    simp [hi]
  · rw [List.getD_eq_getElem?_getD (l := _ ++ _), List.getElem?_append_right (by simpa using hi)]
    rw [List.getD_eq_getElem?_getD, List.getElem?_eq_none (by omega)]
    simp [List.getElem?_replicate]
    split <;> rfl
theorem or_nn3 {a b c : Nat} (ha : a < 2147483648) (hb : b < 2147483648) (hc : c < 2147483648) : ¬ (((Int32.ofNat a ||| Int32.ofNat b) ||| Int32.ofNat c) < (0 : Int32)) := by
  have q : ∀ n : Nat, n < 2147483648 → (Int32.ofNat n).toBitVec.toNat < 2 ^ 31 := fun n h => by
    show n % 2 ^ 32 < 2 ^ 31
    omega
  have e : ((Int32.ofNat a ||| Int32.ofNat b) ||| Int32.ofNat c).toBitVec.toNat < 2147483648 := by
    rw [Int32.toBitVec_or, BitVec.toNat_or, Int32.toBitVec_or, BitVec.toNat_or]
    exact Nat.or_lt_two_pow (Nat.or_lt_two_pow (q a ha) (q b hb)) (q c hc)
  rw [Int32.lt_iff_toInt_lt]
  have e1 : (0 : Int32).toInt = 0 := rfl
  have e3 : ((Int32.ofNat a ||| Int32.ofNat b) ||| Int32.ofNat c).toInt = ((Int32.ofNat a ||| Int32.ofNat b) ||| Int32.ofNat c).toBitVec.toInt := rfl
  rw [e1, e3, BitVec.toInt_eq_toNat_cond]
  split <;> omega
theorem utf_put3 (f : Int32 → Int32) (bs : List Value) {n : Nat} (hb : bs.length = 2 * n) (us : List Int32) (c : Int32) (m : Nat) (z : Value) : ((bs ++ (utfL (us.map f) ++ List.replicate (m + 2) z)).set (2 * (n + us.length)) (.int (lo16 (f c)))).set (2 * (n + us.length) + 1) (.int (hi16 (f c))) = bs ++ (utfL ((us ++ [c]).map f) ++ List.replicate m z) := by
  rw [List.set_append_right _ _ (by omega), List.set_append_right _ _ (by omega), show 2 * (n + us.length) - bs.length = 2 * us.length by omega, show 2 * (n + us.length) + 1 - bs.length = 2 * us.length + 1 by omega, utf_put2]
theorem snoc_len2 (n : Nat) (us : List Int32) (x : Int32) : Int32.ofNat (n + us.length) + (1 : Int32) = Int32.ofNat (n + (us ++ [x]).length) := by
  rw [o_one, List.length_append]; rfl
theorem nat_le32 {a b : Int32} (ha : ¬ a < 0) (h : a < b) : ¬ b < 0 ∧ a.toNatClampNeg ≤ b.toNatClampNeg := by
  rw [Int32.lt_iff_toInt_lt] at ha h ⊢
  have e : (0 : Int32).toInt = 0 := rfl
  simp only [Int32.toNatClampNeg]
  omega
/-- ensureCapacityInternal: room for m2 chars in N bytes; then N2 bytes -/
def EnC (cd N m2 N2 : Int32) (cap : Nat) : Prop := (¬ ((0 : Int32) < (m2 - (N >>> (cd &&& 31)))) ∧ N2 = N) ∨ ((0 : Int32) < (m2 - (N >>> (cd &&& 31))) ∧ ∃ r : Int32, (N + (if ((m2 <<< (cd &&& 31)) - N) < (N + ((2 : Int32) <<< (cd &&& 31))) then (N + ((2 : Int32) <<< (cd &&& 31))) else ((m2 <<< (cd &&& 31)) - N))) = r ∧ (0 : Int32) < r ∧ ¬ ((2147483639 : Int32) < r) ∧ ¬ (r = (2147483647 : Int32)) ∧ ((r >>> (cd &&& 31)) <<< (cd &&& 31)) = N2 ∧ N < N2 ∧ N2.toNatClampNeg ≤ cap)
/-- how the bytes vs spell the chars ds -/
def EncP (cd : Int32) (ds : List Int32) (vs : List Value) : Prop := (cd = 0 ∧ LatP ds ∧ vs = latL ds) ∨ (cd = 1 ∧ (∃ c ∈ ds, (255 : Int32) < c) ∧ vs = utfL ds)
theorem EncP.cd {cd : Int32} {ds : List Int32} {vs : List Value} (h : EncP cd ds vs) : cd = 0 ∨ cd = 1 := h.imp And.left And.left
def SBA (Z : State) (h : Heap) (x vb : Addr) (kv : ClassId) (ct : Int32) (Mn : Nat) (ds : List Int32) : Prop := Exa Z h x "java/lang/StringBuilder" ∧ Fld Z h x "java/lang/AbstractStringBuilder" "value" "[B" (.ref vb) ∧ Fld Z h x "java/lang/AbstractStringBuilder" "count" "I" (.int ct) ∧ Fld Z h x "java/lang/AbstractStringBuilder" "maybeLatin1" "Z" (.int 0) ∧ ∃ cd vs, Fld Z h x "java/lang/AbstractStringBuilder" "coder" "B" (.int cd) ∧ Arv Z h vb kv .byte (Int32.ofNat Mn) vs (.int 0) ∧ EncP cd ds vs ∧ vs.length ≤ Mn
theorem ex_appL {a b : List Int32} (h : ∃ c ∈ a, (255 : Int32) < c) : ∃ c ∈ a ++ b, (255 : Int32) < c := by
  obtain ⟨c, hc, q⟩ := h
  exact ⟨c, List.mem_append_left _ hc, q⟩
theorem cap_le {cd : Int32} {ds cs : List Int32} {vs : List Value} {a b c : Nat} {Z : State} {h : Heap} {x t : Addr} (hen : EncP cd ds vs) (hx : LatP ds ∨ LatP cs) (hcL : LatP ds → LatP cs → ds.length + cs.length ≤ a ∧ b = a) (hcU : LatP ds → (∃ c ∈ cs, (255 : Int32) < c) → ds.length + cs.length ≤ a ∧ 2 * a ≤ c ∧ b = 2 * a) (hcN : (∃ c ∈ ds, (255 : Int32) < c) → LatP cs → ∃ q, a = 2 * q ∧ ds.length + cs.length ≤ q ∧ b = a) (ha : a ≤ c) (S : StrT Z h x t cs) : ds.length + cs.length ≤ c := by
  obtain ⟨kt, -, -, ⟨-, la2, -⟩ | ⟨-, hg2, -⟩⟩ := S
  · rcases hen with ⟨-, la, -⟩ | ⟨-, hg, -⟩
    · have := (hcL la la2).1; omega
    · obtain ⟨q, h1, h2, -⟩ := hcN hg la2; omega
  · rcases hx with la | la
    · have := (hcU la hg2).1; omega
    · obtain ⟨z, hz, gz⟩ := hg2; exact absurd gz (la z hz).2
theorem enc_16_64 : EnC 0 (Int32.ofNat 16) (Int32.ofNat 64) (Int32.ofNat 64) 300 := Or.inr ⟨by decide, 64, by decide, by decide, by decide, by decide, by decide, by decide, by decide⟩
theorem enc_16_65 : EnC 0 (Int32.ofNat 16) (Int32.ofNat 65) (Int32.ofNat 65) 300 := Or.inr ⟨by decide, 65, by decide, by decide, by decide, by decide, by decide, by decide, by decide⟩
theorem enc_64_69 : EnC 0 (Int32.ofNat 64) (Int32.ofNat 69) (Int32.ofNat 130) 300 := Or.inr ⟨by decide, 130, by decide, by decide, by decide, by decide, by decide, by decide, by decide⟩
theorem enc_130_70 : EnC 1 (Int32.ofNat 130) (Int32.ofNat 70) (Int32.ofNat 264) 300 := Or.inr ⟨by decide, 264, by decide, by decide, by decide, by decide, by decide, by decide, by decide⟩
section
variable {Z : State} {h h' : Heap} {x vb : Addr} {kv : ClassId} {ct : Int32} {Mn : Nat} {ds : List Int32}
theorem SBA.lt (B : SBA Z h x vb kv ct Mn ds) : x < h.size := B.1.lt
theorem SBA.ext (B : SBA Z h x vb kv ct Mn ds) (E : Ext h h') : SBA Z h' x vb kv ct Mn ds := by
  obtain ⟨a, b, c, d, cd, vs, e, f, r⟩ := B
  exact ⟨a.ext E, b.ext E, c.ext E, d.ext E, cd, vs, e.ext E, f.ext E, r⟩
theorem SBA.keep (B : SBA Z h x vb kv ct Mn ds) (K : Keep h h' []) (_ : x ∉ ([] : List Addr)) : SBA Z h' x vb kv ct Mn ds := by
  obtain ⟨a, b, c, d, cd, vs, e, f, r⟩ := B
  exact ⟨a.keep K, b.keep K nin0, c.keep K nin0, d.keep K nin0, cd, vs, e.keep K nin0, f.keep K nin0, r⟩
theorem SBA.arv (B : SBA Z h x vb kv ct Mn ds) : ∃ vs, Arv Z h vb kv .byte (Int32.ofNat Mn) vs (.int 0) := by
  obtain ⟨-, -, -, -, cd, vs, -, f, -⟩ := B
  exact ⟨vs, f⟩
end

def Q_rmMX (Z : State) (i1 i2 : Int32) (h0 : Heap) (n0 : Nat) : Option Value → Heap → List Loc → Prop := fun v h L => v = some (.int (if i1 < i2 then i2 else i1)) ∧ Fr n0 L ∧ h = h0
set_option maxRecDepth 65536 in
set_option maxHeartbeats 40000000 in
theorem rmMX (l : Launch) (Z : State) (a0 : Array Value) (hw : HW a0 Z) (ws : List Jvm.Cond) (i1 i2 : Int32) (h0 : Heap) (n0 : Nat)  :
    CT l (⟨"java/lang/Math", "max", "(II)I"⟩ : MethodName) jdk_29_method_65_code 2 (some .int) ws (⟨0, 0, 0, 0⟩ : Jvm.Room) #[(.int i1), (.int i2)] Z h0 (Q_rmMX Z i1 i2 h0 n0) := by
  refine Go.start (Jvm.Free.JP.mathPlain rfl (by decide +kernel)) #[vi i1, vi i2] n0 (by first | (simp [argsToLocals, Value.category, maxLocals]; done) | rfl) ?_
  intro p e s m below meth c s₁ Bd hx hby hml hZ hown X0 e0 N0
  have D := @dB _ _ hby _ D54
  refine gi X0 hx (D 0 rfl) rfl ?_
  refine gi X0 hx (D 1 rfl) rfl ?_
  by_cases hc2 : i1 < i2
  · -- hc2 True
    refine cY X0 hx 9 (D 2 rfl) (tlt hc2).1 (by decide) ?_
    refine gi X0 hx (D 5 rfl) rfl ?_
    exact Go.ret1 X0 hx Bd.returns Bd.notSynchronized rfl (Or.inl ⟨rfl, by simp, _, rfl⟩) (D 6 rfl) (by decide) (by decide) (by first | (rw [e0]; exact ⟨by rw [if_pos hc2], N0, rfl⟩) | exact ⟨by rw [if_pos hc2], N0, rfl⟩)
  · -- hc2 False
    refine cN X0 hx (D 2 rfl) (flt hc2).1 ?_
    refine gi X0 hx (D 3 rfl) rfl ?_
    refine gg X0 hx 10 (D 4 rfl) (by decide) ?_
    exact Go.ret1 X0 hx Bd.returns Bd.notSynchronized rfl (Or.inl ⟨rfl, by simp, _, rfl⟩) (D 6 rfl) (by decide) (by decide) (by first | (rw [e0]; exact ⟨by rw [if_neg hc2], N0, rfl⟩) | exact ⟨by rw [if_neg hc2], N0, rfl⟩)
def Q_rmMN1 (Z : State) (i1 i2 : Int32) (h0 : Heap) (n0 : Nat) : Option Value → Heap → List Loc → Prop := fun v h L => v = some (.int i1) ∧ Fr n0 L ∧ h = h0
set_option maxRecDepth 65536 in
set_option maxHeartbeats 40000000 in
theorem rmMN1 (l : Launch) (Z : State) (a0 : Array Value) (hw : HW a0 Z) (ws : List Jvm.Cond) (i1 i2 : Int32) (h0 : Heap) (n0 : Nat) (q : ¬ (i2 < i1)) :
    CT l (⟨"java/lang/Math", "min", "(II)I"⟩ : MethodName) jdk_29_method_69_code 2 (some .int) ws (⟨0, 0, 0, 0⟩ : Jvm.Room) #[(.int i1), (.int i2)] Z h0 (Q_rmMN1 Z i1 i2 h0 n0) := by
  refine Go.start (Jvm.Free.JP.mathPlain rfl (by decide +kernel)) #[vi i1, vi i2] n0 (by first | (simp [argsToLocals, Value.category, maxLocals]; done) | rfl) ?_
  intro p e s m below meth c s₁ Bd hx hby hml hZ hown X0 e0 N0
  have D := @dB _ _ hby _ D47
  refine gi X0 hx (D 0 rfl) rfl ?_
  refine gi X0 hx (D 1 rfl) rfl ?_
  refine cN X0 hx (D 2 rfl) (flt q).2.2.1 ?_
  refine gi X0 hx (D 3 rfl) rfl ?_
  refine gg X0 hx 10 (D 4 rfl) (by decide) ?_
  exact Go.ret1 X0 hx Bd.returns Bd.notSynchronized rfl (Or.inl ⟨rfl, by simp, _, rfl⟩) (D 6 rfl) (by decide) (by decide) (by first | (rw [e0]; exact ⟨rfl, N0, rfl⟩) | exact ⟨rfl, N0, rfl⟩)
def Q_rmNW (Z : State) (o1 g p3 r : Int32) (h0 : Heap) (n0 : Nat) : Option Value → Heap → List Loc → Prop := fun v h L => v = some (.int r) ∧ Fr n0 L ∧ h = h0
set_option maxRecDepth 65536 in
set_option maxHeartbeats 40000000 in
theorem rmNW (l : Launch) (Z : State) (a0 : Array Value) (hw : HW a0 Z) (ws : List Jvm.Cond) (o1 g p3 r : Int32) (h0 : Heap) (n0 : Nat) (hr : (o1 + (if g < p3 then p3 else g)) = r) (q1 : (0 : Int32) < r) (q2 : ¬ ((2147483639 : Int32) < r)) :
    CT l (⟨"jdk/internal/util/ArraysSupport", "newLength", "(III)I"⟩ : MethodName) jdk_48_method_27_code 4 (some .int) ws (⟨1, 0, 0, 16⟩ : Jvm.Room) #[(.int o1), (.int g), (.int p3)] Z h0 (Q_rmNW Z o1 g p3 r h0 n0) := by
  refine Go.start (plainFor_of_name pn_10) #[vi o1, vi g, vi p3, uu] n0 (by first | (simp [argsToLocals, Value.category, maxLocals]; done) | rfl) ?_
  intro p e s m below meth c s₁ Bd hx hby hml hZ hown X0 e0 N0
  have D := @dB _ _ hby _ D53
  refine gi X0 hx (D 0 rfl) rfl ?_
  refine gi X0 hx (D 1 rfl) rfl ?_
  refine gi X0 hx (D 2 rfl) rfl ?_
  refine kS (W := 1) (C := 0) (S := 0) X0 hx hZ hown (wd hw 249 rfl) (wd hw 250 rfl) (wd hw 211 rfl) (wd hw 251 rfl) (rmMX l Z a0 hw [] g p3 h0 n0) pd_14 (D 3 rfl) e0 hml (by exact ⟨rfl, rfl, rfl, rfl⟩) (by decide) fun v285 T285 L285 Lc285 X285 hQ285 l285 => ?_
  obtain ⟨rfl, Nq285, e285⟩ := hQ285
  have N285 := l285 N0 Nq285
  refine gq (XS.iadd X285.here hx rfl (D 4 rfl) rfl) rfl ?_
  show Go p e below _ (T285.setTop (mkF m 7 #[vi o1, vi g, vi p3, uu] [(.int (o1 + (if g < p3 then p3 else g)))]))
  rw [hr]
  refine gt X285 hx #[vi o1, vi g, vi p3, vi r] (D 5 rfl) rfl ?_
  refine gk X285 hx 0 (D 6 rfl) rfl ?_
  refine gi X285 hx (D 7 rfl) rfl ?_
  refine cN X285 hx (D 8 rfl) (tlt q1).2.1 ?_
  refine gi X285 hx (D 9 rfl) rfl ?_
  refine Go.by (fun t => X285.ldcInt hx hown (mvT hZ (wd hw 252 rfl)) (g := (mkF m 14 #[vi o1, vi g, vi p3, vi r] [(.int r)])) rfl (D 10 rfl) t) ?_
  show Go p e below _ (T285.setTop (mkF m 16 #[vi o1, vi g, vi p3, vi r] [(.int (2147483639 : Int32)), (.int r)]))
  refine cN X285 hx (D 11 rfl) (flt q2).2.2.1 ?_
  refine gi X285 hx (D 12 rfl) rfl ?_
  exact Go.ret1 X285 hx Bd.returns Bd.notSynchronized rfl (Or.inl ⟨rfl, by simp, _, rfl⟩) (D 13 rfl) (by decide) (by decide) (by first | (rw [e285]; exact ⟨rfl, N285, rfl⟩) | exact ⟨rfl, N285, rfl⟩)
def Q_rmNC (Z : State) (x1 vb : Addr) (kv : ClassId) (N m2 cd r : Int32) (vs : List Value) (h0 : Heap) (n0 : Nat) : Option Value → Heap → List Loc → Prop := fun v h L => v = some (.int (r >>> (cd &&& 31))) ∧ Fr n0 L ∧ h = h0
set_option maxRecDepth 65536 in
set_option maxHeartbeats 40000000 in
theorem rmNC (l : Launch) (Z : State) (a0 : Array Value) (hw : HW a0 Z) (ws : List Jvm.Cond) (x1 vb : Addr) (kv : ClassId) (N m2 cd r : Int32) (vs : List Value) (h0 : Heap) (n0 : Nat) (F_value_x1 : Fld Z h0 x1 "java/lang/AbstractStringBuilder" "value" "[B" (.ref vb)) (F_coder_x1 : Fld Z h0 x1 "java/lang/AbstractStringBuilder" "coder" "B" (.int cd)) (V_vb : Arv Z h0 vb kv .byte N vs (.int 0)) (hr : (N + (if ((m2 <<< (cd &&& 31)) - N) < (N + ((2 : Int32) <<< (cd &&& 31))) then (N + ((2 : Int32) <<< (cd &&& 31))) else ((m2 <<< (cd &&& 31)) - N))) = r) (q1 : (0 : Int32) < r) (q2 : ¬ ((2147483639 : Int32) < r)) (q3 : ¬ (r = (2147483647 : Int32))) :
    CT l (⟨"java/lang/AbstractStringBuilder", "newCapacity", "(I)I"⟩ : MethodName) jdk_68_method_10_code 6 (some .int) ws (⟨2, 0, 0, 34⟩ : Jvm.Room) #[(.ref x1), (.int m2)] Z h0 (Q_rmNC Z x1 vb kv N m2 cd r vs h0 n0) := by
  refine Go.start (plainFor_of_name pn_8) #[vr x1, vi m2, uu, uu, uu, uu] n0 (by first | (simp [argsToLocals, Value.category, maxLocals]; done) | rfl) ?_
  intro p e s m below meth c s₁ Bd hx hby hml hZ hown X0 e0 N0
  have D := @dB _ _ hby _ D52
  refine ga X0 hx (D 0 rfl) rfl rfl ?_
  refine gF X0 hx hZ hown (wd hw 126 rfl) Via.refl e0 F_value_x1 (D 1 rfl) fun T286 X286 e286 => ?_
  refine gN X286 hx hZ e286 V_vb (D 2 rfl) ?_
  refine gt X286 hx #[vr x1, vi m2, vi N, uu, uu, uu] (D 3 rfl) rfl ?_
  refine gi X286 hx (D 4 rfl) rfl ?_
  refine ga X286 hx (D 5 rfl) rfl rfl ?_
  refine gF X286 hx hZ hown (wd hw 128 rfl) Via.refl e286 F_coder_x1 (D 6 rfl) fun T287 X287 e287 => ?_
  refine gq (XS.ishl X287.here hx rfl (D 7 rfl) rfl) rfl ?_
  refine gt X287 hx #[vr x1, vi m2, vi N, vi (m2 <<< (cd &&& 31)), uu, uu] (D 8 rfl) rfl ?_
  refine gi X287 hx (D 9 rfl) rfl ?_
  refine gi X287 hx (D 10 rfl) rfl ?_
  refine gq (XS.isub X287.here hx rfl (D 11 rfl) rfl) rfl ?_
  refine gT X287 hx #[vr x1, vi m2, vi N, vi (m2 <<< (cd &&& 31)), vi ((m2 <<< (cd &&& 31)) - N), uu] (D 12 rfl) rfl ?_
  refine gi X287 hx (D 13 rfl) rfl ?_
  refine gI X287 hx (D 14 rfl) rfl ?_
  refine gi X287 hx (D 15 rfl) rfl ?_
  refine gk X287 hx 2 (D 16 rfl) rfl ?_
  refine ga X287 hx (D 17 rfl) rfl rfl ?_
  refine gF X287 hx hZ hown (wd hw 128 rfl) Via.refl e287 F_coder_x1 (D 18 rfl) fun T288 X288 e288 => ?_
  refine gq (XS.ishl X288.here hx rfl (D 19 rfl) rfl) rfl ?_
  refine gq (XS.iadd X288.here hx rfl (D 20 rfl) rfl) rfl ?_
  refine kS (W := 0) (C := 0) (S := 0) X288 hx hZ hown (wd hw 245 rfl) (wd hw 246 rfl) (wd hw 247 rfl) (wd hw 248 rfl) (rmNW l Z a0 hw [] N ((m2 <<< (cd &&& 31)) - N) (N + ((2 : Int32) <<< (cd &&& 31))) r h0 n0 hr q1 q2) pd_20 (D 21 rfl) e288 hml (by exact ⟨rfl, rfl, rfl, rfl⟩) (by decide) fun v289 T289 L289 Lc289 X289 hQ289 l289 => ?_
  obtain ⟨rfl, Nq289, e289⟩ := hQ289
  have N289 := l289 N0 Nq289
  refine gT X289 hx #[vr x1, vi m2, vi N, vi (m2 <<< (cd &&& 31)), vi ((m2 <<< (cd &&& 31)) - N), vi r] (D 22 rfl) rfl ?_
  refine gI X289 hx (D 23 rfl) rfl ?_
  refine Go.by (fun t => X289.ldcInt hx hown (mvT hZ (wd hw 253 rfl)) (g := (mkF m 36 #[vr x1, vi m2, vi N, vi (m2 <<< (cd &&& 31)), vi ((m2 <<< (cd &&& 31)) - N), vi r] [(.int r)])) rfl (D 24 rfl) t) ?_
  show Go p e below _ (T289.setTop (mkF m 38 #[vr x1, vi m2, vi N, vi (m2 <<< (cd &&& 31)), vi ((m2 <<< (cd &&& 31)) - N), vi r] [(.int (2147483647 : Int32)), (.int r)]))
  refine cY X289 hx 51 (D 25 rfl) (feq q3).2 (by decide) ?_
  refine gI X289 hx (D 31 rfl) rfl ?_
  refine ga X289 hx (D 32 rfl) rfl rfl ?_
  refine gF X289 hx hZ hown (wd hw 128 rfl) Via.refl e289 F_coder_x1 (D 33 rfl) fun T290 X290 e290 => ?_
  refine gq (XS.ishr X290.here hx rfl (D 34 rfl) rfl) rfl ?_
  exact Go.ret1 X290 hx Bd.returns Bd.notSynchronized rfl (Or.inl ⟨rfl, by simp, _, rfl⟩) (D 35 rfl) (by decide) (by decide) (by first | (rw [e290]; exact ⟨rfl, N289, rfl⟩) | exact ⟨rfl, N289, rfl⟩)
def Q_rmCY (Z : State) (a1 : Addr) (ka : ClassId) (us : List Value) (M mw : Int32) (h0 : Heap) (n0 : Nat) : Option Value → Heap → List Loc → Prop := fun v h L => ∃ (b : Addr) (kb : ClassId), v = some (.ref b) ∧ h0.size ≤ b ∧ Fr n0 L ∧ Keep h0 h [] ∧ Arv Z h b kb .byte mw us (.int 0)
set_option maxRecDepth 65536 in
set_option maxHeartbeats 40000000 in
theorem rmCY (l : Launch) (Z : State) (a0 : Array Value) (hw : HW a0 Z) (ws : List Jvm.Cond) (a1 : Addr) (ka : ClassId) (us : List Value) (M mw : Int32) (h0 : Heap) (n0 : Nat) (Z0 : n0 ≤ h0.size) (Od : Old Z n0 h0) (V_a1 : Arv Z h0 a1 ka .byte M us (.int 0)) (hM : us.length ≤ M.toNatClampNeg) (hlt : M < mw) (hM0 : ¬ M < 0) (hcap : mw.toNatClampNeg ≤ 300) :
    CT l (⟨"java/util/Arrays", "copyOf", "([BI)[B"⟩ : MethodName) jdk_65_method_121_code 3 (some (.array .byte)) ws (⟨1, 1, 300, 40⟩ : Jvm.Room) #[(.ref a1), (.int mw)] Z h0 (Q_rmCY Z a1 ka us M mw h0 n0) := by
  refine Go.start (plainFor_of_name pn_9) #[vr a1, vi mw, uu] n0 (by first | (simp [argsToLocals, Value.category, maxLocals]; done) | rfl) ?_
  intro p e s m below meth c s₁ Bd hx hby hml hZ hown X0 e0 N0
  have D := @dB _ _ hby _ D55
  have hmn := nat_le32 hM0 hlt
  have K0 : Keep h0 h0 [] := Keep.refl _ _
  refine gi X0 hx (D 0 rfl) rfl ?_
  refine ga X0 hx (D 1 rfl) rfl rfl ?_
  refine gN X0 hx hZ e0 V_a1 (D 2 rfl) ?_
  refine cY X0 hx 14 (D 3 rfl) (feq (fun q => Int32.lt_irrefl (by have z := hlt; rw [q] at z; exact z) : ¬ (mw = M))).2 (by decide) ?_
  refine gi X0 hx (D 8 rfl) rfl ?_
  obtain ⟨T291, h291, k291, X291, e291, E291, A291, st291⟩ := newP X0 hx hZ (wd hw 28 rfl) e0 (g := (mkF m 15 #[vr a1, vi mw, uu] [(.int mw)])) rfl (D 9 rfl) rfl hmn.1 (cap := 300) hcap (by decide) (by decide) (by decide)
  obtain ⟨b, g291⟩ : ∃ z, z = h0.size := ⟨_, rfl⟩
  rw [← g291] at A291 st291
  refine Go.by (fun t => st291 t) ?_
  have g_b : n0 ≤ b := Nat.le_trans Z0 (Nat.le_of_eq g291.symm)
  have sz_b : h0.size ≤ b := Nat.le_trans K0.1 (Nat.le_of_eq g291.symm)
  have ne_a1_b : a1 ≠ b := Nat.ne_of_lt (Nat.lt_of_lt_of_le V_a1.lt (Nat.le_of_eq g291.symm))
  replace Od := Od.ext E291
  replace V_a1 := V_a1.ext E291
  replace Z0 := Nat.le_trans Z0 E291.1
  replace K0 := K0.ext E291
  have V_b := Arv.new A291 hmn.1
  replace X291 := Stand.num (C := 1) (S := 300) X291 rfl rfl
  show Go p e below _ (T291.setTop (mkF m 17 #[vr a1, vi mw, uu] [(.ref b)]))
  replace V_b : Arv Z h291 b k291 .byte mw (List.replicate mw.toNatClampNeg (.int 0)) (.int 0) := V_b.pad (pad_rep [] _ _)
  refine gu X291 hx #[vr a1, vi mw, vr b] (D 10 rfl) rfl rfl ?_
  refine ga X291 hx (D 11 rfl) rfl rfl ?_
  refine gk X291 hx 0 (D 12 rfl) rfl ?_
  refine ga X291 hx (D 13 rfl) rfl rfl ?_
  refine gk X291 hx 0 (D 14 rfl) rfl ?_
  refine ga X291 hx (D 15 rfl) rfl rfl ?_
  refine gN X291 hx hZ e291 V_a1 (D 16 rfl) ?_
  refine gi X291 hx (D 17 rfl) rfl ?_
  refine kS (W := 4) (C := 1) (S := 300) X291 hx hZ hown (wd hw 209 rfl) (wd hw 210 rfl) (wd hw 211 rfl) (wd hw 212 rfl) (rmMN1 l Z a0 hw [] M mw h291 n0 (fun q => Int32.lt_asymm hlt q)) pd_14 (D 18 rfl) e291 hml (by exact ⟨rfl, rfl, rfl, rfl⟩) (by decide) fun v292 T292 L292 Lc292 X292 hQ292 l292 => ?_
  obtain ⟨rfl, Nq292, e292⟩ := hQ292
  have N292 := l292 N0 Nq292
  obtain ⟨T293, h293, L293, X293, e293, N293, K293, Vn293, st293⟩ := cpA X292 hx hZ hown (wd hw 213 rfl) (wd hw 216 rfl) (wd hw 214 rfl) (wd hw 215 rfl) e292 V_a1 V_b (us := ((List.range M.toNatClampNeg).map fun i => us.getD ((0 : Int32).toNatClampNeg + i) (.int 0))) (Or.inl ⟨rfl, rfl⟩) (by decide) (by decide) hM0 (by rw [(show (0 : Int32).toNatClampNeg = 0 from rfl), Nat.zero_add]; exact Nat.le_refl _) (by rw [(show (0 : Int32).toNatClampNeg = 0 from rfl), Nat.zero_add]; exact hmn.2) rfl (by rw [(show (0 : Int32).toNatClampNeg = 0 from rfl), Nat.zero_add, List.length_replicate]; exact hmn.2) N292 g_b (g := (mkF m 28 #[vr a1, vi mw, vr b] [(.int M), (.int (0 : Int32)), (.ref b), (.int (0 : Int32)), (.ref a1)])) rfl (by rw [hml]; rfl) rfl (D 19 rfl) (by decide) (W := 0) (by show 2 * 0 + _ ≤ _; exact Nat.le_of_eq rfl) (by decide)
  refine Go.by (fun t => st293 t) ?_
  replace Od := Od.keep K293 (allS g_b all0)
  replace V_a1 := V_a1.keep K293 (ninS ne_a1_b nin0)
  replace Z0 := Nat.le_trans Z0 K293.1
  replace K0 := K0.trans K293 (allS (P := fun x => x ∈ _ ∨ _ ≤ x) (Or.inr sz_b) all0)
  clear V_b
  have V_b := Vn293
  show Go p e below _ (T293.setTop (mkF m 31 #[vr a1, vi mw, vr b] []))
  replace V_b := V_b.pad (vs' := us) (cp_pad us _ rfl hM hmn.2)
  refine ga X293 hx (D 20 rfl) rfl rfl ?_
  exact Go.ret1 X293 hx Bd.returns Bd.notSynchronized rfl (Or.inr (Or.inr (Or.inr (Or.inr ⟨rfl, rfl, rfl⟩)))) (D 21 rfl) (by decide) (by decide) (by first | (rw [e293]; exact ⟨b, _, rfl, sz_b, N293, K0, V_b⟩) | exact ⟨b, _, rfl, sz_b, N293, K0, V_b⟩)
def Q_rmEN (Z : State) (x1 vb : Addr) (kv : ClassId) (N N2 m2 cd ct : Int32) (vs : List Value) (h0 : Heap) (n0 : Nat) : Option Value → Heap → List Loc → Prop := fun v h L => ∃ (bf : Addr) (kb : ClassId), v = none ∧ Fr n0 L ∧ Keep h0 h [x1] ∧ (bf = vb ∨ h0.size ≤ bf) ∧ Fld Z h x1 "java/lang/AbstractStringBuilder" "value" "[B" (.ref bf) ∧ Fld Z h x1 "java/lang/AbstractStringBuilder" "coder" "B" (.int cd) ∧ Fld Z h x1 "java/lang/AbstractStringBuilder" "count" "I" (.int ct) ∧ Fld Z h x1 "java/lang/AbstractStringBuilder" "maybeLatin1" "Z" (.int 0) ∧ Arv Z h bf kb .byte N2 vs (.int 0)
set_option maxRecDepth 65536 in
set_option maxHeartbeats 40000000 in
theorem rmEN (l : Launch) (Z : State) (a0 : Array Value) (hw : HW a0 Z) (ws : List Jvm.Cond) (x1 vb : Addr) (kv : ClassId) (N N2 m2 cd ct : Int32) (vs : List Value) (h0 : Heap) (n0 : Nat) (Z0 : n0 ≤ h0.size) (Od : Old Z n0 h0) (E_x1 : Exa Z h0 x1 "java/lang/StringBuilder") (F_value_x1 : Fld Z h0 x1 "java/lang/AbstractStringBuilder" "value" "[B" (.ref vb)) (F_coder_x1 : Fld Z h0 x1 "java/lang/AbstractStringBuilder" "coder" "B" (.int cd)) (F_count_x1 : Fld Z h0 x1 "java/lang/AbstractStringBuilder" "count" "I" (.int ct)) (F_maybeLatin1_x1 : Fld Z h0 x1 "java/lang/AbstractStringBuilder" "maybeLatin1" "Z" (.int 0)) (g_x1 : n0 ≤ x1) (V_vb : Arv Z h0 vb kv .byte N vs (.int 0)) (hvl : vs.length ≤ N.toNatClampNeg) (hN0 : ¬ N < 0) (hE : EnC cd N m2 N2 300) :
    CT l (⟨"java/lang/AbstractStringBuilder", "ensureCapacityInternal", "(I)V"⟩ : MethodName) jdk_68_method_9_code 3 none ws (⟨3, 1, 300, 58⟩ : Jvm.Room) #[(.ref x1), (.int m2)] Z h0 (Q_rmEN Z x1 vb kv N N2 m2 cd ct vs h0 n0) := by
  refine Go.start (plainFor_of_name pn_8) #[vr x1, vi m2, uu] n0 (by first | (simp [argsToLocals, Value.category, maxLocals]; done) | rfl) ?_
  intro p e s m below meth c s₁ Bd hx hby hml hZ hown X0 e0 N0
  have D := @dB _ _ hby _ D51
  have K0 : Keep h0 h0 [x1] := Keep.refl _ _
  refine ga X0 hx (D 0 rfl) rfl rfl ?_
  refine gF X0 hx hZ hown (wd hw 126 rfl) Via.refl e0 F_value_x1 (D 1 rfl) fun T294 X294 e294 => ?_
  refine gN X294 hx hZ e294 V_vb (D 2 rfl) ?_
  refine ga X294 hx (D 3 rfl) rfl rfl ?_
  refine gF X294 hx hZ hown (wd hw 128 rfl) Via.refl e294 F_coder_x1 (D 4 rfl) fun T295 X295 e295 => ?_
  refine gq (XS.ishr X295.here hx rfl (D 5 rfl) rfl) rfl ?_
  refine gt X295 hx #[vr x1, vi m2, vi (N >>> (cd &&& 31))] (D 6 rfl) rfl ?_
  refine gi X295 hx (D 7 rfl) rfl ?_
  refine gi X295 hx (D 8 rfl) rfl ?_
  refine gq (XS.isub X295.here hx rfl (D 9 rfl) rfl) rfl ?_
  rcases hE with ⟨hle, hN2⟩ | ⟨hgt, r, hr, q1, q2, q3, h6, hlt, hcap⟩
  ·
    refine zY X295 hx 38 (D 10 rfl) ((if0 _ _).trans (flt hle).2.2.2) (by decide) ?_
    exact Go.ret0 X295 hx Bd.returns Bd.notSynchronized (D 22 rfl) (by decide) (by decide) (by first | (rw [e295]; exact ⟨vb, kv, rfl, N0, K0, Or.inl rfl, F_value_x1, F_coder_x1, F_count_x1, F_maybeLatin1_x1, by rw [hN2]; exact V_vb⟩) | exact ⟨vb, kv, rfl, N0, K0, Or.inl rfl, F_value_x1, F_coder_x1, F_count_x1, F_maybeLatin1_x1, by rw [hN2]; exact V_vb⟩)
  ·
    refine zN X295 hx (D 10 rfl) ((if0 _ _).trans (tlt hgt).2.2.2) ?_
    refine ga X295 hx (D 11 rfl) rfl rfl ?_
    refine ga X295 hx (D 12 rfl) rfl rfl ?_
    refine gF X295 hx hZ hown (wd hw 126 rfl) Via.refl e295 F_value_x1 (D 13 rfl) fun T296 X296 e296 => ?_
    refine ga X296 hx (D 14 rfl) rfl rfl ?_
    refine gi X296 hx (D 15 rfl) rfl ?_
    obtain ⟨cq297, q297, q297'⟩ := E_x1.cell
    obtain ⟨_, _, ⟨T297, L297, k297, n297⟩, -, X297, ⟨Lc297, hQ297, l297, y297, z297⟩, st297⟩ := X296.privateBack hx (y := (⟨"java/lang/AbstractStringBuilder", "newCapacity", "(I)I"⟩ : MethodName)) hown (mvT hZ (wd hw 240 rfl)) (mvT hZ (wd hw 241 rfl)) (selSelf (mvT hZ (wd hw 243 rfl)) (Cond.privateMethod_at (mvP hZ (wd hw 242 rfl) (args := #[]))) (mvT hZ (wd hw 241 rfl)) (by decide)) (Cond.privateMethod_at (mvP hZ (wd hw 242 rfl) (args := #[]))) (mvT hZ (wd hw 244 rfl)) (by decide) (backOf (W := 2) (rmNC l Z a0 hw [] x1 vb kv N m2 cd r vs h0 n0 F_value_x1 F_coder_x1 V_vb hr q1 q2 q3) hZ (wd hw 244 rfl) (wd hw 122 rfl) (by decide) (by decide)) (g := (mkF m 24 #[vr x1, vi m2, vi (N >>> (cd &&& 31))] [(.int m2), (.ref x1), (.ref vb), (.ref x1)])) rfl (by rw [hml]; rfl) (Steps.refl _) (a := x1) (by rw [e296]; exact q297) q297' (argsL := [(.int m2)]) (rest := [(.ref vb), (.ref x1)]) (lenOf pd_27 rfl) rfl (by show 2 * 0 + _ ≤ _; exact Nat.le_of_eq rfl) (D 16 rfl) (fun _ _ => ⟨rfl, e296, (by decide : 0 + 0 ≤ _), (by decide : 0 + 0 ≤ _)⟩)
    dsimp only [Pt.U, Pt.locs, Pt.cells, Pt.slots] at X297 l297 y297 z297 st297 hQ297
    subst y297 z297
    obtain ⟨rfl, Nq297, e297⟩ := hQ297
    have N297 : Fr n0 L297 := by rw [l297]; exact Fr.app N0 Nq297
    clear l297
    refine Go.by (fun t => st297.trans) ?_
    show Go p e below _ (T297.setTop (mkF m 27 #[vr x1, vi m2, vi (N >>> (cd &&& 31))] [(.int (r >>> (cd &&& 31))), (.ref vb), (.ref x1)]))
    refine ga X297 hx (D 17 rfl) rfl rfl ?_
    refine gF X297 hx hZ hown (wd hw 128 rfl) Via.refl e297 F_coder_x1 (D 18 rfl) fun T298 X298 e298 => ?_
    refine gq (XS.ishl X298.here hx rfl (D 19 rfl) rfl) rfl ?_
    show Go p e below _ (T298.setTop (mkF m 32 #[vr x1, vi m2, vi (N >>> (cd &&& 31))] [(.int ((r >>> (cd &&& 31)) <<< (cd &&& 31))), (.ref vb), (.ref x1)]))
    rw [h6]
    refine kS (W := 1) (C := 1) (S := 300) X298 hx hZ hown (wd hw 254 rfl) (wd hw 255 rfl) (wd hw 201 rfl) (wd hw 256 rfl) (rmCY l Z a0 hw [] vb kv vs N N2 h0 n0 Z0 Od V_vb hvl hlt hN0 hcap) pd_45 (D 20 rfl) e298 hml (by exact ⟨rfl, rfl, rfl, rfl⟩) (by decide) fun v299 T299 L299 Lc299 X299 hQ299 l299 => ?_
    obtain ⟨bf, k_bf, rfl, sz_bf, Nq299, K299, V_bf⟩ := hQ299
    have g_bf : n0 ≤ bf := Nat.le_trans Z0 sz_bf
    have ne_vb_bf : vb ≠ bf := Nat.ne_of_lt (Nat.lt_of_lt_of_le V_vb.lt sz_bf)
    have ne_x1_bf : x1 ≠ bf := Nat.ne_of_lt (Nat.lt_of_lt_of_le E_x1.lt sz_bf)
    replace sz_bf : h0.size ≤ bf := Nat.le_trans K0.1 sz_bf
    have N299 := l299 N297 Nq299
    replace Od := Od.keep K299 all0
    replace E_x1 := E_x1.keep K299
    replace F_value_x1 := F_value_x1.keep K299 nin0
    replace F_coder_x1 := F_coder_x1.keep K299 nin0
    replace F_count_x1 := F_count_x1.keep K299 nin0
    replace F_maybeLatin1_x1 := F_maybeLatin1_x1.keep K299 nin0
    replace V_vb := V_vb.keep K299 nin0
    replace Z0 := Nat.le_trans Z0 K299.1
    replace K0 := K0.trans K299 all0
    obtain ⟨T300, h300, X300, e300, W300, st300⟩ := putF X299 hx hZ hown (host := "") (Or.inl (wd hw 126 rfl)) Via.refl rfl F_value_x1 E_x1 (Or.inl (wd hw 127 rfl)) (wd hw 113 rfl) (ty := (.array .byte)) (by decide) rfl rfl (g := (mkF m 35 #[vr x1, vi m2, vi (N >>> (cd &&& 31))] [(.ref bf), (.ref x1)])) rfl rfl (D 21 rfl)
    refine Go.by (fun t => st300 t) ?_
    have ne_vb_x1 : vb ≠ x1 := Ne.symm (Exa.neArv E_x1 V_vb (wd hw 113 rfl))
    replace F_value_x1 := F_value_x1.same W300
    replace Od := Od.wr W300 g_x1
    replace E_x1 := E_x1.wr W300
    replace F_coder_x1 := F_coder_x1.other W300 (Or.inr (slot_ne (Or.inl (wd hw 129 rfl)) (Or.inl (wd hw 127 rfl)) (by decide) (t := .byte) (t' := (.array .byte)) (by decide) (by decide)))
    replace F_count_x1 := F_count_x1.other W300 (Or.inr (slot_ne (Or.inl (wd hw 234 rfl)) (Or.inl (wd hw 127 rfl)) (by decide) (t := .int) (t' := (.array .byte)) (by decide) (by decide)))
    replace F_maybeLatin1_x1 := F_maybeLatin1_x1.other W300 (Or.inr (slot_ne (Or.inl (wd hw 349 rfl)) (Or.inl (wd hw 127 rfl)) (by decide) (t := .boolean) (t' := (.array .byte)) (by decide) (by decide)))
    replace V_vb := V_vb.other W300 ne_vb_x1
    replace V_bf := V_bf.other W300 (Ne.symm ne_x1_bf)
    replace Z0 := Nat.le_trans Z0 (Keep.of_wr W300).1
    replace K0 := K0.wr W300 (Or.inl (List.mem_of_getElem? (i := 0) rfl))
    have N300 := Fr.snoc X300 N299 g_x1
    show Go p e below _ (T300.setTop (mkF m 38 #[vr x1, vi m2, vi (N >>> (cd &&& 31))] []))
    exact Go.ret0 X300 hx Bd.returns Bd.notSynchronized (D 22 rfl) (by decide) (by decide) (by first | (rw [e300]; exact ⟨bf, k_bf, rfl, N300, K0, Or.inr sz_bf, F_value_x1, F_coder_x1, F_count_x1, F_maybeLatin1_x1, V_bf⟩) | exact ⟨bf, k_bf, rfl, N300, K0, Or.inr sz_bf, F_value_x1, F_coder_x1, F_count_x1, F_maybeLatin1_x1, V_bf⟩)
def Q_rmUF (Z : State) (vb bf : Addr) (kv kb : ClassId) (Sn Mn on : Nat) (bs : List Value) (cs : List Int32) (rs : List Value) (G3 : Value) (h0 : Heap) (n0 : Nat) : Option Value → Heap → List Loc → Prop := fun v h L => v = none ∧ Fr n0 L ∧ Keep h0 h [bf] ∧ Arv Z h bf kb .byte (Int32.ofNat (2 * Mn)) (bs ++ utfL (cs.map ch8)) (.int 0)
set_option maxRecDepth 65536 in
set_option maxHeartbeats 40000000 in
theorem rmUF (l : Launch) (Z : State) (a0 : Array Value) (hw : HW a0 Z) (ws : List Jvm.Cond) (vb bf : Addr) (kv kb : ClassId) (Sn Mn on : Nat) (bs : List Value) (cs : List Int32) (rs : List Value) (G3 : Value) (h0 : Heap) (n0 : Nat) (Od : Old Z n0 h0) (A1 : SA1 Z) (HS : SHS Z) (LS : SLS Z) (O4 : SO4 Z G3) (rG3 : G3.isRef = true) (V_vb : Arv Z h0 vb kv .byte (Int32.ofNat Sn) (cs.map Value.int ++ rs) (.int 0)) (V_bf : Arv Z h0 bf kb .byte (Int32.ofNat (2 * Mn)) (bs ++ List.replicate (2 * cs.length) (.int 0)) (.int 0)) (g_bf : n0 ≤ bf) (ne_vb_bf : vb ≠ bf) (hb : bs.length = 2 * on) (hm : on + cs.length ≤ Mn) (hs : cs.length ≤ Sn) (hMn : Sn ≤ 100000 ∧ Mn ≤ 100000) :
    CT l (⟨"java/lang/StringUTF16", "inflate", "([BI[BII)V"⟩ : MethodName) jdk_52_method_86_code 6 none ws (⟨3, 0, 0, 50⟩ : Jvm.Room) #[(.ref vb), (.int (0 : Int32)), (.ref bf), (.int (Int32.ofNat on)), (.int (Int32.ofNat cs.length))] Z h0 (Q_rmUF Z vb bf kv kb Sn Mn on bs cs rs G3 h0 n0) := by
  refine Go.start (plainFor_of_name pn_2) #[vr vb, vi (0 : Int32), vr bf, vi (Int32.ofNat on), vi (Int32.ofNat cs.length), uu] n0 (by first | (simp [argsToLocals, Value.category, maxLocals]; done) | rfl) ?_
  intro p e s m below meth c s₁ Bd hx hby hml hZ hown X0 e0 N0
  have D := @dB _ _ hby _ D61
  have K0 : Keep h0 h0 [bf] := Keep.refl _ _
  refine gi X0 hx (D 0 rfl) rfl ?_
  refine gI X0 hx (D 1 rfl) rfl ?_
  refine ga X0 hx (D 2 rfl) rfl rfl ?_
  refine kS (W := 0) (C := 0) (S := 0) X0 hx hZ hown (wd hw 190 rfl) (wd hw 191 rfl) (wd hw 26 rfl) (wd hw 192 rfl) (rm41 l Z a0 hw [] bf kb (Int32.ofNat (2 * Mn)) _ (Int32.ofNat on) (Int32.ofNat cs.length) (Int32.ofNat Mn) G3 h0 n0 Od O4 rG3 V_bf (o_shr (by omega)) (or_nn3 (by omega) (by omega) (by omega)) (by rw [o_sub (by omega) (by omega), o_lt (by omega) (by omega)]; omega)) pd_30 (D 3 rfl) e0 hml (by exact ⟨rfl, rfl, rfl, rfl⟩) (by decide) fun v301 T301 L301 Lc301 X301 hQ301 l301 => ?_
  obtain ⟨rfl, Nq301, e301⟩ := hQ301
  have N301 := l301 N0 Nq301
  refine gk X301 hx 0 (D 4 rfl) rfl ?_
  refine gT X301 hx #[vr vb, vi (0 : Int32), vr bf, vi (Int32.ofNat on), vi (Int32.ofNat cs.length), vi (0 : Int32)] (D 5 rfl) rfl ?_
  replace K0 : Keep h0 T301.heap [bf] := by rw [e301]; exact K0
  replace Od : Old Z n0 T301.heap := by rw [e301]; exact Od
  replace V_vb : Arv Z T301.heap vb kv .byte (Int32.ofNat Sn) (cs.map Value.int ++ rs) (.int 0) := by rw [e301]; exact V_vb
  replace V_bf : Arv Z T301.heap bf kb .byte (Int32.ofNat (2 * Mn)) (bs ++ List.replicate (2 * cs.length) (.int 0)) (.int 0) := by rw [e301]; exact V_bf
  have loop : ∀ (ws us : List Int32) (Tl : State) (Ll : List Loc) (hcs : cs = us ++ ws) (Xl : Stand p l e (⟨3, 0, 0, 50⟩ : Jvm.Room) s m #[(.ref vb), (.int (0 : Int32)), (.ref bf), (.int (Int32.ofNat on)), (.int (Int32.ofNat cs.length))] below meth c Tl Ll 0 0) (Nl : Fr n0 Ll) (K0 : Keep h0 Tl.heap [bf]) (Od : Old Z n0 Tl.heap) (V_vb : Arv Z Tl.heap vb kv .byte (Int32.ofNat Sn) (cs.map Value.int ++ rs) (.int 0)) (V_bf : Arv Z Tl.heap bf kb .byte (Int32.ofNat (2 * Mn)) (bs ++ (utfL (us.map ch8) ++ List.replicate (2 * ws.length) (.int 0))) (.int 0)), Go p e below (End (fun v h L => v = none ∧ Fr n0 L ∧ Keep h0 h [bf] ∧ Arv Z h bf kb .byte (Int32.ofNat (2 * Mn)) (bs ++ utfL (cs.map ch8)) (.int 0)) s 0 0) (Tl.setTop (mkF m 10 #[vr vb, vi (Int32.ofNat us.length), vr bf, vi (Int32.ofNat (on + us.length)), vi (Int32.ofNat cs.length), vi (Int32.ofNat us.length)] [])) := by
    intro ws
    induction ws with
    | nil =>
      intro us Tl Ll hcs Xl Nl K0 Od V_vb V_bf
      have hu : us = cs := by rw [hcs, List.append_nil]
      refine gI Xl hx (D 6 rfl) rfl ?_
      refine gI Xl hx (D 7 rfl) rfl ?_
      refine cY Xl hx 41 (D 8 rfl) (flt (by rw [hu]; exact Int32.lt_irrefl : ¬ ((Int32.ofNat us.length) < (Int32.ofNat cs.length)))).2.1 (by decide) ?_
      have V_f : Arv Z Tl.heap bf kb .byte (Int32.ofNat (2 * Mn)) (bs ++ (utfL (us.map ch8) ++ [])) (.int 0) := V_bf
      rw [List.append_nil, hu] at V_f
      exact Go.ret0 Xl hx Bd.returns Bd.notSynchronized (D 21 rfl) (by decide) (by decide) ⟨rfl, Nl, K0, V_f⟩
    | cons cx ws ih =>
      intro us Tl Ll hcs Xl Nl K0 Od V_vb V_bf
      have hl : cs.length < 2147483648 := by omega
      have hn : cs.length = us.length + (ws.length + 1) := by rw [hcs, List.length_append, List.length_cons]
      refine gI Xl hx (D 6 rfl) rfl ?_
      refine gI Xl hx (D 7 rfl) rfl ?_
      refine cN Xl hx (D 8 rfl) (tlt ((in_mid hcs hl).2 : (Int32.ofNat us.length) < (Int32.ofNat cs.length))).2.1 ?_
      refine ga Xl hx (D 9 rfl) rfl rfl ?_
      refine gi Xl hx (D 10 rfl) rfl ?_
      refine gn Xl hx #[vr vb, vi (Int32.ofNat us.length), vr bf, vi ((Int32.ofNat (on + us.length)) + (1 : Int32)), vi (Int32.ofNat cs.length), vi (Int32.ofNat us.length)] (D 11 rfl) rfl rfl ?_
      refine ga Xl hx (D 12 rfl) rfl rfl ?_
      refine gi Xl hx (D 13 rfl) rfl ?_
      refine gn Xl hx #[vr vb, vi ((Int32.ofNat us.length) + (1 : Int32)), vr bf, vi ((Int32.ofNat (on + us.length)) + (1 : Int32)), vi (Int32.ofNat cs.length), vi (Int32.ofNat us.length)] (D 14 rfl) rfl rfl ?_
      refine gB Xl hx hZ rfl V_vb (o_in (by omega) (by omega)) (.int cx) (at_mid2 rs hcs hl) (D 15 rfl) ?_
      refine gs Xl hx 255 (D 16 rfl) rfl ?_
      refine gq (XS.iand Xl.here hx rfl (D 17 rfl) rfl) rfl ?_
      refine kS (W := 0) (C := 0) (S := 0) Xl hx hZ hown (wd hw 87 rfl) (wd hw 88 rfl) (wd hw 26 rfl) (wd hw 89 rfl) (rm20 l Z a0 hw [] bf kb (Int32.ofNat (2 * Mn)) _ (Int32.ofNat (on + us.length)) (cx &&& (255 : Int32)) (Int32.ofNat (2 * (on + us.length))) (2 * (on + us.length)) (2 * (on + us.length) + 1) Tl.heap n0 Od A1 HS LS g_bf V_bf (o_shl _) (o_in (by omega) (by omega)) (by rw [o_one]; exact o_in (by omega) (by omega)) (o_nat (by omega)) (by rw [o_one]; exact o_nat (by omega)) (by rw [List.length_append, List.length_append, utf_len, List.length_map, List.length_replicate, List.length_cons]; omega) (by rw [List.length_append, List.length_append, utf_len, List.length_map, List.length_replicate, List.length_cons]; omega)) pd_26 (D 18 rfl) rfl hml (by exact ⟨rfl, rfl, rfl, rfl⟩) (by decide) fun v303 T303 L303 Lc303 X303 hQ303 l303 => ?_
      obtain ⟨rfl, Nq303, K303, Vn303⟩ := hQ303
      have N303 := l303 Nl Nq303
      replace Od := Od.keep K303 (allS g_bf all0)
      replace V_vb := V_vb.keep K303 (ninS ne_vb_bf nin0)
      replace K0 := K0.trans K303 (allS (P := fun x => x ∈ _ ∨ _ ≤ x) (Or.inl (List.mem_of_getElem? (i := 0) rfl)) all0)
      clear V_bf
      have V_bf : Arv Z T303.heap bf kb .byte (Int32.ofNat (2 * Mn)) (bs ++ (utfL ((us ++ [cx]).map ch8) ++ List.replicate (2 * ws.length) (.int 0))) (.int 0) := arv_eq Vn303 (utf_put3 ch8 bs hb us cx (2 * ws.length) _)
      refine gn X303 hx #[vr vb, vi ((Int32.ofNat us.length) + (1 : Int32)), vr bf, vi ((Int32.ofNat (on + us.length)) + (1 : Int32)), vi (Int32.ofNat cs.length), vi ((Int32.ofNat us.length) + (1 : Int32))] (D 19 rfl) rfl rfl ?_
      refine gg X303 hx 10 (D 20 rfl) (by decide) ?_
      show Go p e below _ (T303.setTop (mkF m 10 #[vr vb, vi ((Int32.ofNat us.length) + (1 : Int32)), vr bf, vi ((Int32.ofNat (on + us.length)) + (1 : Int32)), vi (Int32.ofNat cs.length), vi ((Int32.ofNat us.length) + (1 : Int32))] []))
      rw [snoc_len us cx, snoc_len2 on us cx]
      exact ih (us ++ [cx]) _ _ (snoc_app hcs) X303 N303 K0 Od V_vb V_bf
  exact loop cs [] _ _ rfl X301 N301 K0 Od V_vb V_bf
def Q_rmLF (Z : State) (vb bf : Addr) (kv kb : ClassId) (Sn Mn on : Nat) (bs : List Value) (cs : List Int32) (rs : List Value) (G3 : Value) (h0 : Heap) (n0 : Nat) : Option Value → Heap → List Loc → Prop := fun v h L => v = none ∧ Fr n0 L ∧ Keep h0 h [bf] ∧ Arv Z h bf kb .byte (Int32.ofNat (2 * Mn)) (bs ++ utfL (cs.map ch8)) (.int 0)
set_option maxRecDepth 65536 in
set_option maxHeartbeats 40000000 in
theorem rmLF (l : Launch) (Z : State) (a0 : Array Value) (hw : HW a0 Z) (ws : List Jvm.Cond) (vb bf : Addr) (kv kb : ClassId) (Sn Mn on : Nat) (bs : List Value) (cs : List Int32) (rs : List Value) (G3 : Value) (h0 : Heap) (n0 : Nat) (Od : Old Z n0 h0) (A1 : SA1 Z) (HS : SHS Z) (LS : SLS Z) (O4 : SO4 Z G3) (rG3 : G3.isRef = true) (V_vb : Arv Z h0 vb kv .byte (Int32.ofNat Sn) (cs.map Value.int ++ rs) (.int 0)) (V_bf : Arv Z h0 bf kb .byte (Int32.ofNat (2 * Mn)) (bs ++ List.replicate (2 * cs.length) (.int 0)) (.int 0)) (g_bf : n0 ≤ bf) (ne_vb_bf : vb ≠ bf) (hb : bs.length = 2 * on) (hm : on + cs.length ≤ Mn) (hs : cs.length ≤ Sn) (hMn : Sn ≤ 100000 ∧ Mn ≤ 100000) :
    CT l (⟨"java/lang/StringLatin1", "inflate", "([BI[BII)V"⟩ : MethodName) jdk_43_method_50_code 5 none ws (⟨4, 0, 0, 72⟩ : Jvm.Room) #[(.ref vb), (.int (0 : Int32)), (.ref bf), (.int (Int32.ofNat on)), (.int (Int32.ofNat cs.length))] Z h0 (Q_rmLF Z vb bf kv kb Sn Mn on bs cs rs G3 h0 n0) := by
  refine Go.start (plainFor_of_name pn_11) #[vr vb, vi (0 : Int32), vr bf, vi (Int32.ofNat on), vi (Int32.ofNat cs.length)] n0 (by first | (simp [argsToLocals, Value.category, maxLocals]; done) | rfl) ?_
  intro p e s m below meth c s₁ Bd hx hby hml hZ hown X0 e0 N0
  have D := @dB _ _ hby _ D60
  refine ga X0 hx (D 0 rfl) rfl rfl ?_
  refine gi X0 hx (D 1 rfl) rfl ?_
  refine ga X0 hx (D 2 rfl) rfl rfl ?_
  refine gi X0 hx (D 3 rfl) rfl ?_
  refine gI X0 hx (D 4 rfl) rfl ?_
  refine kS (W := 0) (C := 0) (S := 0) X0 hx hZ hown (wd hw 283 rfl) (wd hw 284 rfl) (wd hw 26 rfl) (wd hw 285 rfl) (rmUF l Z a0 hw [] vb bf kv kb Sn Mn on bs cs rs G3 h0 n0 Od A1 HS LS O4 rG3 V_vb V_bf g_bf ne_vb_bf hb hm hs hMn) pd_48 (D 5 rfl) e0 hml (by exact ⟨rfl, rfl, rfl, rfl⟩) (by decide) fun v304 T304 L304 Lc304 X304 hQ304 l304 => ?_
  obtain ⟨rfl, Nq304, K304, Vn⟩ := hQ304
  have N304 := l304 N0 Nq304
  exact Go.ret0 X304 hx Bd.returns Bd.notSynchronized (D 6 rfl) (by decide) (by decide) ⟨rfl, N304, K304, Vn⟩
def Q_rmAF (Z : State) (x1 vb : Addr) (kv : ClassId) (Mn : Nat) (ds : List Int32) (G1 : Int32) (G3 : Value) (h0 : Heap) (n0 : Nat) : Option Value → Heap → List Loc → Prop := fun v h L => ∃ (bf : Addr) (kb : ClassId), v = none ∧ Fr n0 L ∧ Keep h0 h [x1] ∧ h0.size ≤ bf ∧ Fld Z h x1 "java/lang/AbstractStringBuilder" "value" "[B" (.ref bf) ∧ Fld Z h x1 "java/lang/AbstractStringBuilder" "coder" "B" (.int 1) ∧ Fld Z h x1 "java/lang/AbstractStringBuilder" "count" "I" (.int (Int32.ofNat ds.length)) ∧ Fld Z h x1 "java/lang/AbstractStringBuilder" "maybeLatin1" "Z" (.int 0) ∧ Arv Z h bf kb .byte (Int32.ofNat (2 * Mn)) (utfL ds) (.int 0)
set_option maxRecDepth 65536 in
set_option maxHeartbeats 40000000 in
theorem rmAF (l : Launch) (Z : State) (a0 : Array Value) (hw : HW a0 Z) (ws : List Jvm.Cond) (x1 vb : Addr) (kv : ClassId) (Mn : Nat) (ds : List Int32) (G1 : Int32) (G3 : Value) (h0 : Heap) (n0 : Nat) (Z0 : n0 ≤ h0.size) (Od : Old Z n0 h0) (A1 : SA1 Z) (HS : SHS Z) (LS : SLS Z) (O4 : SO4 Z G3) (rG3 : G3.isRef = true) (O2 : SO2 Z G1) (P5 : ¬ (G1 = (0 : Int32))) (E_x1 : Exa Z h0 x1 "java/lang/StringBuilder") (F_value_x1 : Fld Z h0 x1 "java/lang/AbstractStringBuilder" "value" "[B" (.ref vb)) (F_coder_x1 : Fld Z h0 x1 "java/lang/AbstractStringBuilder" "coder" "B" (.int 0)) (F_count_x1 : Fld Z h0 x1 "java/lang/AbstractStringBuilder" "count" "I" (.int (Int32.ofNat ds.length))) (F_maybeLatin1_x1 : Fld Z h0 x1 "java/lang/AbstractStringBuilder" "maybeLatin1" "Z" (.int 0)) (V_vb : Arv Z h0 vb kv .byte (Int32.ofNat Mn) (latL ds) (.int 0)) (g_x1 : n0 ≤ x1) (la : LatP ds) (hm : ds.length ≤ Mn) (hMn : 2 * Mn ≤ 300) :
    CT l (⟨"java/lang/AbstractStringBuilder", "inflate", "()V"⟩ : MethodName) jdk_68_method_11_code 2 none ws (⟨5, 1, 300, 92⟩ : Jvm.Room) #[(.ref x1)] Z h0 (Q_rmAF Z x1 vb kv Mn ds G1 G3 h0 n0) := by
  refine Go.start (plainFor_of_name pn_8) #[vr x1, uu] n0 (by first | (simp [argsToLocals, Value.category, maxLocals]; done) | rfl) ?_
  intro p e s m below meth c s₁ Bd hx hby hml hZ hown X0 e0 N0
  have D := @dB _ _ hby _ D58
  have K0 : Keep h0 h0 [x1] := Keep.refl _ _
  refine ga X0 hx (D 0 rfl) rfl rfl ?_
  refine kV (W := 0) (C := 0) (S := 0) X0 hx hZ hown (wd hw 273 rfl) (wd hw 274 rfl) (wd hw 276 rfl) (wd hw 275 rfl) (wd hw 122 rfl) (wd hw 277 rfl) (notFace_of_selects (args := #[]) (mvT hZ (wd hw 276 rfl))) E_x1 (rmAL0 l Z a0 hw [] x1 G1 h0 n0 Od O2 P5 F_coder_x1) pd_21 (D 1 rfl) e0 hml (by exact ⟨rfl, rfl, rfl, rfl⟩) (by decide) fun v305 T305 L305 Lc305 X305 hQ305 l305 => ?_
  obtain ⟨rfl, Nq305, e305⟩ := hQ305
  have N305 := l305 N0 Nq305
  refine zY X305 hx 8 (D 2 rfl) ((if0 _ _).trans (feq (by decide : ¬ ((1 : Int32) = (0 : Int32)))).2) (by decide) ?_
  refine ga X305 hx (D 4 rfl) rfl rfl ?_
  refine gF X305 hx hZ hown (wd hw 126 rfl) Via.refl e305 F_value_x1 (D 5 rfl) fun T306 X306 e306 => ?_
  refine gN X306 hx hZ e306 V_vb (D 6 rfl) ?_
  refine kS (W := 0) (C := 1) (S := 300) X306 hx hZ hown (wd hw 278 rfl) (wd hw 81 rfl) (wd hw 26 rfl) (wd hw 82 rfl) (rmNBs l Z a0 hw [] (Int32.ofNat Mn) (Int32.ofNat (2 * Mn)) h0 n0 Z0 (o_nn (by omega)) ((o_lt (b := 1073741823) (by omega) (by decide)).2 (by omega)) (o_shl _) (o_nn (by omega)) (by rw [o_nat (by omega)]; omega)) pd_25 (D 7 rfl) e306 hml (by exact ⟨rfl, rfl, rfl, rfl⟩) (by decide) fun v307 T307 L307 Lc307 X307 hQ307 l307 => ?_
  obtain ⟨bf, k_bf, rfl, sz_bf, Nq307, K307, V_bf⟩ := hQ307
  have g_bf : n0 ≤ bf := Nat.le_trans Z0 sz_bf
  have ne_vb_bf : vb ≠ bf := Nat.ne_of_lt (Nat.lt_of_lt_of_le V_vb.lt sz_bf)
  have ne_x1_bf : x1 ≠ bf := Nat.ne_of_lt (Nat.lt_of_lt_of_le E_x1.lt sz_bf)
  replace sz_bf : h0.size ≤ bf := Nat.le_trans K0.1 sz_bf
  have N307 := l307 N305 Nq307
  replace Od := Od.keep K307 all0
  replace E_x1 := E_x1.keep K307
  replace F_value_x1 := F_value_x1.keep K307 nin0
  replace F_coder_x1 := F_coder_x1.keep K307 nin0
  replace F_count_x1 := F_count_x1.keep K307 nin0
  replace F_maybeLatin1_x1 := F_maybeLatin1_x1.keep K307 nin0
  replace V_vb := V_vb.keep K307 nin0
  replace Z0 := Nat.le_trans Z0 K307.1
  replace K0 := K0.trans K307 all0
  replace V_bf : Arv Z T307.heap bf k_bf .byte (Int32.ofNat (2 * Mn)) (List.replicate (2 * (ds.map fun c : Int32 => c.toInt8.toInt32).length) (.int 0)) (.int 0) := V_bf.pad (pad_rep [] _ (2 * (ds.map fun c : Int32 => c.toInt8.toInt32).length))
  refine gu X307 hx #[vr x1, vr bf] (D 8 rfl) rfl rfl ?_
  refine ga X307 hx (D 9 rfl) rfl rfl ?_
  refine gF X307 hx hZ hown (wd hw 126 rfl) Via.refl rfl F_value_x1 (D 10 rfl) fun T308 X308 e308 => ?_
  refine gk X308 hx 0 (D 11 rfl) rfl ?_
  refine ga X308 hx (D 12 rfl) rfl rfl ?_
  refine gk X308 hx 0 (D 13 rfl) rfl ?_
  refine ga X308 hx (D 14 rfl) rfl rfl ?_
  refine gF X308 hx hZ hown (wd hw 233 rfl) Via.refl e308 F_count_x1 (D 15 rfl) fun T309 X309 e309 => ?_
  show Go p e below _ (T309.setTop (mkF m 28 #[vr x1, vr bf] [(.int (Int32.ofNat ds.length)), (.int (0 : Int32)), (.ref bf), (.int (0 : Int32)), (.ref vb)]))
  rw [show (Int32.ofNat ds.length) = Int32.ofNat (ds.map fun c : Int32 => c.toInt8.toInt32).length from by rw [List.length_map]]
  have V_v2 := arv_eq V_vb (List.append_nil (latL ds)).symm
  refine kS (W := 0) (C := 1) (S := 300) X309 hx hZ hown (wd hw 279 rfl) (wd hw 280 rfl) (wd hw 281 rfl) (wd hw 282 rfl) (rmLF l Z a0 hw [] vb bf kv k_bf Mn Mn 0 [] (ds.map fun c : Int32 => c.toInt8.toInt32) [] G3 T307.heap n0 Od A1 HS LS O4 rG3 V_v2 V_bf g_bf ne_vb_bf rfl (by rw [List.length_map]; omega) (by rw [List.length_map]; omega) ⟨by omega, by omega⟩) pd_48 (D 16 rfl) e309 hml (by exact ⟨rfl, rfl, rfl, rfl⟩) (by decide) fun v310 T310 L310 Lc310 X310 hQ310 l310 => ?_
  obtain ⟨rfl, Nq310, K310, Vn⟩ := hQ310
  clear V_v2
  have N310 := l310 N307 Nq310
  replace Od := Od.keep K310 (allS g_bf all0)
  replace E_x1 := E_x1.keep K310
  replace F_value_x1 := F_value_x1.keep K310 (ninS ne_x1_bf nin0)
  replace F_coder_x1 := F_coder_x1.keep K310 (ninS ne_x1_bf nin0)
  replace F_count_x1 := F_count_x1.keep K310 (ninS ne_x1_bf nin0)
  replace F_maybeLatin1_x1 := F_maybeLatin1_x1.keep K310 (ninS ne_x1_bf nin0)
  replace V_vb := V_vb.keep K310 (ninS ne_vb_bf nin0)
  replace Z0 := Nat.le_trans Z0 K310.1
  replace K0 := K0.trans K310 (allS (P := fun x => x ∈ _ ∨ _ ≤ x) (Or.inr sz_bf) all0)
  clear V_bf
  have V_bf : Arv Z T310.heap bf k_bf .byte (Int32.ofNat (2 * Mn)) (utfL ((ds.map fun c : Int32 => c.toInt8.toInt32).map ch8)) (.int 0) := Vn
  rw [map_ch8 la] at V_bf
  refine ga X310 hx (D 17 rfl) rfl rfl ?_
  refine ga X310 hx (D 18 rfl) rfl rfl ?_
  obtain ⟨T311, h311, X311, e311, W311, st311⟩ := putF X310 hx hZ hown (host := "") (Or.inl (wd hw 126 rfl)) Via.refl rfl F_value_x1 E_x1 (Or.inl (wd hw 127 rfl)) (wd hw 113 rfl) (ty := (.array .byte)) (by decide) rfl rfl (g := (mkF m 33 #[vr x1, vr bf] [(.ref bf), (.ref x1)])) rfl rfl (D 19 rfl)
  refine Go.by (fun t => st311 t) ?_
  have ne_vb_x1 : vb ≠ x1 := Ne.symm (Exa.neArv E_x1 V_vb (wd hw 113 rfl))
  replace F_value_x1 := F_value_x1.same W311
  replace Od := Od.wr W311 g_x1
  replace E_x1 := E_x1.wr W311
  replace F_coder_x1 := F_coder_x1.other W311 (Or.inr (slot_ne (Or.inl (wd hw 129 rfl)) (Or.inl (wd hw 127 rfl)) (by decide) (t := .byte) (t' := (.array .byte)) (by decide) (by decide)))
  replace F_count_x1 := F_count_x1.other W311 (Or.inr (slot_ne (Or.inl (wd hw 234 rfl)) (Or.inl (wd hw 127 rfl)) (by decide) (t := .int) (t' := (.array .byte)) (by decide) (by decide)))
  replace F_maybeLatin1_x1 := F_maybeLatin1_x1.other W311 (Or.inr (slot_ne (Or.inl (wd hw 349 rfl)) (Or.inl (wd hw 127 rfl)) (by decide) (t := .boolean) (t' := (.array .byte)) (by decide) (by decide)))
  replace V_vb := V_vb.other W311 ne_vb_x1
  replace V_bf := V_bf.other W311 (Ne.symm ne_x1_bf)
  replace Z0 := Nat.le_trans Z0 (Keep.of_wr W311).1
  replace K0 := K0.wr W311 (Or.inl (List.mem_of_getElem? (i := 0) rfl))
  have N311 := Fr.snoc X311 N310 g_x1
  show Go p e below _ (T311.setTop (mkF m 36 #[vr x1, vr bf] []))
  refine ga X311 hx (D 20 rfl) rfl rfl ?_
  refine gk X311 hx 1 (D 21 rfl) rfl ?_
  obtain ⟨T312, h312, X312, e312, W312, st312⟩ := putFN X311 hx hZ hown (wd hw 128 rfl) Via.refl e311 F_coder_x1 E_x1 (Or.inl (wd hw 129 rfl)) (wd hw 113 rfl) (ty := .byte) (v' := (.int (1 : Int32))) (by decide) (by first | rfl | decide) (by first | rfl | decide | exact fits_nar_byte _) (g := (mkF m 38 #[vr x1, vr bf] [(.int (1 : Int32)), (.ref x1)])) rfl rfl (D 22 rfl)
  refine Go.by (fun t => st312 t) ?_
  replace F_coder_x1 := F_coder_x1.same W312
  replace Od := Od.wr W312 g_x1
  replace E_x1 := E_x1.wr W312
  replace F_value_x1 := F_value_x1.other W312 (Or.inr (slot_ne (Or.inl (wd hw 127 rfl)) (Or.inl (wd hw 129 rfl)) (by decide) (t := (.array .byte)) (t' := .byte) (by decide) (by decide)))
  replace F_count_x1 := F_count_x1.other W312 (Or.inr (slot_ne (Or.inl (wd hw 234 rfl)) (Or.inl (wd hw 129 rfl)) (by decide) (t := .int) (t' := .byte) (by decide) (by decide)))
  replace F_maybeLatin1_x1 := F_maybeLatin1_x1.other W312 (Or.inr (slot_ne (Or.inl (wd hw 349 rfl)) (Or.inl (wd hw 129 rfl)) (by decide) (t := .boolean) (t' := .byte) (by decide) (by decide)))
  replace V_vb := V_vb.other W312 ne_vb_x1
  replace V_bf := V_bf.other W312 (Ne.symm ne_x1_bf)
  replace Z0 := Nat.le_trans Z0 (Keep.of_wr W312).1
  replace K0 := K0.wr W312 (Or.inl (List.mem_of_getElem? (i := 0) rfl))
  have N312 := Fr.snoc X312 N311 g_x1
  show Go p e below _ (T312.setTop (mkF m 41 #[vr x1, vr bf] []))
  exact Go.ret0 X312 hx Bd.returns Bd.notSynchronized (D 23 rfl) (by decide) (by decide) (by first | (rw [e312]; exact ⟨bf, k_bf, rfl, N312, K0, sz_bf, F_value_x1, F_coder_x1, F_count_x1, F_maybeLatin1_x1, V_bf⟩) | exact ⟨bf, k_bf, rfl, N312, K0, sz_bf, F_value_x1, F_coder_x1, F_count_x1, F_maybeLatin1_x1, V_bf⟩)
def Q_rmAFn (Z : State) (x1 : Addr) (G1 : Int32) (h0 : Heap) (n0 : Nat) : Option Value → Heap → List Loc → Prop := fun v h L => v = none ∧ Fr n0 L ∧ h = h0
set_option maxRecDepth 65536 in
set_option maxHeartbeats 40000000 in
theorem rmAFn (l : Launch) (Z : State) (a0 : Array Value) (hw : HW a0 Z) (ws : List Jvm.Cond) (x1 : Addr) (G1 : Int32) (h0 : Heap) (n0 : Nat) (Od : Old Z n0 h0) (O2 : SO2 Z G1) (P5 : ¬ (G1 = (0 : Int32))) (E_x1 : Exa Z h0 x1 "java/lang/StringBuilder") (F_coder_x1 : Fld Z h0 x1 "java/lang/AbstractStringBuilder" "coder" "B" (.int 1)) :
    CT l (⟨"java/lang/AbstractStringBuilder", "inflate", "()V"⟩ : MethodName) jdk_68_method_11_code 2 none ws (⟨1, 0, 0, 13⟩ : Jvm.Room) #[(.ref x1)] Z h0 (Q_rmAFn Z x1 G1 h0 n0) := by
  refine Go.start (plainFor_of_name pn_8) #[vr x1, uu] n0 (by first | (simp [argsToLocals, Value.category, maxLocals]; done) | rfl) ?_
  intro p e s m below meth c s₁ Bd hx hby hml hZ hown X0 e0 N0
  have D := @dB _ _ hby _ D58
  refine ga X0 hx (D 0 rfl) rfl rfl ?_
  refine kV (W := 0) (C := 0) (S := 0) X0 hx hZ hown (wd hw 273 rfl) (wd hw 274 rfl) (wd hw 276 rfl) (wd hw 275 rfl) (wd hw 122 rfl) (wd hw 277 rfl) (notFace_of_selects (args := #[]) (mvT hZ (wd hw 276 rfl))) E_x1 (rmAL1 l Z a0 hw [] x1 G1 h0 n0 Od O2 P5 F_coder_x1) pd_21 (D 1 rfl) e0 hml (by exact ⟨rfl, rfl, rfl, rfl⟩) (by decide) fun v313 T313 L313 Lc313 X313 hQ313 l313 => ?_
  obtain ⟨rfl, Nq313, e313⟩ := hQ313
  have N313 := l313 N0 Nq313
  refine zN X313 hx (D 2 rfl) ((if0 _ _).trans (teq (rfl : (0 : Int32) = (0 : Int32))).2) ?_
  exact Go.ret0 X313 hx Bd.returns Bd.notSynchronized (D 3 rfl) (by decide) (by decide) (by first | (rw [e313]; exact ⟨rfl, N313, rfl⟩) | exact ⟨rfl, N313, rfl⟩)
def Q_rmIF0 (Z : State) (x1 s1 : Addr) (cd G1 : Int32) (h0 : Heap) (n0 : Nat) : Option Value → Heap → List Loc → Prop := fun v h L => v = none ∧ Fr n0 L ∧ h = h0
set_option maxRecDepth 65536 in
set_option maxHeartbeats 40000000 in
theorem rmIF0 (l : Launch) (Z : State) (a0 : Array Value) (hw : HW a0 Z) (ws : List Jvm.Cond) (x1 s1 : Addr) (cd G1 : Int32) (h0 : Heap) (n0 : Nat) (Od : Old Z n0 h0) (O2 : SO2 Z G1) (P5 : ¬ (G1 = (0 : Int32))) (E_s1 : Exa Z h0 s1 "java/lang/String") (F_coder_x1 : Fld Z h0 x1 "java/lang/AbstractStringBuilder" "coder" "B" (.int cd)) (F_coder_s1 : Fld Z h0 s1 "java/lang/String" "coder" "B" (.int cd)) (h01 : cd = 0 ∨ cd = 1) :
    CT l (⟨"java/lang/AbstractStringBuilder", "inflateIfNeededFor", "(Ljava/lang/String;)V"⟩ : MethodName) jdk_68_method_71_code 2 none ws (⟨1, 0, 0, 13⟩ : Jvm.Room) #[(.ref x1), (.ref s1)] Z h0 (Q_rmIF0 Z x1 s1 cd G1 h0 n0) := by
  refine Go.start (plainFor_of_name pn_8) #[vr x1, vr s1] n0 (by first | (simp [argsToLocals, Value.category, maxLocals]; done) | rfl) ?_
  intro p e s m below meth c s₁ Bd hx hby hml hZ hown X0 e0 N0
  have D := @dB _ _ hby _ D57
  refine gS X0 hx hZ hown (wd hw 125 rfl) e0 (O2.ext Od.2) (D 0 rfl) fun T314 X314 e314 => ?_
  refine zN X314 hx (D 1 rfl) ((if0 _ _).trans (feq P5).1) ?_
  refine ga X314 hx (D 2 rfl) rfl rfl ?_
  refine gF X314 hx hZ hown (wd hw 128 rfl) Via.refl e314 F_coder_x1 (D 3 rfl) fun T315 X315 e315 => ?_
  refine ga X315 hx (D 4 rfl) rfl rfl ?_
  refine kV (W := 1) (C := 0) (S := 0) X315 hx hZ hown (wd hw 267 rfl) (wd hw 49 rfl) (wd hw 51 rfl) (wd hw 50 rfl) (wd hw 12 rfl) (wd hw 52 rfl) (notFace_of_selects (args := #[]) (mvT hZ (wd hw 51 rfl))) E_s1 (rmCD l Z a0 hw [] s1 cd G1 h0 n0 Od O2 P5 F_coder_s1 h01) pd_19 (D 5 rfl) e315 hml (by exact ⟨rfl, rfl, rfl, rfl⟩) (by decide) fun v316 T316 L316 Lc316 X316 hQ316 l316 => ?_
  obtain ⟨rfl, Nq316, e316⟩ := hQ316
  have N316 := l316 N0 Nq316
  refine cY X316 hx 21 (D 6 rfl) (teq (rfl : cd = cd)).1 (by decide) ?_
  exact Go.ret0 X316 hx Bd.returns Bd.notSynchronized (D 9 rfl) (by decide) (by decide) (by first | (rw [e316]; exact ⟨rfl, N316, rfl⟩) | exact ⟨rfl, N316, rfl⟩)
def Q_rmIFU (Z : State) (s1 : Addr) (x1 vb : Addr) (kv : ClassId) (Mn : Nat) (ds : List Int32) (G1 : Int32) (G3 : Value) (h0 : Heap) (n0 : Nat) : Option Value → Heap → List Loc → Prop := fun v h L => ∃ (bf : Addr) (kb : ClassId), v = none ∧ Fr n0 L ∧ Keep h0 h [x1] ∧ h0.size ≤ bf ∧ Fld Z h x1 "java/lang/AbstractStringBuilder" "value" "[B" (.ref bf) ∧ Fld Z h x1 "java/lang/AbstractStringBuilder" "coder" "B" (.int 1) ∧ Fld Z h x1 "java/lang/AbstractStringBuilder" "count" "I" (.int (Int32.ofNat ds.length)) ∧ Fld Z h x1 "java/lang/AbstractStringBuilder" "maybeLatin1" "Z" (.int 0) ∧ Arv Z h bf kb .byte (Int32.ofNat (2 * Mn)) (utfL ds) (.int 0)
set_option maxRecDepth 65536 in
set_option maxHeartbeats 40000000 in
theorem rmIFU (l : Launch) (Z : State) (a0 : Array Value) (hw : HW a0 Z) (ws : List Jvm.Cond) (s1 : Addr) (x1 vb : Addr) (kv : ClassId) (Mn : Nat) (ds : List Int32) (G1 : Int32) (G3 : Value) (h0 : Heap) (n0 : Nat) (Z0 : n0 ≤ h0.size) (Od : Old Z n0 h0) (A1 : SA1 Z) (HS : SHS Z) (LS : SLS Z) (O4 : SO4 Z G3) (rG3 : G3.isRef = true) (O2 : SO2 Z G1) (P5 : ¬ (G1 = (0 : Int32))) (E_x1 : Exa Z h0 x1 "java/lang/StringBuilder") (F_value_x1 : Fld Z h0 x1 "java/lang/AbstractStringBuilder" "value" "[B" (.ref vb)) (F_coder_x1 : Fld Z h0 x1 "java/lang/AbstractStringBuilder" "coder" "B" (.int 0)) (F_count_x1 : Fld Z h0 x1 "java/lang/AbstractStringBuilder" "count" "I" (.int (Int32.ofNat ds.length))) (F_maybeLatin1_x1 : Fld Z h0 x1 "java/lang/AbstractStringBuilder" "maybeLatin1" "Z" (.int 0)) (V_vb : Arv Z h0 vb kv .byte (Int32.ofNat Mn) (latL ds) (.int 0)) (g_x1 : n0 ≤ x1) (la : LatP ds) (hm : ds.length ≤ Mn) (hMn : 2 * Mn ≤ 300) (E_s1 : Exa Z h0 s1 "java/lang/String") (F_coder_s1 : Fld Z h0 s1 "java/lang/String" "coder" "B" (.int 1)) :
    CT l (⟨"java/lang/AbstractStringBuilder", "inflateIfNeededFor", "(Ljava/lang/String;)V"⟩ : MethodName) jdk_68_method_71_code 2 none ws (⟨6, 1, 300, 108⟩ : Jvm.Room) #[(.ref x1), (.ref s1)] Z h0 (Q_rmIFU Z s1 x1 vb kv Mn ds G1 G3 h0 n0) := by
  refine Go.start (plainFor_of_name pn_8) #[vr x1, vr s1] n0 (by first | (simp [argsToLocals, Value.category, maxLocals]; done) | rfl) ?_
  intro p e s m below meth c s₁ Bd hx hby hml hZ hown X0 e0 N0
  have D := @dB _ _ hby _ D57
  refine gS X0 hx hZ hown (wd hw 125 rfl) e0 (O2.ext Od.2) (D 0 rfl) fun T317 X317 e317 => ?_
  refine zN X317 hx (D 1 rfl) ((if0 _ _).trans (feq P5).1) ?_
  refine ga X317 hx (D 2 rfl) rfl rfl ?_
  refine gF X317 hx hZ hown (wd hw 128 rfl) Via.refl e317 F_coder_x1 (D 3 rfl) fun T318 X318 e318 => ?_
  refine ga X318 hx (D 4 rfl) rfl rfl ?_
  refine kV (W := 1) (C := 0) (S := 0) X318 hx hZ hown (wd hw 267 rfl) (wd hw 49 rfl) (wd hw 51 rfl) (wd hw 50 rfl) (wd hw 12 rfl) (wd hw 52 rfl) (notFace_of_selects (args := #[]) (mvT hZ (wd hw 51 rfl))) E_s1 (rmCD l Z a0 hw [] s1 1 G1 h0 n0 Od O2 P5 F_coder_s1 (Or.inr rfl)) pd_19 (D 5 rfl) e318 hml (by exact ⟨rfl, rfl, rfl, rfl⟩) (by decide) fun v319 T319 L319 Lc319 X319 hQ319 l319 => ?_
  obtain ⟨rfl, Nq319, e319⟩ := hQ319
  have N319 := l319 N0 Nq319
  refine cN X319 hx (D 6 rfl) (feq (by decide : ¬ ((0 : Int32) = (1 : Int32)))).1 ?_
  refine ga X319 hx (D 7 rfl) rfl rfl ?_
  obtain ⟨cq320, q320, q320'⟩ := E_x1.cell
  obtain ⟨_, _, ⟨T320, L320, k320, n320⟩, -, X320, ⟨Lc320, hQ320, l320, y320, z320⟩, st320⟩ := X319.privateBack hx (y := (⟨"java/lang/AbstractStringBuilder", "inflate", "()V"⟩ : MethodName)) hown (mvT hZ (wd hw 268 rfl)) (mvT hZ (wd hw 269 rfl)) (selSelf (mvT hZ (wd hw 271 rfl)) (Cond.privateMethod_at (mvP hZ (wd hw 270 rfl) (args := #[]))) (mvT hZ (wd hw 269 rfl)) (by decide)) (Cond.privateMethod_at (mvP hZ (wd hw 270 rfl) (args := #[]))) (mvT hZ (wd hw 272 rfl)) (by decide) (backOf (W := 0) (rmAF l Z a0 hw [] x1 vb kv Mn ds G1 G3 h0 n0 Z0 Od A1 HS LS O4 rG3 O2 P5 E_x1 F_value_x1 F_coder_x1 F_count_x1 F_maybeLatin1_x1 V_vb g_x1 la hm hMn) hZ (wd hw 272 rfl) (wd hw 122 rfl) (by decide) (by decide)) (g := (mkF m 18 #[vr x1, vr s1] [(.ref x1)])) rfl (by rw [hml]; rfl) (Steps.refl _) (a := x1) (by rw [e319]; exact q320) q320' (argsL := []) (rest := []) (lenOf pd_7 rfl) rfl (by show 2 * 0 + _ ≤ _; exact Nat.le_of_eq rfl) (D 8 rfl) (fun _ _ => ⟨rfl, e319, (by decide : 0 + 1 ≤ _), (by decide : 0 + 300 ≤ _)⟩)
  dsimp only [Pt.U, Pt.locs, Pt.cells, Pt.slots] at X320 l320 y320 z320 st320 hQ320
  subst y320 z320
  obtain ⟨bf, kb, rfl, Nq320, K320, sz, f1, f2, f3, f4, Vn⟩ := hQ320
  have N320 : Fr n0 L320 := by rw [l320]; exact Fr.app N319 Nq320
  clear l320
  refine Go.by (fun t => st320.trans) ?_
  replace X320 := Stand.num (C := 1) (S := 300) X320 rfl rfl
  show Go p e below _ (T320.setTop (mkF m 21 #[vr x1, vr s1] []))
  exact Go.ret0 X320 hx Bd.returns Bd.notSynchronized (D 9 rfl) (by decide) (by decide) ⟨bf, kb, rfl, N320, K320, sz, f1, f2, f3, f4, Vn⟩
def Q_rmIFN (Z : State) (x1 s1 : Addr) (G1 : Int32) (h0 : Heap) (n0 : Nat) : Option Value → Heap → List Loc → Prop := fun v h L => v = none ∧ Fr n0 L ∧ h = h0
set_option maxRecDepth 65536 in
set_option maxHeartbeats 40000000 in
theorem rmIFN (l : Launch) (Z : State) (a0 : Array Value) (hw : HW a0 Z) (ws : List Jvm.Cond) (x1 s1 : Addr) (G1 : Int32) (h0 : Heap) (n0 : Nat) (Od : Old Z n0 h0) (O2 : SO2 Z G1) (P5 : ¬ (G1 = (0 : Int32))) (E_s1 : Exa Z h0 s1 "java/lang/String") (E_x1 : Exa Z h0 x1 "java/lang/StringBuilder") (F_coder_x1 : Fld Z h0 x1 "java/lang/AbstractStringBuilder" "coder" "B" (.int 1)) (F_coder_s1 : Fld Z h0 s1 "java/lang/String" "coder" "B" (.int 0)) :
    CT l (⟨"java/lang/AbstractStringBuilder", "inflateIfNeededFor", "(Ljava/lang/String;)V"⟩ : MethodName) jdk_68_method_71_code 2 none ws (⟨2, 0, 0, 28⟩ : Jvm.Room) #[(.ref x1), (.ref s1)] Z h0 (Q_rmIFN Z x1 s1 G1 h0 n0) := by
  refine Go.start (plainFor_of_name pn_8) #[vr x1, vr s1] n0 (by first | (simp [argsToLocals, Value.category, maxLocals]; done) | rfl) ?_
  intro p e s m below meth c s₁ Bd hx hby hml hZ hown X0 e0 N0
  have D := @dB _ _ hby _ D57
  refine gS X0 hx hZ hown (wd hw 125 rfl) e0 (O2.ext Od.2) (D 0 rfl) fun T321 X321 e321 => ?_
  refine zN X321 hx (D 1 rfl) ((if0 _ _).trans (feq P5).1) ?_
  refine ga X321 hx (D 2 rfl) rfl rfl ?_
  refine gF X321 hx hZ hown (wd hw 128 rfl) Via.refl e321 F_coder_x1 (D 3 rfl) fun T322 X322 e322 => ?_
  refine ga X322 hx (D 4 rfl) rfl rfl ?_
  refine kV (W := 1) (C := 0) (S := 0) X322 hx hZ hown (wd hw 267 rfl) (wd hw 49 rfl) (wd hw 51 rfl) (wd hw 50 rfl) (wd hw 12 rfl) (wd hw 52 rfl) (notFace_of_selects (args := #[]) (mvT hZ (wd hw 51 rfl))) E_s1 (rmCD l Z a0 hw [] s1 0 G1 h0 n0 Od O2 P5 F_coder_s1 (Or.inl rfl)) pd_19 (D 5 rfl) e322 hml (by exact ⟨rfl, rfl, rfl, rfl⟩) (by decide) fun v323 T323 L323 Lc323 X323 hQ323 l323 => ?_
  obtain ⟨rfl, Nq323, e323⟩ := hQ323
  have N323 := l323 N0 Nq323
  refine cN X323 hx (D 6 rfl) (feq (by decide : ¬ ((1 : Int32) = (0 : Int32)))).1 ?_
  refine ga X323 hx (D 7 rfl) rfl rfl ?_
  obtain ⟨cq324, q324, q324'⟩ := E_x1.cell
  obtain ⟨_, _, ⟨T324, L324, k324, n324⟩, -, X324, ⟨Lc324, hQ324, l324, y324, z324⟩, st324⟩ := X323.privateBack hx (y := (⟨"java/lang/AbstractStringBuilder", "inflate", "()V"⟩ : MethodName)) hown (mvT hZ (wd hw 268 rfl)) (mvT hZ (wd hw 269 rfl)) (selSelf (mvT hZ (wd hw 271 rfl)) (Cond.privateMethod_at (mvP hZ (wd hw 270 rfl) (args := #[]))) (mvT hZ (wd hw 269 rfl)) (by decide)) (Cond.privateMethod_at (mvP hZ (wd hw 270 rfl) (args := #[]))) (mvT hZ (wd hw 272 rfl)) (by decide) (backOf (W := 0) (rmAFn l Z a0 hw [] x1 G1 h0 n0 Od O2 P5 E_x1 F_coder_x1) hZ (wd hw 272 rfl) (wd hw 122 rfl) (by decide) (by decide)) (g := (mkF m 18 #[vr x1, vr s1] [(.ref x1)])) rfl (by rw [hml]; rfl) (Steps.refl _) (a := x1) (by rw [e323]; exact q324) q324' (argsL := []) (rest := []) (lenOf pd_7 rfl) rfl (by show 2 * 0 + _ ≤ _; exact Nat.le_of_eq rfl) (D 8 rfl) (fun _ _ => ⟨rfl, e323, (by decide : 0 + 0 ≤ _), (by decide : 0 + 0 ≤ _)⟩)
  dsimp only [Pt.U, Pt.locs, Pt.cells, Pt.slots] at X324 l324 y324 z324 st324 hQ324
  subst y324 z324
  obtain ⟨rfl, Nq324, e324⟩ := hQ324
  have N324 : Fr n0 L324 := by rw [l324]; exact Fr.app N323 Nq324
  clear l324
  refine Go.by (fun t => st324.trans) ?_
  show Go p e below _ (T324.setTop (mkF m 21 #[vr x1, vr s1] []))
  exact Go.ret0 X324 hx Bd.returns Bd.notSynchronized (D 9 rfl) (by decide) (by decide) (by first | (rw [e324]; exact ⟨rfl, N324, rfl⟩) | exact ⟨rfl, N324, rfl⟩)
def Q_rmGB (Z : State) (s1 t1 b1 : Addr) (kt kb : ClassId) (cd : Int32) (bs ys : List Value) (mw M ct off : Int32) (G1 : Int32) (h0 : Heap) (n0 : Nat) : Option Value → Heap → List Loc → Prop := fun v h L => v = none ∧ Fr n0 L ∧ Keep h0 h [b1] ∧ Arv Z h b1 kb .byte M (bs ++ ys) (.int 0)
set_option maxRecDepth 65536 in
set_option maxHeartbeats 40000000 in
theorem rmGB (l : Launch) (Z : State) (a0 : Array Value) (hw : HW a0 Z) (ws : List Jvm.Cond) (s1 t1 b1 : Addr) (kt kb : ClassId) (cd : Int32) (bs ys : List Value) (mw M ct off : Int32) (G1 : Int32) (h0 : Heap) (n0 : Nat) (Od : Old Z n0 h0) (O2 : SO2 Z G1) (P5 : ¬ (G1 = (0 : Int32))) (E_s1 : Exa Z h0 s1 "java/lang/String") (F_value_s1 : Fld Z h0 s1 "java/lang/String" "value" "[B" (.ref t1)) (F_coder_s1 : Fld Z h0 s1 "java/lang/String" "coder" "B" (.int cd)) (h01 : cd = 0 ∨ cd = 1) (V_t1 : Arv Z h0 t1 kt .byte mw ys (.int 0)) (V_b1 : Arv Z h0 b1 kb .byte M bs (.int 0)) (g_b1 : n0 ≤ b1) (ne_t1_b1 : t1 ≠ b1) (hoff : (ct <<< (cd &&& 31)) = off) (hm : mw.toNatClampNeg = ys.length) (hm0 : ¬ mw < 0) (ho : off.toNatClampNeg = bs.length) (ho0 : ¬ off < 0) (hM : bs.length + ys.length ≤ M.toNatClampNeg) :
    CT l (⟨"java/lang/String", "getBytes", "([BIB)V"⟩ : MethodName) jdk_42_method_147_code 4 none ws (⟨1, 0, 0, 40⟩ : Jvm.Room) #[(.ref s1), (.ref b1), (.int ct), (.int cd)] Z h0 (Q_rmGB Z s1 t1 b1 kt kb cd bs ys mw M ct off G1 h0 n0) := by
  refine Go.start (plainFor_of_name pn_1) #[vr s1, vr b1, vi ct, vi cd] n0 (by first | (simp [argsToLocals, Value.category, maxLocals]; done) | rfl) ?_
  intro p e s m below meth c s₁ Bd hx hby hml hZ hown X0 e0 N0
  have D := @dB _ _ hby _ D62
  replace V_b1 : Arv Z h0 b1 kb .byte M (bs ++ List.replicate (ys.length + 0) (.int 0)) (.int 0) := V_b1.pad (pad_rep bs _ _)
  have K0 : Keep h0 h0 [b1] := Keep.refl _ _
  refine ga X0 hx (D 0 rfl) rfl rfl ?_
  refine kV (W := 0) (C := 0) (S := 0) X0 hx hZ hown (wd hw 48 rfl) (wd hw 49 rfl) (wd hw 51 rfl) (wd hw 50 rfl) (wd hw 12 rfl) (wd hw 52 rfl) (notFace_of_selects (args := #[]) (mvT hZ (wd hw 51 rfl))) E_s1 (rmCD l Z a0 hw [] s1 cd G1 h0 n0 Od O2 P5 F_coder_s1 h01) pd_19 (D 1 rfl) e0 hml (by exact ⟨rfl, rfl, rfl, rfl⟩) (by decide) fun v325 T325 L325 Lc325 X325 hQ325 l325 => ?_
  obtain ⟨rfl, Nq325, e325⟩ := hQ325
  have N325 := l325 N0 Nq325
  refine gi X325 hx (D 2 rfl) rfl ?_
  refine cN X325 hx (D 3 rfl) (teq (rfl : cd = cd)).2 ?_
  refine ga X325 hx (D 4 rfl) rfl rfl ?_
  refine gF X325 hx hZ hown (wd hw 37 rfl) Via.refl e325 F_value_s1 (D 5 rfl) fun T326 X326 e326 => ?_
  refine gk X326 hx 0 (D 6 rfl) rfl ?_
  refine ga X326 hx (D 7 rfl) rfl rfl ?_
  refine gi X326 hx (D 8 rfl) rfl ?_
  refine gi X326 hx (D 9 rfl) rfl ?_
  refine gq (XS.ishl X326.here hx rfl (D 10 rfl) rfl) rfl ?_
  refine ga X326 hx (D 11 rfl) rfl rfl ?_
  show Go p e below _ (T326.setTop (mkF m 18 #[vr s1, vr b1, vi ct, vi cd] [(.ref s1), (.int (ct <<< (cd &&& 31))), (.ref b1), (.int (0 : Int32)), (.ref t1)]))
  rw [hoff]
  refine gF X326 hx hZ hown (wd hw 37 rfl) Via.refl e326 F_value_s1 (D 12 rfl) fun T327 X327 e327 => ?_
  refine gN X327 hx hZ e327 V_t1 (D 13 rfl) ?_
  obtain ⟨T328, h328, L328, X328, e328, N328, K328, Vn328, st328⟩ := cpA X327 hx hZ hown (wd hw 291 rfl) (wd hw 216 rfl) (wd hw 214 rfl) (wd hw 215 rfl) e327 V_t1 V_b1 (us := ys) (Or.inl ⟨rfl, rfl⟩) (by decide) ho0 hm0 (by rw [show (0 : Int32).toNatClampNeg = 0 from rfl, Nat.zero_add]; exact Nat.le_refl _) (by rw [ho, hm]; exact hM) (range_all ys _ hm rfl) (by rw [ho, hm, List.length_append, List.length_replicate]; omega) N325 g_b1 (g := (mkF m 22 #[vr s1, vr b1, vi ct, vi cd] [(.int mw), (.int off), (.ref b1), (.int (0 : Int32)), (.ref t1)])) rfl (by rw [hml]; rfl) rfl (D 14 rfl) (by decide) (W := 0) (by show 2 * 0 + _ ≤ _; exact Nat.le_of_eq rfl) (by decide)
  refine Go.by (fun t => st328 t) ?_
  have ne_s1_b1 : s1 ≠ b1 := Exa.neArv E_s1 V_b1 (wd hw 11 rfl)
  replace Od := Od.keep K328 (allS g_b1 all0)
  replace E_s1 := E_s1.keep K328
  replace F_value_s1 := F_value_s1.keep K328 (ninS ne_s1_b1 nin0)
  replace F_coder_s1 := F_coder_s1.keep K328 (ninS ne_s1_b1 nin0)
  replace V_t1 := V_t1.keep K328 (ninS ne_t1_b1 nin0)
  replace K0 := K0.trans K328 (allS (P := fun x => x ∈ _ ∨ _ ≤ x) (Or.inl (List.mem_of_getElem? (i := 0) rfl)) all0)
  clear V_b1
  have V_b1 := Vn328
  show Go p e below _ (T328.setTop (mkF m 25 #[vr s1, vr b1, vi ct, vi cd] []))
  replace V_b1 := arv_eq (arv_eq V_b1 (app_copy bs ys 0 _ ho hm)) (List.append_nil (bs ++ ys))
  refine gg X328 hx 43 (D 15 rfl) (by decide) ?_
  exact Go.ret0 X328 hx Bd.returns Bd.notSynchronized (D 25 rfl) (by decide) (by decide) (by first | (rw [e328]; exact ⟨rfl, N328, K0, V_b1⟩) | exact ⟨rfl, N328, K0, V_b1⟩)
def Q_rmGBi (Z : State) (s1 t1 b1 : Addr) (kt kb : ClassId) (ds cs : List Int32) (Mn : Nat) (G1 : Int32) (G3 : Value) (h0 : Heap) (n0 : Nat) : Option Value → Heap → List Loc → Prop := fun v h L => v = none ∧ Fr n0 L ∧ Keep h0 h [b1] ∧ Arv Z h b1 kb .byte (Int32.ofNat (2 * Mn)) (utfL (ds ++ cs)) (.int 0)
set_option maxRecDepth 65536 in
set_option maxHeartbeats 40000000 in
theorem rmGBi (l : Launch) (Z : State) (a0 : Array Value) (hw : HW a0 Z) (ws : List Jvm.Cond) (s1 t1 b1 : Addr) (kt kb : ClassId) (ds cs : List Int32) (Mn : Nat) (G1 : Int32) (G3 : Value) (h0 : Heap) (n0 : Nat) (Od : Old Z n0 h0) (A1 : SA1 Z) (HS : SHS Z) (LS : SLS Z) (O4 : SO4 Z G3) (rG3 : G3.isRef = true) (O2 : SO2 Z G1) (P5 : ¬ (G1 = (0 : Int32))) (E_s1 : Exa Z h0 s1 "java/lang/String") (F_value_s1 : Fld Z h0 s1 "java/lang/String" "value" "[B" (.ref t1)) (F_coder_s1 : Fld Z h0 s1 "java/lang/String" "coder" "B" (.int 0)) (V_t1 : Arv Z h0 t1 kt .byte (Int32.ofNat cs.length) (latL cs) (.int 0)) (V_b1 : Arv Z h0 b1 kb .byte (Int32.ofNat (2 * Mn)) (utfL ds) (.int 0)) (g_b1 : n0 ≤ b1) (ne_t1_b1 : t1 ≠ b1) (la : LatP cs) (hm : ds.length + cs.length ≤ Mn) (hMn : Mn ≤ 100000) :
    CT l (⟨"java/lang/String", "getBytes", "([BIB)V"⟩ : MethodName) jdk_42_method_147_code 4 none ws (⟨5, 0, 0, 96⟩ : Jvm.Room) #[(.ref s1), (.ref b1), (.int (Int32.ofNat ds.length)), (.int (1 : Int32))] Z h0 (Q_rmGBi Z s1 t1 b1 kt kb ds cs Mn G1 G3 h0 n0) := by
  refine Go.start (plainFor_of_name pn_1) #[vr s1, vr b1, vi (Int32.ofNat ds.length), vi (1 : Int32)] n0 (by first | (simp [argsToLocals, Value.category, maxLocals]; done) | rfl) ?_
  intro p e s m below meth c s₁ Bd hx hby hml hZ hown X0 e0 N0
  have D := @dB _ _ hby _ D62
  refine ga X0 hx (D 0 rfl) rfl rfl ?_
  refine kV (W := 0) (C := 0) (S := 0) X0 hx hZ hown (wd hw 48 rfl) (wd hw 49 rfl) (wd hw 51 rfl) (wd hw 50 rfl) (wd hw 12 rfl) (wd hw 52 rfl) (notFace_of_selects (args := #[]) (mvT hZ (wd hw 51 rfl))) E_s1 (rmCD l Z a0 hw [] s1 0 G1 h0 n0 Od O2 P5 F_coder_s1 (Or.inl rfl)) pd_19 (D 1 rfl) e0 hml (by exact ⟨rfl, rfl, rfl, rfl⟩) (by decide) fun v329 T329 L329 Lc329 X329 hQ329 l329 => ?_
  obtain ⟨rfl, Nq329, e329⟩ := hQ329
  have N329 := l329 N0 Nq329
  refine gi X329 hx (D 2 rfl) rfl ?_
  refine cY X329 hx 28 (D 3 rfl) (feq (by decide : ¬ ((0 : Int32) = (1 : Int32)))).2 (by decide) ?_
  refine ga X329 hx (D 16 rfl) rfl rfl ?_
  refine gF X329 hx hZ hown (wd hw 37 rfl) Via.refl e329 F_value_s1 (D 17 rfl) fun T330 X330 e330 => ?_
  refine gk X330 hx 0 (D 18 rfl) rfl ?_
  refine ga X330 hx (D 19 rfl) rfl rfl ?_
  refine gi X330 hx (D 20 rfl) rfl ?_
  refine ga X330 hx (D 21 rfl) rfl rfl ?_
  refine gF X330 hx hZ hown (wd hw 37 rfl) Via.refl e330 F_value_s1 (D 22 rfl) fun T331 X331 e331 => ?_
  refine gN X331 hx hZ e331 V_t1 (D 23 rfl) ?_
  show Go p e below _ (T331.setTop (mkF m 40 #[vr s1, vr b1, vi (Int32.ofNat ds.length), vi (1 : Int32)] [(.int (Int32.ofNat cs.length)), (.int (Int32.ofNat ds.length)), (.ref b1), (.int (0 : Int32)), (.ref t1)]))
  rw [show (Int32.ofNat cs.length) = Int32.ofNat (cs.map fun c : Int32 => c.toInt8.toInt32).length from by rw [List.length_map]]
  have W1 := arv_eq V_t1 (List.append_nil (latL cs)).symm
  have W2 : Arv Z h0 b1 kb .byte (Int32.ofNat (2 * Mn)) (utfL ds ++ List.replicate (2 * (cs.map fun c : Int32 => c.toInt8.toInt32).length) (.int 0)) (.int 0) := V_b1.pad (pad_rep _ _ _)
  refine kS (W := 0) (C := 0) (S := 0) X331 hx hZ hown (wd hw 295 rfl) (wd hw 280 rfl) (wd hw 281 rfl) (wd hw 282 rfl) (rmLF l Z a0 hw [] t1 b1 kt kb cs.length Mn ds.length (utfL ds) (cs.map fun c : Int32 => c.toInt8.toInt32) [] G3 h0 n0 Od A1 HS LS O4 rG3 W1 W2 g_b1 ne_t1_b1 (utf_len ds) (by rw [List.length_map]; omega) (by rw [List.length_map]; exact Nat.le_refl _) ⟨by omega, hMn⟩) pd_48 (D 24 rfl) e331 hml (by exact ⟨rfl, rfl, rfl, rfl⟩) (by decide) fun v332 T332 L332 Lc332 X332 hQ332 l332 => ?_
  obtain ⟨rfl, Nq332, K332, Vn⟩ := hQ332
  rw [map_ch8 la, ← utf_app] at Vn
  have N332 := l332 N329 Nq332
  exact Go.ret0 X332 hx Bd.returns Bd.notSynchronized (D 25 rfl) (by decide) (by decide) ⟨rfl, N332, K332, Vn⟩
def Q_rmPS (Z : State) (x1 s1 t1 vb : Addr) (kv : ClassId) (ds cs : List Int32) (Mn M2 : Nat) (G1 : Int32) (G3 : Value) (h0 : Heap) (n0 : Nat) : Option Value → Heap → List Loc → Prop := fun v h L => ∃ (bf : Addr) (kb : ClassId), v = none ∧ Fr n0 L ∧ Keep h0 h [x1, vb] ∧ (bf = vb ∨ h0.size ≤ bf) ∧ SBA Z h x1 bf kb (Int32.ofNat ds.length) M2 (ds ++ cs)
set_option maxRecDepth 65536 in
set_option maxHeartbeats 40000000 in
theorem rmPS (l : Launch) (Z : State) (a0 : Array Value) (hw : HW a0 Z) (ws : List Jvm.Cond) (x1 s1 t1 vb : Addr) (kv : ClassId) (ds cs : List Int32) (Mn M2 : Nat) (G1 : Int32) (G3 : Value) (h0 : Heap) (n0 : Nat) (Z0 : n0 ≤ h0.size) (Od : Old Z n0 h0) (A1 : SA1 Z) (HS : SHS Z) (LS : SLS Z) (O4 : SO4 Z G3) (rG3 : G3.isRef = true) (O2 : SO2 Z G1) (P5 : ¬ (G1 = (0 : Int32))) (B1 : SBA Z h0 x1 vb kv (Int32.ofNat ds.length) Mn ds) (S1 : StrT Z h0 s1 t1 cs) (g_x1 : n0 ≤ x1) (g_vb : n0 ≤ vb) (ne_t1_vb : t1 ≠ vb) (hxx : LatP ds ∨ LatP cs) (hcL : LatP ds → LatP cs → ds.length + cs.length ≤ Mn ∧ M2 = Mn) (hcU : LatP ds → (∃ c ∈ cs, (255 : Int32) < c) → ds.length + cs.length ≤ Mn ∧ 2 * Mn ≤ 300 ∧ M2 = 2 * Mn) (hcN : (∃ c ∈ ds, (255 : Int32) < c) → LatP cs → ∃ q, Mn = 2 * q ∧ ds.length + cs.length ≤ q ∧ M2 = Mn) (hMn : Mn ≤ 300) :
    CT l (⟨"java/lang/AbstractStringBuilder", "putStringAt", "(ILjava/lang/String;)V"⟩ : MethodName) jdk_68_method_73_code 3 none ws (⟨7, 1, 300, 126⟩ : Jvm.Room) #[(.ref x1), (.int (Int32.ofNat ds.length)), (.ref s1)] Z h0 (Q_rmPS Z x1 s1 t1 vb kv ds cs Mn M2 G1 G3 h0 n0) := by
  refine Go.start (plainFor_of_name pn_8) #[vr x1, vi (Int32.ofNat ds.length), vr s1] n0 (by first | (simp [argsToLocals, Value.category, maxLocals]; done) | rfl) ?_
  intro p e s m below meth c s₁ Bd hx hby hml hZ hown X0 e0 N0
  have D := @dB _ _ hby _ D56
  have K0 : Keep h0 h0 [x1, vb] := Keep.refl _ _
  obtain ⟨E_x1, F_value_x1, F_count_x1, F_maybeLatin1_x1, cd, vs, F_coder_x1, V_vb, hen, hvl⟩ := B1
  obtain ⟨kt, E_s1, F_value_s1, S1⟩ := S1
  rcases hen with ⟨rfl, la, rfl⟩ | ⟨rfl, hg, rfl⟩ <;> rcases S1 with ⟨F_coder_s1, la2, V_t1⟩ | ⟨F_coder_s1, hg2, V_t1⟩
  ·
    refine ga X0 hx (D 0 rfl) rfl rfl ?_
    refine ga X0 hx (D 1 rfl) rfl rfl ?_
    obtain ⟨hM, rfl⟩ := hcL la la2
    obtain ⟨cq333, q333, q333'⟩ := E_x1.cell
    obtain ⟨_, _, ⟨T333, L333, k333, n333⟩, -, X333, ⟨Lc333, hQ333, l333, y333, z333⟩, st333⟩ := X0.privateBack hx (y := (⟨"java/lang/AbstractStringBuilder", "inflateIfNeededFor", "(Ljava/lang/String;)V"⟩ : MethodName)) hown (mvT hZ (wd hw 262 rfl)) (mvT hZ (wd hw 263 rfl)) (selSelf (mvT hZ (wd hw 265 rfl)) (Cond.privateMethod_at (mvP hZ (wd hw 264 rfl) (args := #[]))) (mvT hZ (wd hw 263 rfl)) (by decide)) (Cond.privateMethod_at (mvP hZ (wd hw 264 rfl) (args := #[]))) (mvT hZ (wd hw 266 rfl)) (by decide) (backOf (W := 0) (rmIF0 l Z a0 hw [] x1 s1 0 G1 h0 n0 Od O2 P5 E_s1 F_coder_x1 F_coder_s1 (Or.inl rfl)) hZ (wd hw 266 rfl) (wd hw 122 rfl) (by decide) (by decide)) (g := (mkF m 2 #[vr x1, vi (Int32.ofNat ds.length), vr s1] [(.ref s1), (.ref x1)])) rfl (by rw [hml]; rfl) (Steps.refl _) (a := x1) (by rw [e0]; exact q333) q333' (argsL := [(.ref s1)]) (rest := []) (lenOf pd_46 rfl) rfl (by show 2 * 0 + _ ≤ _; exact Nat.le_of_eq rfl) (D 2 rfl) (fun _ _ => ⟨rfl, e0, (by decide : 0 + 0 ≤ _), (by decide : 0 + 0 ≤ _)⟩)
    dsimp only [Pt.U, Pt.locs, Pt.cells, Pt.slots] at X333 l333 y333 z333 st333 hQ333
    subst y333 z333
    obtain ⟨rfl, Nq333, e333⟩ := hQ333
    have N333 : Fr n0 L333 := by rw [l333]; exact Fr.app N0 Nq333
    clear l333
    refine Go.by (fun t => st333.trans) ?_
    show Go p e below _ (T333.setTop (mkF m 5 #[vr x1, vi (Int32.ofNat ds.length), vr s1] []))
    refine ga X333 hx (D 3 rfl) rfl rfl ?_
    refine ga X333 hx (D 4 rfl) rfl rfl ?_
    refine gF X333 hx hZ hown (wd hw 126 rfl) Via.refl e333 F_value_x1 (D 5 rfl) fun T334 X334 e334 => ?_
    refine gi X334 hx (D 6 rfl) rfl ?_
    refine ga X334 hx (D 7 rfl) rfl rfl ?_
    refine gF X334 hx hZ hown (wd hw 128 rfl) Via.refl e334 F_coder_x1 (D 8 rfl) fun T335 X335 e335 => ?_
    refine kV (W := 0) (C := 0) (S := 0) X335 hx hZ hown (wd hw 286 rfl) (wd hw 287 rfl) (wd hw 289 rfl) (wd hw 288 rfl) (wd hw 12 rfl) (wd hw 290 rfl) (notFace_of_selects (args := #[]) (mvT hZ (wd hw 289 rfl))) E_s1 (rmGB l Z a0 hw [] s1 t1 vb kt kv 0 (latL ds) (latL cs) _ _ (Int32.ofNat ds.length) (Int32.ofNat ds.length) G1 h0 n0 Od O2 P5 E_s1 F_value_s1 F_coder_s1 (Or.inl rfl) V_t1 V_vb g_vb ne_t1_vb (o_shl0 _) (by rw [lat_len]; exact o_nat (by omega)) (o_nn (by omega)) (by rw [lat_len]; exact o_nat (by omega)) (o_nn (by omega)) (by rw [lat_len, lat_len, o_nat (by omega)]; exact hM)) pd_47 (D 9 rfl) e335 hml (by exact ⟨rfl, rfl, rfl, rfl⟩) (by decide) fun v336 T336 L336 Lc336 X336 hQ336 l336 => ?_
    obtain ⟨rfl, Nq336, K336, Vn⟩ := hQ336
    have ne_x1_vb : x1 ≠ vb := Exa.neArv E_x1 V_vb (wd hw 113 rfl)
    have ne_s1_vb : s1 ≠ vb := Exa.neArv E_s1 V_vb (wd hw 11 rfl)
    have N336 := l336 N333 Nq336
    replace Od := Od.keep K336 (allS g_vb all0)
    replace E_x1 := E_x1.keep K336
    replace F_value_x1 := F_value_x1.keep K336 (ninS ne_x1_vb nin0)
    replace F_coder_x1 := F_coder_x1.keep K336 (ninS ne_x1_vb nin0)
    replace F_count_x1 := F_count_x1.keep K336 (ninS ne_x1_vb nin0)
    replace F_maybeLatin1_x1 := F_maybeLatin1_x1.keep K336 (ninS ne_x1_vb nin0)
    replace E_s1 := E_s1.keep K336
    replace F_value_s1 := F_value_s1.keep K336 (ninS ne_s1_vb nin0)
    replace F_coder_s1 := F_coder_s1.keep K336 (ninS ne_s1_vb nin0)
    replace Z0 := Nat.le_trans Z0 K336.1
    replace K0 := K0.trans K336 (allS (P := fun x => x ∈ _ ∨ _ ≤ x) (Or.inl (List.mem_of_getElem? (i := 1) rfl)) all0)
    rw [← lat_app] at Vn
    exact Go.ret0 X336 hx Bd.returns Bd.notSynchronized (D 10 rfl) (by decide) (by decide) ⟨vb, kv, rfl, N336, K0, Or.inl rfl, E_x1, F_value_x1, F_count_x1, F_maybeLatin1_x1, 0, _, F_coder_x1, Vn, Or.inl ⟨rfl, all_app la la2, rfl⟩, by rw [lat_len, List.length_append]; exact hM⟩
  ·
    refine ga X0 hx (D 0 rfl) rfl rfl ?_
    refine ga X0 hx (D 1 rfl) rfl rfl ?_
    obtain ⟨hM, hM2, rfl⟩ := hcU la hg2
    obtain ⟨cq337, q337, q337'⟩ := E_x1.cell
    obtain ⟨_, _, ⟨T337, L337, k337, n337⟩, -, X337, ⟨Lc337, hQ337, l337, y337, z337⟩, st337⟩ := X0.privateBack hx (y := (⟨"java/lang/AbstractStringBuilder", "inflateIfNeededFor", "(Ljava/lang/String;)V"⟩ : MethodName)) hown (mvT hZ (wd hw 262 rfl)) (mvT hZ (wd hw 263 rfl)) (selSelf (mvT hZ (wd hw 265 rfl)) (Cond.privateMethod_at (mvP hZ (wd hw 264 rfl) (args := #[]))) (mvT hZ (wd hw 263 rfl)) (by decide)) (Cond.privateMethod_at (mvP hZ (wd hw 264 rfl) (args := #[]))) (mvT hZ (wd hw 266 rfl)) (by decide) (backOf (W := 0) (rmIFU l Z a0 hw [] s1 x1 vb kv Mn ds G1 G3 h0 n0 Z0 Od A1 HS LS O4 rG3 O2 P5 E_x1 F_value_x1 F_coder_x1 F_count_x1 F_maybeLatin1_x1 V_vb g_x1 la (by omega) hM2 E_s1 F_coder_s1) hZ (wd hw 266 rfl) (wd hw 122 rfl) (by decide) (by decide)) (g := (mkF m 2 #[vr x1, vi (Int32.ofNat ds.length), vr s1] [(.ref s1), (.ref x1)])) rfl (by rw [hml]; rfl) (Steps.refl _) (a := x1) (by rw [e0]; exact q337) q337' (argsL := [(.ref s1)]) (rest := []) (lenOf pd_46 rfl) rfl (by show 2 * 0 + _ ≤ _; exact Nat.le_of_eq rfl) (D 2 rfl) (fun _ _ => ⟨rfl, e0, (by decide : 0 + 1 ≤ _), (by decide : 0 + 300 ≤ _)⟩)
    dsimp only [Pt.U, Pt.locs, Pt.cells, Pt.slots] at X337 l337 y337 z337 st337 hQ337
    subst y337 z337
    obtain ⟨bf, kb, rfl, Nq337, K337, sz_bf, f1, f2, f3, f4, V_bf⟩ := hQ337
    have g_bf : n0 ≤ bf := Nat.le_trans Z0 sz_bf
    have ne_t1_bf : t1 ≠ bf := Nat.ne_of_lt (Nat.lt_of_lt_of_le V_t1.lt sz_bf)
    have ne_x1_bf : x1 ≠ bf := Nat.ne_of_lt (Nat.lt_of_lt_of_le E_x1.lt sz_bf)
    have ne_s1_bf : s1 ≠ bf := Nat.ne_of_lt (Nat.lt_of_lt_of_le E_s1.lt sz_bf)
    have N337 : Fr n0 L337 := by rw [l337]; exact Fr.app N0 Nq337
    clear l337
    refine Go.by (fun t => st337.trans) ?_
    replace X337 := Stand.num (C := 1) (S := 300) X337 rfl rfl
    have ne_s1_x1 : s1 ≠ x1 := Exa.ne E_s1 E_x1 (by decide)
    have ne_t1_x1 : t1 ≠ x1 := Ne.symm (Exa.neArv E_x1 V_t1 (wd hw 113 rfl))
    replace Od := Od.keep K337 (allS g_x1 all0)
    replace E_x1 := E_x1.keep K337
    replace E_s1 := E_s1.keep K337
    replace F_value_s1 := F_value_s1.keep K337 (ninS ne_s1_x1 nin0)
    replace F_coder_s1 := F_coder_s1.keep K337 (ninS ne_s1_x1 nin0)
    replace V_t1 := V_t1.keep K337 (ninS ne_t1_x1 nin0)
    replace Z0 := Nat.le_trans Z0 K337.1
    replace K0 := K0.trans K337 (allS (P := fun x => x ∈ _ ∨ _ ≤ x) (Or.inl (List.mem_of_getElem? (i := 0) rfl)) all0)
    show Go p e below _ (T337.setTop (mkF m 5 #[vr x1, vi (Int32.ofNat ds.length), vr s1] []))
    clear F_value_x1 F_coder_x1 F_count_x1 F_maybeLatin1_x1
    have F_value_x1 := f1
    have F_coder_x1 := f2
    have F_count_x1 := f3
    have F_maybeLatin1_x1 := f4
    clear f1 f2 f3 f4
    refine ga X337 hx (D 3 rfl) rfl rfl ?_
    refine ga X337 hx (D 4 rfl) rfl rfl ?_
    refine gF X337 hx hZ hown (wd hw 126 rfl) Via.refl rfl F_value_x1 (D 5 rfl) fun T338 X338 e338 => ?_
    refine gi X338 hx (D 6 rfl) rfl ?_
    refine ga X338 hx (D 7 rfl) rfl rfl ?_
    refine gF X338 hx hZ hown (wd hw 128 rfl) Via.refl e338 F_coder_x1 (D 8 rfl) fun T339 X339 e339 => ?_
    refine kV (W := 0) (C := 1) (S := 300) X339 hx hZ hown (wd hw 286 rfl) (wd hw 287 rfl) (wd hw 289 rfl) (wd hw 288 rfl) (wd hw 12 rfl) (wd hw 290 rfl) (notFace_of_selects (args := #[]) (mvT hZ (wd hw 289 rfl))) E_s1 (rmGB l Z a0 hw [] s1 t1 bf kt kb 1 (utfL ds) (utfL cs) _ _ (Int32.ofNat ds.length) (Int32.ofNat (2 * ds.length)) G1 T337.heap n0 Od O2 P5 E_s1 F_value_s1 F_coder_s1 (Or.inr rfl) V_t1 V_bf g_bf ne_t1_bf (o_shl _) (by rw [utf_len]; exact o_nat (by omega)) (o_nn (by omega)) (by rw [utf_len]; exact o_nat (by omega)) (o_nn (by omega)) (by rw [utf_len, utf_len, o_nat (by omega)]; omega)) pd_47 (D 9 rfl) e339 hml (by exact ⟨rfl, rfl, rfl, rfl⟩) (by decide) fun v340 T340 L340 Lc340 X340 hQ340 l340 => ?_
    obtain ⟨rfl, Nq340, K340, Vn⟩ := hQ340
    have N340 := l340 N337 Nq340
    replace Od := Od.keep K340 (allS g_bf all0)
    replace E_s1 := E_s1.keep K340
    replace F_value_s1 := F_value_s1.keep K340 (ninS ne_s1_bf nin0)
    replace F_coder_s1 := F_coder_s1.keep K340 (ninS ne_s1_bf nin0)
    replace E_x1 := E_x1.keep K340
    replace F_value_x1 := F_value_x1.keep K340 (ninS ne_x1_bf nin0)
    replace F_coder_x1 := F_coder_x1.keep K340 (ninS ne_x1_bf nin0)
    replace F_count_x1 := F_count_x1.keep K340 (ninS ne_x1_bf nin0)
    replace F_maybeLatin1_x1 := F_maybeLatin1_x1.keep K340 (ninS ne_x1_bf nin0)
    replace Z0 := Nat.le_trans Z0 K340.1
    replace K0 := K0.trans K340 (allS (P := fun x => x ∈ _ ∨ _ ≤ x) (Or.inr sz_bf) all0)
    rw [← utf_app] at Vn
    exact Go.ret0 X340 hx Bd.returns Bd.notSynchronized (D 10 rfl) (by decide) (by decide) ⟨bf, kb, rfl, N340, K0, Or.inr sz_bf, E_x1, F_value_x1, F_count_x1, F_maybeLatin1_x1, 1, _, F_coder_x1, Vn, Or.inr ⟨rfl, ex_app hg2, rfl⟩, by rw [utf_len, List.length_append]; omega⟩
  ·
    refine ga X0 hx (D 0 rfl) rfl rfl ?_
    refine ga X0 hx (D 1 rfl) rfl rfl ?_
    obtain ⟨q, rfl, hM, rfl⟩ := hcN hg la2
    obtain ⟨cq341, q341, q341'⟩ := E_x1.cell
    obtain ⟨_, _, ⟨T341, L341, k341, n341⟩, -, X341, ⟨Lc341, hQ341, l341, y341, z341⟩, st341⟩ := X0.privateBack hx (y := (⟨"java/lang/AbstractStringBuilder", "inflateIfNeededFor", "(Ljava/lang/String;)V"⟩ : MethodName)) hown (mvT hZ (wd hw 262 rfl)) (mvT hZ (wd hw 263 rfl)) (selSelf (mvT hZ (wd hw 265 rfl)) (Cond.privateMethod_at (mvP hZ (wd hw 264 rfl) (args := #[]))) (mvT hZ (wd hw 263 rfl)) (by decide)) (Cond.privateMethod_at (mvP hZ (wd hw 264 rfl) (args := #[]))) (mvT hZ (wd hw 266 rfl)) (by decide) (backOf (W := 0) (rmIFN l Z a0 hw [] x1 s1 G1 h0 n0 Od O2 P5 E_s1 E_x1 F_coder_x1 F_coder_s1) hZ (wd hw 266 rfl) (wd hw 122 rfl) (by decide) (by decide)) (g := (mkF m 2 #[vr x1, vi (Int32.ofNat ds.length), vr s1] [(.ref s1), (.ref x1)])) rfl (by rw [hml]; rfl) (Steps.refl _) (a := x1) (by rw [e0]; exact q341) q341' (argsL := [(.ref s1)]) (rest := []) (lenOf pd_46 rfl) rfl (by show 2 * 0 + _ ≤ _; exact Nat.le_of_eq rfl) (D 2 rfl) (fun _ _ => ⟨rfl, e0, (by decide : 0 + 0 ≤ _), (by decide : 0 + 0 ≤ _)⟩)
    dsimp only [Pt.U, Pt.locs, Pt.cells, Pt.slots] at X341 l341 y341 z341 st341 hQ341
    subst y341 z341
    obtain ⟨rfl, Nq341, e341⟩ := hQ341
    have N341 : Fr n0 L341 := by rw [l341]; exact Fr.app N0 Nq341
    clear l341
    refine Go.by (fun t => st341.trans) ?_
    show Go p e below _ (T341.setTop (mkF m 5 #[vr x1, vi (Int32.ofNat ds.length), vr s1] []))
    refine ga X341 hx (D 3 rfl) rfl rfl ?_
    refine ga X341 hx (D 4 rfl) rfl rfl ?_
    refine gF X341 hx hZ hown (wd hw 126 rfl) Via.refl e341 F_value_x1 (D 5 rfl) fun T342 X342 e342 => ?_
    refine gi X342 hx (D 6 rfl) rfl ?_
    refine ga X342 hx (D 7 rfl) rfl rfl ?_
    refine gF X342 hx hZ hown (wd hw 128 rfl) Via.refl e342 F_coder_x1 (D 8 rfl) fun T343 X343 e343 => ?_
    refine kV (W := 0) (C := 0) (S := 0) X343 hx hZ hown (wd hw 286 rfl) (wd hw 287 rfl) (wd hw 289 rfl) (wd hw 288 rfl) (wd hw 12 rfl) (wd hw 290 rfl) (notFace_of_selects (args := #[]) (mvT hZ (wd hw 289 rfl))) E_s1 (rmGBi l Z a0 hw [] s1 t1 vb kt kv ds cs q G1 G3 h0 n0 Od A1 HS LS O4 rG3 O2 P5 E_s1 F_value_s1 F_coder_s1 V_t1 V_vb g_vb ne_t1_vb la2 hM (by omega)) pd_47 (D 9 rfl) e343 hml (by exact ⟨rfl, rfl, rfl, rfl⟩) (by decide) fun v344 T344 L344 Lc344 X344 hQ344 l344 => ?_
    obtain ⟨rfl, Nq344, K344, Vn⟩ := hQ344
    have ne_x1_vb : x1 ≠ vb := Exa.neArv E_x1 V_vb (wd hw 113 rfl)
    have ne_s1_vb : s1 ≠ vb := Exa.neArv E_s1 V_vb (wd hw 11 rfl)
    have N344 := l344 N341 Nq344
    replace Od := Od.keep K344 (allS g_vb all0)
    replace E_x1 := E_x1.keep K344
    replace F_value_x1 := F_value_x1.keep K344 (ninS ne_x1_vb nin0)
    replace F_coder_x1 := F_coder_x1.keep K344 (ninS ne_x1_vb nin0)
    replace F_count_x1 := F_count_x1.keep K344 (ninS ne_x1_vb nin0)
    replace F_maybeLatin1_x1 := F_maybeLatin1_x1.keep K344 (ninS ne_x1_vb nin0)
    replace E_s1 := E_s1.keep K344
    replace F_value_s1 := F_value_s1.keep K344 (ninS ne_s1_vb nin0)
    replace F_coder_s1 := F_coder_s1.keep K344 (ninS ne_s1_vb nin0)
    replace Z0 := Nat.le_trans Z0 K344.1
    replace K0 := K0.trans K344 (allS (P := fun x => x ∈ _ ∨ _ ≤ x) (Or.inl (List.mem_of_getElem? (i := 1) rfl)) all0)
    exact Go.ret0 X344 hx Bd.returns Bd.notSynchronized (D 10 rfl) (by decide) (by decide) ⟨vb, kv, rfl, N344, K0, Or.inl rfl, E_x1, F_value_x1, F_count_x1, F_maybeLatin1_x1, 1, _, F_coder_x1, Vn, Or.inr ⟨rfl, ex_appL hg, rfl⟩, by rw [utf_len, List.length_append]; omega⟩
  ·
    rcases hxx with h | h
    · obtain ⟨z, hz, gz⟩ := hg; exact absurd gz (h z hz).2
    · obtain ⟨z, hz, gz⟩ := hg2; exact absurd gz (h z hz).2
def Q_rmAP (Z : State) (x1 s1 t1 vb : Addr) (kv : ClassId) (ds cs : List Int32) (Mn M1 M2 : Nat) (G1 : Int32) (G3 : Value) (h0 : Heap) (n0 : Nat) : Option Value → Heap → List Loc → Prop := fun v h L => ∃ (bf : Addr) (kb : ClassId), v = some (.ref x1) ∧ Fr n0 L ∧ Keep h0 h [x1, vb] ∧ (bf = vb ∨ h0.size ≤ bf) ∧ SBA Z h x1 bf kb (Int32.ofNat (ds.length + cs.length)) M2 (ds ++ cs)
set_option maxRecDepth 65536 in
set_option maxHeartbeats 40000000 in
theorem rmAP (l : Launch) (Z : State) (a0 : Array Value) (hw : HW a0 Z) (ws : List Jvm.Cond) (x1 s1 t1 vb : Addr) (kv : ClassId) (ds cs : List Int32) (Mn M1 M2 : Nat) (G1 : Int32) (G3 : Value) (h0 : Heap) (n0 : Nat) (Z0 : n0 ≤ h0.size) (Od : Old Z n0 h0) (A1 : SA1 Z) (HS : SHS Z) (LS : SLS Z) (O4 : SO4 Z G3) (rG3 : G3.isRef = true) (O2 : SO2 Z G1) (P5 : ¬ (G1 = (0 : Int32))) (B1 : SBA Z h0 x1 vb kv (Int32.ofNat ds.length) Mn ds) (S1 : StrT Z h0 s1 t1 cs) (g_x1 : n0 ≤ x1) (g_vb : n0 ≤ vb) (ne_t1_vb : t1 ≠ vb) (hxx : LatP ds ∨ LatP cs) (hcL : LatP ds → LatP cs → ds.length + cs.length ≤ M1 ∧ M2 = M1) (hcU : LatP ds → (∃ c ∈ cs, (255 : Int32) < c) → ds.length + cs.length ≤ M1 ∧ 2 * M1 ≤ 300 ∧ M2 = 2 * M1) (hcN : (∃ c ∈ ds, (255 : Int32) < c) → LatP cs → ∃ q, M1 = 2 * q ∧ ds.length + cs.length ≤ q ∧ M2 = M1) (hM1 : Mn ≤ M1 ∧ M1 ≤ 300) (hE0 : LatP ds → EnC 0 (Int32.ofNat Mn) (Int32.ofNat (ds.length + cs.length)) (Int32.ofNat M1) 300) (hE1 : (∃ c ∈ ds, (255 : Int32) < c) → EnC 1 (Int32.ofNat Mn) (Int32.ofNat (ds.length + cs.length)) (Int32.ofNat M1) 300) :
    CT l (⟨"java/lang/AbstractStringBuilder", "append", "(Ljava/lang/String;)Ljava/lang/AbstractStringBuilder;"⟩ : MethodName) jdk_68_method_22_code 3 (some (.object "java/lang/AbstractStringBuilder")) ws (⟨8, 2, 600, 144⟩ : Jvm.Room) #[(.ref x1), (.ref s1)] Z h0 (Q_rmAP Z x1 s1 t1 vb kv ds cs Mn M1 M2 G1 G3 h0 n0) := by
  refine Go.start (plainFor_of_name pn_8) #[vr x1, vr s1, uu] n0 (by first | (simp [argsToLocals, Value.category, maxLocals]; done) | rfl) ?_
  intro p e s m below meth c s₁ Bd hx hby hml hZ hown X0 e0 N0
  have D := @dB _ _ hby _ D50
  have K0 : Keep h0 h0 [x1, vb] := Keep.refl _ _
  obtain ⟨E_x1, F_value_x1, F_count_x1, F_maybeLatin1_x1, cd, vs, F_coder_x1, V_vb, hen, hvl⟩ := B1
  have hE : EnC cd (Int32.ofNat Mn) (Int32.ofNat (ds.length + cs.length)) (Int32.ofNat M1) 300 := by rcases hen with ⟨rfl, la, -⟩ | ⟨rfl, hg, -⟩; exact hE0 la; exact hE1 hg
  have hcl : ds.length + cs.length ≤ 300 := cap_le hen hxx hcL hcU hcN hM1.2 S1
  refine ga X0 hx (D 0 rfl) rfl rfl ?_
  refine Go.by (fun t => XS.ifnonnullYes X0.here hx rfl (pc0 := 1) (pc' := 9) rfl (D 1 rfl) rfl (by decide) (by decide)) ?_
  show Go p e below _ (s₁.setTop (mkF m 9 #[vr x1, vr s1, uu] []))
  refine ga X0 hx (D 5 rfl) rfl rfl ?_
  refine kV (W := 0) (C := 0) (S := 0) X0 hx hZ hown (wd hw 232 rfl) (wd hw 44 rfl) (wd hw 46 rfl) (wd hw 45 rfl) (wd hw 12 rfl) (wd hw 47 rfl) (notFace_of_selects (args := #[]) (mvT hZ (wd hw 46 rfl))) S1.exa (rmLEN l Z a0 hw [] s1 cs G1 h0 n0 Od O2 P5 S1.u (by omega)) pd_13 (D 6 rfl) e0 hml (by exact ⟨rfl, rfl, rfl, rfl⟩) (by decide) fun v345 T345 L345 Lc345 X345 hQ345 l345 => ?_
  obtain ⟨rfl, Nq345, e345⟩ := hQ345
  have N345 := l345 N0 Nq345
  refine gt X345 hx #[vr x1, vr s1, vi (Int32.ofNat cs.length)] (D 7 rfl) rfl ?_
  refine ga X345 hx (D 8 rfl) rfl rfl ?_
  refine ga X345 hx (D 9 rfl) rfl rfl ?_
  refine gF X345 hx hZ hown (wd hw 233 rfl) Via.refl e345 F_count_x1 (D 10 rfl) fun T346 X346 e346 => ?_
  refine gi X346 hx (D 11 rfl) rfl ?_
  refine gq (XS.iadd X346.here hx rfl (D 12 rfl) rfl) rfl ?_
  show Go p e below _ (T346.setTop (mkF m 21 #[vr x1, vr s1, vi (Int32.ofNat cs.length)] [(.int ((Int32.ofNat ds.length) + (Int32.ofNat cs.length))), (.ref x1)]))
  rw [o_add ds.length cs.length]
  obtain ⟨cq347, q347, q347'⟩ := E_x1.cell
  obtain ⟨_, _, ⟨T347, L347, k347, n347⟩, -, X347, ⟨Lc347, hQ347, l347, y347, z347⟩, st347⟩ := X346.privateBack hx (y := (⟨"java/lang/AbstractStringBuilder", "ensureCapacityInternal", "(I)V"⟩ : MethodName)) hown (mvT hZ (wd hw 235 rfl)) (mvT hZ (wd hw 236 rfl)) (selSelf (mvT hZ (wd hw 238 rfl)) (Cond.privateMethod_at (mvP hZ (wd hw 237 rfl) (args := #[]))) (mvT hZ (wd hw 236 rfl)) (by decide)) (Cond.privateMethod_at (mvP hZ (wd hw 237 rfl) (args := #[]))) (mvT hZ (wd hw 239 rfl)) (by decide) (backOf (W := 0) (rmEN l Z a0 hw [] x1 vb kv _ (Int32.ofNat M1) (Int32.ofNat (ds.length + cs.length)) cd (Int32.ofNat ds.length) vs h0 n0 Z0 Od E_x1 F_value_x1 F_coder_x1 F_count_x1 F_maybeLatin1_x1 g_x1 V_vb (by rw [o_nat (by omega)]; exact hvl) (o_nn (by omega)) hE) hZ (wd hw 239 rfl) (wd hw 122 rfl) (by decide) (by decide)) (g := (mkF m 21 #[vr x1, vr s1, vi (Int32.ofNat cs.length)] [(.int (Int32.ofNat (ds.length + cs.length))), (.ref x1)])) rfl (by rw [hml]; rfl) (Steps.refl _) (a := x1) (by rw [e346]; exact q347) q347' (argsL := [(.int (Int32.ofNat (ds.length + cs.length)))]) (rest := []) (lenOf pd_32 rfl) rfl (by show 2 * 0 + _ ≤ _; exact Nat.le_of_eq rfl) (D 13 rfl) (fun _ _ => ⟨rfl, e346, (by decide : 0 + 1 ≤ _), (by decide : 0 + 300 ≤ _)⟩)
  dsimp only [Pt.U, Pt.locs, Pt.cells, Pt.slots] at X347 l347 y347 z347 st347 hQ347
  subst y347 z347
  obtain ⟨bf, kb, rfl, Nq347, K347, hbf, f1, f2, f3, f4, V_bf⟩ := hQ347
  have g_bf : n0 ≤ bf := by rcases hbf with rfl | h; exact g_vb; exact Nat.le_trans Z0 h
  have ne_t1_bf : t1 ≠ bf := by rcases hbf with rfl | h; exact ne_t1_vb; exact Nat.ne_of_lt (Nat.lt_of_lt_of_le S1.tlt h)
  have ne_x1_bf : x1 ≠ bf := by rcases hbf with rfl | h; exact Exa.neArv E_x1 V_vb (wd hw 113 rfl); exact Nat.ne_of_lt (Nat.lt_of_lt_of_le E_x1.lt h)
  have inb : bf ∈ [x1, vb] ∨ h0.size ≤ bf := by rcases hbf with rfl | h; exact Or.inl (List.mem_of_getElem? (i := 1) rfl); exact Or.inr h
  have N347 : Fr n0 L347 := by rw [l347]; exact Fr.app N345 Nq347
  clear l347
  refine Go.by (fun t => st347.trans) ?_
  replace X347 := Stand.num (C := 1) (S := 300) X347 rfl rfl
  have ne_s1_x1 : s1 ≠ x1 := Exa.ne S1.exa E_x1 (by decide)
  replace S1 := S1.keep K347 (ninS ne_s1_x1 nin0) (fun _ _ _ _ A => (ninS (Ne.symm (Exa.neArv E_x1 A (wd hw 113 rfl))) nin0))
  replace Od := Od.keep K347 (allS g_x1 all0)
  replace E_x1 := E_x1.keep K347
  replace Z0 := Nat.le_trans Z0 K347.1
  replace K0 := K0.trans K347 (allS (P := fun x => x ∈ _ ∨ _ ≤ x) (Or.inl (List.mem_of_getElem? (i := 0) rfl)) all0)
  show Go p e below _ (T347.setTop (mkF m 24 #[vr x1, vr s1, vi (Int32.ofNat cs.length)] []))
  clear F_value_x1 F_coder_x1 F_count_x1 F_maybeLatin1_x1
  have F_value_x1 := f1
  have F_coder_x1 := f2
  have F_count_x1 := f3
  have F_maybeLatin1_x1 := f4
  clear f1 f2 f3 f4
  have hbz : bf = vb ∨ h0.size ≤ bf := hbf
  refine ga X347 hx (D 14 rfl) rfl rfl ?_
  refine ga X347 hx (D 15 rfl) rfl rfl ?_
  refine gF X347 hx hZ hown (wd hw 233 rfl) Via.refl rfl F_count_x1 (D 16 rfl) fun T348 X348 e348 => ?_
  refine ga X348 hx (D 17 rfl) rfl rfl ?_
  obtain ⟨cq349, q349, q349'⟩ := E_x1.cell
  obtain ⟨_, _, ⟨T349, L349, k349, n349⟩, -, X349, ⟨Lc349, hQ349, l349, y349, z349⟩, st349⟩ := X348.privateBack hx (y := (⟨"java/lang/AbstractStringBuilder", "putStringAt", "(ILjava/lang/String;)V"⟩ : MethodName)) hown (mvT hZ (wd hw 257 rfl)) (mvT hZ (wd hw 258 rfl)) (selSelf (mvT hZ (wd hw 260 rfl)) (Cond.privateMethod_at (mvP hZ (wd hw 259 rfl) (args := #[]))) (mvT hZ (wd hw 258 rfl)) (by decide)) (Cond.privateMethod_at (mvP hZ (wd hw 259 rfl) (args := #[]))) (mvT hZ (wd hw 261 rfl)) (by decide) (backOf (W := 0) (rmPS l Z a0 hw [] x1 s1 t1 bf kb ds cs M1 M2 G1 G3 T347.heap n0 Z0 Od A1 HS LS O4 rG3 O2 P5 ⟨E_x1, F_value_x1, F_count_x1, F_maybeLatin1_x1, cd, vs, F_coder_x1, V_bf, hen, Nat.le_trans hvl hM1.1⟩ S1 g_x1 g_bf ne_t1_bf hxx hcL hcU hcN hM1.2) hZ (wd hw 261 rfl) (wd hw 122 rfl) (by decide) (by decide)) (g := (mkF m 30 #[vr x1, vr s1, vi (Int32.ofNat cs.length)] [(.ref s1), (.int (Int32.ofNat ds.length)), (.ref x1)])) rfl (by rw [hml]; rfl) (Steps.refl _) (a := x1) (by rw [e348]; exact q349) q349' (argsL := [(.int (Int32.ofNat ds.length)), (.ref s1)]) (rest := []) (lenOf pd_44 rfl) rfl (by show 2 * 0 + _ ≤ _; exact Nat.le_of_eq rfl) (D 18 rfl) (fun _ _ => ⟨rfl, e348, (by decide : 1 + 1 ≤ _), (by decide : 300 + 300 ≤ _)⟩)
  dsimp only [Pt.U, Pt.locs, Pt.cells, Pt.slots] at X349 l349 y349 z349 st349 hQ349
  subst y349 z349
  obtain ⟨bg, kg, rfl, Nq349, K349, hbg, B2⟩ := hQ349
  replace hbg : bg = vb ∨ h0.size ≤ bg := by rcases hbg with rfl | h; exact hbz; exact Or.inr (Nat.le_trans K0.1 h)
  have N349 : Fr n0 L349 := by rw [l349]; exact Fr.app N347 Nq349
  clear l349
  refine Go.by (fun t => st349.trans) ?_
  replace X349 := Stand.num (C := 2) (S := 600) X349 rfl rfl
  replace Od := Od.keep K349 (allS g_x1 (allS g_bf all0))
  replace E_x1 := E_x1.keep K349
  replace Z0 := Nat.le_trans Z0 K349.1
  replace K0 := K0.trans K349 (allS (P := fun x => x ∈ _ ∨ _ ≤ x) (Or.inl (List.mem_of_getElem? (i := 0) rfl)) (allS (P := fun x => x ∈ _ ∨ _ ≤ x) inb all0))
  show Go p e below _ (T349.setTop (mkF m 33 #[vr x1, vr s1, vi (Int32.ofNat cs.length)] []))
  clear F_value_x1 F_coder_x1 F_count_x1 F_maybeLatin1_x1 hen hvl V_vb V_bf hE
  obtain ⟨-, F_value_x1, F_count_x1, F_maybeLatin1_x1, cd2, vs2, F_coder_x1, V_bg, hen, hvl⟩ := B2
  have ne_x1_bg : x1 ≠ bg := Exa.neArv E_x1 V_bg (wd hw 113 rfl)
  refine ga X349 hx (D 19 rfl) rfl rfl ?_
  refine gq (XS.dup X349.here hx rfl (D 20 rfl) rfl rfl) rfl ?_
  refine gF X349 hx hZ hown (wd hw 233 rfl) Via.refl rfl F_count_x1 (D 21 rfl) fun T350 X350 e350 => ?_
  refine gi X350 hx (D 22 rfl) rfl ?_
  refine gq (XS.iadd X350.here hx rfl (D 23 rfl) rfl) rfl ?_
  show Go p e below _ (T350.setTop (mkF m 40 #[vr x1, vr s1, vi (Int32.ofNat cs.length)] [(.int ((Int32.ofNat ds.length) + (Int32.ofNat cs.length))), (.ref x1)]))
  rw [o_add ds.length cs.length]
  obtain ⟨T351, h351, X351, e351, W351, st351⟩ := putF X350 hx hZ hown (host := "") (Or.inl (wd hw 233 rfl)) Via.refl e350 F_count_x1 E_x1 (Or.inl (wd hw 234 rfl)) (wd hw 113 rfl) (ty := .int) (by decide) rfl rfl (g := (mkF m 40 #[vr x1, vr s1, vi (Int32.ofNat cs.length)] [(.int (Int32.ofNat (ds.length + cs.length))), (.ref x1)])) rfl rfl (D 24 rfl)
  refine Go.by (fun t => st351 t) ?_
  replace F_count_x1 := F_count_x1.same W351
  replace Od := Od.wr W351 g_x1
  replace E_x1 := E_x1.wr W351
  replace F_value_x1 := F_value_x1.other W351 (Or.inr (slot_ne (Or.inl (wd hw 127 rfl)) (Or.inl (wd hw 234 rfl)) (by decide) (t := (.array .byte)) (t' := .int) (by decide) (by decide)))
  replace F_coder_x1 := F_coder_x1.other W351 (Or.inr (slot_ne (Or.inl (wd hw 129 rfl)) (Or.inl (wd hw 234 rfl)) (by decide) (t := .byte) (t' := .int) (by decide) (by decide)))
  replace F_maybeLatin1_x1 := F_maybeLatin1_x1.other W351 (Or.inr (slot_ne (Or.inl (wd hw 349 rfl)) (Or.inl (wd hw 234 rfl)) (by decide) (t := .boolean) (t' := .int) (by decide) (by decide)))
  replace V_bg := V_bg.other W351 (Ne.symm ne_x1_bg)
  replace Z0 := Nat.le_trans Z0 (Keep.of_wr W351).1
  replace K0 := K0.wr W351 (Or.inl (List.mem_of_getElem? (i := 0) rfl))
  have N351 := Fr.snoc X351 N349 g_x1
  show Go p e below _ (T351.setTop (mkF m 43 #[vr x1, vr s1, vi (Int32.ofNat cs.length)] []))
  refine ga X351 hx (D 25 rfl) rfl rfl ?_
  exact Go.ret1 X351 hx Bd.returns Bd.notSynchronized rfl (Or.inr (Or.inr (Or.inr (Or.inr ⟨rfl, rfl, rfl⟩)))) (D 26 rfl) (by decide) (by decide) (by first | (rw [e351]; exact ⟨bg, kg, rfl, N351, K0, hbg, E_x1, F_value_x1, F_count_x1, F_maybeLatin1_x1, cd2, vs2, F_coder_x1, V_bg, hen, hvl⟩) | exact ⟨bg, kg, rfl, N351, K0, hbg, E_x1, F_value_x1, F_count_x1, F_maybeLatin1_x1, cd2, vs2, F_coder_x1, V_bg, hen, hvl⟩)
def Q_rmSA (Z : State) (x1 s1 t1 vb : Addr) (kv : ClassId) (ds cs : List Int32) (Mn M1 M2 : Nat) (G1 : Int32) (G3 : Value) (h0 : Heap) (n0 : Nat) : Option Value → Heap → List Loc → Prop := fun v h L => ∃ (bf : Addr) (kb : ClassId), v = some (.ref x1) ∧ Fr n0 L ∧ Keep h0 h [x1, vb] ∧ (bf = vb ∨ h0.size ≤ bf) ∧ SBA Z h x1 bf kb (Int32.ofNat (ds.length + cs.length)) M2 (ds ++ cs)
set_option maxRecDepth 65536 in
set_option maxHeartbeats 40000000 in
theorem rmSA (l : Launch) (Z : State) (a0 : Array Value) (hw : HW a0 Z) (ws : List Jvm.Cond) (x1 s1 t1 vb : Addr) (kv : ClassId) (ds cs : List Int32) (Mn M1 M2 : Nat) (G1 : Int32) (G3 : Value) (h0 : Heap) (n0 : Nat) (Z0 : n0 ≤ h0.size) (Od : Old Z n0 h0) (A1 : SA1 Z) (HS : SHS Z) (LS : SLS Z) (O4 : SO4 Z G3) (rG3 : G3.isRef = true) (O2 : SO2 Z G1) (P5 : ¬ (G1 = (0 : Int32))) (B1 : SBA Z h0 x1 vb kv (Int32.ofNat ds.length) Mn ds) (S1 : StrT Z h0 s1 t1 cs) (g_x1 : n0 ≤ x1) (g_vb : n0 ≤ vb) (ne_t1_vb : t1 ≠ vb) (hxx : LatP ds ∨ LatP cs) (hcL : LatP ds → LatP cs → ds.length + cs.length ≤ M1 ∧ M2 = M1) (hcU : LatP ds → (∃ c ∈ cs, (255 : Int32) < c) → ds.length + cs.length ≤ M1 ∧ 2 * M1 ≤ 300 ∧ M2 = 2 * M1) (hcN : (∃ c ∈ ds, (255 : Int32) < c) → LatP cs → ∃ q, M1 = 2 * q ∧ ds.length + cs.length ≤ q ∧ M2 = M1) (hM1 : Mn ≤ M1 ∧ M1 ≤ 300) (hE0 : LatP ds → EnC 0 (Int32.ofNat Mn) (Int32.ofNat (ds.length + cs.length)) (Int32.ofNat M1) 300) (hE1 : (∃ c ∈ ds, (255 : Int32) < c) → EnC 1 (Int32.ofNat Mn) (Int32.ofNat (ds.length + cs.length)) (Int32.ofNat M1) 300) :
    CT l (⟨"java/lang/StringBuilder", "append", "(Ljava/lang/String;)Ljava/lang/StringBuilder;"⟩ : MethodName) jdk_67_method_7_code 2 (some (.object "java/lang/StringBuilder")) ws (⟨9, 2, 600, 160⟩ : Jvm.Room) #[(.ref x1), (.ref s1)] Z h0 (Q_rmSA Z x1 s1 t1 vb kv ds cs Mn M1 M2 G1 G3 h0 n0) := by
  refine Go.start (plainFor_of_name pn_7) #[vr x1, vr s1] n0 (by first | (simp [argsToLocals, Value.category, maxLocals]; done) | rfl) ?_
  intro p e s m below meth c s₁ Bd hx hby hml hZ hown X0 e0 N0
  have D := @dB _ _ hby _ D49
  have E_x1 := B1.1
  refine ga X0 hx (D 0 rfl) rfl rfl ?_
  refine ga X0 hx (D 1 rfl) rfl rfl ?_
  obtain ⟨_, _, ⟨T352, L352, k352, n352⟩, -, X352, ⟨Lc352, hQ352, l352, y352, z352⟩, st352⟩ := superBack X0 hx hZ (y := (⟨"java/lang/AbstractStringBuilder", "append", "(Ljava/lang/String;)Ljava/lang/AbstractStringBuilder;"⟩ : MethodName)) hown (wd hw 227 rfl) (sameSelf (wd hw 228 rfl) (wd hw 238 rfl) rfl (by decide)) (wd hw 228 rfl) (wd hw 229 rfl) (by decide) (backOf (W := 0) (rmAP l Z a0 hw [] x1 s1 t1 vb kv ds cs Mn M1 M2 G1 G3 h0 n0 Z0 Od A1 HS LS O4 rG3 O2 P5 B1 S1 g_x1 g_vb ne_t1_vb hxx hcL hcU hcN hM1 hE0 hE1) hZ (wd hw 231 rfl) (wd hw 122 rfl) (by decide) (by decide)) e0 (Ins.self E_x1) (g := (mkF m 2 #[vr x1, vr s1] [(.ref s1), (.ref x1)])) rfl (by rw [hml]; rfl) (wd hw 231 rfl) (argsL := [(.ref s1)]) (rest := []) (lenOf pd_43 rfl) rfl (by show 2 * 0 + _ ≤ _; exact Nat.le_of_eq rfl) (D 2 rfl) (fun _ _ => ⟨rfl, e0, (by decide : 0 + 2 ≤ _), (by decide : 0 + 600 ≤ _)⟩)
  dsimp only [Pt.U, Pt.locs, Pt.cells, Pt.slots] at X352 l352 y352 z352 st352 hQ352
  subst y352 z352
  obtain ⟨bg, kg, rfl, Nq352, K352, hbg, B2⟩ := hQ352
  have N352 : Fr n0 L352 := by rw [l352]; exact Fr.app N0 Nq352
  clear l352
  refine Go.by (fun t => st352.trans) ?_
  replace X352 := Stand.num (C := 2) (S := 600) X352 rfl rfl
  show Go p e below _ (T352.setTop (mkF m 5 #[vr x1, vr s1] [(.ref x1)]))
  refine gq (XS.pop X352.here hx rfl (D 3 rfl) rfl rfl) rfl ?_
  refine ga X352 hx (D 4 rfl) rfl rfl ?_
  exact Go.ret1 X352 hx Bd.returns Bd.notSynchronized rfl (Or.inr (Or.inr (Or.inr (Or.inr ⟨rfl, rfl, rfl⟩)))) (D 5 rfl) (by decide) (by decide) ⟨bg, kg, rfl, N352, K352, hbg, B2⟩
def onesL : List Value := (List.range 100).map fun i => .int (Int32.ofNat (48 + i % 10))
def tensL : List Value := (List.range 100).map fun i => .int (Int32.ofNat (48 + i / 10))
theorem set_app (bs zs : List Value) (i : Nat) (v : Value) : (bs ++ zs).set (bs.length + i) v = bs ++ zs.set i v := by
  rw [List.set_append_right _ _ (by omega), Nat.add_sub_cancel_left]
theorem o_dec (n : Nat) : Int32.ofNat (n + 1) + (-1 : Int32) = Int32.ofNat n := o_pred (a := n + 1) (by omega)
/-- what getChars reads at the number's place i of the two tables -/
def TabP (i x y : Int32) : Prop := (¬ i < 0 ∧ i < (100 : Int32)) ∧ onesL.getD i.toNatClampNeg (.int 0) = .int x ∧ tensL.getD i.toNatClampNeg (.int 0) = .int y
/-- the number n of two, three or four digits (the first number: how many) -/
def DgP (d : Nat) (n : Int32) (dl : List Int32) : Prop :=
  (d = 2 ∧ ¬ n < 0 ∧ ¬ ((-10 : Int32) < -n) ∧ (-100 : Int32) < -n ∧ -n < (-9 : Int32) ∧ ∃ x y, TabP (- -n) x y ∧ dl = [y, x])
  ∨ ((d = 3 ∨ d = 4) ∧ ¬ n < 0 ∧ ¬ ((-10 : Int32) < -n) ∧ ¬ ((-100 : Int32) < -n) ∧ ∃ q r x y u v, (-n) / (100 : Int32) = q ∧ (q * (100 : Int32)) - (-n) = r ∧ (-100 : Int32) < q ∧ TabP r x y ∧ TabP (-q) u v ∧
    ((d = 3 ∧ (-1000 : Int32) < -n ∧ ¬ (q < (-9 : Int32)) ∧ dl = [u, y, x]) ∨ (d = 4 ∧ ¬ ((-1000 : Int32) < -n) ∧ (-10000 : Int32) < -n ∧ q < (-9 : Int32) ∧ dl = [v, u, y, x])))
theorem set_app2 (bs zs : List Value) {n : Nat} (hb : bs.length = 2 * n) (i : Nat) (a b : Value) : ((bs ++ zs).set (2 * (n + i)) a).set (2 * (n + i) + 1) b = bs ++ (zs.set (2 * i) a).set (2 * i + 1) b := by
  rw [List.set_append_right _ _ (by omega), List.set_append_right _ _ (by omega), show 2 * (n + i) - bs.length = 2 * i by omega, show 2 * (n + i) + 1 - bs.length = 2 * i + 1 by omega]
theorem DgP.len {d : Nat} {n : Int32} {dl : List Int32} (h : DgP d n dl) : dl.length = d ∧ d ≤ 4 := by
  rcases h with ⟨rfl, -, -, -, -, x, y, -, rfl⟩ | ⟨-, -, -, -, q, r, x, y, u, v, -, -, -, -, -, ⟨rfl, -, -, rfl⟩ | ⟨rfl, -, -, -, rfl⟩⟩
  · exact ⟨rfl, by decide⟩
  · exact ⟨rfl, by decide⟩
  · exact ⟨rfl, by decide⟩
theorem lt_app (B zs : List Value) {k : Nat} (h : k < zs.length) : B.length + k < (B ++ zs).length := by rw [List.length_append]; omega

def Q_rmSS (Z : State) (n : Int32) (d : Nat) (dl : List Int32) (h0 : Heap) (n0 : Nat) : Option Value → Heap → List Loc → Prop := fun v h L => v = some (.int (Int32.ofNat d)) ∧ Fr n0 L ∧ h = h0
set_option maxRecDepth 65536 in
set_option maxHeartbeats 40000000 in
theorem rmSS (l : Launch) (Z : State) (a0 : Array Value) (hw : HW a0 Z) (ws : List Jvm.Cond) (n : Int32) (d : Nat) (dl : List Int32) (h0 : Heap) (n0 : Nat) (hd : DgP d n dl) :
    CT l (⟨"java/lang/Integer", "stringSize", "(I)I"⟩ : MethodName) jdk_33_method_13_code 4 (some .int) ws (⟨0, 0, 0, 0⟩ : Jvm.Room) #[(.int n)] Z h0 (Q_rmSS Z n d dl h0 n0) := by
  refine Go.start (plainFor_of_name pn_12) #[vi n, uu, uu, uu] n0 (by first | (simp [argsToLocals, Value.category, maxLocals]; done) | rfl) ?_
  intro p e s m below meth c s₁ Bd hx hby hml hZ hown X0 e0 N0
  have D := @dB _ _ hby _ D65
  rcases hd with ⟨rfl, h0', h1, h2, -⟩ | ⟨-, h0', h1, h2, q, r, x, y, u, v, -, -, -, -, -, ⟨rfl, h3, -⟩ | ⟨rfl, h3, h4, -⟩⟩
  ·
    refine gk X0 hx 1 (D 0 rfl) rfl ?_
    refine gt X0 hx #[vi n, vi (1 : Int32), uu, uu] (D 1 rfl) rfl ?_
    refine gi X0 hx (D 2 rfl) rfl ?_
    refine zN X0 hx (D 3 rfl) ((if0 _ _).trans (flt (h0' : ¬ (n < (0 : Int32)))).1) ?_
    refine gk X0 hx 0 (D 4 rfl) rfl ?_
    refine gt X0 hx #[vi n, vi (0 : Int32), uu, uu] (D 5 rfl) rfl ?_
    refine gi X0 hx (D 6 rfl) rfl ?_
    refine gq (XS.ineg X0.here hx rfl (D 7 rfl) rfl) rfl ?_
    refine gt X0 hx #[vi (-n), vi (0 : Int32), uu, uu] (D 8 rfl) rfl ?_
    refine gb X0 hx (-10) (D 9 rfl) rfl ?_
    refine gt X0 hx #[vi (-n), vi (0 : Int32), vi (-10 : Int32), uu] (D 10 rfl) rfl ?_
    refine gk X0 hx 1 (D 11 rfl) rfl ?_
    refine gt X0 hx #[vi (-n), vi (0 : Int32), vi (-10 : Int32), vi (1 : Int32)] (D 12 rfl) rfl ?_
    refine gi X0 hx (D 13 rfl) rfl ?_
    refine gb X0 hx 10 (D 14 rfl) rfl ?_
    refine cN X0 hx (D 15 rfl) (tlt (by decide : (1 : Int32) < (10 : Int32))).2.1 ?_
    refine gi X0 hx (D 16 rfl) rfl ?_
    refine gi X0 hx (D 17 rfl) rfl ?_
    refine cY X0 hx 31 (D 18 rfl) (flt h1).2.2.2 (by decide) ?_
    refine gb X0 hx 10 (D 23 rfl) rfl ?_
    refine gi X0 hx (D 24 rfl) rfl ?_
    refine gq (XS.imul X0.here hx rfl (D 25 rfl) rfl) rfl ?_
    show Go p e below _ (s₁.setTop (mkF m 35 #[vi (-n), vi (0 : Int32), vi (-10 : Int32), vi (1 : Int32)] [(.int ((10 : Int32) * (-10 : Int32)))]))
    rw [show ((10 : Int32) * (-10 : Int32)) = (-100 : Int32) from by decide]
    refine gt X0 hx #[vi (-n), vi (0 : Int32), vi (-100 : Int32), vi (1 : Int32)] (D 26 rfl) rfl ?_
    refine gn X0 hx #[vi (-n), vi (0 : Int32), vi (-100 : Int32), vi ((1 : Int32) + (1 : Int32))] (D 27 rfl) rfl rfl ?_
    refine gg X0 hx 16 (D 28 rfl) (by decide) ?_
    refine gi X0 hx (D 13 rfl) rfl ?_
    refine gb X0 hx 10 (D 14 rfl) rfl ?_
    refine cN X0 hx (D 15 rfl) (tlt (by decide : ((1 : Int32) + (1 : Int32)) < (10 : Int32))).2.1 ?_
    refine gi X0 hx (D 16 rfl) rfl ?_
    refine gi X0 hx (D 17 rfl) rfl ?_
    refine cN X0 hx (D 18 rfl) (tlt h2).2.2.2 ?_
    refine gi X0 hx (D 19 rfl) rfl ?_
    refine gi X0 hx (D 20 rfl) rfl ?_
    refine gq (XS.iadd X0.here hx rfl (D 21 rfl) rfl) rfl ?_
    show Go p e below _ (s₁.setTop (mkF m 30 #[vi (-n), vi (0 : Int32), vi (-100 : Int32), vi ((1 : Int32) + (1 : Int32))] [(.int (((1 : Int32) + (1 : Int32)) + (0 : Int32)))]))
    rw [show (((1 : Int32) + (1 : Int32)) + (0 : Int32)) = Int32.ofNat 2 from by decide]
    exact Go.ret1 X0 hx Bd.returns Bd.notSynchronized rfl (Or.inl ⟨rfl, by simp, _, rfl⟩) (D 22 rfl) (by decide) (by decide) (by first | (rw [e0]; exact ⟨rfl, N0, rfl⟩) | exact ⟨rfl, N0, rfl⟩)
  ·
    refine gk X0 hx 1 (D 0 rfl) rfl ?_
    refine gt X0 hx #[vi n, vi (1 : Int32), uu, uu] (D 1 rfl) rfl ?_
    refine gi X0 hx (D 2 rfl) rfl ?_
    refine zN X0 hx (D 3 rfl) ((if0 _ _).trans (flt (h0' : ¬ (n < (0 : Int32)))).1) ?_
    refine gk X0 hx 0 (D 4 rfl) rfl ?_
    refine gt X0 hx #[vi n, vi (0 : Int32), uu, uu] (D 5 rfl) rfl ?_
    refine gi X0 hx (D 6 rfl) rfl ?_
    refine gq (XS.ineg X0.here hx rfl (D 7 rfl) rfl) rfl ?_
    refine gt X0 hx #[vi (-n), vi (0 : Int32), uu, uu] (D 8 rfl) rfl ?_
    refine gb X0 hx (-10) (D 9 rfl) rfl ?_
    refine gt X0 hx #[vi (-n), vi (0 : Int32), vi (-10 : Int32), uu] (D 10 rfl) rfl ?_
    refine gk X0 hx 1 (D 11 rfl) rfl ?_
    refine gt X0 hx #[vi (-n), vi (0 : Int32), vi (-10 : Int32), vi (1 : Int32)] (D 12 rfl) rfl ?_
    refine gi X0 hx (D 13 rfl) rfl ?_
    refine gb X0 hx 10 (D 14 rfl) rfl ?_
    refine cN X0 hx (D 15 rfl) (tlt (by decide : (1 : Int32) < (10 : Int32))).2.1 ?_
    refine gi X0 hx (D 16 rfl) rfl ?_
    refine gi X0 hx (D 17 rfl) rfl ?_
    refine cY X0 hx 31 (D 18 rfl) (flt h1).2.2.2 (by decide) ?_
    refine gb X0 hx 10 (D 23 rfl) rfl ?_
    refine gi X0 hx (D 24 rfl) rfl ?_
    refine gq (XS.imul X0.here hx rfl (D 25 rfl) rfl) rfl ?_
    show Go p e below _ (s₁.setTop (mkF m 35 #[vi (-n), vi (0 : Int32), vi (-10 : Int32), vi (1 : Int32)] [(.int ((10 : Int32) * (-10 : Int32)))]))
    rw [show ((10 : Int32) * (-10 : Int32)) = (-100 : Int32) from by decide]
    refine gt X0 hx #[vi (-n), vi (0 : Int32), vi (-100 : Int32), vi (1 : Int32)] (D 26 rfl) rfl ?_
    refine gn X0 hx #[vi (-n), vi (0 : Int32), vi (-100 : Int32), vi ((1 : Int32) + (1 : Int32))] (D 27 rfl) rfl rfl ?_
    refine gg X0 hx 16 (D 28 rfl) (by decide) ?_
    refine gi X0 hx (D 13 rfl) rfl ?_
    refine gb X0 hx 10 (D 14 rfl) rfl ?_
    refine cN X0 hx (D 15 rfl) (tlt (by decide : ((1 : Int32) + (1 : Int32)) < (10 : Int32))).2.1 ?_
    refine gi X0 hx (D 16 rfl) rfl ?_
    refine gi X0 hx (D 17 rfl) rfl ?_
    refine cY X0 hx 31 (D 18 rfl) (flt h2).2.2.2 (by decide) ?_
    refine gb X0 hx 10 (D 23 rfl) rfl ?_
    refine gi X0 hx (D 24 rfl) rfl ?_
    refine gq (XS.imul X0.here hx rfl (D 25 rfl) rfl) rfl ?_
    show Go p e below _ (s₁.setTop (mkF m 35 #[vi (-n), vi (0 : Int32), vi (-100 : Int32), vi ((1 : Int32) + (1 : Int32))] [(.int ((10 : Int32) * (-100 : Int32)))]))
    rw [show ((10 : Int32) * (-100 : Int32)) = (-1000 : Int32) from by decide]
    refine gt X0 hx #[vi (-n), vi (0 : Int32), vi (-1000 : Int32), vi ((1 : Int32) + (1 : Int32))] (D 26 rfl) rfl ?_
    refine gn X0 hx #[vi (-n), vi (0 : Int32), vi (-1000 : Int32), vi (((1 : Int32) + (1 : Int32)) + (1 : Int32))] (D 27 rfl) rfl rfl ?_
    refine gg X0 hx 16 (D 28 rfl) (by decide) ?_
    refine gi X0 hx (D 13 rfl) rfl ?_
    refine gb X0 hx 10 (D 14 rfl) rfl ?_
    refine cN X0 hx (D 15 rfl) (tlt (by decide : (((1 : Int32) + (1 : Int32)) + (1 : Int32)) < (10 : Int32))).2.1 ?_
    refine gi X0 hx (D 16 rfl) rfl ?_
    refine gi X0 hx (D 17 rfl) rfl ?_
    refine cN X0 hx (D 18 rfl) (tlt h3).2.2.2 ?_
    refine gi X0 hx (D 19 rfl) rfl ?_
    refine gi X0 hx (D 20 rfl) rfl ?_
    refine gq (XS.iadd X0.here hx rfl (D 21 rfl) rfl) rfl ?_
    show Go p e below _ (s₁.setTop (mkF m 30 #[vi (-n), vi (0 : Int32), vi (-1000 : Int32), vi (((1 : Int32) + (1 : Int32)) + (1 : Int32))] [(.int ((((1 : Int32) + (1 : Int32)) + (1 : Int32)) + (0 : Int32)))]))
    rw [show ((((1 : Int32) + (1 : Int32)) + (1 : Int32)) + (0 : Int32)) = Int32.ofNat 3 from by decide]
    exact Go.ret1 X0 hx Bd.returns Bd.notSynchronized rfl (Or.inl ⟨rfl, by simp, _, rfl⟩) (D 22 rfl) (by decide) (by decide) (by first | (rw [e0]; exact ⟨rfl, N0, rfl⟩) | exact ⟨rfl, N0, rfl⟩)
  ·
    refine gk X0 hx 1 (D 0 rfl) rfl ?_
    refine gt X0 hx #[vi n, vi (1 : Int32), uu, uu] (D 1 rfl) rfl ?_
    refine gi X0 hx (D 2 rfl) rfl ?_
    refine zN X0 hx (D 3 rfl) ((if0 _ _).trans (flt (h0' : ¬ (n < (0 : Int32)))).1) ?_
    refine gk X0 hx 0 (D 4 rfl) rfl ?_
    refine gt X0 hx #[vi n, vi (0 : Int32), uu, uu] (D 5 rfl) rfl ?_
    refine gi X0 hx (D 6 rfl) rfl ?_
    refine gq (XS.ineg X0.here hx rfl (D 7 rfl) rfl) rfl ?_
    refine gt X0 hx #[vi (-n), vi (0 : Int32), uu, uu] (D 8 rfl) rfl ?_
    refine gb X0 hx (-10) (D 9 rfl) rfl ?_
    refine gt X0 hx #[vi (-n), vi (0 : Int32), vi (-10 : Int32), uu] (D 10 rfl) rfl ?_
    refine gk X0 hx 1 (D 11 rfl) rfl ?_
    refine gt X0 hx #[vi (-n), vi (0 : Int32), vi (-10 : Int32), vi (1 : Int32)] (D 12 rfl) rfl ?_
    refine gi X0 hx (D 13 rfl) rfl ?_
    refine gb X0 hx 10 (D 14 rfl) rfl ?_
    refine cN X0 hx (D 15 rfl) (tlt (by decide : (1 : Int32) < (10 : Int32))).2.1 ?_
    refine gi X0 hx (D 16 rfl) rfl ?_
    refine gi X0 hx (D 17 rfl) rfl ?_
    refine cY X0 hx 31 (D 18 rfl) (flt h1).2.2.2 (by decide) ?_
    refine gb X0 hx 10 (D 23 rfl) rfl ?_
    refine gi X0 hx (D 24 rfl) rfl ?_
    refine gq (XS.imul X0.here hx rfl (D 25 rfl) rfl) rfl ?_
    show Go p e below _ (s₁.setTop (mkF m 35 #[vi (-n), vi (0 : Int32), vi (-10 : Int32), vi (1 : Int32)] [(.int ((10 : Int32) * (-10 : Int32)))]))
    rw [show ((10 : Int32) * (-10 : Int32)) = (-100 : Int32) from by decide]
    refine gt X0 hx #[vi (-n), vi (0 : Int32), vi (-100 : Int32), vi (1 : Int32)] (D 26 rfl) rfl ?_
    refine gn X0 hx #[vi (-n), vi (0 : Int32), vi (-100 : Int32), vi ((1 : Int32) + (1 : Int32))] (D 27 rfl) rfl rfl ?_
    refine gg X0 hx 16 (D 28 rfl) (by decide) ?_
    refine gi X0 hx (D 13 rfl) rfl ?_
    refine gb X0 hx 10 (D 14 rfl) rfl ?_
    refine cN X0 hx (D 15 rfl) (tlt (by decide : ((1 : Int32) + (1 : Int32)) < (10 : Int32))).2.1 ?_
    refine gi X0 hx (D 16 rfl) rfl ?_
    refine gi X0 hx (D 17 rfl) rfl ?_
    refine cY X0 hx 31 (D 18 rfl) (flt h2).2.2.2 (by decide) ?_
    refine gb X0 hx 10 (D 23 rfl) rfl ?_
    refine gi X0 hx (D 24 rfl) rfl ?_
    refine gq (XS.imul X0.here hx rfl (D 25 rfl) rfl) rfl ?_
    show Go p e below _ (s₁.setTop (mkF m 35 #[vi (-n), vi (0 : Int32), vi (-100 : Int32), vi ((1 : Int32) + (1 : Int32))] [(.int ((10 : Int32) * (-100 : Int32)))]))
    rw [show ((10 : Int32) * (-100 : Int32)) = (-1000 : Int32) from by decide]
    refine gt X0 hx #[vi (-n), vi (0 : Int32), vi (-1000 : Int32), vi ((1 : Int32) + (1 : Int32))] (D 26 rfl) rfl ?_
    refine gn X0 hx #[vi (-n), vi (0 : Int32), vi (-1000 : Int32), vi (((1 : Int32) + (1 : Int32)) + (1 : Int32))] (D 27 rfl) rfl rfl ?_
    refine gg X0 hx 16 (D 28 rfl) (by decide) ?_
    refine gi X0 hx (D 13 rfl) rfl ?_
    refine gb X0 hx 10 (D 14 rfl) rfl ?_
    refine cN X0 hx (D 15 rfl) (tlt (by decide : (((1 : Int32) + (1 : Int32)) + (1 : Int32)) < (10 : Int32))).2.1 ?_
    refine gi X0 hx (D 16 rfl) rfl ?_
    refine gi X0 hx (D 17 rfl) rfl ?_
    refine cY X0 hx 31 (D 18 rfl) (flt h3).2.2.2 (by decide) ?_
    refine gb X0 hx 10 (D 23 rfl) rfl ?_
    refine gi X0 hx (D 24 rfl) rfl ?_
    refine gq (XS.imul X0.here hx rfl (D 25 rfl) rfl) rfl ?_
    show Go p e below _ (s₁.setTop (mkF m 35 #[vi (-n), vi (0 : Int32), vi (-1000 : Int32), vi (((1 : Int32) + (1 : Int32)) + (1 : Int32))] [(.int ((10 : Int32) * (-1000 : Int32)))]))
    rw [show ((10 : Int32) * (-1000 : Int32)) = (-10000 : Int32) from by decide]
    refine gt X0 hx #[vi (-n), vi (0 : Int32), vi (-10000 : Int32), vi (((1 : Int32) + (1 : Int32)) + (1 : Int32))] (D 26 rfl) rfl ?_
    refine gn X0 hx #[vi (-n), vi (0 : Int32), vi (-10000 : Int32), vi ((((1 : Int32) + (1 : Int32)) + (1 : Int32)) + (1 : Int32))] (D 27 rfl) rfl rfl ?_
    refine gg X0 hx 16 (D 28 rfl) (by decide) ?_
    refine gi X0 hx (D 13 rfl) rfl ?_
    refine gb X0 hx 10 (D 14 rfl) rfl ?_
    refine cN X0 hx (D 15 rfl) (tlt (by decide : ((((1 : Int32) + (1 : Int32)) + (1 : Int32)) + (1 : Int32)) < (10 : Int32))).2.1 ?_
    refine gi X0 hx (D 16 rfl) rfl ?_
    refine gi X0 hx (D 17 rfl) rfl ?_
    refine cN X0 hx (D 18 rfl) (tlt h4).2.2.2 ?_
    refine gi X0 hx (D 19 rfl) rfl ?_
    refine gi X0 hx (D 20 rfl) rfl ?_
    refine gq (XS.iadd X0.here hx rfl (D 21 rfl) rfl) rfl ?_
    show Go p e below _ (s₁.setTop (mkF m 30 #[vi (-n), vi (0 : Int32), vi (-10000 : Int32), vi ((((1 : Int32) + (1 : Int32)) + (1 : Int32)) + (1 : Int32))] [(.int (((((1 : Int32) + (1 : Int32)) + (1 : Int32)) + (1 : Int32)) + (0 : Int32)))]))
    rw [show (((((1 : Int32) + (1 : Int32)) + (1 : Int32)) + (1 : Int32)) + (0 : Int32)) = Int32.ofNat 4 from by decide]
    exact Go.ret1 X0 hx Bd.returns Bd.notSynchronized rfl (Or.inl ⟨rfl, by simp, _, rfl⟩) (D 22 rfl) (by decide) (by decide) (by first | (rw [e0]; exact ⟨rfl, N0, rfl⟩) | exact ⟨rfl, N0, rfl⟩)
def Q_rmGL (Z : State) (b1 : Addr) (kb : ClassId) (n : Int32) (d on mm : Nat) (bs : List Value) (dl : List Int32) (dO dT : Addr) (kO kT : ClassId) (h0 : Heap) (n0 : Nat) : Option Value → Heap → List Loc → Prop := fun v h L => v = some (.int (Int32.ofNat bs.length)) ∧ Fr n0 L ∧ Keep h0 h [b1] ∧ Arv Z h b1 kb .byte (Int32.ofNat mm) (bs ++ latL dl) (.int 0)
set_option maxRecDepth 65536 in
set_option maxHeartbeats 40000000 in
theorem rmGL (l : Launch) (Z : State) (a0 : Array Value) (hw : HW a0 Z) (ws : List Jvm.Cond) (b1 : Addr) (kb : ClassId) (n : Int32) (d on mm : Nat) (bs : List Value) (dl : List Int32) (dO dT : Addr) (kO kT : ClassId) (h0 : Heap) (n0 : Nat) (Od : Old Z n0 h0) (SO : Sta Z Z.heap "java/lang/Integer" "DigitOnes" "[B" (.ref dO)) (SN : Sta Z Z.heap "java/lang/Integer" "DigitTens" "[B" (.ref dT)) (V_dO : Arv Z h0 dO kO .byte (100 : Int32) onesL (.int 0)) (V_dT : Arv Z h0 dT kT .byte (100 : Int32) tensL (.int 0)) (ne_dO_b1 : dO ≠ b1) (ne_dT_b1 : dT ≠ b1) (g_b1 : n0 ≤ b1) (V_b1 : Arv Z h0 b1 kb .byte (Int32.ofNat mm) bs (.int 0)) (hd : DgP d n dl) (hmm : bs.length + d ≤ mm ∧ mm ≤ 100000) :
    CT l (⟨"java/lang/Integer", "getChars", "(II[B)I"⟩ : MethodName) jdk_33_method_12_code 7 (some .int) ws (⟨0, 0, 0, 0⟩ : Jvm.Room) #[(.int n), (.int (Int32.ofNat (bs.length + d))), (.ref b1)] Z h0 (Q_rmGL Z b1 kb n d on mm bs dl dO dT kO kT h0 n0) := by
  refine Go.start (plainFor_of_name pn_12) #[vi n, vi (Int32.ofNat (bs.length + d)), vr b1, uu, uu, uu, uu] n0 (by first | (simp [argsToLocals, Value.category, maxLocals]; done) | rfl) ?_
  intro p e s m below meth c s₁ Bd hx hby hml hZ hown X0 e0 N0
  have D := @dB _ _ hby _ D79
  have K0 : Keep h0 h0 [b1] := Keep.refl _ _
  rcases hd with ⟨rfl, h0', h1, h2, h9, x, y, ⟨tin, tx, ty⟩, rfl⟩ | ⟨-, h0', h1, h2, q, r, x, y, u, v, hq, hr, hq2, ⟨tin, tx, ty⟩, ⟨uin, tu, tv⟩, ⟨rfl, h3, h9, rfl⟩ | ⟨rfl, h3, h4, h9, rfl⟩⟩
  ·
    replace V_b1 : Arv Z h0 b1 kb .byte (Int32.ofNat mm) (bs ++ [(.int (0 : Int32)), (.int (0 : Int32))]) (.int 0) := V_b1.pad (pad_rep bs _ 2)
    refine gi X0 hx (D 0 rfl) rfl ?_
    refine gT X0 hx #[vi n, vi (Int32.ofNat (bs.length + 2)), vr b1, uu, uu, vi (Int32.ofNat (bs.length + 2)), uu] (D 1 rfl) rfl ?_
    refine gi X0 hx (D 2 rfl) rfl ?_
    refine zY X0 hx 11 (D 3 rfl) ((if0 _ _).trans (flt (h0' : ¬ (n < (0 : Int32)))).2.1) (by decide) ?_
    refine gk X0 hx 0 (D 6 rfl) rfl ?_
    refine gT X0 hx #[vi n, vi (Int32.ofNat (bs.length + 2)), vr b1, uu, uu, vi (Int32.ofNat (bs.length + 2)), vi (0 : Int32)] (D 7 rfl) rfl ?_
    refine gI X0 hx (D 8 rfl) rfl ?_
    refine zN X0 hx (D 9 rfl) ((if0 _ _).trans (teq (rfl : (0 : Int32) = (0 : Int32))).2) ?_
    refine gi X0 hx (D 10 rfl) rfl ?_
    refine gq (XS.ineg X0.here hx rfl (D 11 rfl) rfl) rfl ?_
    refine gt X0 hx #[vi (-n), vi (Int32.ofNat (bs.length + 2)), vr b1, uu, uu, vi (Int32.ofNat (bs.length + 2)), vi (0 : Int32)] (D 12 rfl) rfl ?_
    refine gi X0 hx (D 13 rfl) rfl ?_
    refine gb X0 hx (-100) (D 14 rfl) rfl ?_
    refine cY X0 hx 72 (D 15 rfl) (tlt h2).2.2.1 (by decide) ?_
    refine ga X0 hx (D 43 rfl) rfl rfl ?_
    refine gn X0 hx #[vi (-n), vi (Int32.ofNat (bs.length + 2)), vr b1, uu, uu, vi ((Int32.ofNat (bs.length + 2)) + (-1 : Int32)), vi (0 : Int32)] (D 44 rfl) rfl rfl ?_
    refine gI X0 hx (D 45 rfl) rfl ?_
    show Go p e below _ (s₁.setTop (mkF m 78 #[vi (-n), vi (Int32.ofNat (bs.length + 2)), vr b1, uu, uu, vi ((Int32.ofNat (bs.length + 2)) + (-1 : Int32)), vi (0 : Int32)] [(.int ((Int32.ofNat (bs.length + 2)) + (-1 : Int32))), (.ref b1)]))
    rw [show ((Int32.ofNat (bs.length + 2)) + (-1 : Int32)) = (Int32.ofNat (bs.length + 1)) from o_dec _]
    refine gS X0 hx hZ hown (wd hw 371 rfl) e0 (SO.ext Od.2) (D 46 rfl) fun T353 X353 e353 => ?_
    refine gi X353 hx (D 47 rfl) rfl ?_
    refine gq (XS.ineg X353.here hx rfl (D 48 rfl) rfl) rfl ?_
    refine gB X353 hx hZ e353 V_dO tin (.int x) tx (D 49 rfl) ?_
    refine sB X353 hx hZ e353 V_b1 (o_in (by omega) (by omega)) (bs.length + 1) (o_nat (by omega)) (by rw [List.length_append]; exact Nat.add_lt_add_left (Nat.le_of_ble_eq_true rfl) _) _ (rfl) (D 50 rfl) fun T355 h355 X355 e355 W355 Vn355 => ?_
    replace V_b1 := Vn355
    clear Vn355
    replace Od := Od.wr W355 g_b1
    replace V_dO := V_dO.other W355 ne_dO_b1
    replace V_dT := V_dT.other W355 ne_dT_b1
    replace K0 := K0.wr W355 (Or.inl (List.mem_of_getElem? (i := 0) rfl))
    have N355 := Fr.snoc X355 N0 g_b1
    replace V_b1 : Arv Z h355 b1 kb .byte (Int32.ofNat mm) (bs ++ [(.int (0 : Int32)), (.int (nar .byte x))]) (.int 0) := arv_eq V_b1 (set_app bs _ 1 _)
    refine gi X355 hx (D 51 rfl) rfl ?_
    refine gb X355 hx (-9) (D 52 rfl) rfl ?_
    refine cN X355 hx (D 53 rfl) (tlt h9).2.1 ?_
    refine ga X355 hx (D 54 rfl) rfl rfl ?_
    refine gn X355 hx #[vi (-n), vi (Int32.ofNat (bs.length + 2)), vr b1, uu, uu, vi ((Int32.ofNat (bs.length + 1)) + (-1 : Int32)), vi (0 : Int32)] (D 55 rfl) rfl rfl ?_
    refine gI X355 hx (D 56 rfl) rfl ?_
    show Go p e below _ (T355.setTop (mkF m 97 #[vi (-n), vi (Int32.ofNat (bs.length + 2)), vr b1, uu, uu, vi ((Int32.ofNat (bs.length + 1)) + (-1 : Int32)), vi (0 : Int32)] [(.int ((Int32.ofNat (bs.length + 1)) + (-1 : Int32))), (.ref b1)]))
    rw [show ((Int32.ofNat (bs.length + 1)) + (-1 : Int32)) = (Int32.ofNat (bs.length + 0)) from o_dec _]
    refine gS X355 hx hZ hown (wd hw 372 rfl) e355 (SN.ext Od.2) (D 57 rfl) fun T356 X356 e356 => ?_
    refine gi X356 hx (D 58 rfl) rfl ?_
    refine gq (XS.ineg X356.here hx rfl (D 59 rfl) rfl) rfl ?_
    refine gB X356 hx hZ e356 V_dT tin (.int y) ty (D 60 rfl) ?_
    refine sB X356 hx hZ e356 V_b1 (o_in (by omega) (by omega)) (bs.length + 0) (o_nat (by omega)) (by rw [List.length_append]; exact Nat.add_lt_add_left (Nat.le_of_ble_eq_true rfl) _) _ (rfl) (D 61 rfl) fun T358 h358 X358 e358 W358 Vn358 => ?_
    replace V_b1 := Vn358
    clear Vn358
    replace Od := Od.wr W358 g_b1
    replace V_dO := V_dO.other W358 ne_dO_b1
    replace V_dT := V_dT.other W358 ne_dT_b1
    replace K0 := K0.wr W358 (Or.inl (List.mem_of_getElem? (i := 0) rfl))
    have N358 := Fr.snoc X358 N355 g_b1
    replace V_b1 : Arv Z h358 b1 kb .byte (Int32.ofNat mm) (bs ++ [(.int (nar .byte y)), (.int (nar .byte x))]) (.int 0) := arv_eq V_b1 (set_app bs _ 0 _)
    refine gI X358 hx (D 62 rfl) rfl ?_
    refine zY X358 hx 118 (D 63 rfl) ((if0 _ _).trans (teq (rfl : (0 : Int32) = (0 : Int32))).1) (by decide) ?_
    refine gI X358 hx (D 69 rfl) rfl ?_
    exact Go.ret1 X358 hx Bd.returns Bd.notSynchronized rfl (Or.inl ⟨rfl, by simp, _, rfl⟩) (D 70 rfl) (by decide) (by decide) (by first | (rw [e358]; exact ⟨rfl, N358, K0, V_b1⟩) | exact ⟨rfl, N358, K0, V_b1⟩)
  ·
    replace V_b1 : Arv Z h0 b1 kb .byte (Int32.ofNat mm) (bs ++ [(.int (0 : Int32)), (.int (0 : Int32)), (.int (0 : Int32))]) (.int 0) := V_b1.pad (pad_rep bs _ 3)
    refine gi X0 hx (D 0 rfl) rfl ?_
    refine gT X0 hx #[vi n, vi (Int32.ofNat (bs.length + 3)), vr b1, uu, uu, vi (Int32.ofNat (bs.length + 3)), uu] (D 1 rfl) rfl ?_
    refine gi X0 hx (D 2 rfl) rfl ?_
    refine zY X0 hx 11 (D 3 rfl) ((if0 _ _).trans (flt (h0' : ¬ (n < (0 : Int32)))).2.1) (by decide) ?_
    refine gk X0 hx 0 (D 6 rfl) rfl ?_
    refine gT X0 hx #[vi n, vi (Int32.ofNat (bs.length + 3)), vr b1, uu, uu, vi (Int32.ofNat (bs.length + 3)), vi (0 : Int32)] (D 7 rfl) rfl ?_
    refine gI X0 hx (D 8 rfl) rfl ?_
    refine zN X0 hx (D 9 rfl) ((if0 _ _).trans (teq (rfl : (0 : Int32) = (0 : Int32))).2) ?_
    refine gi X0 hx (D 10 rfl) rfl ?_
    refine gq (XS.ineg X0.here hx rfl (D 11 rfl) rfl) rfl ?_
    refine gt X0 hx #[vi (-n), vi (Int32.ofNat (bs.length + 3)), vr b1, uu, uu, vi (Int32.ofNat (bs.length + 3)), vi (0 : Int32)] (D 12 rfl) rfl ?_
    refine gi X0 hx (D 13 rfl) rfl ?_
    refine gb X0 hx (-100) (D 14 rfl) rfl ?_
    refine cN X0 hx (D 15 rfl) (flt h2).2.2.1 ?_
    refine gi X0 hx (D 16 rfl) rfl ?_
    refine gb X0 hx 100 (D 17 rfl) rfl ?_
    refine gq (XS.idiv X0.here hx rfl (D 18 rfl) rfl (by first | assumption | decide)) rfl ?_
    show Go p e below _ (s₁.setTop (mkF m 32 #[vi (-n), vi (Int32.ofNat (bs.length + 3)), vr b1, uu, uu, vi (Int32.ofNat (bs.length + 3)), vi (0 : Int32)] [(.int ((-n) / (100 : Int32)))]))
    rw [hq]
    refine gt X0 hx #[vi (-n), vi (Int32.ofNat (bs.length + 3)), vr b1, vi q, uu, vi (Int32.ofNat (bs.length + 3)), vi (0 : Int32)] (D 19 rfl) rfl ?_
    refine gi X0 hx (D 20 rfl) rfl ?_
    refine gb X0 hx 100 (D 21 rfl) rfl ?_
    refine gq (XS.imul X0.here hx rfl (D 22 rfl) rfl) rfl ?_
    refine gi X0 hx (D 23 rfl) rfl ?_
    refine gq (XS.isub X0.here hx rfl (D 24 rfl) rfl) rfl ?_
    show Go p e below _ (s₁.setTop (mkF m 39 #[vi (-n), vi (Int32.ofNat (bs.length + 3)), vr b1, vi q, uu, vi (Int32.ofNat (bs.length + 3)), vi (0 : Int32)] [(.int ((q * (100 : Int32)) - (-n)))]))
    rw [hr]
    refine gT X0 hx #[vi (-n), vi (Int32.ofNat (bs.length + 3)), vr b1, vi q, vi r, vi (Int32.ofNat (bs.length + 3)), vi (0 : Int32)] (D 25 rfl) rfl ?_
    refine gi X0 hx (D 26 rfl) rfl ?_
    refine gt X0 hx #[vi q, vi (Int32.ofNat (bs.length + 3)), vr b1, vi q, vi r, vi (Int32.ofNat (bs.length + 3)), vi (0 : Int32)] (D 27 rfl) rfl ?_
    refine ga X0 hx (D 28 rfl) rfl rfl ?_
    refine gn X0 hx #[vi q, vi (Int32.ofNat (bs.length + 3)), vr b1, vi q, vi r, vi ((Int32.ofNat (bs.length + 3)) + (-1 : Int32)), vi (0 : Int32)] (D 29 rfl) rfl rfl ?_
    refine gI X0 hx (D 30 rfl) rfl ?_
    show Go p e below _ (s₁.setTop (mkF m 49 #[vi q, vi (Int32.ofNat (bs.length + 3)), vr b1, vi q, vi r, vi ((Int32.ofNat (bs.length + 3)) + (-1 : Int32)), vi (0 : Int32)] [(.int ((Int32.ofNat (bs.length + 3)) + (-1 : Int32))), (.ref b1)]))
    rw [show ((Int32.ofNat (bs.length + 3)) + (-1 : Int32)) = (Int32.ofNat (bs.length + 2)) from o_dec _]
    refine gS X0 hx hZ hown (wd hw 371 rfl) e0 (SO.ext Od.2) (D 31 rfl) fun T359 X359 e359 => ?_
    refine gI X359 hx (D 32 rfl) rfl ?_
    refine gB X359 hx hZ e359 V_dO tin (.int x) tx (D 33 rfl) ?_
    refine sB X359 hx hZ e359 V_b1 (o_in (by omega) (by omega)) (bs.length + 2) (o_nat (by omega)) (by rw [List.length_append]; exact Nat.add_lt_add_left (Nat.le_of_ble_eq_true rfl) _) _ (rfl) (D 34 rfl) fun T361 h361 X361 e361 W361 Vn361 => ?_
    replace V_b1 := Vn361
    clear Vn361
    replace Od := Od.wr W361 g_b1
    replace V_dO := V_dO.other W361 ne_dO_b1
    replace V_dT := V_dT.other W361 ne_dT_b1
    replace K0 := K0.wr W361 (Or.inl (List.mem_of_getElem? (i := 0) rfl))
    have N361 := Fr.snoc X361 N0 g_b1
    replace V_b1 : Arv Z h361 b1 kb .byte (Int32.ofNat mm) (bs ++ [(.int (0 : Int32)), (.int (0 : Int32)), (.int (nar .byte x))]) (.int 0) := arv_eq V_b1 (set_app bs _ 2 _)
    refine ga X361 hx (D 35 rfl) rfl rfl ?_
    refine gn X361 hx #[vi q, vi (Int32.ofNat (bs.length + 3)), vr b1, vi q, vi r, vi ((Int32.ofNat (bs.length + 2)) + (-1 : Int32)), vi (0 : Int32)] (D 36 rfl) rfl rfl ?_
    refine gI X361 hx (D 37 rfl) rfl ?_
    show Go p e below _ (T361.setTop (mkF m 62 #[vi q, vi (Int32.ofNat (bs.length + 3)), vr b1, vi q, vi r, vi ((Int32.ofNat (bs.length + 2)) + (-1 : Int32)), vi (0 : Int32)] [(.int ((Int32.ofNat (bs.length + 2)) + (-1 : Int32))), (.ref b1)]))
    rw [show ((Int32.ofNat (bs.length + 2)) + (-1 : Int32)) = (Int32.ofNat (bs.length + 1)) from o_dec _]
    refine gS X361 hx hZ hown (wd hw 372 rfl) e361 (SN.ext Od.2) (D 38 rfl) fun T362 X362 e362 => ?_
    refine gI X362 hx (D 39 rfl) rfl ?_
    refine gB X362 hx hZ e362 V_dT tin (.int y) ty (D 40 rfl) ?_
    refine sB X362 hx hZ e362 V_b1 (o_in (by omega) (by omega)) (bs.length + 1) (o_nat (by omega)) (by rw [List.length_append]; exact Nat.add_lt_add_left (Nat.le_of_ble_eq_true rfl) _) _ (rfl) (D 41 rfl) fun T364 h364 X364 e364 W364 Vn364 => ?_
    replace V_b1 := Vn364
    clear Vn364
    replace Od := Od.wr W364 g_b1
    replace V_dO := V_dO.other W364 ne_dO_b1
    replace V_dT := V_dT.other W364 ne_dT_b1
    replace K0 := K0.wr W364 (Or.inl (List.mem_of_getElem? (i := 0) rfl))
    have N364 := Fr.snoc X364 N361 g_b1
    replace V_b1 : Arv Z h364 b1 kb .byte (Int32.ofNat mm) (bs ++ [(.int (0 : Int32)), (.int (nar .byte y)), (.int (nar .byte x))]) (.int 0) := arv_eq V_b1 (set_app bs _ 1 _)
    refine gg X364 hx 22 (D 42 rfl) (by decide) ?_
    refine gi X364 hx (D 13 rfl) rfl ?_
    refine gb X364 hx (-100) (D 14 rfl) rfl ?_
    refine cY X364 hx 72 (D 15 rfl) (tlt hq2).2.2.1 (by decide) ?_
    refine ga X364 hx (D 43 rfl) rfl rfl ?_
    refine gn X364 hx #[vi q, vi (Int32.ofNat (bs.length + 3)), vr b1, vi q, vi r, vi ((Int32.ofNat (bs.length + 1)) + (-1 : Int32)), vi (0 : Int32)] (D 44 rfl) rfl rfl ?_
    refine gI X364 hx (D 45 rfl) rfl ?_
    show Go p e below _ (T364.setTop (mkF m 78 #[vi q, vi (Int32.ofNat (bs.length + 3)), vr b1, vi q, vi r, vi ((Int32.ofNat (bs.length + 1)) + (-1 : Int32)), vi (0 : Int32)] [(.int ((Int32.ofNat (bs.length + 1)) + (-1 : Int32))), (.ref b1)]))
    rw [show ((Int32.ofNat (bs.length + 1)) + (-1 : Int32)) = (Int32.ofNat (bs.length + 0)) from o_dec _]
    refine gS X364 hx hZ hown (wd hw 371 rfl) e364 (SO.ext Od.2) (D 46 rfl) fun T365 X365 e365 => ?_
    refine gi X365 hx (D 47 rfl) rfl ?_
    refine gq (XS.ineg X365.here hx rfl (D 48 rfl) rfl) rfl ?_
    refine gB X365 hx hZ e365 V_dO uin (.int u) tu (D 49 rfl) ?_
    refine sB X365 hx hZ e365 V_b1 (o_in (by omega) (by omega)) (bs.length + 0) (o_nat (by omega)) (by rw [List.length_append]; exact Nat.add_lt_add_left (Nat.le_of_ble_eq_true rfl) _) _ (rfl) (D 50 rfl) fun T367 h367 X367 e367 W367 Vn367 => ?_
    replace V_b1 := Vn367
    clear Vn367
    replace Od := Od.wr W367 g_b1
    replace V_dO := V_dO.other W367 ne_dO_b1
    replace V_dT := V_dT.other W367 ne_dT_b1
    replace K0 := K0.wr W367 (Or.inl (List.mem_of_getElem? (i := 0) rfl))
    have N367 := Fr.snoc X367 N364 g_b1
    replace V_b1 : Arv Z h367 b1 kb .byte (Int32.ofNat mm) (bs ++ [(.int (nar .byte u)), (.int (nar .byte y)), (.int (nar .byte x))]) (.int 0) := arv_eq V_b1 (set_app bs _ 0 _)
    refine gi X367 hx (D 51 rfl) rfl ?_
    refine gb X367 hx (-9) (D 52 rfl) rfl ?_
    refine cY X367 hx 104 (D 53 rfl) (flt h9).2.1 (by decide) ?_
    refine gI X367 hx (D 62 rfl) rfl ?_
    refine zY X367 hx 118 (D 63 rfl) ((if0 _ _).trans (teq (rfl : (0 : Int32) = (0 : Int32))).1) (by decide) ?_
    refine gI X367 hx (D 69 rfl) rfl ?_
    exact Go.ret1 X367 hx Bd.returns Bd.notSynchronized rfl (Or.inl ⟨rfl, by simp, _, rfl⟩) (D 70 rfl) (by decide) (by decide) (by first | (rw [e367]; exact ⟨rfl, N367, K0, V_b1⟩) | exact ⟨rfl, N367, K0, V_b1⟩)
  ·
    replace V_b1 : Arv Z h0 b1 kb .byte (Int32.ofNat mm) (bs ++ [(.int (0 : Int32)), (.int (0 : Int32)), (.int (0 : Int32)), (.int (0 : Int32))]) (.int 0) := V_b1.pad (pad_rep bs _ 4)
    refine gi X0 hx (D 0 rfl) rfl ?_
    refine gT X0 hx #[vi n, vi (Int32.ofNat (bs.length + 4)), vr b1, uu, uu, vi (Int32.ofNat (bs.length + 4)), uu] (D 1 rfl) rfl ?_
    refine gi X0 hx (D 2 rfl) rfl ?_
    refine zY X0 hx 11 (D 3 rfl) ((if0 _ _).trans (flt (h0' : ¬ (n < (0 : Int32)))).2.1) (by decide) ?_
    refine gk X0 hx 0 (D 6 rfl) rfl ?_
    refine gT X0 hx #[vi n, vi (Int32.ofNat (bs.length + 4)), vr b1, uu, uu, vi (Int32.ofNat (bs.length + 4)), vi (0 : Int32)] (D 7 rfl) rfl ?_
    refine gI X0 hx (D 8 rfl) rfl ?_
    refine zN X0 hx (D 9 rfl) ((if0 _ _).trans (teq (rfl : (0 : Int32) = (0 : Int32))).2) ?_
    refine gi X0 hx (D 10 rfl) rfl ?_
    refine gq (XS.ineg X0.here hx rfl (D 11 rfl) rfl) rfl ?_
    refine gt X0 hx #[vi (-n), vi (Int32.ofNat (bs.length + 4)), vr b1, uu, uu, vi (Int32.ofNat (bs.length + 4)), vi (0 : Int32)] (D 12 rfl) rfl ?_
    refine gi X0 hx (D 13 rfl) rfl ?_
    refine gb X0 hx (-100) (D 14 rfl) rfl ?_
    refine cN X0 hx (D 15 rfl) (flt h2).2.2.1 ?_
    refine gi X0 hx (D 16 rfl) rfl ?_
    refine gb X0 hx 100 (D 17 rfl) rfl ?_
    refine gq (XS.idiv X0.here hx rfl (D 18 rfl) rfl (by first | assumption | decide)) rfl ?_
    show Go p e below _ (s₁.setTop (mkF m 32 #[vi (-n), vi (Int32.ofNat (bs.length + 4)), vr b1, uu, uu, vi (Int32.ofNat (bs.length + 4)), vi (0 : Int32)] [(.int ((-n) / (100 : Int32)))]))
    rw [hq]
    refine gt X0 hx #[vi (-n), vi (Int32.ofNat (bs.length + 4)), vr b1, vi q, uu, vi (Int32.ofNat (bs.length + 4)), vi (0 : Int32)] (D 19 rfl) rfl ?_
    refine gi X0 hx (D 20 rfl) rfl ?_
    refine gb X0 hx 100 (D 21 rfl) rfl ?_
    refine gq (XS.imul X0.here hx rfl (D 22 rfl) rfl) rfl ?_
    refine gi X0 hx (D 23 rfl) rfl ?_
    refine gq (XS.isub X0.here hx rfl (D 24 rfl) rfl) rfl ?_
    show Go p e below _ (s₁.setTop (mkF m 39 #[vi (-n), vi (Int32.ofNat (bs.length + 4)), vr b1, vi q, uu, vi (Int32.ofNat (bs.length + 4)), vi (0 : Int32)] [(.int ((q * (100 : Int32)) - (-n)))]))
    rw [hr]
    refine gT X0 hx #[vi (-n), vi (Int32.ofNat (bs.length + 4)), vr b1, vi q, vi r, vi (Int32.ofNat (bs.length + 4)), vi (0 : Int32)] (D 25 rfl) rfl ?_
    refine gi X0 hx (D 26 rfl) rfl ?_
    refine gt X0 hx #[vi q, vi (Int32.ofNat (bs.length + 4)), vr b1, vi q, vi r, vi (Int32.ofNat (bs.length + 4)), vi (0 : Int32)] (D 27 rfl) rfl ?_
    refine ga X0 hx (D 28 rfl) rfl rfl ?_
    refine gn X0 hx #[vi q, vi (Int32.ofNat (bs.length + 4)), vr b1, vi q, vi r, vi ((Int32.ofNat (bs.length + 4)) + (-1 : Int32)), vi (0 : Int32)] (D 29 rfl) rfl rfl ?_
    refine gI X0 hx (D 30 rfl) rfl ?_
    show Go p e below _ (s₁.setTop (mkF m 49 #[vi q, vi (Int32.ofNat (bs.length + 4)), vr b1, vi q, vi r, vi ((Int32.ofNat (bs.length + 4)) + (-1 : Int32)), vi (0 : Int32)] [(.int ((Int32.ofNat (bs.length + 4)) + (-1 : Int32))), (.ref b1)]))
    rw [show ((Int32.ofNat (bs.length + 4)) + (-1 : Int32)) = (Int32.ofNat (bs.length + 3)) from o_dec _]
    refine gS X0 hx hZ hown (wd hw 371 rfl) e0 (SO.ext Od.2) (D 31 rfl) fun T368 X368 e368 => ?_
    refine gI X368 hx (D 32 rfl) rfl ?_
    refine gB X368 hx hZ e368 V_dO tin (.int x) tx (D 33 rfl) ?_
    refine sB X368 hx hZ e368 V_b1 (o_in (by omega) (by omega)) (bs.length + 3) (o_nat (by omega)) (by rw [List.length_append]; exact Nat.add_lt_add_left (Nat.le_of_ble_eq_true rfl) _) _ (rfl) (D 34 rfl) fun T370 h370 X370 e370 W370 Vn370 => ?_
    replace V_b1 := Vn370
    clear Vn370
    replace Od := Od.wr W370 g_b1
    replace V_dO := V_dO.other W370 ne_dO_b1
    replace V_dT := V_dT.other W370 ne_dT_b1
    replace K0 := K0.wr W370 (Or.inl (List.mem_of_getElem? (i := 0) rfl))
    have N370 := Fr.snoc X370 N0 g_b1
    replace V_b1 : Arv Z h370 b1 kb .byte (Int32.ofNat mm) (bs ++ [(.int (0 : Int32)), (.int (0 : Int32)), (.int (0 : Int32)), (.int (nar .byte x))]) (.int 0) := arv_eq V_b1 (set_app bs _ 3 _)
    refine ga X370 hx (D 35 rfl) rfl rfl ?_
    refine gn X370 hx #[vi q, vi (Int32.ofNat (bs.length + 4)), vr b1, vi q, vi r, vi ((Int32.ofNat (bs.length + 3)) + (-1 : Int32)), vi (0 : Int32)] (D 36 rfl) rfl rfl ?_
    refine gI X370 hx (D 37 rfl) rfl ?_
    show Go p e below _ (T370.setTop (mkF m 62 #[vi q, vi (Int32.ofNat (bs.length + 4)), vr b1, vi q, vi r, vi ((Int32.ofNat (bs.length + 3)) + (-1 : Int32)), vi (0 : Int32)] [(.int ((Int32.ofNat (bs.length + 3)) + (-1 : Int32))), (.ref b1)]))
    rw [show ((Int32.ofNat (bs.length + 3)) + (-1 : Int32)) = (Int32.ofNat (bs.length + 2)) from o_dec _]
    refine gS X370 hx hZ hown (wd hw 372 rfl) e370 (SN.ext Od.2) (D 38 rfl) fun T371 X371 e371 => ?_
    refine gI X371 hx (D 39 rfl) rfl ?_
    refine gB X371 hx hZ e371 V_dT tin (.int y) ty (D 40 rfl) ?_
    refine sB X371 hx hZ e371 V_b1 (o_in (by omega) (by omega)) (bs.length + 2) (o_nat (by omega)) (by rw [List.length_append]; exact Nat.add_lt_add_left (Nat.le_of_ble_eq_true rfl) _) _ (rfl) (D 41 rfl) fun T373 h373 X373 e373 W373 Vn373 => ?_
    replace V_b1 := Vn373
    clear Vn373
    replace Od := Od.wr W373 g_b1
    replace V_dO := V_dO.other W373 ne_dO_b1
    replace V_dT := V_dT.other W373 ne_dT_b1
    replace K0 := K0.wr W373 (Or.inl (List.mem_of_getElem? (i := 0) rfl))
    have N373 := Fr.snoc X373 N370 g_b1
    replace V_b1 : Arv Z h373 b1 kb .byte (Int32.ofNat mm) (bs ++ [(.int (0 : Int32)), (.int (0 : Int32)), (.int (nar .byte y)), (.int (nar .byte x))]) (.int 0) := arv_eq V_b1 (set_app bs _ 2 _)
    refine gg X373 hx 22 (D 42 rfl) (by decide) ?_
    refine gi X373 hx (D 13 rfl) rfl ?_
    refine gb X373 hx (-100) (D 14 rfl) rfl ?_
    refine cY X373 hx 72 (D 15 rfl) (tlt hq2).2.2.1 (by decide) ?_
    refine ga X373 hx (D 43 rfl) rfl rfl ?_
    refine gn X373 hx #[vi q, vi (Int32.ofNat (bs.length + 4)), vr b1, vi q, vi r, vi ((Int32.ofNat (bs.length + 2)) + (-1 : Int32)), vi (0 : Int32)] (D 44 rfl) rfl rfl ?_
    refine gI X373 hx (D 45 rfl) rfl ?_
    show Go p e below _ (T373.setTop (mkF m 78 #[vi q, vi (Int32.ofNat (bs.length + 4)), vr b1, vi q, vi r, vi ((Int32.ofNat (bs.length + 2)) + (-1 : Int32)), vi (0 : Int32)] [(.int ((Int32.ofNat (bs.length + 2)) + (-1 : Int32))), (.ref b1)]))
    rw [show ((Int32.ofNat (bs.length + 2)) + (-1 : Int32)) = (Int32.ofNat (bs.length + 1)) from o_dec _]
    refine gS X373 hx hZ hown (wd hw 371 rfl) e373 (SO.ext Od.2) (D 46 rfl) fun T374 X374 e374 => ?_
    refine gi X374 hx (D 47 rfl) rfl ?_
    refine gq (XS.ineg X374.here hx rfl (D 48 rfl) rfl) rfl ?_
    refine gB X374 hx hZ e374 V_dO uin (.int u) tu (D 49 rfl) ?_
    refine sB X374 hx hZ e374 V_b1 (o_in (by omega) (by omega)) (bs.length + 1) (o_nat (by omega)) (by rw [List.length_append]; exact Nat.add_lt_add_left (Nat.le_of_ble_eq_true rfl) _) _ (rfl) (D 50 rfl) fun T376 h376 X376 e376 W376 Vn376 => ?_
    replace V_b1 := Vn376
    clear Vn376
    replace Od := Od.wr W376 g_b1
    replace V_dO := V_dO.other W376 ne_dO_b1
    replace V_dT := V_dT.other W376 ne_dT_b1
    replace K0 := K0.wr W376 (Or.inl (List.mem_of_getElem? (i := 0) rfl))
    have N376 := Fr.snoc X376 N373 g_b1
    replace V_b1 : Arv Z h376 b1 kb .byte (Int32.ofNat mm) (bs ++ [(.int (0 : Int32)), (.int (nar .byte u)), (.int (nar .byte y)), (.int (nar .byte x))]) (.int 0) := arv_eq V_b1 (set_app bs _ 1 _)
    refine gi X376 hx (D 51 rfl) rfl ?_
    refine gb X376 hx (-9) (D 52 rfl) rfl ?_
    refine cN X376 hx (D 53 rfl) (tlt h9).2.1 ?_
    refine ga X376 hx (D 54 rfl) rfl rfl ?_
    refine gn X376 hx #[vi q, vi (Int32.ofNat (bs.length + 4)), vr b1, vi q, vi r, vi ((Int32.ofNat (bs.length + 1)) + (-1 : Int32)), vi (0 : Int32)] (D 55 rfl) rfl rfl ?_
    refine gI X376 hx (D 56 rfl) rfl ?_
    show Go p e below _ (T376.setTop (mkF m 97 #[vi q, vi (Int32.ofNat (bs.length + 4)), vr b1, vi q, vi r, vi ((Int32.ofNat (bs.length + 1)) + (-1 : Int32)), vi (0 : Int32)] [(.int ((Int32.ofNat (bs.length + 1)) + (-1 : Int32))), (.ref b1)]))
    rw [show ((Int32.ofNat (bs.length + 1)) + (-1 : Int32)) = (Int32.ofNat (bs.length + 0)) from o_dec _]
    refine gS X376 hx hZ hown (wd hw 372 rfl) e376 (SN.ext Od.2) (D 57 rfl) fun T377 X377 e377 => ?_
    refine gi X377 hx (D 58 rfl) rfl ?_
    refine gq (XS.ineg X377.here hx rfl (D 59 rfl) rfl) rfl ?_
    refine gB X377 hx hZ e377 V_dT uin (.int v) tv (D 60 rfl) ?_
    refine sB X377 hx hZ e377 V_b1 (o_in (by omega) (by omega)) (bs.length + 0) (o_nat (by omega)) (by rw [List.length_append]; exact Nat.add_lt_add_left (Nat.le_of_ble_eq_true rfl) _) _ (rfl) (D 61 rfl) fun T379 h379 X379 e379 W379 Vn379 => ?_
    replace V_b1 := Vn379
    clear Vn379
    replace Od := Od.wr W379 g_b1
    replace V_dO := V_dO.other W379 ne_dO_b1
    replace V_dT := V_dT.other W379 ne_dT_b1
    replace K0 := K0.wr W379 (Or.inl (List.mem_of_getElem? (i := 0) rfl))
    have N379 := Fr.snoc X379 N376 g_b1
    replace V_b1 : Arv Z h379 b1 kb .byte (Int32.ofNat mm) (bs ++ [(.int (nar .byte v)), (.int (nar .byte u)), (.int (nar .byte y)), (.int (nar .byte x))]) (.int 0) := arv_eq V_b1 (set_app bs _ 0 _)
    refine gI X379 hx (D 62 rfl) rfl ?_
    refine zY X379 hx 118 (D 63 rfl) ((if0 _ _).trans (teq (rfl : (0 : Int32) = (0 : Int32))).1) (by decide) ?_
    refine gI X379 hx (D 69 rfl) rfl ?_
    exact Go.ret1 X379 hx Bd.returns Bd.notSynchronized rfl (Or.inl ⟨rfl, by simp, _, rfl⟩) (D 70 rfl) (by decide) (by decide) (by first | (rw [e379]; exact ⟨rfl, N379, K0, V_b1⟩) | exact ⟨rfl, N379, K0, V_b1⟩)
def Q_rmGU (Z : State) (b1 : Addr) (kb : ClassId) (n : Int32) (d on mm : Nat) (bs : List Value) (dl : List Int32) (dO dT : Addr) (kO kT : ClassId) (h0 : Heap) (n0 : Nat) : Option Value → Heap → List Loc → Prop := fun v h L => v = some (.int (Int32.ofNat on)) ∧ Fr n0 L ∧ Keep h0 h [b1] ∧ Arv Z h b1 kb .byte (Int32.ofNat mm) (bs ++ utfL dl) (.int 0)
set_option maxRecDepth 65536 in
set_option maxHeartbeats 40000000 in
theorem rmGU (l : Launch) (Z : State) (a0 : Array Value) (hw : HW a0 Z) (ws : List Jvm.Cond) (b1 : Addr) (kb : ClassId) (n : Int32) (d on mm : Nat) (bs : List Value) (dl : List Int32) (dO dT : Addr) (kO kT : ClassId) (h0 : Heap) (n0 : Nat) (Od : Old Z n0 h0) (A1 : SA1 Z) (HS : SHS Z) (LS : SLS Z) (SO : Sta Z Z.heap "java/lang/Integer" "DigitOnes" "[B" (.ref dO)) (SN : Sta Z Z.heap "java/lang/Integer" "DigitTens" "[B" (.ref dT)) (V_dO : Arv Z h0 dO kO .byte (100 : Int32) onesL (.int 0)) (V_dT : Arv Z h0 dT kT .byte (100 : Int32) tensL (.int 0)) (ne_dO_b1 : dO ≠ b1) (ne_dT_b1 : dT ≠ b1) (g_b1 : n0 ≤ b1) (V_b1 : Arv Z h0 b1 kb .byte (Int32.ofNat mm) bs (.int 0)) (hd : DgP d n dl) (hmm : 2 * (on + d) ≤ mm ∧ mm ≤ 100000) (hb : bs.length = 2 * on) (hd3 : d ≤ 3) :
    CT l (⟨"java/lang/StringUTF16", "getChars", "(II[B)I"⟩ : MethodName) jdk_52_method_89_code 7 (some .int) ws (⟨1, 0, 0, 26⟩ : Jvm.Room) #[(.int n), (.int (Int32.ofNat (on + d))), (.ref b1)] Z h0 (Q_rmGU Z b1 kb n d on mm bs dl dO dT kO kT h0 n0) := by
  refine Go.start (plainFor_of_name pn_2) #[vi n, vi (Int32.ofNat (on + d)), vr b1, uu, uu, uu, uu] n0 (by first | (simp [argsToLocals, Value.category, maxLocals]; done) | rfl) ?_
  intro p e s m below meth c s₁ Bd hx hby hml hZ hown X0 e0 N0
  have D := @dB _ _ hby _ D68
  have K0 : Keep h0 h0 [b1] := Keep.refl _ _
  rcases hd with ⟨rfl, h0', h1, h2, h9, x, y, ⟨tin, tx, ty⟩, rfl⟩ | ⟨-, h0', h1, h2, q, r, x, y, u, v, hq, hr, hq2, ⟨tin, tx, ty⟩, ⟨uin, tu, tv⟩, ⟨rfl, h3, h9, rfl⟩ | ⟨rfl, h3, h4, h9, rfl⟩⟩
  ·
    replace V_b1 : Arv Z h0 b1 kb .byte (Int32.ofNat mm) (bs ++ [(.int (0 : Int32)), (.int (0 : Int32)), (.int (0 : Int32)), (.int (0 : Int32))]) (.int 0) := V_b1.pad (pad_rep bs _ 4)
    refine gi X0 hx (D 0 rfl) rfl ?_
    refine gT X0 hx #[vi n, vi (Int32.ofNat (on + 2)), vr b1, uu, uu, vi (Int32.ofNat (on + 2)), uu] (D 1 rfl) rfl ?_
    refine gi X0 hx (D 2 rfl) rfl ?_
    refine zY X0 hx 11 (D 3 rfl) ((if0 _ _).trans (flt (h0' : ¬ (n < (0 : Int32)))).2.1) (by decide) ?_
    refine gk X0 hx 0 (D 6 rfl) rfl ?_
    refine gT X0 hx #[vi n, vi (Int32.ofNat (on + 2)), vr b1, uu, uu, vi (Int32.ofNat (on + 2)), vi (0 : Int32)] (D 7 rfl) rfl ?_
    refine gI X0 hx (D 8 rfl) rfl ?_
    refine zN X0 hx (D 9 rfl) ((if0 _ _).trans (teq (rfl : (0 : Int32) = (0 : Int32))).2) ?_
    refine gi X0 hx (D 10 rfl) rfl ?_
    refine gq (XS.ineg X0.here hx rfl (D 11 rfl) rfl) rfl ?_
    refine gt X0 hx #[vi (-n), vi (Int32.ofNat (on + 2)), vr b1, uu, uu, vi (Int32.ofNat (on + 2)), vi (0 : Int32)] (D 12 rfl) rfl ?_
    refine gi X0 hx (D 13 rfl) rfl ?_
    refine gb X0 hx (-100) (D 14 rfl) rfl ?_
    refine cY X0 hx 76 (D 15 rfl) (tlt h2).2.2.1 (by decide) ?_
    refine ga X0 hx (D 43 rfl) rfl rfl ?_
    refine gn X0 hx #[vi (-n), vi (Int32.ofNat (on + 2)), vr b1, uu, uu, vi ((Int32.ofNat (on + 2)) + (-1 : Int32)), vi (0 : Int32)] (D 44 rfl) rfl rfl ?_
    refine gI X0 hx (D 45 rfl) rfl ?_
    show Go p e below _ (s₁.setTop (mkF m 82 #[vi (-n), vi (Int32.ofNat (on + 2)), vr b1, uu, uu, vi ((Int32.ofNat (on + 2)) + (-1 : Int32)), vi (0 : Int32)] [(.int ((Int32.ofNat (on + 2)) + (-1 : Int32))), (.ref b1)]))
    rw [show ((Int32.ofNat (on + 2)) + (-1 : Int32)) = (Int32.ofNat (on + 1)) from o_dec _]
    refine gS X0 hx hZ hown (wd hw 319 rfl) e0 (SO.ext Od.2) (D 46 rfl) fun T380 X380 e380 => ?_
    refine gi X380 hx (D 47 rfl) rfl ?_
    refine gq (XS.ineg X380.here hx rfl (D 48 rfl) rfl) rfl ?_
    refine gB X380 hx hZ e380 V_dO tin (.int x) tx (D 49 rfl) ?_
    refine kS (W := 0) (C := 0) (S := 0) X380 hx hZ hown (wd hw 87 rfl) (wd hw 88 rfl) (wd hw 26 rfl) (wd hw 89 rfl) (rm20 l Z a0 hw [] b1 kb _ _ (Int32.ofNat (on + 1)) x (Int32.ofNat (2 * (on + 1))) (2 * (on + 1)) (2 * (on + 1) + 1) h0 n0 Od A1 HS LS g_b1 V_b1 (o_shl _) (o_in (by omega) (by omega)) (by rw [o_one]; exact o_in (by omega) (by omega)) (o_nat (by omega)) (by rw [o_one]; exact o_nat (by omega)) (by rw [List.length_append, hb]; simp only [List.length_cons, List.length_nil]; omega) (by rw [List.length_append, hb]; simp only [List.length_cons, List.length_nil]; omega)) pd_26 (D 50 rfl) e380 hml (by exact ⟨rfl, rfl, rfl, rfl⟩) (by decide) fun v382 T382 L382 Lc382 X382 hQ382 l382 => ?_
    obtain ⟨rfl, Nq382, K382, Vn382⟩ := hQ382
    have N382 := l382 N0 Nq382
    replace Od := Od.keep K382 (allS g_b1 all0)
    replace V_dO := V_dO.keep K382 (ninS ne_dO_b1 nin0)
    replace V_dT := V_dT.keep K382 (ninS ne_dT_b1 nin0)
    replace K0 := K0.trans K382 (allS (P := fun x => x ∈ _ ∨ _ ≤ x) (Or.inl (List.mem_of_getElem? (i := 0) rfl)) all0)
    clear V_b1
    have V_b1 : Arv Z T382.heap b1 kb .byte (Int32.ofNat mm) (bs ++ [(.int (0 : Int32)), (.int (0 : Int32)), (.int (lo16 x)), (.int (hi16 x))]) (.int 0) := arv_eq Vn382 (set_app2 bs _ hb 1 _ _)
    refine gi X382 hx (D 51 rfl) rfl ?_
    refine gb X382 hx (-9) (D 52 rfl) rfl ?_
    refine cN X382 hx (D 53 rfl) (tlt h9).2.1 ?_
    refine ga X382 hx (D 54 rfl) rfl rfl ?_
    refine gn X382 hx #[vi (-n), vi (Int32.ofNat (on + 2)), vr b1, uu, uu, vi ((Int32.ofNat (on + 1)) + (-1 : Int32)), vi (0 : Int32)] (D 55 rfl) rfl rfl ?_
    refine gI X382 hx (D 56 rfl) rfl ?_
    show Go p e below _ (T382.setTop (mkF m 103 #[vi (-n), vi (Int32.ofNat (on + 2)), vr b1, uu, uu, vi ((Int32.ofNat (on + 1)) + (-1 : Int32)), vi (0 : Int32)] [(.int ((Int32.ofNat (on + 1)) + (-1 : Int32))), (.ref b1)]))
    rw [show ((Int32.ofNat (on + 1)) + (-1 : Int32)) = (Int32.ofNat (on + 0)) from o_dec _]
    refine gS X382 hx hZ hown (wd hw 320 rfl) rfl (SN.ext Od.2) (D 57 rfl) fun T383 X383 e383 => ?_
    refine gi X383 hx (D 58 rfl) rfl ?_
    refine gq (XS.ineg X383.here hx rfl (D 59 rfl) rfl) rfl ?_
    refine gB X383 hx hZ e383 V_dT tin (.int y) ty (D 60 rfl) ?_
    refine kS (W := 0) (C := 0) (S := 0) X383 hx hZ hown (wd hw 87 rfl) (wd hw 88 rfl) (wd hw 26 rfl) (wd hw 89 rfl) (rm20 l Z a0 hw [] b1 kb _ _ (Int32.ofNat (on + 0)) y (Int32.ofNat (2 * (on + 0))) (2 * (on + 0)) (2 * (on + 0) + 1) T382.heap n0 Od A1 HS LS g_b1 V_b1 (o_shl _) (o_in (by omega) (by omega)) (by rw [o_one]; exact o_in (by omega) (by omega)) (o_nat (by omega)) (by rw [o_one]; exact o_nat (by omega)) (by rw [List.length_append, hb]; simp only [List.length_cons, List.length_nil]; omega) (by rw [List.length_append, hb]; simp only [List.length_cons, List.length_nil]; omega)) pd_26 (D 61 rfl) e383 hml (by exact ⟨rfl, rfl, rfl, rfl⟩) (by decide) fun v385 T385 L385 Lc385 X385 hQ385 l385 => ?_
    obtain ⟨rfl, Nq385, K385, Vn385⟩ := hQ385
    have N385 := l385 N382 Nq385
    replace Od := Od.keep K385 (allS g_b1 all0)
    replace V_dO := V_dO.keep K385 (ninS ne_dO_b1 nin0)
    replace V_dT := V_dT.keep K385 (ninS ne_dT_b1 nin0)
    replace K0 := K0.trans K385 (allS (P := fun x => x ∈ _ ∨ _ ≤ x) (Or.inl (List.mem_of_getElem? (i := 0) rfl)) all0)
    clear V_b1
    have V_b1 : Arv Z T385.heap b1 kb .byte (Int32.ofNat mm) (bs ++ [(.int (lo16 y)), (.int (hi16 y)), (.int (lo16 x)), (.int (hi16 x))]) (.int 0) := arv_eq Vn385 (set_app2 bs _ hb 0 _ _)
    refine gI X385 hx (D 62 rfl) rfl ?_
    refine zY X385 hx 128 (D 63 rfl) ((if0 _ _).trans (teq (rfl : (0 : Int32) = (0 : Int32))).1) (by decide) ?_
    refine gI X385 hx (D 69 rfl) rfl ?_
    exact Go.ret1 X385 hx Bd.returns Bd.notSynchronized rfl (Or.inl ⟨rfl, by simp, _, rfl⟩) (D 70 rfl) (by decide) (by decide) ⟨rfl, N385, K0, V_b1⟩
  ·
    replace V_b1 : Arv Z h0 b1 kb .byte (Int32.ofNat mm) (bs ++ [(.int (0 : Int32)), (.int (0 : Int32)), (.int (0 : Int32)), (.int (0 : Int32)), (.int (0 : Int32)), (.int (0 : Int32))]) (.int 0) := V_b1.pad (pad_rep bs _ 6)
    refine gi X0 hx (D 0 rfl) rfl ?_
    refine gT X0 hx #[vi n, vi (Int32.ofNat (on + 3)), vr b1, uu, uu, vi (Int32.ofNat (on + 3)), uu] (D 1 rfl) rfl ?_
    refine gi X0 hx (D 2 rfl) rfl ?_
    refine zY X0 hx 11 (D 3 rfl) ((if0 _ _).trans (flt (h0' : ¬ (n < (0 : Int32)))).2.1) (by decide) ?_
    refine gk X0 hx 0 (D 6 rfl) rfl ?_
    refine gT X0 hx #[vi n, vi (Int32.ofNat (on + 3)), vr b1, uu, uu, vi (Int32.ofNat (on + 3)), vi (0 : Int32)] (D 7 rfl) rfl ?_
    refine gI X0 hx (D 8 rfl) rfl ?_
    refine zN X0 hx (D 9 rfl) ((if0 _ _).trans (teq (rfl : (0 : Int32) = (0 : Int32))).2) ?_
    refine gi X0 hx (D 10 rfl) rfl ?_
    refine gq (XS.ineg X0.here hx rfl (D 11 rfl) rfl) rfl ?_
    refine gt X0 hx #[vi (-n), vi (Int32.ofNat (on + 3)), vr b1, uu, uu, vi (Int32.ofNat (on + 3)), vi (0 : Int32)] (D 12 rfl) rfl ?_
    refine gi X0 hx (D 13 rfl) rfl ?_
    refine gb X0 hx (-100) (D 14 rfl) rfl ?_
    refine cN X0 hx (D 15 rfl) (flt h2).2.2.1 ?_
    refine gi X0 hx (D 16 rfl) rfl ?_
    refine gb X0 hx 100 (D 17 rfl) rfl ?_
    refine gq (XS.idiv X0.here hx rfl (D 18 rfl) rfl (by first | assumption | decide)) rfl ?_
    show Go p e below _ (s₁.setTop (mkF m 32 #[vi (-n), vi (Int32.ofNat (on + 3)), vr b1, uu, uu, vi (Int32.ofNat (on + 3)), vi (0 : Int32)] [(.int ((-n) / (100 : Int32)))]))
    rw [hq]
    refine gt X0 hx #[vi (-n), vi (Int32.ofNat (on + 3)), vr b1, vi q, uu, vi (Int32.ofNat (on + 3)), vi (0 : Int32)] (D 19 rfl) rfl ?_
    refine gi X0 hx (D 20 rfl) rfl ?_
    refine gb X0 hx 100 (D 21 rfl) rfl ?_
    refine gq (XS.imul X0.here hx rfl (D 22 rfl) rfl) rfl ?_
    refine gi X0 hx (D 23 rfl) rfl ?_
    refine gq (XS.isub X0.here hx rfl (D 24 rfl) rfl) rfl ?_
    show Go p e below _ (s₁.setTop (mkF m 39 #[vi (-n), vi (Int32.ofNat (on + 3)), vr b1, vi q, uu, vi (Int32.ofNat (on + 3)), vi (0 : Int32)] [(.int ((q * (100 : Int32)) - (-n)))]))
    rw [hr]
    refine gT X0 hx #[vi (-n), vi (Int32.ofNat (on + 3)), vr b1, vi q, vi r, vi (Int32.ofNat (on + 3)), vi (0 : Int32)] (D 25 rfl) rfl ?_
    refine gi X0 hx (D 26 rfl) rfl ?_
    refine gt X0 hx #[vi q, vi (Int32.ofNat (on + 3)), vr b1, vi q, vi r, vi (Int32.ofNat (on + 3)), vi (0 : Int32)] (D 27 rfl) rfl ?_
    refine ga X0 hx (D 28 rfl) rfl rfl ?_
    refine gn X0 hx #[vi q, vi (Int32.ofNat (on + 3)), vr b1, vi q, vi r, vi ((Int32.ofNat (on + 3)) + (-1 : Int32)), vi (0 : Int32)] (D 29 rfl) rfl rfl ?_
    refine gI X0 hx (D 30 rfl) rfl ?_
    show Go p e below _ (s₁.setTop (mkF m 49 #[vi q, vi (Int32.ofNat (on + 3)), vr b1, vi q, vi r, vi ((Int32.ofNat (on + 3)) + (-1 : Int32)), vi (0 : Int32)] [(.int ((Int32.ofNat (on + 3)) + (-1 : Int32))), (.ref b1)]))
    rw [show ((Int32.ofNat (on + 3)) + (-1 : Int32)) = (Int32.ofNat (on + 2)) from o_dec _]
    refine gS X0 hx hZ hown (wd hw 319 rfl) e0 (SO.ext Od.2) (D 31 rfl) fun T386 X386 e386 => ?_
    refine gI X386 hx (D 32 rfl) rfl ?_
    refine gB X386 hx hZ e386 V_dO tin (.int x) tx (D 33 rfl) ?_
    refine kS (W := 0) (C := 0) (S := 0) X386 hx hZ hown (wd hw 87 rfl) (wd hw 88 rfl) (wd hw 26 rfl) (wd hw 89 rfl) (rm20 l Z a0 hw [] b1 kb _ _ (Int32.ofNat (on + 2)) x (Int32.ofNat (2 * (on + 2))) (2 * (on + 2)) (2 * (on + 2) + 1) h0 n0 Od A1 HS LS g_b1 V_b1 (o_shl _) (o_in (by omega) (by omega)) (by rw [o_one]; exact o_in (by omega) (by omega)) (o_nat (by omega)) (by rw [o_one]; exact o_nat (by omega)) (by rw [List.length_append, hb]; simp only [List.length_cons, List.length_nil]; omega) (by rw [List.length_append, hb]; simp only [List.length_cons, List.length_nil]; omega)) pd_26 (D 34 rfl) e386 hml (by exact ⟨rfl, rfl, rfl, rfl⟩) (by decide) fun v388 T388 L388 Lc388 X388 hQ388 l388 => ?_
    obtain ⟨rfl, Nq388, K388, Vn388⟩ := hQ388
    have N388 := l388 N0 Nq388
    replace Od := Od.keep K388 (allS g_b1 all0)
    replace V_dO := V_dO.keep K388 (ninS ne_dO_b1 nin0)
    replace V_dT := V_dT.keep K388 (ninS ne_dT_b1 nin0)
    replace K0 := K0.trans K388 (allS (P := fun x => x ∈ _ ∨ _ ≤ x) (Or.inl (List.mem_of_getElem? (i := 0) rfl)) all0)
    clear V_b1
    have V_b1 : Arv Z T388.heap b1 kb .byte (Int32.ofNat mm) (bs ++ [(.int (0 : Int32)), (.int (0 : Int32)), (.int (0 : Int32)), (.int (0 : Int32)), (.int (lo16 x)), (.int (hi16 x))]) (.int 0) := arv_eq Vn388 (set_app2 bs _ hb 2 _ _)
    refine ga X388 hx (D 35 rfl) rfl rfl ?_
    refine gn X388 hx #[vi q, vi (Int32.ofNat (on + 3)), vr b1, vi q, vi r, vi ((Int32.ofNat (on + 2)) + (-1 : Int32)), vi (0 : Int32)] (D 36 rfl) rfl rfl ?_
    refine gI X388 hx (D 37 rfl) rfl ?_
    show Go p e below _ (T388.setTop (mkF m 64 #[vi q, vi (Int32.ofNat (on + 3)), vr b1, vi q, vi r, vi ((Int32.ofNat (on + 2)) + (-1 : Int32)), vi (0 : Int32)] [(.int ((Int32.ofNat (on + 2)) + (-1 : Int32))), (.ref b1)]))
    rw [show ((Int32.ofNat (on + 2)) + (-1 : Int32)) = (Int32.ofNat (on + 1)) from o_dec _]
    refine gS X388 hx hZ hown (wd hw 320 rfl) rfl (SN.ext Od.2) (D 38 rfl) fun T389 X389 e389 => ?_
    refine gI X389 hx (D 39 rfl) rfl ?_
    refine gB X389 hx hZ e389 V_dT tin (.int y) ty (D 40 rfl) ?_
    refine kS (W := 0) (C := 0) (S := 0) X389 hx hZ hown (wd hw 87 rfl) (wd hw 88 rfl) (wd hw 26 rfl) (wd hw 89 rfl) (rm20 l Z a0 hw [] b1 kb _ _ (Int32.ofNat (on + 1)) y (Int32.ofNat (2 * (on + 1))) (2 * (on + 1)) (2 * (on + 1) + 1) T388.heap n0 Od A1 HS LS g_b1 V_b1 (o_shl _) (o_in (by omega) (by omega)) (by rw [o_one]; exact o_in (by omega) (by omega)) (o_nat (by omega)) (by rw [o_one]; exact o_nat (by omega)) (by rw [List.length_append, hb]; simp only [List.length_cons, List.length_nil]; omega) (by rw [List.length_append, hb]; simp only [List.length_cons, List.length_nil]; omega)) pd_26 (D 41 rfl) e389 hml (by exact ⟨rfl, rfl, rfl, rfl⟩) (by decide) fun v391 T391 L391 Lc391 X391 hQ391 l391 => ?_
    obtain ⟨rfl, Nq391, K391, Vn391⟩ := hQ391
    have N391 := l391 N388 Nq391
    replace Od := Od.keep K391 (allS g_b1 all0)
    replace V_dO := V_dO.keep K391 (ninS ne_dO_b1 nin0)
    replace V_dT := V_dT.keep K391 (ninS ne_dT_b1 nin0)
    replace K0 := K0.trans K391 (allS (P := fun x => x ∈ _ ∨ _ ≤ x) (Or.inl (List.mem_of_getElem? (i := 0) rfl)) all0)
    clear V_b1
    have V_b1 : Arv Z T391.heap b1 kb .byte (Int32.ofNat mm) (bs ++ [(.int (0 : Int32)), (.int (0 : Int32)), (.int (lo16 y)), (.int (hi16 y)), (.int (lo16 x)), (.int (hi16 x))]) (.int 0) := arv_eq Vn391 (set_app2 bs _ hb 1 _ _)
    refine gg X391 hx 22 (D 42 rfl) (by decide) ?_
    refine gi X391 hx (D 13 rfl) rfl ?_
    refine gb X391 hx (-100) (D 14 rfl) rfl ?_
    refine cY X391 hx 76 (D 15 rfl) (tlt hq2).2.2.1 (by decide) ?_
    refine ga X391 hx (D 43 rfl) rfl rfl ?_
    refine gn X391 hx #[vi q, vi (Int32.ofNat (on + 3)), vr b1, vi q, vi r, vi ((Int32.ofNat (on + 1)) + (-1 : Int32)), vi (0 : Int32)] (D 44 rfl) rfl rfl ?_
    refine gI X391 hx (D 45 rfl) rfl ?_
    show Go p e below _ (T391.setTop (mkF m 82 #[vi q, vi (Int32.ofNat (on + 3)), vr b1, vi q, vi r, vi ((Int32.ofNat (on + 1)) + (-1 : Int32)), vi (0 : Int32)] [(.int ((Int32.ofNat (on + 1)) + (-1 : Int32))), (.ref b1)]))
    rw [show ((Int32.ofNat (on + 1)) + (-1 : Int32)) = (Int32.ofNat (on + 0)) from o_dec _]
    refine gS X391 hx hZ hown (wd hw 319 rfl) rfl (SO.ext Od.2) (D 46 rfl) fun T392 X392 e392 => ?_
    refine gi X392 hx (D 47 rfl) rfl ?_
    refine gq (XS.ineg X392.here hx rfl (D 48 rfl) rfl) rfl ?_
    refine gB X392 hx hZ e392 V_dO uin (.int u) tu (D 49 rfl) ?_
    refine kS (W := 0) (C := 0) (S := 0) X392 hx hZ hown (wd hw 87 rfl) (wd hw 88 rfl) (wd hw 26 rfl) (wd hw 89 rfl) (rm20 l Z a0 hw [] b1 kb _ _ (Int32.ofNat (on + 0)) u (Int32.ofNat (2 * (on + 0))) (2 * (on + 0)) (2 * (on + 0) + 1) T391.heap n0 Od A1 HS LS g_b1 V_b1 (o_shl _) (o_in (by omega) (by omega)) (by rw [o_one]; exact o_in (by omega) (by omega)) (o_nat (by omega)) (by rw [o_one]; exact o_nat (by omega)) (by rw [List.length_append, hb]; simp only [List.length_cons, List.length_nil]; omega) (by rw [List.length_append, hb]; simp only [List.length_cons, List.length_nil]; omega)) pd_26 (D 50 rfl) e392 hml (by exact ⟨rfl, rfl, rfl, rfl⟩) (by decide) fun v394 T394 L394 Lc394 X394 hQ394 l394 => ?_
    obtain ⟨rfl, Nq394, K394, Vn394⟩ := hQ394
    have N394 := l394 N391 Nq394
    replace Od := Od.keep K394 (allS g_b1 all0)
    replace V_dO := V_dO.keep K394 (ninS ne_dO_b1 nin0)
    replace V_dT := V_dT.keep K394 (ninS ne_dT_b1 nin0)
    replace K0 := K0.trans K394 (allS (P := fun x => x ∈ _ ∨ _ ≤ x) (Or.inl (List.mem_of_getElem? (i := 0) rfl)) all0)
    clear V_b1
    have V_b1 : Arv Z T394.heap b1 kb .byte (Int32.ofNat mm) (bs ++ [(.int (lo16 u)), (.int (hi16 u)), (.int (lo16 y)), (.int (hi16 y)), (.int (lo16 x)), (.int (hi16 x))]) (.int 0) := arv_eq Vn394 (set_app2 bs _ hb 0 _ _)
    refine gi X394 hx (D 51 rfl) rfl ?_
    refine gb X394 hx (-9) (D 52 rfl) rfl ?_
    refine cY X394 hx 112 (D 53 rfl) (flt h9).2.1 (by decide) ?_
    refine gI X394 hx (D 62 rfl) rfl ?_
    refine zY X394 hx 128 (D 63 rfl) ((if0 _ _).trans (teq (rfl : (0 : Int32) = (0 : Int32))).1) (by decide) ?_
    refine gI X394 hx (D 69 rfl) rfl ?_
    exact Go.ret1 X394 hx Bd.returns Bd.notSynchronized rfl (Or.inl ⟨rfl, by simp, _, rfl⟩) (D 70 rfl) (by decide) (by decide) ⟨rfl, N394, K0, V_b1⟩
  · exact absurd hd3 (by decide)
def Q_rmGV (Z : State) (b1 : Addr) (kb : ClassId) (n : Int32) (d on mh : Nat) (bs : List Value) (dl : List Int32) (dO dT : Addr) (kO kT : ClassId) (G3 : Value) (h0 : Heap) (n0 : Nat) : Option Value → Heap → List Loc → Prop := fun v h L => v = some (.int (Int32.ofNat on)) ∧ Fr n0 L ∧ Keep h0 h [b1] ∧ Arv Z h b1 kb .byte (Int32.ofNat (2 * mh)) (bs ++ utfL dl) (.int 0)
set_option maxRecDepth 65536 in
set_option maxHeartbeats 40000000 in
theorem rmGV (l : Launch) (Z : State) (a0 : Array Value) (hw : HW a0 Z) (ws : List Jvm.Cond) (b1 : Addr) (kb : ClassId) (n : Int32) (d on mh : Nat) (bs : List Value) (dl : List Int32) (dO dT : Addr) (kO kT : ClassId) (G3 : Value) (h0 : Heap) (n0 : Nat) (Od : Old Z n0 h0) (A1 : SA1 Z) (HS : SHS Z) (LS : SLS Z) (O4 : SO4 Z G3) (rG3 : G3.isRef = true) (SO : Sta Z Z.heap "java/lang/Integer" "DigitOnes" "[B" (.ref dO)) (SN : Sta Z Z.heap "java/lang/Integer" "DigitTens" "[B" (.ref dT)) (V_dO : Arv Z h0 dO kO .byte (100 : Int32) onesL (.int 0)) (V_dT : Arv Z h0 dT kT .byte (100 : Int32) tensL (.int 0)) (ne_dO_b1 : dO ≠ b1) (ne_dT_b1 : dT ≠ b1) (g_b1 : n0 ≤ b1) (V_b1 : Arv Z h0 b1 kb .byte (Int32.ofNat (2 * mh)) bs (.int 0)) (hd : DgP d n dl) (hmm : on + d ≤ mh ∧ mh ≤ 50000) (hb : bs.length = 2 * on) (hd3 : d ≤ 3) :
    CT l (⟨"java/lang/StringUTF16", "getChars", "(III[B)I"⟩ : MethodName) jdk_52_method_77_code 5 (some .int) ws (⟨3, 0, 0, 50⟩ : Jvm.Room) #[(.int n), (.int (Int32.ofNat on)), (.int (Int32.ofNat (on + d))), (.ref b1)] Z h0 (Q_rmGV Z b1 kb n d on mh bs dl dO dT kO kT G3 h0 n0) := by
  refine Go.start (plainFor_of_name pn_2) #[vi n, vi (Int32.ofNat on), vi (Int32.ofNat (on + d)), vr b1, uu] n0 (by first | (simp [argsToLocals, Value.category, maxLocals]; done) | rfl) ?_
  intro p e s m below meth c s₁ Bd hx hby hml hZ hown X0 e0 N0
  have D := @dB _ _ hby _ D66
  have K0 : Keep h0 h0 [b1] := Keep.refl _ _
  refine gi X0 hx (D 0 rfl) rfl ?_
  refine gi X0 hx (D 1 rfl) rfl ?_
  refine ga X0 hx (D 2 rfl) rfl rfl ?_
  refine kS (W := 0) (C := 0) (S := 0) X0 hx hZ hown (wd hw 312 rfl) (wd hw 313 rfl) (wd hw 26 rfl) (wd hw 314 rfl) (rm67 l Z a0 hw [] b1 kb _ _ (Int32.ofNat on) (Int32.ofNat (on + d)) (Int32.ofNat mh) G3 h0 n0 Od O4 rG3 V_b1 (o_shr (by omega)) (o_nn (by omega)) (by rw [o_lt (by omega) (by omega)]; omega) (by rw [o_lt (by omega) (by omega)]; omega)) pd_30 (D 3 rfl) e0 hml (by exact ⟨rfl, rfl, rfl, rfl⟩) (by decide) fun v395 T395 L395 Lc395 X395 hQ395 l395 => ?_
  obtain ⟨rfl, Nq395, e395⟩ := hQ395
  have N395 := l395 N0 Nq395
  refine gi X395 hx (D 4 rfl) rfl ?_
  refine gi X395 hx (D 5 rfl) rfl ?_
  refine ga X395 hx (D 6 rfl) rfl rfl ?_
  refine kS (W := 0) (C := 0) (S := 0) X395 hx hZ hown (wd hw 316 rfl) (wd hw 317 rfl) (wd hw 26 rfl) (wd hw 318 rfl) (rmGU l Z a0 hw [] b1 kb n d on (2 * mh) bs dl dO dT kO kT h0 n0 Od A1 HS LS SO SN V_dO V_dT ne_dO_b1 ne_dT_b1 g_b1 V_b1 hd ⟨by omega, by omega⟩ hb hd3) pd_50 (D 7 rfl) e395 hml (by exact ⟨rfl, rfl, rfl, rfl⟩) (by decide) fun v396 T396 L396 Lc396 X396 hQ396 l396 => ?_
  obtain ⟨rfl, Nq396, K396, Vn⟩ := hQ396
  have N396 := l396 N395 Nq396
  replace Od := Od.keep K396 (allS g_b1 all0)
  replace K0 := K0.trans K396 (allS (P := fun x => x ∈ _ ∨ _ ≤ x) (Or.inl (List.mem_of_getElem? (i := 0) rfl)) all0)
  refine gT X396 hx #[vi n, vi (Int32.ofNat on), vi (Int32.ofNat (on + d)), vr b1, vi (Int32.ofNat on)] (D 8 rfl) rfl ?_
  refine gS X396 hx hZ hown (wd hw 90 rfl) rfl (A1.ext Od.2) (D 9 rfl) fun T397 X397 e397 => ?_
  refine zY X397 hx 34 (D 10 rfl) ((if0 _ _).trans (feq (by decide : ¬ ((1 : Int32) = (0 : Int32)))).2) (by decide) ?_
  refine gI X397 hx (D 18 rfl) rfl ?_
  exact Go.ret1 X397 hx Bd.returns Bd.notSynchronized rfl (Or.inl ⟨rfl, by simp, _, rfl⟩) (D 19 rfl) (by decide) (by decide) (by first | (rw [e397]; exact ⟨rfl, N396, K0, Vn⟩) | exact ⟨rfl, N396, K0, Vn⟩)
def Q_rmAI (Z : State) (x1 vb : Addr) (kv : ClassId) (ds dl : List Int32) (n : Int32) (d Mn : Nat) (dO dT : Addr) (kO kT : ClassId) (G1 : Int32) (G3 : Value) (h0 : Heap) (n0 : Nat) : Option Value → Heap → List Loc → Prop := fun v h L => v = some (.ref x1) ∧ Fr n0 L ∧ Keep h0 h [x1, vb] ∧ SBA Z h x1 vb kv (Int32.ofNat (ds.length + d)) Mn (ds ++ dl)
set_option maxRecDepth 65536 in
set_option maxHeartbeats 40000000 in
theorem rmAI (l : Launch) (Z : State) (a0 : Array Value) (hw : HW a0 Z) (ws : List Jvm.Cond) (x1 vb : Addr) (kv : ClassId) (ds dl : List Int32) (n : Int32) (d Mn : Nat) (dO dT : Addr) (kO kT : ClassId) (G1 : Int32) (G3 : Value) (h0 : Heap) (n0 : Nat) (Od : Old Z n0 h0) (A1 : SA1 Z) (HS : SHS Z) (LS : SLS Z) (O4 : SO4 Z G3) (rG3 : G3.isRef = true) (O2 : SO2 Z G1) (P5 : ¬ (G1 = (0 : Int32))) (SO : Sta Z Z.heap "java/lang/Integer" "DigitOnes" "[B" (.ref dO)) (SN : Sta Z Z.heap "java/lang/Integer" "DigitTens" "[B" (.ref dT)) (V_dO : Arv Z h0 dO kO .byte (100 : Int32) onesL (.int 0)) (V_dT : Arv Z h0 dT kT .byte (100 : Int32) tensL (.int 0)) (ne_dO_vb : dO ≠ vb) (ne_dT_vb : dT ≠ vb) (B1 : SBA Z h0 x1 vb kv (Int32.ofNat ds.length) Mn ds) (g_x1 : n0 ≤ x1) (g_vb : n0 ≤ vb) (hd : DgP d n dl) (ld : LatP dl) (hcL : LatP ds → ds.length + d ≤ Mn) (hcN : (∃ c ∈ ds, (255 : Int32) < c) → ∃ q, Mn = 2 * q ∧ ds.length + d ≤ q ∧ d ≤ 3) (hMn : Mn ≤ 300) :
    CT l (⟨"java/lang/AbstractStringBuilder", "append", "(I)Ljava/lang/AbstractStringBuilder;"⟩ : MethodName) jdk_68_method_32_code 4 (some (.object "java/lang/AbstractStringBuilder")) ws (⟨4, 0, 0, 70⟩ : Jvm.Room) #[(.ref x1), (.int n)] Z h0 (Q_rmAI Z x1 vb kv ds dl n d Mn dO dT kO kT G1 G3 h0 n0) := by
  refine Go.start (plainFor_of_name pn_8) #[vr x1, vi n, uu, uu] n0 (by first | (simp [argsToLocals, Value.category, maxLocals]; done) | rfl) ?_
  intro p e s m below meth c s₁ Bd hx hby hml hZ hown X0 e0 N0
  have D := @dB _ _ hby _ D64
  have K0 : Keep h0 h0 [x1, vb] := Keep.refl _ _
  obtain ⟨E_x1, F_value_x1, F_count_x1, F_maybeLatin1_x1, cd, vs, F_coder_x1, V_vb, hen, hvl⟩ := B1
  obtain ⟨hdl, hd4⟩ := hd.len
  have hdn : ds.length + d ≤ 300 := by rcases hen with ⟨-, la, -⟩ | ⟨-, hg, -⟩; have := hcL la; omega; obtain ⟨q, h1, h2, -⟩ := hcN hg; omega
  have hle : ¬ ((0 : Int32) < ((Int32.ofNat (ds.length + d)) - (Int32.ofNat Mn >>> (cd &&& 31)))) := by rcases hen with ⟨rfl, la, -⟩ | ⟨rfl, hg, -⟩; rw [o_shr0]; exact sub_np (hcL la) (by omega); obtain ⟨q, h1, h2, -⟩ := hcN hg; rw [h1, o_shr (by omega)]; exact sub_np h2 (by omega)
  have ne_x1_vb : x1 ≠ vb := Exa.neArv E_x1 V_vb (wd hw 113 rfl)
  refine ga X0 hx (D 0 rfl) rfl rfl ?_
  refine gF X0 hx hZ hown (wd hw 233 rfl) Via.refl e0 F_count_x1 (D 1 rfl) fun T398 X398 e398 => ?_
  refine gt X398 hx #[vr x1, vi n, vi (Int32.ofNat ds.length), uu] (D 2 rfl) rfl ?_
  refine gi X398 hx (D 3 rfl) rfl ?_
  refine gi X398 hx (D 4 rfl) rfl ?_
  refine kS (W := 1) (C := 0) (S := 0) X398 hx hZ hown (wd hw 305 rfl) (wd hw 306 rfl) (wd hw 307 rfl) (wd hw 308 rfl) (rmSS l Z a0 hw [] n d dl h0 n0 hd) pd_27 (D 5 rfl) e398 hml (by exact ⟨rfl, rfl, rfl, rfl⟩) (by decide) fun v399 T399 L399 Lc399 X399 hQ399 l399 => ?_
  obtain ⟨rfl, Nq399, e399⟩ := hQ399
  have N399 := l399 N0 Nq399
  refine gq (XS.iadd X399.here hx rfl (D 6 rfl) rfl) rfl ?_
  show Go p e below _ (T399.setTop (mkF m 11 #[vr x1, vi n, vi (Int32.ofNat ds.length), uu] [(.int ((Int32.ofNat ds.length) + (Int32.ofNat d)))]))
  rw [o_add ds.length d]
  refine gt X399 hx #[vr x1, vi n, vi (Int32.ofNat ds.length), vi (Int32.ofNat (ds.length + d))] (D 7 rfl) rfl ?_
  refine ga X399 hx (D 8 rfl) rfl rfl ?_
  refine gi X399 hx (D 9 rfl) rfl ?_
  obtain ⟨cq400, q400, q400'⟩ := E_x1.cell
  obtain ⟨_, _, ⟨T400, L400, k400, n400⟩, -, X400, ⟨Lc400, hQ400, l400, y400, z400⟩, st400⟩ := X399.privateBack hx (y := (⟨"java/lang/AbstractStringBuilder", "ensureCapacityInternal", "(I)V"⟩ : MethodName)) hown (mvT hZ (wd hw 235 rfl)) (mvT hZ (wd hw 236 rfl)) (selSelf (mvT hZ (wd hw 238 rfl)) (Cond.privateMethod_at (mvP hZ (wd hw 237 rfl) (args := #[]))) (mvT hZ (wd hw 236 rfl)) (by decide)) (Cond.privateMethod_at (mvP hZ (wd hw 237 rfl) (args := #[]))) (mvT hZ (wd hw 239 rfl)) (by decide) (backOf (W := 0) (rmEC l Z a0 hw [] x1 vb kv _ _ (Int32.ofNat (ds.length + d)) cd _ h0 n0 F_value_x1 F_coder_x1 V_vb rfl hle) hZ (wd hw 239 rfl) (wd hw 122 rfl) (by decide) (by decide)) (g := (mkF m 14 #[vr x1, vi n, vi (Int32.ofNat ds.length), vi (Int32.ofNat (ds.length + d))] [(.int (Int32.ofNat (ds.length + d))), (.ref x1)])) rfl (by rw [hml]; rfl) (Steps.refl _) (a := x1) (by rw [e399]; exact q400) q400' (argsL := [(.int (Int32.ofNat (ds.length + d)))]) (rest := []) (lenOf pd_32 rfl) rfl (by show 2 * 0 + _ ≤ _; exact Nat.le_of_eq rfl) (D 10 rfl) (fun _ _ => ⟨rfl, e399, (by decide : 0 + 0 ≤ _), (by decide : 0 + 0 ≤ _)⟩)
  dsimp only [Pt.U, Pt.locs, Pt.cells, Pt.slots] at X400 l400 y400 z400 st400 hQ400
  subst y400 z400
  obtain ⟨rfl, Nq400, e400⟩ := hQ400
  have N400 : Fr n0 L400 := by rw [l400]; exact Fr.app N399 Nq400
  clear l400
  refine Go.by (fun t => st400.trans) ?_
  show Go p e below _ (T400.setTop (mkF m 17 #[vr x1, vi n, vi (Int32.ofNat ds.length), vi (Int32.ofNat (ds.length + d))] []))
  refine ga X400 hx (D 11 rfl) rfl rfl ?_
  rcases hen with ⟨rfl, la, rfl⟩ | ⟨rfl, hg, rfl⟩
  ·
    refine kV (W := 0) (C := 0) (S := 0) X400 hx hZ hown (wd hw 273 rfl) (wd hw 274 rfl) (wd hw 276 rfl) (wd hw 275 rfl) (wd hw 122 rfl) (wd hw 277 rfl) (notFace_of_selects (args := #[]) (mvT hZ (wd hw 276 rfl))) E_x1 (rmAL0 l Z a0 hw [] x1 G1 h0 n0 Od O2 P5 F_coder_x1) pd_21 (D 12 rfl) e400 hml (by exact ⟨rfl, rfl, rfl, rfl⟩) (by decide) fun v401 T401 L401 Lc401 X401 hQ401 l401 => ?_
    obtain ⟨rfl, Nq401, e401⟩ := hQ401
    have N401 := l401 N400 Nq401
    refine zN X401 hx (D 13 rfl) ((if0 _ _).trans (feq (by decide : ¬ ((1 : Int32) = (0 : Int32)))).1) ?_
    refine gi X401 hx (D 14 rfl) rfl ?_
    refine gi X401 hx (D 15 rfl) rfl ?_
    refine ga X401 hx (D 16 rfl) rfl rfl ?_
    refine gF X401 hx hZ hown (wd hw 126 rfl) Via.refl e401 F_value_x1 (D 17 rfl) fun T402 X402 e402 => ?_
    have hL := hcL la
    rw [show (Int32.ofNat (ds.length + d)) = Int32.ofNat ((latL ds).length + d) from by rw [lat_len]]
    show Go p e below _ (T402.setTop (mkF m 30 #[vr x1, vi n, vi (Int32.ofNat ds.length), vi (Int32.ofNat ((latL ds).length + d))] [(.ref vb), (.int (Int32.ofNat ((latL ds).length + d))), (.int n)]))
    refine kS (W := 0) (C := 0) (S := 0) X402 hx hZ hown (wd hw 368 rfl) (wd hw 369 rfl) (wd hw 307 rfl) (wd hw 370 rfl) (rmGL l Z a0 hw [] vb kv n d 0 Mn (latL ds) dl dO dT kO kT h0 n0 Od SO SN V_dO V_dT ne_dO_vb ne_dT_vb g_vb V_vb hd ⟨by rw [lat_len]; exact hL, by omega⟩) pd_50 (D 18 rfl) e402 hml (by exact ⟨rfl, rfl, rfl, rfl⟩) (by decide) fun v403 T403 L403 Lc403 X403 hQ403 l403 => ?_
    obtain ⟨rfl, Nq403, K403, Vn⟩ := hQ403
    have N403 := l403 N401 Nq403
    replace Od := Od.keep K403 (allS g_vb all0)
    replace E_x1 := E_x1.keep K403
    replace F_value_x1 := F_value_x1.keep K403 (ninS ne_x1_vb nin0)
    replace F_coder_x1 := F_coder_x1.keep K403 (ninS ne_x1_vb nin0)
    replace F_count_x1 := F_count_x1.keep K403 (ninS ne_x1_vb nin0)
    replace F_maybeLatin1_x1 := F_maybeLatin1_x1.keep K403 (ninS ne_x1_vb nin0)
    replace K0 := K0.trans K403 (allS (P := fun x => x ∈ _ ∨ _ ≤ x) (Or.inl (List.mem_of_getElem? (i := 1) rfl)) all0)
    show Go p e below _ (T403.setTop (mkF m 33 #[vr x1, vi n, vi (Int32.ofNat ds.length), vi (Int32.ofNat ((latL ds).length + d))] [(.int (Int32.ofNat (latL ds).length))]))
    rw [show (Int32.ofNat ((latL ds).length + d)) = (Int32.ofNat (ds.length + d)) from by rw [lat_len]]
    rw [← lat_app] at Vn
    clear V_vb
    have V_vb := Vn
    refine gq (XS.pop X403.here hx rfl (D 19 rfl) rfl rfl) rfl ?_
    refine gg X403 hx 48 (D 20 rfl) (by decide) ?_
    refine ga X403 hx (D 28 rfl) rfl rfl ?_
    refine gi X403 hx (D 29 rfl) rfl ?_
    obtain ⟨T404, h404, X404, e404, W404, st404⟩ := putF X403 hx hZ hown (host := "") (Or.inl (wd hw 233 rfl)) Via.refl rfl F_count_x1 E_x1 (Or.inl (wd hw 234 rfl)) (wd hw 113 rfl) (ty := .int) (by decide) rfl rfl (g := (mkF m 50 #[vr x1, vi n, vi (Int32.ofNat ds.length), vi (Int32.ofNat (ds.length + d))] [(.int (Int32.ofNat (ds.length + d))), (.ref x1)])) rfl rfl (D 30 rfl)
    refine Go.by (fun t => st404 t) ?_
    replace F_count_x1 := F_count_x1.same W404
    replace Od := Od.wr W404 g_x1
    replace E_x1 := E_x1.wr W404
    replace F_value_x1 := F_value_x1.other W404 (Or.inr (slot_ne (Or.inl (wd hw 127 rfl)) (Or.inl (wd hw 234 rfl)) (by decide) (t := (.array .byte)) (t' := .int) (by decide) (by decide)))
    replace F_coder_x1 := F_coder_x1.other W404 (Or.inr (slot_ne (Or.inl (wd hw 129 rfl)) (Or.inl (wd hw 234 rfl)) (by decide) (t := .byte) (t' := .int) (by decide) (by decide)))
    replace F_maybeLatin1_x1 := F_maybeLatin1_x1.other W404 (Or.inr (slot_ne (Or.inl (wd hw 349 rfl)) (Or.inl (wd hw 234 rfl)) (by decide) (t := .boolean) (t' := .int) (by decide) (by decide)))
    replace V_vb := V_vb.other W404 (Ne.symm ne_x1_vb)
    replace K0 := K0.wr W404 (Or.inl (List.mem_of_getElem? (i := 0) rfl))
    have N404 := Fr.snoc X404 N403 g_x1
    show Go p e below _ (T404.setTop (mkF m 53 #[vr x1, vi n, vi (Int32.ofNat ds.length), vi (Int32.ofNat (ds.length + d))] []))
    refine ga X404 hx (D 31 rfl) rfl rfl ?_
    exact Go.ret1 X404 hx Bd.returns Bd.notSynchronized rfl (Or.inr (Or.inr (Or.inr (Or.inr ⟨rfl, rfl, rfl⟩)))) (D 32 rfl) (by decide) (by decide) (by first | (rw [e404]; exact ⟨rfl, N404, K0, E_x1, F_value_x1, F_count_x1, F_maybeLatin1_x1, 0, _, F_coder_x1, V_vb, Or.inl ⟨rfl, all_app la ld, rfl⟩, by rw [lat_len, List.length_append]; omega⟩) | exact ⟨rfl, N404, K0, E_x1, F_value_x1, F_count_x1, F_maybeLatin1_x1, 0, _, F_coder_x1, V_vb, Or.inl ⟨rfl, all_app la ld, rfl⟩, by rw [lat_len, List.length_append]; omega⟩)
  ·
    refine kV (W := 0) (C := 0) (S := 0) X400 hx hZ hown (wd hw 273 rfl) (wd hw 274 rfl) (wd hw 276 rfl) (wd hw 275 rfl) (wd hw 122 rfl) (wd hw 277 rfl) (notFace_of_selects (args := #[]) (mvT hZ (wd hw 276 rfl))) E_x1 (rmAL1 l Z a0 hw [] x1 G1 h0 n0 Od O2 P5 F_coder_x1) pd_21 (D 12 rfl) e400 hml (by exact ⟨rfl, rfl, rfl, rfl⟩) (by decide) fun v405 T405 L405 Lc405 X405 hQ405 l405 => ?_
    obtain ⟨rfl, Nq405, e405⟩ := hQ405
    have N405 := l405 N400 Nq405
    refine zY X405 hx 37 (D 13 rfl) ((if0 _ _).trans (teq (rfl : (0 : Int32) = (0 : Int32))).1) (by decide) ?_
    refine gi X405 hx (D 21 rfl) rfl ?_
    refine gi X405 hx (D 22 rfl) rfl ?_
    refine gi X405 hx (D 23 rfl) rfl ?_
    refine ga X405 hx (D 24 rfl) rfl rfl ?_
    refine gF X405 hx hZ hown (wd hw 126 rfl) Via.refl e405 F_value_x1 (D 25 rfl) fun T406 X406 e406 => ?_
    obtain ⟨q, rfl, hq, hd3⟩ := hcN hg
    refine kS (W := 0) (C := 0) (S := 0) X406 hx hZ hown (wd hw 309 rfl) (wd hw 310 rfl) (wd hw 26 rfl) (wd hw 311 rfl) (rmGV l Z a0 hw [] vb kv n d ds.length q (utfL ds) dl dO dT kO kT G3 h0 n0 Od A1 HS LS O4 rG3 SO SN V_dO V_dT ne_dO_vb ne_dT_vb g_vb V_vb hd ⟨hq, by omega⟩ (utf_len ds) hd3) pd_51 (D 26 rfl) e406 hml (by exact ⟨rfl, rfl, rfl, rfl⟩) (by decide) fun v407 T407 L407 Lc407 X407 hQ407 l407 => ?_
    obtain ⟨rfl, Nq407, K407, Vn⟩ := hQ407
    have N407 := l407 N405 Nq407
    replace Od := Od.keep K407 (allS g_vb all0)
    replace E_x1 := E_x1.keep K407
    replace F_value_x1 := F_value_x1.keep K407 (ninS ne_x1_vb nin0)
    replace F_coder_x1 := F_coder_x1.keep K407 (ninS ne_x1_vb nin0)
    replace F_count_x1 := F_count_x1.keep K407 (ninS ne_x1_vb nin0)
    replace F_maybeLatin1_x1 := F_maybeLatin1_x1.keep K407 (ninS ne_x1_vb nin0)
    replace K0 := K0.trans K407 (allS (P := fun x => x ∈ _ ∨ _ ≤ x) (Or.inl (List.mem_of_getElem? (i := 1) rfl)) all0)
    rw [← utf_app] at Vn
    clear V_vb
    have V_vb := Vn
    refine gq (XS.pop X407.here hx rfl (D 27 rfl) rfl rfl) rfl ?_
    refine ga X407 hx (D 28 rfl) rfl rfl ?_
    refine gi X407 hx (D 29 rfl) rfl ?_
    obtain ⟨T408, h408, X408, e408, W408, st408⟩ := putF X407 hx hZ hown (host := "") (Or.inl (wd hw 233 rfl)) Via.refl rfl F_count_x1 E_x1 (Or.inl (wd hw 234 rfl)) (wd hw 113 rfl) (ty := .int) (by decide) rfl rfl (g := (mkF m 50 #[vr x1, vi n, vi (Int32.ofNat ds.length), vi (Int32.ofNat (ds.length + d))] [(.int (Int32.ofNat (ds.length + d))), (.ref x1)])) rfl rfl (D 30 rfl)
    refine Go.by (fun t => st408 t) ?_
    replace F_count_x1 := F_count_x1.same W408
    replace Od := Od.wr W408 g_x1
    replace E_x1 := E_x1.wr W408
    replace F_value_x1 := F_value_x1.other W408 (Or.inr (slot_ne (Or.inl (wd hw 127 rfl)) (Or.inl (wd hw 234 rfl)) (by decide) (t := (.array .byte)) (t' := .int) (by decide) (by decide)))
    replace F_coder_x1 := F_coder_x1.other W408 (Or.inr (slot_ne (Or.inl (wd hw 129 rfl)) (Or.inl (wd hw 234 rfl)) (by decide) (t := .byte) (t' := .int) (by decide) (by decide)))
    replace F_maybeLatin1_x1 := F_maybeLatin1_x1.other W408 (Or.inr (slot_ne (Or.inl (wd hw 349 rfl)) (Or.inl (wd hw 234 rfl)) (by decide) (t := .boolean) (t' := .int) (by decide) (by decide)))
    replace V_vb := V_vb.other W408 (Ne.symm ne_x1_vb)
    replace K0 := K0.wr W408 (Or.inl (List.mem_of_getElem? (i := 0) rfl))
    have N408 := Fr.snoc X408 N407 g_x1
    show Go p e below _ (T408.setTop (mkF m 53 #[vr x1, vi n, vi (Int32.ofNat ds.length), vi (Int32.ofNat (ds.length + d))] []))
    refine ga X408 hx (D 31 rfl) rfl rfl ?_
    exact Go.ret1 X408 hx Bd.returns Bd.notSynchronized rfl (Or.inr (Or.inr (Or.inr (Or.inr ⟨rfl, rfl, rfl⟩)))) (D 32 rfl) (by decide) (by decide) (by first | (rw [e408]; exact ⟨rfl, N408, K0, E_x1, F_value_x1, F_count_x1, F_maybeLatin1_x1, 1, _, F_coder_x1, V_vb, Or.inr ⟨rfl, ex_appL hg, rfl⟩, by rw [utf_len, List.length_append]; omega⟩) | exact ⟨rfl, N408, K0, E_x1, F_value_x1, F_count_x1, F_maybeLatin1_x1, 1, _, F_coder_x1, V_vb, Or.inr ⟨rfl, ex_appL hg, rfl⟩, by rw [utf_len, List.length_append]; omega⟩)
def Q_rmSAI (Z : State) (x1 vb : Addr) (kv : ClassId) (ds dl : List Int32) (n : Int32) (d Mn : Nat) (dO dT : Addr) (kO kT : ClassId) (G1 : Int32) (G3 : Value) (h0 : Heap) (n0 : Nat) : Option Value → Heap → List Loc → Prop := fun v h L => v = some (.ref x1) ∧ Fr n0 L ∧ Keep h0 h [x1, vb] ∧ SBA Z h x1 vb kv (Int32.ofNat (ds.length + d)) Mn (ds ++ dl)
set_option maxRecDepth 65536 in
set_option maxHeartbeats 40000000 in
theorem rmSAI (l : Launch) (Z : State) (a0 : Array Value) (hw : HW a0 Z) (ws : List Jvm.Cond) (x1 vb : Addr) (kv : ClassId) (ds dl : List Int32) (n : Int32) (d Mn : Nat) (dO dT : Addr) (kO kT : ClassId) (G1 : Int32) (G3 : Value) (h0 : Heap) (n0 : Nat) (Od : Old Z n0 h0) (A1 : SA1 Z) (HS : SHS Z) (LS : SLS Z) (O4 : SO4 Z G3) (rG3 : G3.isRef = true) (O2 : SO2 Z G1) (P5 : ¬ (G1 = (0 : Int32))) (SO : Sta Z Z.heap "java/lang/Integer" "DigitOnes" "[B" (.ref dO)) (SN : Sta Z Z.heap "java/lang/Integer" "DigitTens" "[B" (.ref dT)) (V_dO : Arv Z h0 dO kO .byte (100 : Int32) onesL (.int 0)) (V_dT : Arv Z h0 dT kT .byte (100 : Int32) tensL (.int 0)) (ne_dO_vb : dO ≠ vb) (ne_dT_vb : dT ≠ vb) (B1 : SBA Z h0 x1 vb kv (Int32.ofNat ds.length) Mn ds) (g_x1 : n0 ≤ x1) (g_vb : n0 ≤ vb) (hd : DgP d n dl) (ld : LatP dl) (hcL : LatP ds → ds.length + d ≤ Mn) (hcN : (∃ c ∈ ds, (255 : Int32) < c) → ∃ q, Mn = 2 * q ∧ ds.length + d ≤ q ∧ d ≤ 3) (hMn : Mn ≤ 300) :
    CT l (⟨"java/lang/StringBuilder", "append", "(I)Ljava/lang/StringBuilder;"⟩ : MethodName) jdk_67_method_15_code 2 (some (.object "java/lang/StringBuilder")) ws (⟨5, 0, 0, 88⟩ : Jvm.Room) #[(.ref x1), (.int n)] Z h0 (Q_rmSAI Z x1 vb kv ds dl n d Mn dO dT kO kT G1 G3 h0 n0) := by
  refine Go.start (plainFor_of_name pn_7) #[vr x1, vi n] n0 (by first | (simp [argsToLocals, Value.category, maxLocals]; done) | rfl) ?_
  intro p e s m below meth c s₁ Bd hx hby hml hZ hown X0 e0 N0
  have D := @dB _ _ hby _ D63
  have E_x1 := B1.1
  refine ga X0 hx (D 0 rfl) rfl rfl ?_
  refine gi X0 hx (D 1 rfl) rfl ?_
  obtain ⟨_, _, ⟨T409, L409, k409, n409⟩, -, X409, ⟨Lc409, hQ409, l409, y409, z409⟩, st409⟩ := superBack X0 hx hZ (y := (⟨"java/lang/AbstractStringBuilder", "append", "(I)Ljava/lang/AbstractStringBuilder;"⟩ : MethodName)) hown (wd hw 301 rfl) (sameSelf (wd hw 302 rfl) (wd hw 238 rfl) rfl (by decide)) (wd hw 302 rfl) (wd hw 229 rfl) (by decide) (backOf (W := 0) (rmAI l Z a0 hw [] x1 vb kv ds dl n d Mn dO dT kO kT G1 G3 h0 n0 Od A1 HS LS O4 rG3 O2 P5 SO SN V_dO V_dT ne_dO_vb ne_dT_vb B1 g_x1 g_vb hd ld hcL hcN hMn) hZ (wd hw 304 rfl) (wd hw 122 rfl) (by decide) (by decide)) e0 (Ins.self E_x1) (g := (mkF m 2 #[vr x1, vi n] [(.int n), (.ref x1)])) rfl (by rw [hml]; rfl) (wd hw 304 rfl) (argsL := [(.int n)]) (rest := []) (lenOf pd_49 rfl) rfl (by show 2 * 0 + _ ≤ _; exact Nat.le_of_eq rfl) (D 2 rfl) (fun _ _ => ⟨rfl, e0, (by decide : 0 + 0 ≤ _), (by decide : 0 + 0 ≤ _)⟩)
  dsimp only [Pt.U, Pt.locs, Pt.cells, Pt.slots] at X409 l409 y409 z409 st409 hQ409
  subst y409 z409
  obtain ⟨rfl, Nq409, K409, B2⟩ := hQ409
  have N409 : Fr n0 L409 := by rw [l409]; exact Fr.app N0 Nq409
  clear l409
  refine Go.by (fun t => st409.trans) ?_
  show Go p e below _ (T409.setTop (mkF m 5 #[vr x1, vi n] [(.ref x1)]))
  refine gq (XS.pop X409.here hx rfl (D 3 rfl) rfl rfl) rfl ?_
  refine ga X409 hx (D 4 rfl) rfl rfl ?_
  exact Go.ret1 X409 hx Bd.returns Bd.notSynchronized rfl (Or.inr (Or.inr (Or.inr (Or.inr ⟨rfl, rfl, rfl⟩)))) (D 5 rfl) (by decide) (by decide) ⟨rfl, N409, K409, B2⟩
/-- one put of fill -/
def setN (l : List Int32) (m p : Nat) (c : Int32) : List Int32 := if p < m then l.set p c else l
def putI (l : List Int32) (lim pos c : Int32) : List Int32 := if pos < 0 then l else if pos < lim then l.set pos.toNatClampNeg c else l
theorem setN_len (l : List Int32) (m p : Nat) (c : Int32) : (setN l m p c).length = l.length := by unfold setN; split <;> simp
theorem putI_len (l : List Int32) (m p c : Int32) : (putI l m p c).length = l.length := by unfold putI; split <;> (try split) <;> simp
theorem setN_take (l : List Int32) {n p : Nat} (h : p ≤ n) (i : Nat) (c : Int32) : (setN l n i c).take p = setN (l.take p) p i c := by
  unfold setN
  by_cases h1 : i < p
  · rw [if_pos h1, if_pos (by omega), List.take_set]
  · rw [if_neg h1]
    split
    · rw [List.take_set, List.set_eq_of_length_le]
      rw [List.length_take]; omega
    · rfl
theorem setN_app (A Z : List Int32) {p : Nat} (h : A.length = p) (i : Nat) (c : Int32) : setN (A ++ Z) p i c = setN A p i c ++ Z := by
  unfold setN
  split
  · rw [List.set_append_left _ _ (by omega)]
  · rfl
def fill4 (l : List Int32) (m n : Nat) (c0 c1 c2 c3 : Int32) : List Int32 :=
  if n = 0 then setN (setN (setN l m 0 c0) m 63 c1) m 64 c2 else setN (setN (setN (setN l m 0 c0) m 63 c1) m 64 c2) m (n - 1) c3
def fillN (l : List Int32) (m n : Nat) (c0 c1 c2 c3 : Int32) (pd : Bool) (pos : Nat) (hi lo : Int32) : List Int32 :=
  if pd then setN (setN (fill4 l m n c0 c1 c2 c3) m pos hi) m (pos + 1) lo else fill4 l m n c0 c1 c2 c3
theorem fill4_len (l : List Int32) (m n : Nat) (c0 c1 c2 c3 : Int32) : (fill4 l m n c0 c1 c2 c3).length = l.length := by unfold fill4; split <;> simp only [setN_len]
theorem fillN_len (l : List Int32) (m n : Nat) (c0 c1 c2 c3 : Int32) (pd : Bool) (pos : Nat) (hi lo : Int32) : (fillN l m n c0 c1 c2 c3 pd pos hi lo).length = l.length := by unfold fillN; split <;> simp only [setN_len, fill4_len]
theorem fill4_take (l : List Int32) {m p : Nat} (h : p ≤ m) (n : Nat) (c0 c1 c2 c3 : Int32) : (fill4 l m n c0 c1 c2 c3).take p = fill4 (l.take p) p n c0 c1 c2 c3 := by unfold fill4; split <;> simp only [setN_take _ h]
theorem fillN_take (l : List Int32) {m p : Nat} (h : p ≤ m) (n : Nat) (c0 c1 c2 c3 : Int32) (pd : Bool) (pos : Nat) (hi lo : Int32) : (fillN l m n c0 c1 c2 c3 pd pos hi lo).take p = fillN (l.take p) p n c0 c1 c2 c3 pd pos hi lo := by unfold fillN; split <;> simp only [setN_take _ h, fill4_take _ h]
theorem fill4_app (A Z : List Int32) {p : Nat} (h : A.length = p) (n : Nat) (c0 c1 c2 c3 : Int32) : fill4 (A ++ Z) p n c0 c1 c2 c3 = fill4 A p n c0 c1 c2 c3 ++ Z := by
  unfold fill4
  split
  · rw [setN_app _ _ h, setN_app _ _ (by simp only [setN_len, h]), setN_app _ _ (by simp only [setN_len, h])]
  · rw [setN_app _ _ h, setN_app _ _ (by simp only [setN_len, h]), setN_app _ _ (by simp only [setN_len, h]), setN_app _ _ (by simp only [setN_len, h])]
theorem fillN_app (A Z : List Int32) {p : Nat} (h : A.length = p) (n : Nat) (c0 c1 c2 c3 : Int32) (pd : Bool) (pos : Nat) (hi lo : Int32) : fillN (A ++ Z) p n c0 c1 c2 c3 pd pos hi lo = fillN A p n c0 c1 c2 c3 pd pos hi lo ++ Z := by
  unfold fillN
  split
  · rw [fill4_app _ _ h, setN_app _ _ (by simp only [fill4_len, h]), setN_app _ _ (by simp only [setN_len, fill4_len, h])]
  · rw [fill4_app _ _ h]
theorem lat_setN {l : List Int32} (h : LatP l) (m p : Nat) {c : Int32} (g : ¬ c < 0 ∧ ¬ (255 : Int32) < c) : LatP (setN l m p c) := by
  unfold setN
  split
  · intro x hx
    rcases List.mem_or_eq_of_mem_set hx with q | q
    · exact h x q
    · rw [q]; exact g
  · exact h
theorem lat_rep (n : Nat) : LatP (List.replicate n (0 : Int32)) := fun c hc => by
  rw [List.eq_of_mem_replicate hc]; decide
theorem lat_fill4 {l : List Int32} (h : LatP l) (m n : Nat) {c0 c1 c2 c3 : Int32} (g0 : ¬ c0 < 0 ∧ ¬ (255 : Int32) < c0) (g1 : ¬ c1 < 0 ∧ ¬ (255 : Int32) < c1) (g2 : ¬ c2 < 0 ∧ ¬ (255 : Int32) < c2) (g3 : ¬ c3 < 0 ∧ ¬ (255 : Int32) < c3) : LatP (fill4 l m n c0 c1 c2 c3) := by
  unfold fill4
  split
  · exact lat_setN (lat_setN (lat_setN h _ _ g0) _ _ g1) _ _ g2
  · exact lat_setN (lat_setN (lat_setN (lat_setN h _ _ g0) _ _ g1) _ _ g2) _ _ g3
theorem set2 (l : List Int32) {i : Nat} (h : i + 1 < l.length) (a b : Int32) : (l.set i a).set (i + 1) b = l.take i ++ a :: b :: l.drop (i + 2) := by
  apply List.ext_getElem
  · simp; omega
  · intro j h1 h2
    simp only [List.getElem_set]
    by_cases q1 : j < i
    · rw [if_neg (by omega), if_neg (by omega), List.getElem_append_left (by simp; omega)]; simp
    · rw [List.getElem_append_right (by simp; omega)]
      by_cases q2 : j = i
      · subst q2; simp [show min j l.length = j by omega]
      · by_cases q3 : j = i + 1
        · subst q3; simp [show min i l.length = i by omega]
        · rw [if_neg (by omega), if_neg (by omega)]
          have e : j - (l.take i).length = (j - (i + 2)) + 2 := by simp; omega
          simp only [e, List.getElem_cons_succ, List.getElem_drop]
          congr 1; omega
/-- the text's shape when it holds a pair -/
theorem fill_pair {n : Nat} {c0 c1 c2 c3 : Int32} (g0 : ¬ c0 < 0 ∧ ¬ (255 : Int32) < c0) (g1 : ¬ c1 < 0 ∧ ¬ (255 : Int32) < c1) (g2 : ¬ c2 < 0 ∧ ¬ (255 : Int32) < c2) (g3 : ¬ c3 < 0 ∧ ¬ (255 : Int32) < c3) {pos : Nat} (hp : pos + 1 < n) (hi lo : Int32) :
    ∃ us ws, fillN (List.replicate n 0) n n c0 c1 c2 c3 true pos hi lo = us ++ hi :: lo :: ws ∧ us.length = pos ∧ us.length + ws.length + 2 = n ∧ LatP us ∧ LatP ws := by
  have hL := lat_fill4 (lat_rep n) n n g0 g1 g2 g3
  have hl : (fill4 (List.replicate n 0) n n c0 c1 c2 c3).length = n := by rw [fill4_len, List.length_replicate]
  refine ⟨(fill4 (List.replicate n 0) n n c0 c1 c2 c3).take pos, (fill4 (List.replicate n 0) n n c0 c1 c2 c3).drop (pos + 2), ?_, ?_, ?_, ?_, ?_⟩
  · unfold fillN
    rw [if_pos rfl]
    unfold setN
    rw [if_pos hp, if_pos (by omega)]
    exact set2 _ (by omega) _ _
  · rw [List.length_take]; omega
  · rw [List.length_take, List.length_drop]; omega
  · exact fun c hc => hL c (List.mem_of_mem_take hc)
  · exact fun c hc => hL c (List.mem_of_mem_drop hc)
theorem fill_none {n : Nat} {c0 c1 c2 c3 : Int32} (g0 : ¬ c0 < 0 ∧ ¬ (255 : Int32) < c0) (g1 : ¬ c1 < 0 ∧ ¬ (255 : Int32) < c1) (g2 : ¬ c2 < 0 ∧ ¬ (255 : Int32) < c2) (g3 : ¬ c3 < 0 ∧ ¬ (255 : Int32) < c3) (pos : Nat) (hi lo : Int32) : LatP (fillN (List.replicate n 0) n n c0 c1 c2 c3 false pos hi lo) := by
  unfold fillN
  rw [if_neg (by decide)]
  exact lat_fill4 (lat_rep n) n n g0 g1 g2 g3
/-- fill, as the law's code does it -/
def fillI (l : List Int32) (lim n pd pp c0 c1 c2 c3 hi lo : Int32) : List Int32 :=
  if pd = 0 then putI (putI (putI (putI l lim 0 c0) lim 63 c1) lim 64 c2) lim (n - (1 : Int32)) c3 else putI (putI (putI (putI (putI (putI l lim 0 c0) lim 63 c1) lim 64 c2) lim (n - (1 : Int32)) c3) lim pp hi) lim (pp + (1 : Int32)) lo
theorem putI_nat (l : List Int32) {m p : Nat} (hm : m < 2147483648) (hp : p < 2147483648) (c : Int32) : putI l (Int32.ofNat m) (Int32.ofNat p) c = setN l m p c := by
  unfold putI setN
  rw [if_neg (o_nn hp), o_nat hp]
  by_cases h : p < m
  · rw [if_pos h, if_pos ((o_lt hp hm).2 h)]
  · rw [if_neg h, if_neg (fun q => h ((o_lt hp hm).1 q))]
theorem fillI_nat (l : List Int32) {m n pos : Nat} (hm : m < 1000000) (hn : n < 1000000) (hp : pos < 1000000) (pd : Int32) (c0 c1 c2 c3 hi lo : Int32) : fillI l (Int32.ofNat m) (Int32.ofNat n) pd (Int32.ofNat pos) c0 c1 c2 c3 hi lo = fillN l m n c0 c1 c2 c3 (!decide (pd = 0)) pos hi lo := by
  have e4 : ∀ l' : List Int32, putI l' (Int32.ofNat m) (Int32.ofNat n - (1 : Int32)) c3 = if n = 0 then l' else setN l' m (n - 1) c3 := fun l' => by
    by_cases h : n = 0
    · subst h; rw [if_pos rfl]; unfold putI; rw [if_pos (by decide)]
    · rw [if_neg h, show Int32.ofNat n - (1 : Int32) = Int32.ofNat (n - 1) from o_sub (b := 1) (by omega) (by omega), putI_nat _ (by omega) (by omega)]
  have a0 := fun l' => putI_nat l' (m := m) (p := 0) (by omega) (by omega) c0
  have a1 := fun l' => putI_nat l' (m := m) (p := 63) (by omega) (by omega) c1
  have a2 := fun l' => putI_nat l' (m := m) (p := 64) (by omega) (by omega) c2
  have f4 : putI (putI (putI (putI l (Int32.ofNat m) 0 c0) (Int32.ofNat m) 63 c1) (Int32.ofNat m) 64 c2) (Int32.ofNat m) (Int32.ofNat n - (1 : Int32)) c3 = fill4 l m n c0 c1 c2 c3 := by
    rw [e4, show putI l (Int32.ofNat m) 0 c0 = setN l m 0 c0 from a0 l, show putI (setN l m 0 c0) (Int32.ofNat m) 63 c1 = setN (setN l m 0 c0) m 63 c1 from a1 _, show putI (setN (setN l m 0 c0) m 63 c1) (Int32.ofNat m) 64 c2 = setN (setN (setN l m 0 c0) m 63 c1) m 64 c2 from a2 _]
    unfold fill4; rfl
  unfold fillI fillN
  rw [f4]
  by_cases h : pd = 0
  · rw [if_pos h]; simp [h]
  · rw [if_neg h, o_one, putI_nat _ (by omega) (by omega), putI_nat _ (by omega) (by omega)]; simp [h]

def Q_rmPUT (Z : State) (a1 : Addr) (kc : ClassId) (N lim pos ch : Int32) (cs : List Int32) (h0 : Heap) (n0 : Nat) : Option Value → Heap → List Loc → Prop := fun v h L => v = none ∧ Fr n0 L ∧ Keep h0 h [a1] ∧ Arv Z h a1 kc .char N ((putI cs lim pos ch).map Value.int) (.int 0)
set_option maxRecDepth 65536 in
set_option maxHeartbeats 40000000 in
theorem rmPUT (l : Launch) (Z : State) (a0 : Array Value) (hw : HW a0 Z) (ws : List Jvm.Cond) (a1 : Addr) (kc : ClassId) (N lim pos ch : Int32) (cs : List Int32) (h0 : Heap) (n0 : Nat) (g_a1 : n0 ≤ a1) (V_a1 : Arv Z h0 a1 kc .char N (cs.map Value.int) (.int 0)) (bch : ¬ ch < 0 ∧ ¬ (65535 : Int32) < ch) (hl : ∀ q : Int32, ¬ q < 0 → q < lim → q < N ∧ q.toNatClampNeg < cs.length) :
    CT l (⟨"com/example/gearline/gearline/data/ValuesShownPinLaw", "put", "([CIIC)V"⟩ : MethodName) method_3_code 4 none ws (⟨0, 0, 0, 0⟩ : Jvm.Room) #[(.ref a1), (.int lim), (.int pos), (.int ch)] Z h0 (Q_rmPUT Z a1 kc N lim pos ch cs h0 n0) := by
  refine Go.start (plainFor_of_name pn_0) #[vr a1, vi lim, vi pos, vi ch] n0 (by first | (simp [argsToLocals, Value.category, maxLocals]; done) | rfl) ?_
  intro p e s m below meth c s₁ Bd hx hby hml hZ hown X0 e0 N0
  have D := @dB _ _ hby _ D2
  have K0 : Keep h0 h0 [a1] := Keep.refl _ _
  refine gi X0 hx (D 0 rfl) rfl ?_
  by_cases h1 : pos < 0
  ·
    refine zY X0 hx 13 (D 1 rfl) ((if0 _ _).trans (tlt h1).1) (by decide) ?_
    exact Go.ret0 X0 hx Bd.returns Bd.notSynchronized (D 9 rfl) (by decide) (by decide) (by first | (rw [e0]; exact ⟨rfl, N0, K0, by rw [putI, if_pos h1]; exact V_a1⟩) | exact ⟨rfl, N0, K0, by rw [putI, if_pos h1]; exact V_a1⟩)
  ·
    refine zN X0 hx (D 1 rfl) ((if0 _ _).trans (flt h1).1) ?_
    refine gi X0 hx (D 2 rfl) rfl ?_
    refine gi X0 hx (D 3 rfl) rfl ?_
    by_cases h2 : pos < lim
    ·
      refine cN X0 hx (D 4 rfl) (tlt h2).2.1 ?_
      refine ga X0 hx (D 5 rfl) rfl rfl ?_
      refine gi X0 hx (D 6 rfl) rfl ?_
      refine gi X0 hx (D 7 rfl) rfl ?_
      refine sC X0 hx hZ e0 V_a1 ⟨h1, (hl pos h1 h2).1⟩ pos.toNatClampNeg rfl (by rw [List.length_map]; exact (hl pos h1 h2).2) ch (nar_c bch) (D 8 rfl) fun T410 h410 X410 e410 W410 Vn410 => ?_
      replace V_a1 := Vn410
      clear Vn410
      replace K0 := K0.wr W410 (Or.inl (List.mem_of_getElem? (i := 0) rfl))
      have N410 := Fr.snoc X410 N0 g_a1
      exact Go.ret0 X410 hx Bd.returns Bd.notSynchronized (D 9 rfl) (by decide) (by decide) (by first | (rw [e410]; exact ⟨rfl, N410, K0, by rw [putI, if_neg h1, if_pos h2, List.map_set]; exact V_a1⟩) | exact ⟨rfl, N410, K0, by rw [putI, if_neg h1, if_pos h2, List.map_set]; exact V_a1⟩)
    ·
      refine cY X0 hx 13 (D 4 rfl) (flt h2).2.1 (by decide) ?_
      exact Go.ret0 X0 hx Bd.returns Bd.notSynchronized (D 9 rfl) (by decide) (by decide) (by first | (rw [e0]; exact ⟨rfl, N0, K0, by rw [putI, if_neg h1, if_neg h2]; exact V_a1⟩) | exact ⟨rfl, N0, K0, by rw [putI, if_neg h1, if_neg h2]; exact V_a1⟩)
def Q_rmFIL (Z : State) (a1 : Addr) (kc : ClassId) (N lim n a pd pp hi lo c0 c1 c2 c3 : Int32) (cs : List Int32) (h0 : Heap) (n0 : Nat) : Option Value → Heap → List Loc → Prop := fun v h L => v = none ∧ Fr n0 L ∧ Keep h0 h [a1] ∧ Arv Z h a1 kc .char N ((fillI cs lim n pd pp c0 c1 c2 c3 hi lo).map Value.int) (.int 0)
set_option maxRecDepth 65536 in
set_option maxHeartbeats 40000000 in
theorem rmFIL (l : Launch) (Z : State) (a0 : Array Value) (hw : HW a0 Z) (ws : List Jvm.Cond) (a1 : Addr) (kc : ClassId) (N lim n a pd pp hi lo c0 c1 c2 c3 : Int32) (cs : List Int32) (h0 : Heap) (n0 : Nat) (g_a1 : n0 ≤ a1) (V_a1 : Arv Z h0 a1 kc .char N (cs.map Value.int) (.int 0)) (hl : ∀ q : Int32, ¬ q < 0 → q < lim → q < N ∧ q.toNatClampNeg < cs.length) (e0' : (a &&& (255 : Int32)).toUInt32.toUInt16.toUInt32.toInt32 = c0) (e1' : (((a.toUInt32 >>> ((8 : Int32) &&& 31).toUInt32).toInt32) &&& (255 : Int32)).toUInt32.toUInt16.toUInt32.toInt32 = c1) (e2' : (((a.toUInt32 >>> ((16 : Int32) &&& 31).toUInt32).toInt32) &&& (255 : Int32)).toUInt32.toUInt16.toUInt32.toInt32 = c2) (e3' : (((a.toUInt32 >>> ((24 : Int32) &&& 31).toUInt32).toInt32) &&& (255 : Int32)).toUInt32.toUInt16.toUInt32.toInt32 = c3) (g0 : ¬ c0 < 0 ∧ ¬ (255 : Int32) < c0) (g1 : ¬ c1 < 0 ∧ ¬ (255 : Int32) < c1) (g2 : ¬ c2 < 0 ∧ ¬ (255 : Int32) < c2) (g3 : ¬ c3 < 0 ∧ ¬ (255 : Int32) < c3) (bhi : ¬ hi < 0 ∧ ¬ (65535 : Int32) < hi) (blo : ¬ lo < 0 ∧ ¬ (65535 : Int32) < lo) :
    CT l (⟨"com/example/gearline/gearline/data/ValuesShownPinLaw", "fill", "([CIIIZICC)V"⟩ : MethodName) method_4_code 8 none ws (⟨1, 0, 0, 17⟩ : Jvm.Room) #[(.ref a1), (.int lim), (.int n), (.int a), (.int pd), (.int pp), (.int hi), (.int lo)] Z h0 (Q_rmFIL Z a1 kc N lim n a pd pp hi lo c0 c1 c2 c3 cs h0 n0) := by
  refine Go.start (plainFor_of_name pn_0) #[vr a1, vi lim, vi n, vi a, vi pd, vi pp, vi hi, vi lo] n0 (by first | (simp [argsToLocals, Value.category, maxLocals]; done) | rfl) ?_
  intro p e s m below meth c s₁ Bd hx hby hml hZ hown X0 e0 N0
  have D := @dB _ _ hby _ D1
  have K0 : Keep h0 h0 [a1] := Keep.refl _ _
  refine ga X0 hx (D 0 rfl) rfl rfl ?_
  refine gi X0 hx (D 1 rfl) rfl ?_
  refine gk X0 hx 0 (D 2 rfl) rfl ?_
  refine gi X0 hx (D 3 rfl) rfl ?_
  refine gs X0 hx 255 (D 4 rfl) rfl ?_
  refine gq (XS.iand X0.here hx rfl (D 5 rfl) rfl) rfl ?_
  refine gq (XS.i2c X0.here hx rfl (D 6 rfl) rfl) rfl ?_
  have e0'' : ((a &&& (255 : Int32)).toUInt32.toUInt16.toUInt32.toInt32) = c0 := e0'
  show Go p e below _ (s₁.setTop (mkF m 9 #[vr a1, vi lim, vi n, vi a, vi pd, vi pp, vi hi, vi lo] [(.int ((a &&& (255 : Int32)).toUInt32.toUInt16.toUInt32.toInt32)), (.int (0 : Int32)), (.int lim), (.ref a1)]))
  rw [e0'']
  refine kS (W := 0) (C := 0) (S := 0) X0 hx hZ hown (wd hw 7 rfl) (wd hw 8 rfl) (wd hw 5 rfl) (wd hw 9 rfl) (rmPUT l Z a0 hw [] a1 kc N lim 0 c0 (cs) h0 n0 g_a1 V_a1 (lat_16 g0) (by intro q q1 q2; first | exact hl q q1 q2 | (simp only [putI_len]; exact hl q q1 q2))) pd_5 (D 7 rfl) e0 hml (by exact ⟨rfl, rfl, rfl, rfl⟩) (by decide) fun v411 T411 L411 Lc411 X411 hQ411 l411 => ?_
  obtain ⟨rfl, Nq411, K411, Vn⟩ := hQ411
  have N411 := l411 N0 Nq411
  replace K0 := K0.trans K411 (allS (P := fun x => x ∈ _ ∨ _ ≤ x) (Or.inl (List.mem_of_getElem? (i := 0) rfl)) all0)
  clear V_a1
  have V_a1 := Vn
  clear Vn
  refine ga X411 hx (D 8 rfl) rfl rfl ?_
  refine gi X411 hx (D 9 rfl) rfl ?_
  refine gb X411 hx 63 (D 10 rfl) rfl ?_
  refine gi X411 hx (D 11 rfl) rfl ?_
  refine gb X411 hx 8 (D 12 rfl) rfl ?_
  refine gq (XS.iushr X411.here hx rfl (D 13 rfl) rfl) rfl ?_
  refine gs X411 hx 255 (D 14 rfl) rfl ?_
  refine gq (XS.iand X411.here hx rfl (D 15 rfl) rfl) rfl ?_
  refine gq (XS.i2c X411.here hx rfl (D 16 rfl) rfl) rfl ?_
  have e1'' : ((((a.toUInt32 >>> ((8 : Int32) &&& 31).toUInt32).toInt32) &&& (255 : Int32)).toUInt32.toUInt16.toUInt32.toInt32) = c1 := e1'
  show Go p e below _ (T411.setTop (mkF m 25 #[vr a1, vi lim, vi n, vi a, vi pd, vi pp, vi hi, vi lo] [(.int ((((a.toUInt32 >>> ((8 : Int32) &&& 31).toUInt32).toInt32) &&& (255 : Int32)).toUInt32.toUInt16.toUInt32.toInt32)), (.int (63 : Int32)), (.int lim), (.ref a1)]))
  rw [e1'']
  refine kS (W := 0) (C := 0) (S := 0) X411 hx hZ hown (wd hw 7 rfl) (wd hw 8 rfl) (wd hw 5 rfl) (wd hw 9 rfl) (rmPUT l Z a0 hw [] a1 kc N lim 63 c1 (putI (cs) lim 0 c0) T411.heap n0 g_a1 V_a1 (lat_16 g1) (by intro q q1 q2; first | exact hl q q1 q2 | (simp only [putI_len]; exact hl q q1 q2))) pd_5 (D 17 rfl) rfl hml (by exact ⟨rfl, rfl, rfl, rfl⟩) (by decide) fun v412 T412 L412 Lc412 X412 hQ412 l412 => ?_
  obtain ⟨rfl, Nq412, K412, Vn⟩ := hQ412
  have N412 := l412 N411 Nq412
  replace K0 := K0.trans K412 (allS (P := fun x => x ∈ _ ∨ _ ≤ x) (Or.inl (List.mem_of_getElem? (i := 0) rfl)) all0)
  clear V_a1
  have V_a1 := Vn
  clear Vn
  refine ga X412 hx (D 18 rfl) rfl rfl ?_
  refine gi X412 hx (D 19 rfl) rfl ?_
  refine gb X412 hx 64 (D 20 rfl) rfl ?_
  refine gi X412 hx (D 21 rfl) rfl ?_
  refine gb X412 hx 16 (D 22 rfl) rfl ?_
  refine gq (XS.iushr X412.here hx rfl (D 23 rfl) rfl) rfl ?_
  refine gs X412 hx 255 (D 24 rfl) rfl ?_
  refine gq (XS.iand X412.here hx rfl (D 25 rfl) rfl) rfl ?_
  refine gq (XS.i2c X412.here hx rfl (D 26 rfl) rfl) rfl ?_
  have e2'' : ((((a.toUInt32 >>> ((16 : Int32) &&& 31).toUInt32).toInt32) &&& (255 : Int32)).toUInt32.toUInt16.toUInt32.toInt32) = c2 := e2'
  show Go p e below _ (T412.setTop (mkF m 41 #[vr a1, vi lim, vi n, vi a, vi pd, vi pp, vi hi, vi lo] [(.int ((((a.toUInt32 >>> ((16 : Int32) &&& 31).toUInt32).toInt32) &&& (255 : Int32)).toUInt32.toUInt16.toUInt32.toInt32)), (.int (64 : Int32)), (.int lim), (.ref a1)]))
  rw [e2'']
  refine kS (W := 0) (C := 0) (S := 0) X412 hx hZ hown (wd hw 7 rfl) (wd hw 8 rfl) (wd hw 5 rfl) (wd hw 9 rfl) (rmPUT l Z a0 hw [] a1 kc N lim 64 c2 (putI (putI (cs) lim 0 c0) lim 63 c1) T412.heap n0 g_a1 V_a1 (lat_16 g2) (by intro q q1 q2; first | exact hl q q1 q2 | (simp only [putI_len]; exact hl q q1 q2))) pd_5 (D 27 rfl) rfl hml (by exact ⟨rfl, rfl, rfl, rfl⟩) (by decide) fun v413 T413 L413 Lc413 X413 hQ413 l413 => ?_
  obtain ⟨rfl, Nq413, K413, Vn⟩ := hQ413
  have N413 := l413 N412 Nq413
  replace K0 := K0.trans K413 (allS (P := fun x => x ∈ _ ∨ _ ≤ x) (Or.inl (List.mem_of_getElem? (i := 0) rfl)) all0)
  clear V_a1
  have V_a1 := Vn
  clear Vn
  refine ga X413 hx (D 28 rfl) rfl rfl ?_
  refine gi X413 hx (D 29 rfl) rfl ?_
  refine gi X413 hx (D 30 rfl) rfl ?_
  refine gk X413 hx 1 (D 31 rfl) rfl ?_
  refine gq (XS.isub X413.here hx rfl (D 32 rfl) rfl) rfl ?_
  refine gi X413 hx (D 33 rfl) rfl ?_
  refine gb X413 hx 24 (D 34 rfl) rfl ?_
  refine gq (XS.iushr X413.here hx rfl (D 35 rfl) rfl) rfl ?_
  refine gs X413 hx 255 (D 36 rfl) rfl ?_
  refine gq (XS.iand X413.here hx rfl (D 37 rfl) rfl) rfl ?_
  refine gq (XS.i2c X413.here hx rfl (D 38 rfl) rfl) rfl ?_
  have e3'' : ((((a.toUInt32 >>> ((24 : Int32) &&& 31).toUInt32).toInt32) &&& (255 : Int32)).toUInt32.toUInt16.toUInt32.toInt32) = c3 := e3'
  show Go p e below _ (T413.setTop (mkF m 58 #[vr a1, vi lim, vi n, vi a, vi pd, vi pp, vi hi, vi lo] [(.int ((((a.toUInt32 >>> ((24 : Int32) &&& 31).toUInt32).toInt32) &&& (255 : Int32)).toUInt32.toUInt16.toUInt32.toInt32)), (.int (n - (1 : Int32))), (.int lim), (.ref a1)]))
  rw [e3'']
  refine kS (W := 0) (C := 0) (S := 0) X413 hx hZ hown (wd hw 7 rfl) (wd hw 8 rfl) (wd hw 5 rfl) (wd hw 9 rfl) (rmPUT l Z a0 hw [] a1 kc N lim (n - (1 : Int32)) c3 (putI (putI (putI (cs) lim 0 c0) lim 63 c1) lim 64 c2) T413.heap n0 g_a1 V_a1 (lat_16 g3) (by intro q q1 q2; first | exact hl q q1 q2 | (simp only [putI_len]; exact hl q q1 q2))) pd_5 (D 39 rfl) rfl hml (by exact ⟨rfl, rfl, rfl, rfl⟩) (by decide) fun v414 T414 L414 Lc414 X414 hQ414 l414 => ?_
  obtain ⟨rfl, Nq414, K414, Vn⟩ := hQ414
  have N414 := l414 N413 Nq414
  replace K0 := K0.trans K414 (allS (P := fun x => x ∈ _ ∨ _ ≤ x) (Or.inl (List.mem_of_getElem? (i := 0) rfl)) all0)
  clear V_a1
  have V_a1 := Vn
  clear Vn
  refine gI X414 hx (D 40 rfl) rfl ?_
  by_cases hpd : pd = 0
  ·
    refine zY X414 hx 86 (D 41 rfl) ((if0 _ _).trans (teq hpd).1) (by decide) ?_
    exact Go.ret0 X414 hx Bd.returns Bd.notSynchronized (D 54 rfl) (by decide) (by decide) ⟨rfl, N414, K0, by rw [fillI, if_pos hpd]; exact V_a1⟩
  ·
    refine zN X414 hx (D 41 rfl) ((if0 _ _).trans (feq hpd).1) ?_
    refine ga X414 hx (D 42 rfl) rfl rfl ?_
    refine gi X414 hx (D 43 rfl) rfl ?_
    refine gI X414 hx (D 44 rfl) rfl ?_
    refine gI X414 hx (D 45 rfl) rfl ?_
    refine kS (W := 0) (C := 0) (S := 0) X414 hx hZ hown (wd hw 7 rfl) (wd hw 8 rfl) (wd hw 5 rfl) (wd hw 9 rfl) (rmPUT l Z a0 hw [] a1 kc N lim pp hi (putI (putI (putI (putI (cs) lim 0 c0) lim 63 c1) lim 64 c2) lim (n - (1 : Int32)) c3) T414.heap n0 g_a1 V_a1 bhi (by intro q q1 q2; first | exact hl q q1 q2 | (simp only [putI_len]; exact hl q q1 q2))) pd_5 (D 46 rfl) rfl hml (by exact ⟨rfl, rfl, rfl, rfl⟩) (by decide) fun v415 T415 L415 Lc415 X415 hQ415 l415 => ?_
    obtain ⟨rfl, Nq415, K415, Vn⟩ := hQ415
    have N415 := l415 N414 Nq415
    replace K0 := K0.trans K415 (allS (P := fun x => x ∈ _ ∨ _ ≤ x) (Or.inl (List.mem_of_getElem? (i := 0) rfl)) all0)
    clear V_a1
    have V_a1 := Vn
    clear Vn
    refine ga X415 hx (D 47 rfl) rfl rfl ?_
    refine gi X415 hx (D 48 rfl) rfl ?_
    refine gI X415 hx (D 49 rfl) rfl ?_
    refine gk X415 hx 1 (D 50 rfl) rfl ?_
    refine gq (XS.iadd X415.here hx rfl (D 51 rfl) rfl) rfl ?_
    refine gI X415 hx (D 52 rfl) rfl ?_
    refine kS (W := 0) (C := 0) (S := 0) X415 hx hZ hown (wd hw 7 rfl) (wd hw 8 rfl) (wd hw 5 rfl) (wd hw 9 rfl) (rmPUT l Z a0 hw [] a1 kc N lim (pp + (1 : Int32)) lo (putI (putI (putI (putI (putI (cs) lim 0 c0) lim 63 c1) lim 64 c2) lim (n - (1 : Int32)) c3) lim pp hi) T415.heap n0 g_a1 V_a1 blo (by intro q q1 q2; first | exact hl q q1 q2 | (simp only [putI_len]; exact hl q q1 q2))) pd_5 (D 53 rfl) rfl hml (by exact ⟨rfl, rfl, rfl, rfl⟩) (by decide) fun v416 T416 L416 Lc416 X416 hQ416 l416 => ?_
    obtain ⟨rfl, Nq416, K416, Vn⟩ := hQ416
    have N416 := l416 N415 Nq416
    replace K0 := K0.trans K416 (allS (P := fun x => x ∈ _ ∨ _ ≤ x) (Or.inl (List.mem_of_getElem? (i := 0) rfl)) all0)
    clear V_a1
    have V_a1 := Vn
    clear Vn
    exact Go.ret0 X416 hx Bd.returns Bd.notSynchronized (D 54 rfl) (by decide) (by decide) ⟨rfl, N416, K0, by rw [fillI, if_neg hpd]; exact V_a1⟩
def dgc (x : Int32) : Int32 := ((48 : Int32) + (x % (10 : Int32))).toUInt32.toUInt16.toUInt32.toInt32
def tailL : List Int32 := [32, 99, 104, 97, 114, 97, 99, 116, 101, 114, 115, 41]
def sufL (dl : List Int32) : List Int32 := [46, 46, 46, 32, 40] ++ (dl ++ tailL)
def SufP (d : Nat) (x : Int32) (dl : List Int32) : Prop := (d = 2 ∧ dl = [dgc (x / 10), dgc x]) ∨ (d = 3 ∧ dl = [dgc (x / 100), dgc (x / 10), dgc x]) ∨ (d = 4 ∧ dl = [dgc (x / 1000), dgc (x / 100), dgc (x / 10), dgc x])
theorem Go.two {p : Program} {e : Env} {below : List Frame} {G : State → Outcome → Prop} {A B : State} (h : Go p e below G B) (f : Go p e below G B → Go p e below G A) : Go p e below G A := f h
theorem Go.twoP {p : Program} {e : Env} {below : List Frame} {G : State → Outcome → Prop} {A : State} {P : Int32 → Prop} {B : Int32 → State} (h : ∀ i, P i → Go p e below G (B i)) (f : (∀ i, P i → Go p e below G (B i)) → Go p e below G A) : Go p e below G A := f h
theorem hlim {n N : Nat} (h : n ≤ N) (hN : N < 2147483648) (q : Int32) (h0 : ¬ q < 0) (h1 : q < Int32.ofNat n) : q < Int32.ofNat N ∧ q.toNatClampNeg < N := by
  rw [Int32.lt_iff_toInt_lt, o_int (by omega)] at h1
  rw [Int32.lt_iff_toInt_lt] at h0
  have e : (0 : Int32).toInt = 0 := rfl
  rw [Int32.lt_iff_toInt_lt, o_int hN]
  simp only [Int32.toNatClampNeg]
  omega
theorem and_nat (z : Int32) (M : Nat) (hM : M < 2147483648) : ∃ j, j ≤ M ∧ z &&& Int32.ofNat M = Int32.ofNat j := by
  refine ⟨(z &&& Int32.ofNat M).toBitVec.toNat, ?_, ?_⟩
  · rw [Int32.toBitVec_and, BitVec.toNat_and]
    refine Nat.le_trans Nat.and_le_right ?_
    show M % 2 ^ 32 ≤ M
    exact Nat.mod_le _ _
  · apply Int32.toBitVec_inj.mp
    apply BitVec.eq_of_toNat_eq
    show _ = _ % 2 ^ 32
    rw [Nat.mod_eq_of_lt (BitVec.isLt _)]
theorem lat_mask (z : Int32) : ¬ (z &&& (255 : Int32)).toUInt32.toUInt16.toUInt32.toInt32 < 0 ∧ ¬ (255 : Int32) < (z &&& (255 : Int32)).toUInt32.toUInt16.toUInt32.toInt32 := by
  obtain ⟨j, hj, e⟩ := and_nat z 255 (by decide)
  rw [show z &&& (255 : Int32) = Int32.ofNat j from e]
  have h16 : ¬ Int32.ofNat j < 0 ∧ ¬ (65535 : Int32) < Int32.ofNat j := ⟨o_nn (by omega), fun q => by have := (o_lt (a := 65535) (by decide) (by omega)).1 q; omega⟩
  rw [i2c_id h16]
  exact ⟨h16.1, fun q => by have := (o_lt (a := 255) (by decide) (by omega)).1 q; omega⟩
theorem sur_mask (z : Int32) {k b : Nat} (hk : k + 1024 = b) (hb : b ≤ 57344) : ¬ (Int32.ofNat k + (z &&& (1023 : Int32))).toUInt32.toUInt16.toUInt32.toInt32 < Int32.ofNat k ∧ (Int32.ofNat k + (z &&& (1023 : Int32))).toUInt32.toUInt16.toUInt32.toInt32 < Int32.ofNat b := by
  obtain ⟨j, hj, e⟩ := and_nat z 1023 (by decide)
  rw [show z &&& (1023 : Int32) = Int32.ofNat j from e, o_add]
  rw [i2c_id ⟨o_nn (by omega), fun q => by have := (o_lt (a := 65535) (by decide) (by omega)).1 q; omega⟩]
  exact ⟨fun q => by have := (o_lt (by omega) (by omega)).1 q; omega, (o_lt (by omega) (by omega)).2 (by omega)⟩
def SelP (x : Int32) (n : Nat) : Prop := (x = 0 ∧ n = 0) ∨ (x = 1 ∧ n = 2) ∨ (x = 2 ∧ n = 63) ∨ (x = 3 ∧ n = 64) ∨ (x = 4 ∧ n = 65) ∨ (x = 5 ∧ n = 66) ∨ (x = 6 ∧ n = 130) ∨ (x = 7 ∧ n = 1000)
theorem sel_ex (z : Int32) : ∃ n, SelP (z &&& (7 : Int32)) n := by
  obtain ⟨j, hj, e⟩ := and_nat z 7 (by decide)
  rw [show z &&& (7 : Int32) = Int32.ofNat j from e]
  have : j = 0 ∨ j = 1 ∨ j = 2 ∨ j = 3 ∨ j = 4 ∨ j = 5 ∨ j = 6 ∨ j = 7 := by omega
  rcases this with rfl | rfl | rfl | rfl | rfl | rfl | rfl | rfl
  · exact ⟨0, Or.inl ⟨rfl, rfl⟩⟩
  · exact ⟨2, Or.inr (Or.inl ⟨rfl, rfl⟩)⟩
  · exact ⟨63, Or.inr (Or.inr (Or.inl ⟨rfl, rfl⟩))⟩
  · exact ⟨64, Or.inr (Or.inr (Or.inr (Or.inl ⟨rfl, rfl⟩)))⟩
  · exact ⟨65, Or.inr (Or.inr (Or.inr (Or.inr (Or.inl ⟨rfl, rfl⟩))))⟩
  · exact ⟨66, Or.inr (Or.inr (Or.inr (Or.inr (Or.inr (Or.inl ⟨rfl, rfl⟩)))))⟩
  · exact ⟨130, Or.inr (Or.inr (Or.inr (Or.inr (Or.inr (Or.inr (Or.inl ⟨rfl, rfl⟩))))))⟩
  · exact ⟨1000, Or.inr (Or.inr (Or.inr (Or.inr (Or.inr (Or.inr (Or.inr ⟨rfl, rfl⟩))))))⟩
theorem SelP.in {x : Int32} {n : Nat} (h : SelP x n) : n = 0 ∨ n = 2 ∨ n = 63 ∨ n = 64 ∨ n = 65 ∨ n = 66 ∨ n = 130 ∨ n = 1000 := by
  rcases h with ⟨-, h⟩ | ⟨-, h⟩ | ⟨-, h⟩ | ⟨-, h⟩ | ⟨-, h⟩ | ⟨-, h⟩ | ⟨-, h⟩ | ⟨-, h⟩ <;> omega
theorem fillI_0 (l : List Int32) {m n : Nat} (hm : m < 1000000) (hn : n < 1000000) (pp c0 c1 c2 c3 hi lo : Int32) : fillI l (Int32.ofNat m) (Int32.ofNat n) 0 pp c0 c1 c2 c3 hi lo = fillN l m n c0 c1 c2 c3 false 0 hi lo := by
  have := fillI_nat l hm hn (pos := 0) (by decide) 0 c0 c1 c2 c3 hi lo
  rw [show fillI l (Int32.ofNat m) (Int32.ofNat n) 0 pp c0 c1 c2 c3 hi lo = fillI l (Int32.ofNat m) (Int32.ofNat n) 0 (Int32.ofNat 0) c0 c1 c2 c3 hi lo from by unfold fillI; rw [if_pos rfl, if_pos rfl]]
  exact this
theorem exp_list {p n : Nat} (r : Nat) (h : p ≤ n) (c0 c1 c2 c3 : Int32) (b : Bool) (j : Nat) (hi lo : Int32) : fillN (List.replicate (p + r) 0) p n c0 c1 c2 c3 b j hi lo = (fillN (List.replicate n 0) n n c0 c1 c2 c3 b j hi lo).take p ++ List.replicate r 0 := by
  rw [fillN_take _ h, List.take_replicate, Nat.min_eq_left h, ← List.replicate_append_replicate, fillN_app _ _ (List.length_replicate ..)]
section
variable {n : Nat} {c0 c1 c2 c3 hi lo : Int32} {cs : List Int32}
theorem plan0 (g0 : ¬ c0 < 0 ∧ ¬ (255 : Int32) < c0) (g1 : ¬ c1 < 0 ∧ ¬ (255 : Int32) < c1) (g2 : ¬ c2 < 0 ∧ ¬ (255 : Int32) < c2) (g3 : ¬ c3 < 0 ∧ ¬ (255 : Int32) < c3) (e : cs = fillN (List.replicate n 0) n n c0 c1 c2 c3 false 0 hi lo) : cs.length = n ∧ TxtP cs n ∧ (64 < n → OffP cs 64) ∧ ∀ c ∈ cs, ¬ c < 0 ∧ ¬ (65535 : Int32) < c := by
  have hl : cs.length = n := by rw [e, fillN_len, List.length_replicate]
  have la : LatP cs := by rw [e]; exact fill_none g0 g1 g2 g3 0 hi lo
  refine ⟨hl, Or.inl ⟨la, hl.symm⟩, fun h => Or.inl ⟨cs.take 64, cs.drop 64, (List.take_append_drop ..).symm, by rw [List.length_take]; omega, fun c hc => la c (List.mem_of_mem_take hc), by omega, rfl⟩, fun c hc => lat_16 (la c hc)⟩
def HopP (cs : List Int32) (n j : Nat) : Prop := 64 < n - 1 → ∃ p1, OffP cs p1 ∧ ((j ≤ 63 ∧ p1 = 65) ∨ (64 ≤ j ∧ p1 = 64))
theorem plan1 (g0 : ¬ c0 < 0 ∧ ¬ (255 : Int32) < c0) (g1 : ¬ c1 < 0 ∧ ¬ (255 : Int32) < c1) (g2 : ¬ c2 < 0 ∧ ¬ (255 : Int32) < c2) (g3 : ¬ c3 < 0 ∧ ¬ (255 : Int32) < c3) {j : Nat} (hj : j + 1 < n) (bh : ¬ (hi < (55296 : Int32)) ∧ hi < (56320 : Int32)) (bl : ¬ (lo < (56320 : Int32)) ∧ lo < (57344 : Int32)) (e : cs = fillN (List.replicate n 0) n n c0 c1 c2 c3 true j hi lo) : cs.length = n ∧ TxtP cs (n - 1) ∧ HopP cs n j ∧ ∀ c ∈ cs, ¬ c < 0 ∧ ¬ (65535 : Int32) < c := by
  have hl : cs.length = n := by rw [e, fillN_len, List.length_replicate]
  obtain ⟨us, ws, hsh, hu, hn, lu, lw⟩ := fill_pair g0 g1 g2 g3 hj hi lo
  rw [← e] at hsh
  refine ⟨hl, Or.inr ⟨us, ws, hi, lo, hsh, lu, lw, bh, bl, by rw [hl]⟩, fun h => ?_, pair_bd hsh lu lw bh bl⟩
  by_cases q : j ≤ 63
  · refine ⟨65, Or.inr ⟨us, hi, lo, ws.take (63 - j), ws.drop (63 - j), by rw [List.take_append_drop]; exact hsh, lu, fun c hc => lw c (List.mem_of_mem_take hc), by rw [List.length_take]; omega, bh, bl, by omega, rfl⟩, Or.inl ⟨q, rfl⟩⟩
  · refine ⟨64, Or.inl ⟨us.take 64, us.drop 64 ++ hi :: lo :: ws, by rw [← List.append_assoc, List.take_append_drop]; exact hsh, by rw [List.length_take]; omega, fun c hc => lu c (List.mem_of_mem_take hc), by omega, rfl⟩, Or.inr ⟨by omega, rfl⟩⟩
end
theorem digs {k : Nat} (h : k = 65 ∨ k = 66 ∨ k = 129 ∨ k = 130 ∨ k = 999 ∨ k = 1000) : ∃ d dl, DgP d (Int32.ofNat k) dl ∧ SufP d (Int32.ofNat k) dl ∧ LatP dl ∧ ((1000 ≤ k ∧ d = 4) ∨ (100 ≤ k ∧ k < 1000 ∧ d = 3) ∨ (k < 100 ∧ d = 2)) := by
  rcases h with rfl | rfl | rfl | rfl | rfl | rfl
  · exact ⟨2, [54, 53], Or.inl ⟨rfl, by decide, by decide, by decide, by decide, 53, 54, ⟨by decide, rfl, rfl⟩, rfl⟩, Or.inl ⟨rfl, rfl⟩, by unfold LatP; decide, Or.inr (Or.inr ⟨by decide, rfl⟩)⟩
  · exact ⟨2, [54, 54], Or.inl ⟨rfl, by decide, by decide, by decide, by decide, 54, 54, ⟨by decide, rfl, rfl⟩, rfl⟩, Or.inl ⟨rfl, rfl⟩, by unfold LatP; decide, Or.inr (Or.inr ⟨by decide, rfl⟩)⟩
  · exact ⟨3, [49, 50, 57], Or.inr ⟨Or.inl rfl, by decide, by decide, by decide, -1, 29, 57, 50, 49, 48, by decide, by decide, by decide, ⟨by decide, rfl, rfl⟩, ⟨by decide, rfl, rfl⟩, Or.inl ⟨rfl, by decide, by decide, rfl⟩⟩, Or.inr (Or.inl ⟨rfl, rfl⟩), by unfold LatP; decide, Or.inr (Or.inl ⟨by decide, by decide, rfl⟩)⟩
  · exact ⟨3, [49, 51, 48], Or.inr ⟨Or.inl rfl, by decide, by decide, by decide, -1, 30, 48, 51, 49, 48, by decide, by decide, by decide, ⟨by decide, rfl, rfl⟩, ⟨by decide, rfl, rfl⟩, Or.inl ⟨rfl, by decide, by decide, rfl⟩⟩, Or.inr (Or.inl ⟨rfl, rfl⟩), by unfold LatP; decide, Or.inr (Or.inl ⟨by decide, by decide, rfl⟩)⟩
  · exact ⟨3, [57, 57, 57], Or.inr ⟨Or.inl rfl, by decide, by decide, by decide, -9, 99, 57, 57, 57, 48, by decide, by decide, by decide, ⟨by decide, rfl, rfl⟩, ⟨by decide, rfl, rfl⟩, Or.inl ⟨rfl, by decide, by decide, rfl⟩⟩, Or.inr (Or.inl ⟨rfl, rfl⟩), by unfold LatP; decide, Or.inr (Or.inl ⟨by decide, by decide, rfl⟩)⟩
  · exact ⟨4, [49, 48, 48, 48], Or.inr ⟨Or.inr rfl, by decide, by decide, by decide, -10, 0, 48, 48, 48, 49, by decide, by decide, by decide, ⟨by decide, rfl, rfl⟩, ⟨by decide, rfl, rfl⟩, Or.inr ⟨rfl, by decide, by decide, by decide, rfl⟩⟩, Or.inr (Or.inr ⟨rfl, rfl⟩), by unfold LatP; decide, Or.inl ⟨by decide, rfl⟩⟩
theorem enc_len {cd : Int32} {ds : List Int32} {us : List Value} (h : EncP cd ds us) : (cd = 0 ∧ us.length = ds.length) ∨ (cd = 1 ∧ us.length = 2 * ds.length) := by
  rcases h with ⟨rfl, -, rfl⟩ | ⟨rfl, -, rfl⟩
  · exact Or.inl ⟨rfl, lat_len _⟩
  · exact Or.inr ⟨rfl, utf_len _⟩
theorem enc_str {Z : State} {h : Heap} {r t : Addr} {kt : ClassId} {cd : Int32} {ds : List Int32} {us : List Value} (hen : EncP cd ds us) (E : Exa Z h r "java/lang/String") (Fv : Fld Z h r "java/lang/String" "value" "[B" (.ref t)) (Fc : Fld Z h r "java/lang/String" "coder" "B" (.int cd)) (V : Arv Z h t kt .byte (Int32.ofNat us.length) us (.int 0)) : StrU Z h r ds := by
  rcases hen with ⟨rfl, la, rfl⟩ | ⟨rfl, hg, rfl⟩
  · rw [lat_len] at V; exact ⟨t, kt, E, Fv, Or.inl ⟨Fc, la, V⟩⟩
  · rw [utf_len] at V; exact ⟨t, kt, E, Fv, Or.inr ⟨Fc, hg, V⟩⟩
theorem suf_len {dl : List Int32} {d : Nat} (h : dl.length = d) : (sufL dl).length = d + 17 := by
  unfold sufL
  rw [List.length_append, List.length_append, h]
  show 5 + (d + 12) = d + 17
  omega
theorem suf_lat {dl : List Int32} (h : LatP dl) : LatP (sufL dl) := all_app (by unfold LatP; decide) (all_app h (by unfold LatP; decide))
theorem hasL_of {c : Cell} : ∀ {vs : List Value} {i : Nat}, (∀ j (h : j < vs.length), c.slots[i + j]? = some vs[j]) → HasL c i vs
  | [], _, _ => trivial
  | v :: r, i, H => ⟨H 0 (Nat.zero_lt_succ _), hasL_of fun j h => by have := H (j + 1) (Nat.succ_lt_succ h); rw [show i + (j + 1) = i + 1 + j by omega] at this; exact this⟩
theorem dig_arv {s : State} {a0 args : Array Value} {t : Term} {a : Addr} {F : Term} {f : Nat → Int32} (hfit : Fit s) (ev : ∀ idx, t.eval args s none idx s = some (.ref a)) (hx : (Cond.exactly t "[B").value args s none s [] = some true) (wa : (Cond.arrayClass .byte).before a0 s = true) (hl : (Cond.eq (Term.length t) (Term.int 100)).value args s none s [] = some true) (ha : (Cond.all t (Cond.eq (Term.elem t (Term.index 0)) F)).value args s none s [] = some true)
    (hF : ∀ i, i < 100 → F.eval args s none [i] s = some (.int (f i))) : ∃ k, Arv s s.heap a k .byte 100 ((List.range 100).map fun i => .int (f i)) (.int 0) := by
  have hlen := sta_eqI hl
  obtain ⟨cell, k, h1, h2, h3, h4, -⟩ := Exa.start (ev []) hx
  obtain ⟨cA, kA, comp, q1, q2, q3⟩ := Cond.arrayClass_spec wa
  have e : cell.cls = cA := Option.some.inj (h2.symm.trans ((by first | rfl | decide : "[B" = "[" ++ FieldType.byte.toString) ▸ q1))
  subst e
  cases h3.symm.trans q2
  have har : ∃ c', s.arrayAt? a = some c' := by
    cases har : s.arrayAt? a with
    | none => simp [Term.eval, ev [], har] at hlen
    | some c' => exact ⟨c', rfl⟩
  obtain ⟨c', har⟩ := har
  have hc : c' = cell ∧ cell.vm ≠ .unknown := by
    have q := har
    simp only [State.arrayAt?, h1, h3, Option.bind_eq_bind, Option.bind_some, q3] at q
    split at q
    · cases q
    · rename_i hu
      exact ⟨(Option.some.inj q).symm, fun z => hu (Or.inl z)⟩
  obtain ⟨rfl, hu⟩ := hc
  have A : Arr s s.heap a c' .byte := ⟨h1, ⟨fun z hz => (by rw [hz] at h4; cases h4), _, h3, comp, q3⟩, hu⟩
  have hsz : c'.slots.size = 100 := by
    have hl2 := hlen
    simp only [Term.eval, ev [], har, Option.bind_eq_bind, Option.bind_some] at hl2
    by_cases hb : c'.slots.size < 2 ^ 31
    · simp [hb] at hl2
      have := len_toInt hb
      rw [hl2] at this
      have e1 : (100 : Int32).toInt = 100 := rfl
      omega
    · simp [hb] at hl2
  refine ⟨_, start_arv hfit (ev []) A hlen (by decide) (by rw [List.length_map, List.length_range]; rfl) (hasL_of fun j hj => ?_)⟩
  rw [List.length_map, List.length_range] at hj
  have u := Cond.all_elim (ev []) har ha j (by omega)
  have w := eqv_i (hF j hj) u
  have e2 : (Nat.toInt32 j).toNatClampNeg = j := o_nat (by omega)
  have z := elem_f (ev [j]) (a := Term.index 0) (j := Nat.toInt32 j) rfl har (o_nn (by omega))
  rw [e2] at z
  rw [Nat.zero_add, List.getElem_map, List.getElem_range]
  exact z.symm.trans w
theorem add_f' {s : State} {args : Array Value} {idx : List Nat} {a b : Term} {x y : Int32} (ha : a.eval args s none idx s = some (.int x)) (hb : b.eval args s none idx s = some (.int y)) : (Term.add a b).eval args s none idx s = some (.int (x + y)) := by simp [Term.eval, ha, hb]
theorem ones_eq : ((List.range 100).map fun i => Value.int ((48 : Int32) + Nat.toInt32 i % 10)) = onesL := by
  have h : ∀ i ∈ List.range 100, (48 : Int32) + Nat.toInt32 i % 10 = Int32.ofNat (48 + i % 10) := by decide +kernel
  exact List.map_congr_left fun i hi => by rw [h i hi]
theorem tens_eq : ((List.range 100).map fun i => Value.int ((48 : Int32) + Nat.toInt32 i / 10)) = tensL := by
  have h : ∀ i ∈ List.range 100, (48 : Int32) + Nat.toInt32 i / 10 = Int32.ofNat (48 + i / 10) := by decide +kernel
  exact List.map_congr_left fun i hi => by rw [h i hi]
def Q_rmSUF (Z : State) (a1 : Addr) (kc : ClassId) (ct : Int32) (d P : Nat) (bs : List Value) (dl : List Int32) (h0 : Heap) (n0 : Nat) : Option Value → Heap → List Loc → Prop := fun v h L => v = none ∧ Fr n0 L ∧ Keep h0 h [a1] ∧ Arv Z h a1 kc .char (Int32.ofNat (P + (d + 17))) (bs ++ (sufL dl).map Value.int) (.int 0)
set_option maxRecDepth 65536 in
set_option maxHeartbeats 40000000 in
theorem rmSUF (l : Launch) (Z : State) (a0 : Array Value) (hw : HW a0 Z) (ws : List Jvm.Cond) (a1 : Addr) (kc : ClassId) (ct : Int32) (d P : Nat) (bs : List Value) (dl : List Int32) (h0 : Heap) (n0 : Nat) (g_a1 : n0 ≤ a1) (V_a1 : Arv Z h0 a1 kc .char (Int32.ofNat (P + (d + 17))) (bs ++ List.replicate (d + 17) (.int 0)) (.int 0)) (hd : SufP d ct dl) (hb : bs.length + d ≤ 100000) (hP : bs.length = P) :
    CT l (⟨"com/example/gearline/gearline/data/ValuesShownPinLaw", "suffix", "([CIII)V"⟩ : MethodName) method_5_code 5 none ws (⟨0, 0, 0, 0⟩ : Jvm.Room) #[(.ref a1), (.int (Int32.ofNat P)), (.int ct), (.int (Int32.ofNat d))] Z h0 (Q_rmSUF Z a1 kc ct d P bs dl h0 n0) := by
  refine Go.start (plainFor_of_name pn_0) #[vr a1, vi (Int32.ofNat P), vi ct, vi (Int32.ofNat d), uu] n0 (by first | (simp [argsToLocals, Value.category, maxLocals]; done) | rfl) ?_
  intro p e s m below meth c s₁ Bd hx hby hml hZ hown X0 e0 N0
  have D := @dB _ _ hby _ D75
  subst hP
  have K0 : Keep h0 h0 [a1] := Keep.refl _ _
  replace K0 : Keep h0 s₁.heap [a1] := by rw [e0]; exact K0
  replace V_a1 : Arv Z s₁.heap a1 kc .char (Int32.ofNat (bs.length + (d + 17))) (bs ++ List.replicate (d + 17) (.int 0)) (.int 0) := by rw [e0]; exact V_a1
  have tail : ∀ (B : List Value) (Tl : State) (Ll : List Loc) (hB : B.length + 14 = bs.length + (d + 17)) (hq : ∀ t o : Int32, t = dgc (ct / 10) → o = dgc ct → B ++ [.int t, .int o, .int 32, .int 99, .int 104, .int 97, .int 114, .int 97, .int 99, .int 116, .int 101, .int 114, .int 115, .int 41] = bs ++ (sufL dl).map Value.int) (Xl : Stand p l e (⟨0, 0, 0, 0⟩ : Jvm.Room) s m #[(.ref a1), (.int (Int32.ofNat bs.length)), (.int ct), (.int (Int32.ofNat d))] below meth c Tl Ll 0 0) (Nl : Fr n0 Ll) (K0 : Keep h0 Tl.heap [a1]) (V_a1 : Arv Z Tl.heap a1 kc .char (Int32.ofNat (bs.length + (d + 17))) (B ++ [(.int (0 : Int32)), (.int (0 : Int32)), (.int (0 : Int32)), (.int (0 : Int32)), (.int (0 : Int32)), (.int (0 : Int32)), (.int (0 : Int32)), (.int (0 : Int32)), (.int (0 : Int32)), (.int (0 : Int32)), (.int (0 : Int32)), (.int (0 : Int32)), (.int (0 : Int32)), (.int (0 : Int32))]) (.int 0)), Go p e below (End (fun v h L => v = none ∧ Fr n0 L ∧ Keep h0 h [a1] ∧ Arv Z h a1 kc .char (Int32.ofNat (bs.length + (d + 17))) (bs ++ (sufL dl).map Value.int) (.int 0)) s 0 0) (Tl.setTop (mkF m 85 #[vr a1, vi (Int32.ofNat bs.length), vi ct, vi (Int32.ofNat d), vi (Int32.ofNat B.length)] [])) := by
    intro B Tl Ll hB hq Xl Nl K0 V_a1
    refine ga Xl hx (D 62 rfl) rfl rfl ?_
    refine gI Xl hx (D 63 rfl) rfl ?_
    refine gb Xl hx 48 (D 64 rfl) rfl ?_
    refine gi Xl hx (D 65 rfl) rfl ?_
    refine gb Xl hx 10 (D 66 rfl) rfl ?_
    refine gq (XS.idiv Xl.here hx rfl (D 67 rfl) rfl (by first | assumption | decide)) rfl ?_
    refine gb Xl hx 10 (D 68 rfl) rfl ?_
    refine gq (iremM Xl hx rfl (D 69 rfl) rfl (by first | assumption | decide)) rfl ?_
    refine gq (XS.iadd Xl.here hx rfl (D 70 rfl) rfl) rfl ?_
    refine gq (XS.i2c Xl.here hx rfl (D 71 rfl) rfl) rfl ?_
    show Go p e below _ (Tl.setTop (mkF m 99 #[vr a1, vi (Int32.ofNat bs.length), vi ct, vi (Int32.ofNat d), vi (Int32.ofNat B.length)] [(.int (((48 : Int32) + ((ct / (10 : Int32)) % (10 : Int32))).toUInt32.toUInt16.toUInt32.toInt32)), (.int (Int32.ofNat B.length)), (.ref a1)]))
    rw [show (((48 : Int32) + ((ct / (10 : Int32)) % (10 : Int32))).toUInt32.toUInt16.toUInt32.toInt32) = dgc (ct / (10 : Int32)) from rfl]
    show Go p e below _ (Tl.setTop (mkF m 99 #[vr a1, vi (Int32.ofNat bs.length), vi ct, vi (Int32.ofNat d), vi (Int32.ofNat B.length)] [(.int (dgc (ct / (10 : Int32)))), (.int (Int32.ofNat B.length)), (.ref a1)]))
    refine sC Xl hx hZ rfl V_a1 (by exact o_in (by omega) (by omega)) (B.length + 0) (by exact o_nat (by omega)) (lt_app _ _ (Nat.le_of_ble_eq_true rfl)) (dgc (ct / (10 : Int32))) (show nar .char (dgc (ct / (10 : Int32))) = (dgc (ct / (10 : Int32))) from nar_c (i2c_bd _)) (D 72 rfl) fun T417 h417 X417 e417 W417 Vn417 => ?_
    replace V_a1 := Vn417
    clear Vn417
    replace K0 := K0.wr W417 (Or.inl (List.mem_of_getElem? (i := 0) rfl))
    have N417 := Fr.snoc X417 Nl g_a1
    replace V_a1 : Arv Z h417 a1 kc .char (Int32.ofNat (bs.length + (d + 17))) (B ++ ((.int (dgc (ct / (10 : Int32)))) :: (.int (0 : Int32)) :: (.int (0 : Int32)) :: (.int (0 : Int32)) :: (.int (0 : Int32)) :: (.int (0 : Int32)) :: (.int (0 : Int32)) :: (.int (0 : Int32)) :: (.int (0 : Int32)) :: (.int (0 : Int32)) :: (.int (0 : Int32)) :: (.int (0 : Int32)) :: (.int (0 : Int32)) :: (.int (0 : Int32)) :: [])) (.int 0) := arv_eq V_a1 (set_app B _ 0 _)
    refine ga X417 hx (D 73 rfl) rfl rfl ?_
    refine gI X417 hx (D 74 rfl) rfl ?_
    refine gk X417 hx 1 (D 75 rfl) rfl ?_
    refine gq (XS.iadd X417.here hx rfl (D 76 rfl) rfl) rfl ?_
    refine gb X417 hx 48 (D 77 rfl) rfl ?_
    refine gi X417 hx (D 78 rfl) rfl ?_
    refine gb X417 hx 10 (D 79 rfl) rfl ?_
    refine gq (iremM X417 hx rfl (D 80 rfl) rfl (by first | assumption | decide)) rfl ?_
    refine gq (XS.iadd X417.here hx rfl (D 81 rfl) rfl) rfl ?_
    refine gq (XS.i2c X417.here hx rfl (D 82 rfl) rfl) rfl ?_
    show Go p e below _ (T417.setTop (mkF m 113 #[vr a1, vi (Int32.ofNat bs.length), vi ct, vi (Int32.ofNat d), vi (Int32.ofNat B.length)] [(.int (((48 : Int32) + (ct % (10 : Int32))).toUInt32.toUInt16.toUInt32.toInt32)), (.int ((Int32.ofNat B.length) + (1 : Int32))), (.ref a1)]))
    rw [show (((48 : Int32) + (ct % (10 : Int32))).toUInt32.toUInt16.toUInt32.toInt32) = dgc ct from rfl]
    show Go p e below _ (T417.setTop (mkF m 113 #[vr a1, vi (Int32.ofNat bs.length), vi ct, vi (Int32.ofNat d), vi (Int32.ofNat B.length)] [(.int (dgc ct)), (.int ((Int32.ofNat B.length) + (1 : Int32))), (.ref a1)]))
    refine sC X417 hx hZ e417 V_a1 (by rw [o_one]; exact o_in (by omega) (by omega)) (B.length + 1) (by rw [o_one]; exact o_nat (by omega)) (lt_app _ _ (Nat.le_of_ble_eq_true rfl)) (dgc ct) (show nar .char (dgc ct) = (dgc ct) from nar_c (i2c_bd _)) (D 83 rfl) fun T418 h418 X418 e418 W418 Vn418 => ?_
    replace V_a1 := Vn418
    clear Vn418
    replace K0 := K0.wr W418 (Or.inl (List.mem_of_getElem? (i := 0) rfl))
    have N418 := Fr.snoc X418 N417 g_a1
    replace V_a1 : Arv Z h418 a1 kc .char (Int32.ofNat (bs.length + (d + 17))) (B ++ ((.int (dgc (ct / (10 : Int32)))) :: (.int (dgc ct)) :: (.int (0 : Int32)) :: (.int (0 : Int32)) :: (.int (0 : Int32)) :: (.int (0 : Int32)) :: (.int (0 : Int32)) :: (.int (0 : Int32)) :: (.int (0 : Int32)) :: (.int (0 : Int32)) :: (.int (0 : Int32)) :: (.int (0 : Int32)) :: (.int (0 : Int32)) :: (.int (0 : Int32)) :: [])) (.int 0) := arv_eq V_a1 (set_app B _ 1 _)
    refine gn X418 hx #[vr a1, vi (Int32.ofNat bs.length), vi ct, vi (Int32.ofNat d), vi ((Int32.ofNat B.length) + (2 : Int32))] (D 84 rfl) rfl rfl ?_
    refine ga X418 hx (D 85 rfl) rfl rfl ?_
    refine gI X418 hx (D 86 rfl) rfl ?_
    show Go p e below _ (T418.setTop (mkF m 120 #[vr a1, vi (Int32.ofNat bs.length), vi ct, vi (Int32.ofNat d), vi ((Int32.ofNat B.length) + (2 : Int32))] [(.int ((Int32.ofNat B.length) + (2 : Int32))), (.ref a1)]))
    rw [show Int32.ofNat B.length + (2 : Int32) = Int32.ofNat (B.length + 2) from o_add _ 2]
    refine gb X418 hx 32 (D 87 rfl) rfl ?_
    show Go p e below _ (T418.setTop (mkF m 122 #[vr a1, vi (Int32.ofNat bs.length), vi ct, vi (Int32.ofNat d), vi (Int32.ofNat (B.length + 2))] [(.int (32 : Int32)), (.int (Int32.ofNat (B.length + 2))), (.ref a1)]))
    refine sC X418 hx hZ e418 V_a1 (by exact o_in (by omega) (by omega)) (B.length + 2) (by exact o_nat (by omega)) (lt_app _ _ (Nat.le_of_ble_eq_true rfl)) (32 : Int32) (show nar .char (32 : Int32) = (32 : Int32) from rfl) (D 88 rfl) fun T419 h419 X419 e419 W419 Vn419 => ?_
    replace V_a1 := Vn419
    clear Vn419
    replace K0 := K0.wr W419 (Or.inl (List.mem_of_getElem? (i := 0) rfl))
    have N419 := Fr.snoc X419 N418 g_a1
    replace V_a1 : Arv Z h419 a1 kc .char (Int32.ofNat (bs.length + (d + 17))) (B ++ ((.int (dgc (ct / (10 : Int32)))) :: (.int (dgc ct)) :: (.int (32 : Int32)) :: (.int (0 : Int32)) :: (.int (0 : Int32)) :: (.int (0 : Int32)) :: (.int (0 : Int32)) :: (.int (0 : Int32)) :: (.int (0 : Int32)) :: (.int (0 : Int32)) :: (.int (0 : Int32)) :: (.int (0 : Int32)) :: (.int (0 : Int32)) :: (.int (0 : Int32)) :: [])) (.int 0) := arv_eq V_a1 (set_app B _ 2 _)
    refine ga X419 hx (D 89 rfl) rfl rfl ?_
    refine gI X419 hx (D 90 rfl) rfl ?_
    refine gk X419 hx 1 (D 91 rfl) rfl ?_
    refine gq (XS.iadd X419.here hx rfl (D 92 rfl) rfl) rfl ?_
    refine gb X419 hx 99 (D 93 rfl) rfl ?_
    show Go p e below _ (T419.setTop (mkF m 130 #[vr a1, vi (Int32.ofNat bs.length), vi ct, vi (Int32.ofNat d), vi (Int32.ofNat (B.length + 2))] [(.int (99 : Int32)), (.int ((Int32.ofNat (B.length + 2)) + (1 : Int32))), (.ref a1)]))
    refine sC X419 hx hZ e419 V_a1 (by rw [show Int32.ofNat (B.length + 2) + (1 : Int32) = Int32.ofNat (B.length + 2 + 1) from o_add _ 1]; exact o_in (by omega) (by omega)) (B.length + 3) (by rw [show Int32.ofNat (B.length + 2) + (1 : Int32) = Int32.ofNat (B.length + 2 + 1) from o_add _ 1]; exact o_nat (by omega)) (lt_app _ _ (Nat.le_of_ble_eq_true rfl)) (99 : Int32) (show nar .char (99 : Int32) = (99 : Int32) from rfl) (D 94 rfl) fun T420 h420 X420 e420 W420 Vn420 => ?_
    replace V_a1 := Vn420
    clear Vn420
    replace K0 := K0.wr W420 (Or.inl (List.mem_of_getElem? (i := 0) rfl))
    have N420 := Fr.snoc X420 N419 g_a1
    replace V_a1 : Arv Z h420 a1 kc .char (Int32.ofNat (bs.length + (d + 17))) (B ++ ((.int (dgc (ct / (10 : Int32)))) :: (.int (dgc ct)) :: (.int (32 : Int32)) :: (.int (99 : Int32)) :: (.int (0 : Int32)) :: (.int (0 : Int32)) :: (.int (0 : Int32)) :: (.int (0 : Int32)) :: (.int (0 : Int32)) :: (.int (0 : Int32)) :: (.int (0 : Int32)) :: (.int (0 : Int32)) :: (.int (0 : Int32)) :: (.int (0 : Int32)) :: [])) (.int 0) := arv_eq V_a1 (set_app B _ 3 _)
    refine ga X420 hx (D 95 rfl) rfl rfl ?_
    refine gI X420 hx (D 96 rfl) rfl ?_
    refine gk X420 hx 2 (D 97 rfl) rfl ?_
    refine gq (XS.iadd X420.here hx rfl (D 98 rfl) rfl) rfl ?_
    refine gb X420 hx 104 (D 99 rfl) rfl ?_
    show Go p e below _ (T420.setTop (mkF m 138 #[vr a1, vi (Int32.ofNat bs.length), vi ct, vi (Int32.ofNat d), vi (Int32.ofNat (B.length + 2))] [(.int (104 : Int32)), (.int ((Int32.ofNat (B.length + 2)) + (2 : Int32))), (.ref a1)]))
    refine sC X420 hx hZ e420 V_a1 (by rw [show Int32.ofNat (B.length + 2) + (2 : Int32) = Int32.ofNat (B.length + 2 + 2) from o_add _ 2]; exact o_in (by omega) (by omega)) (B.length + 4) (by rw [show Int32.ofNat (B.length + 2) + (2 : Int32) = Int32.ofNat (B.length + 2 + 2) from o_add _ 2]; exact o_nat (by omega)) (lt_app _ _ (Nat.le_of_ble_eq_true rfl)) (104 : Int32) (show nar .char (104 : Int32) = (104 : Int32) from rfl) (D 100 rfl) fun T421 h421 X421 e421 W421 Vn421 => ?_
    replace V_a1 := Vn421
    clear Vn421
    replace K0 := K0.wr W421 (Or.inl (List.mem_of_getElem? (i := 0) rfl))
    have N421 := Fr.snoc X421 N420 g_a1
    replace V_a1 : Arv Z h421 a1 kc .char (Int32.ofNat (bs.length + (d + 17))) (B ++ ((.int (dgc (ct / (10 : Int32)))) :: (.int (dgc ct)) :: (.int (32 : Int32)) :: (.int (99 : Int32)) :: (.int (104 : Int32)) :: (.int (0 : Int32)) :: (.int (0 : Int32)) :: (.int (0 : Int32)) :: (.int (0 : Int32)) :: (.int (0 : Int32)) :: (.int (0 : Int32)) :: (.int (0 : Int32)) :: (.int (0 : Int32)) :: (.int (0 : Int32)) :: [])) (.int 0) := arv_eq V_a1 (set_app B _ 4 _)
    refine ga X421 hx (D 101 rfl) rfl rfl ?_
    refine gI X421 hx (D 102 rfl) rfl ?_
    refine gk X421 hx 3 (D 103 rfl) rfl ?_
    refine gq (XS.iadd X421.here hx rfl (D 104 rfl) rfl) rfl ?_
    refine gb X421 hx 97 (D 105 rfl) rfl ?_
    show Go p e below _ (T421.setTop (mkF m 146 #[vr a1, vi (Int32.ofNat bs.length), vi ct, vi (Int32.ofNat d), vi (Int32.ofNat (B.length + 2))] [(.int (97 : Int32)), (.int ((Int32.ofNat (B.length + 2)) + (3 : Int32))), (.ref a1)]))
    refine sC X421 hx hZ e421 V_a1 (by rw [show Int32.ofNat (B.length + 2) + (3 : Int32) = Int32.ofNat (B.length + 2 + 3) from o_add _ 3]; exact o_in (by omega) (by omega)) (B.length + 5) (by rw [show Int32.ofNat (B.length + 2) + (3 : Int32) = Int32.ofNat (B.length + 2 + 3) from o_add _ 3]; exact o_nat (by omega)) (lt_app _ _ (Nat.le_of_ble_eq_true rfl)) (97 : Int32) (show nar .char (97 : Int32) = (97 : Int32) from rfl) (D 106 rfl) fun T422 h422 X422 e422 W422 Vn422 => ?_
    replace V_a1 := Vn422
    clear Vn422
    replace K0 := K0.wr W422 (Or.inl (List.mem_of_getElem? (i := 0) rfl))
    have N422 := Fr.snoc X422 N421 g_a1
    replace V_a1 : Arv Z h422 a1 kc .char (Int32.ofNat (bs.length + (d + 17))) (B ++ ((.int (dgc (ct / (10 : Int32)))) :: (.int (dgc ct)) :: (.int (32 : Int32)) :: (.int (99 : Int32)) :: (.int (104 : Int32)) :: (.int (97 : Int32)) :: (.int (0 : Int32)) :: (.int (0 : Int32)) :: (.int (0 : Int32)) :: (.int (0 : Int32)) :: (.int (0 : Int32)) :: (.int (0 : Int32)) :: (.int (0 : Int32)) :: (.int (0 : Int32)) :: [])) (.int 0) := arv_eq V_a1 (set_app B _ 5 _)
    refine ga X422 hx (D 107 rfl) rfl rfl ?_
    refine gI X422 hx (D 108 rfl) rfl ?_
    refine gk X422 hx 4 (D 109 rfl) rfl ?_
    refine gq (XS.iadd X422.here hx rfl (D 110 rfl) rfl) rfl ?_
    refine gb X422 hx 114 (D 111 rfl) rfl ?_
    show Go p e below _ (T422.setTop (mkF m 154 #[vr a1, vi (Int32.ofNat bs.length), vi ct, vi (Int32.ofNat d), vi (Int32.ofNat (B.length + 2))] [(.int (114 : Int32)), (.int ((Int32.ofNat (B.length + 2)) + (4 : Int32))), (.ref a1)]))
    refine sC X422 hx hZ e422 V_a1 (by rw [show Int32.ofNat (B.length + 2) + (4 : Int32) = Int32.ofNat (B.length + 2 + 4) from o_add _ 4]; exact o_in (by omega) (by omega)) (B.length + 6) (by rw [show Int32.ofNat (B.length + 2) + (4 : Int32) = Int32.ofNat (B.length + 2 + 4) from o_add _ 4]; exact o_nat (by omega)) (lt_app _ _ (Nat.le_of_ble_eq_true rfl)) (114 : Int32) (show nar .char (114 : Int32) = (114 : Int32) from rfl) (D 112 rfl) fun T423 h423 X423 e423 W423 Vn423 => ?_
    replace V_a1 := Vn423
    clear Vn423
    replace K0 := K0.wr W423 (Or.inl (List.mem_of_getElem? (i := 0) rfl))
    have N423 := Fr.snoc X423 N422 g_a1
    replace V_a1 : Arv Z h423 a1 kc .char (Int32.ofNat (bs.length + (d + 17))) (B ++ ((.int (dgc (ct / (10 : Int32)))) :: (.int (dgc ct)) :: (.int (32 : Int32)) :: (.int (99 : Int32)) :: (.int (104 : Int32)) :: (.int (97 : Int32)) :: (.int (114 : Int32)) :: (.int (0 : Int32)) :: (.int (0 : Int32)) :: (.int (0 : Int32)) :: (.int (0 : Int32)) :: (.int (0 : Int32)) :: (.int (0 : Int32)) :: (.int (0 : Int32)) :: [])) (.int 0) := arv_eq V_a1 (set_app B _ 6 _)
    refine ga X423 hx (D 113 rfl) rfl rfl ?_
    refine gI X423 hx (D 114 rfl) rfl ?_
    refine gk X423 hx 5 (D 115 rfl) rfl ?_
    refine gq (XS.iadd X423.here hx rfl (D 116 rfl) rfl) rfl ?_
    refine gb X423 hx 97 (D 117 rfl) rfl ?_
    show Go p e below _ (T423.setTop (mkF m 162 #[vr a1, vi (Int32.ofNat bs.length), vi ct, vi (Int32.ofNat d), vi (Int32.ofNat (B.length + 2))] [(.int (97 : Int32)), (.int ((Int32.ofNat (B.length + 2)) + (5 : Int32))), (.ref a1)]))
    refine sC X423 hx hZ e423 V_a1 (by rw [show Int32.ofNat (B.length + 2) + (5 : Int32) = Int32.ofNat (B.length + 2 + 5) from o_add _ 5]; exact o_in (by omega) (by omega)) (B.length + 7) (by rw [show Int32.ofNat (B.length + 2) + (5 : Int32) = Int32.ofNat (B.length + 2 + 5) from o_add _ 5]; exact o_nat (by omega)) (lt_app _ _ (Nat.le_of_ble_eq_true rfl)) (97 : Int32) (show nar .char (97 : Int32) = (97 : Int32) from rfl) (D 118 rfl) fun T424 h424 X424 e424 W424 Vn424 => ?_
    replace V_a1 := Vn424
    clear Vn424
    replace K0 := K0.wr W424 (Or.inl (List.mem_of_getElem? (i := 0) rfl))
    have N424 := Fr.snoc X424 N423 g_a1
    replace V_a1 : Arv Z h424 a1 kc .char (Int32.ofNat (bs.length + (d + 17))) (B ++ ((.int (dgc (ct / (10 : Int32)))) :: (.int (dgc ct)) :: (.int (32 : Int32)) :: (.int (99 : Int32)) :: (.int (104 : Int32)) :: (.int (97 : Int32)) :: (.int (114 : Int32)) :: (.int (97 : Int32)) :: (.int (0 : Int32)) :: (.int (0 : Int32)) :: (.int (0 : Int32)) :: (.int (0 : Int32)) :: (.int (0 : Int32)) :: (.int (0 : Int32)) :: [])) (.int 0) := arv_eq V_a1 (set_app B _ 7 _)
    refine ga X424 hx (D 119 rfl) rfl rfl ?_
    refine gI X424 hx (D 120 rfl) rfl ?_
    refine gb X424 hx 6 (D 121 rfl) rfl ?_
    refine gq (XS.iadd X424.here hx rfl (D 122 rfl) rfl) rfl ?_
    refine gb X424 hx 99 (D 123 rfl) rfl ?_
    show Go p e below _ (T424.setTop (mkF m 171 #[vr a1, vi (Int32.ofNat bs.length), vi ct, vi (Int32.ofNat d), vi (Int32.ofNat (B.length + 2))] [(.int (99 : Int32)), (.int ((Int32.ofNat (B.length + 2)) + (6 : Int32))), (.ref a1)]))
    refine sC X424 hx hZ e424 V_a1 (by rw [show Int32.ofNat (B.length + 2) + (6 : Int32) = Int32.ofNat (B.length + 2 + 6) from o_add _ 6]; exact o_in (by omega) (by omega)) (B.length + 8) (by rw [show Int32.ofNat (B.length + 2) + (6 : Int32) = Int32.ofNat (B.length + 2 + 6) from o_add _ 6]; exact o_nat (by omega)) (lt_app _ _ (Nat.le_of_ble_eq_true rfl)) (99 : Int32) (show nar .char (99 : Int32) = (99 : Int32) from rfl) (D 124 rfl) fun T425 h425 X425 e425 W425 Vn425 => ?_
    replace V_a1 := Vn425
    clear Vn425
    replace K0 := K0.wr W425 (Or.inl (List.mem_of_getElem? (i := 0) rfl))
    have N425 := Fr.snoc X425 N424 g_a1
    replace V_a1 : Arv Z h425 a1 kc .char (Int32.ofNat (bs.length + (d + 17))) (B ++ ((.int (dgc (ct / (10 : Int32)))) :: (.int (dgc ct)) :: (.int (32 : Int32)) :: (.int (99 : Int32)) :: (.int (104 : Int32)) :: (.int (97 : Int32)) :: (.int (114 : Int32)) :: (.int (97 : Int32)) :: (.int (99 : Int32)) :: (.int (0 : Int32)) :: (.int (0 : Int32)) :: (.int (0 : Int32)) :: (.int (0 : Int32)) :: (.int (0 : Int32)) :: [])) (.int 0) := arv_eq V_a1 (set_app B _ 8 _)
    refine ga X425 hx (D 125 rfl) rfl rfl ?_
    refine gI X425 hx (D 126 rfl) rfl ?_
    refine gb X425 hx 7 (D 127 rfl) rfl ?_
    refine gq (XS.iadd X425.here hx rfl (D 128 rfl) rfl) rfl ?_
    refine gb X425 hx 116 (D 129 rfl) rfl ?_
    show Go p e below _ (T425.setTop (mkF m 180 #[vr a1, vi (Int32.ofNat bs.length), vi ct, vi (Int32.ofNat d), vi (Int32.ofNat (B.length + 2))] [(.int (116 : Int32)), (.int ((Int32.ofNat (B.length + 2)) + (7 : Int32))), (.ref a1)]))
    refine sC X425 hx hZ e425 V_a1 (by rw [show Int32.ofNat (B.length + 2) + (7 : Int32) = Int32.ofNat (B.length + 2 + 7) from o_add _ 7]; exact o_in (by omega) (by omega)) (B.length + 9) (by rw [show Int32.ofNat (B.length + 2) + (7 : Int32) = Int32.ofNat (B.length + 2 + 7) from o_add _ 7]; exact o_nat (by omega)) (lt_app _ _ (Nat.le_of_ble_eq_true rfl)) (116 : Int32) (show nar .char (116 : Int32) = (116 : Int32) from rfl) (D 130 rfl) fun T426 h426 X426 e426 W426 Vn426 => ?_
    replace V_a1 := Vn426
    clear Vn426
    replace K0 := K0.wr W426 (Or.inl (List.mem_of_getElem? (i := 0) rfl))
    have N426 := Fr.snoc X426 N425 g_a1
    replace V_a1 : Arv Z h426 a1 kc .char (Int32.ofNat (bs.length + (d + 17))) (B ++ ((.int (dgc (ct / (10 : Int32)))) :: (.int (dgc ct)) :: (.int (32 : Int32)) :: (.int (99 : Int32)) :: (.int (104 : Int32)) :: (.int (97 : Int32)) :: (.int (114 : Int32)) :: (.int (97 : Int32)) :: (.int (99 : Int32)) :: (.int (116 : Int32)) :: (.int (0 : Int32)) :: (.int (0 : Int32)) :: (.int (0 : Int32)) :: (.int (0 : Int32)) :: [])) (.int 0) := arv_eq V_a1 (set_app B _ 9 _)
    refine ga X426 hx (D 131 rfl) rfl rfl ?_
    refine gI X426 hx (D 132 rfl) rfl ?_
    refine gb X426 hx 8 (D 133 rfl) rfl ?_
    refine gq (XS.iadd X426.here hx rfl (D 134 rfl) rfl) rfl ?_
    refine gb X426 hx 101 (D 135 rfl) rfl ?_
    show Go p e below _ (T426.setTop (mkF m 189 #[vr a1, vi (Int32.ofNat bs.length), vi ct, vi (Int32.ofNat d), vi (Int32.ofNat (B.length + 2))] [(.int (101 : Int32)), (.int ((Int32.ofNat (B.length + 2)) + (8 : Int32))), (.ref a1)]))
    refine sC X426 hx hZ e426 V_a1 (by rw [show Int32.ofNat (B.length + 2) + (8 : Int32) = Int32.ofNat (B.length + 2 + 8) from o_add _ 8]; exact o_in (by omega) (by omega)) (B.length + 10) (by rw [show Int32.ofNat (B.length + 2) + (8 : Int32) = Int32.ofNat (B.length + 2 + 8) from o_add _ 8]; exact o_nat (by omega)) (lt_app _ _ (Nat.le_of_ble_eq_true rfl)) (101 : Int32) (show nar .char (101 : Int32) = (101 : Int32) from rfl) (D 136 rfl) fun T427 h427 X427 e427 W427 Vn427 => ?_
    replace V_a1 := Vn427
    clear Vn427
    replace K0 := K0.wr W427 (Or.inl (List.mem_of_getElem? (i := 0) rfl))
    have N427 := Fr.snoc X427 N426 g_a1
    replace V_a1 : Arv Z h427 a1 kc .char (Int32.ofNat (bs.length + (d + 17))) (B ++ ((.int (dgc (ct / (10 : Int32)))) :: (.int (dgc ct)) :: (.int (32 : Int32)) :: (.int (99 : Int32)) :: (.int (104 : Int32)) :: (.int (97 : Int32)) :: (.int (114 : Int32)) :: (.int (97 : Int32)) :: (.int (99 : Int32)) :: (.int (116 : Int32)) :: (.int (101 : Int32)) :: (.int (0 : Int32)) :: (.int (0 : Int32)) :: (.int (0 : Int32)) :: [])) (.int 0) := arv_eq V_a1 (set_app B _ 10 _)
    refine ga X427 hx (D 137 rfl) rfl rfl ?_
    refine gI X427 hx (D 138 rfl) rfl ?_
    refine gb X427 hx 9 (D 139 rfl) rfl ?_
    refine gq (XS.iadd X427.here hx rfl (D 140 rfl) rfl) rfl ?_
    refine gb X427 hx 114 (D 141 rfl) rfl ?_
    show Go p e below _ (T427.setTop (mkF m 198 #[vr a1, vi (Int32.ofNat bs.length), vi ct, vi (Int32.ofNat d), vi (Int32.ofNat (B.length + 2))] [(.int (114 : Int32)), (.int ((Int32.ofNat (B.length + 2)) + (9 : Int32))), (.ref a1)]))
    refine sC X427 hx hZ e427 V_a1 (by rw [show Int32.ofNat (B.length + 2) + (9 : Int32) = Int32.ofNat (B.length + 2 + 9) from o_add _ 9]; exact o_in (by omega) (by omega)) (B.length + 11) (by rw [show Int32.ofNat (B.length + 2) + (9 : Int32) = Int32.ofNat (B.length + 2 + 9) from o_add _ 9]; exact o_nat (by omega)) (lt_app _ _ (Nat.le_of_ble_eq_true rfl)) (114 : Int32) (show nar .char (114 : Int32) = (114 : Int32) from rfl) (D 142 rfl) fun T428 h428 X428 e428 W428 Vn428 => ?_
    replace V_a1 := Vn428
    clear Vn428
    replace K0 := K0.wr W428 (Or.inl (List.mem_of_getElem? (i := 0) rfl))
    have N428 := Fr.snoc X428 N427 g_a1
    replace V_a1 : Arv Z h428 a1 kc .char (Int32.ofNat (bs.length + (d + 17))) (B ++ ((.int (dgc (ct / (10 : Int32)))) :: (.int (dgc ct)) :: (.int (32 : Int32)) :: (.int (99 : Int32)) :: (.int (104 : Int32)) :: (.int (97 : Int32)) :: (.int (114 : Int32)) :: (.int (97 : Int32)) :: (.int (99 : Int32)) :: (.int (116 : Int32)) :: (.int (101 : Int32)) :: (.int (114 : Int32)) :: (.int (0 : Int32)) :: (.int (0 : Int32)) :: [])) (.int 0) := arv_eq V_a1 (set_app B _ 11 _)
    refine ga X428 hx (D 143 rfl) rfl rfl ?_
    refine gI X428 hx (D 144 rfl) rfl ?_
    refine gb X428 hx 10 (D 145 rfl) rfl ?_
    refine gq (XS.iadd X428.here hx rfl (D 146 rfl) rfl) rfl ?_
    refine gb X428 hx 115 (D 147 rfl) rfl ?_
    show Go p e below _ (T428.setTop (mkF m 207 #[vr a1, vi (Int32.ofNat bs.length), vi ct, vi (Int32.ofNat d), vi (Int32.ofNat (B.length + 2))] [(.int (115 : Int32)), (.int ((Int32.ofNat (B.length + 2)) + (10 : Int32))), (.ref a1)]))
    refine sC X428 hx hZ e428 V_a1 (by rw [show Int32.ofNat (B.length + 2) + (10 : Int32) = Int32.ofNat (B.length + 2 + 10) from o_add _ 10]; exact o_in (by omega) (by omega)) (B.length + 12) (by rw [show Int32.ofNat (B.length + 2) + (10 : Int32) = Int32.ofNat (B.length + 2 + 10) from o_add _ 10]; exact o_nat (by omega)) (lt_app _ _ (Nat.le_of_ble_eq_true rfl)) (115 : Int32) (show nar .char (115 : Int32) = (115 : Int32) from rfl) (D 148 rfl) fun T429 h429 X429 e429 W429 Vn429 => ?_
    replace V_a1 := Vn429
    clear Vn429
    replace K0 := K0.wr W429 (Or.inl (List.mem_of_getElem? (i := 0) rfl))
    have N429 := Fr.snoc X429 N428 g_a1
    replace V_a1 : Arv Z h429 a1 kc .char (Int32.ofNat (bs.length + (d + 17))) (B ++ ((.int (dgc (ct / (10 : Int32)))) :: (.int (dgc ct)) :: (.int (32 : Int32)) :: (.int (99 : Int32)) :: (.int (104 : Int32)) :: (.int (97 : Int32)) :: (.int (114 : Int32)) :: (.int (97 : Int32)) :: (.int (99 : Int32)) :: (.int (116 : Int32)) :: (.int (101 : Int32)) :: (.int (114 : Int32)) :: (.int (115 : Int32)) :: (.int (0 : Int32)) :: [])) (.int 0) := arv_eq V_a1 (set_app B _ 12 _)
    refine ga X429 hx (D 149 rfl) rfl rfl ?_
    refine gI X429 hx (D 150 rfl) rfl ?_
    refine gb X429 hx 11 (D 151 rfl) rfl ?_
    refine gq (XS.iadd X429.here hx rfl (D 152 rfl) rfl) rfl ?_
    refine gb X429 hx 41 (D 153 rfl) rfl ?_
    show Go p e below _ (T429.setTop (mkF m 216 #[vr a1, vi (Int32.ofNat bs.length), vi ct, vi (Int32.ofNat d), vi (Int32.ofNat (B.length + 2))] [(.int (41 : Int32)), (.int ((Int32.ofNat (B.length + 2)) + (11 : Int32))), (.ref a1)]))
    refine sC X429 hx hZ e429 V_a1 (by rw [show Int32.ofNat (B.length + 2) + (11 : Int32) = Int32.ofNat (B.length + 2 + 11) from o_add _ 11]; exact o_in (by omega) (by omega)) (B.length + 13) (by rw [show Int32.ofNat (B.length + 2) + (11 : Int32) = Int32.ofNat (B.length + 2 + 11) from o_add _ 11]; exact o_nat (by omega)) (lt_app _ _ (Nat.le_of_ble_eq_true rfl)) (41 : Int32) (show nar .char (41 : Int32) = (41 : Int32) from rfl) (D 154 rfl) fun T430 h430 X430 e430 W430 Vn430 => ?_
    replace V_a1 := Vn430
    clear Vn430
    replace K0 := K0.wr W430 (Or.inl (List.mem_of_getElem? (i := 0) rfl))
    have N430 := Fr.snoc X430 N429 g_a1
    replace V_a1 : Arv Z h430 a1 kc .char (Int32.ofNat (bs.length + (d + 17))) (B ++ ((.int (dgc (ct / (10 : Int32)))) :: (.int (dgc ct)) :: (.int (32 : Int32)) :: (.int (99 : Int32)) :: (.int (104 : Int32)) :: (.int (97 : Int32)) :: (.int (114 : Int32)) :: (.int (97 : Int32)) :: (.int (99 : Int32)) :: (.int (116 : Int32)) :: (.int (101 : Int32)) :: (.int (114 : Int32)) :: (.int (115 : Int32)) :: (.int (41 : Int32)) :: [])) (.int 0) := arv_eq V_a1 (set_app B _ 13 _)
    replace V_a1 := arv_eq V_a1 (hq _ _ rfl rfl)
    exact Go.ret0 X430 hx Bd.returns Bd.notSynchronized (D 155 rfl) (by decide) (by decide) (by first | (rw [e430]; exact ⟨rfl, N430, K0, V_a1⟩) | exact ⟨rfl, N430, K0, V_a1⟩)
  replace V_a1 : Arv Z s₁.heap a1 kc .char (Int32.ofNat (bs.length + (d + 17))) (bs ++ ((.int (0 : Int32)) :: (.int (0 : Int32)) :: (.int (0 : Int32)) :: (.int (0 : Int32)) :: (.int (0 : Int32)) :: List.replicate (d + 12) (.int 0))) (.int 0) := V_a1
  refine ga X0 hx (D 0 rfl) rfl rfl ?_
  refine gi X0 hx (D 1 rfl) rfl ?_
  refine gb X0 hx 46 (D 2 rfl) rfl ?_
  show Go p e below _ (s₁.setTop (mkF m 4 #[vr a1, vi (Int32.ofNat bs.length), vi ct, vi (Int32.ofNat d), uu] [(.int (46 : Int32)), (.int (Int32.ofNat bs.length)), (.ref a1)]))
  refine sC X0 hx hZ rfl V_a1 (by exact o_in (by omega) (by omega)) (bs.length + 0) (by exact o_nat (by omega)) (lt_app _ _ (Nat.le_of_ble_eq_true rfl)) (46 : Int32) (show nar .char (46 : Int32) = (46 : Int32) from rfl) (D 3 rfl) fun T431 h431 X431 e431 W431 Vn431 => ?_
  replace V_a1 := Vn431
  clear Vn431
  replace K0 := K0.wr W431 (Or.inl (List.mem_of_getElem? (i := 0) rfl))
  have N431 := Fr.snoc X431 N0 g_a1
  replace V_a1 : Arv Z h431 a1 kc .char (Int32.ofNat (bs.length + (d + 17))) (bs ++ ((.int (46 : Int32)) :: (.int (0 : Int32)) :: (.int (0 : Int32)) :: (.int (0 : Int32)) :: (.int (0 : Int32)) :: List.replicate (d + 12) (.int 0))) (.int 0) := arv_eq V_a1 (set_app bs _ 0 _)
  refine ga X431 hx (D 4 rfl) rfl rfl ?_
  refine gi X431 hx (D 5 rfl) rfl ?_
  refine gk X431 hx 1 (D 6 rfl) rfl ?_
  refine gq (XS.iadd X431.here hx rfl (D 7 rfl) rfl) rfl ?_
  refine gb X431 hx 46 (D 8 rfl) rfl ?_
  show Go p e below _ (T431.setTop (mkF m 11 #[vr a1, vi (Int32.ofNat bs.length), vi ct, vi (Int32.ofNat d), uu] [(.int (46 : Int32)), (.int ((Int32.ofNat bs.length) + (1 : Int32))), (.ref a1)]))
  refine sC X431 hx hZ e431 V_a1 (by rw [show Int32.ofNat bs.length + (1 : Int32) = Int32.ofNat (bs.length + 1) from o_add _ 1]; exact o_in (by omega) (by omega)) (bs.length + 1) (by rw [show Int32.ofNat bs.length + (1 : Int32) = Int32.ofNat (bs.length + 1) from o_add _ 1]; exact o_nat (by omega)) (lt_app _ _ (Nat.le_of_ble_eq_true rfl)) (46 : Int32) (show nar .char (46 : Int32) = (46 : Int32) from rfl) (D 9 rfl) fun T432 h432 X432 e432 W432 Vn432 => ?_
  replace V_a1 := Vn432
  clear Vn432
  replace K0 := K0.wr W432 (Or.inl (List.mem_of_getElem? (i := 0) rfl))
  have N432 := Fr.snoc X432 N431 g_a1
  replace V_a1 : Arv Z h432 a1 kc .char (Int32.ofNat (bs.length + (d + 17))) (bs ++ ((.int (46 : Int32)) :: (.int (46 : Int32)) :: (.int (0 : Int32)) :: (.int (0 : Int32)) :: (.int (0 : Int32)) :: List.replicate (d + 12) (.int 0))) (.int 0) := arv_eq V_a1 (set_app bs _ 1 _)
  refine ga X432 hx (D 10 rfl) rfl rfl ?_
  refine gi X432 hx (D 11 rfl) rfl ?_
  refine gk X432 hx 2 (D 12 rfl) rfl ?_
  refine gq (XS.iadd X432.here hx rfl (D 13 rfl) rfl) rfl ?_
  refine gb X432 hx 46 (D 14 rfl) rfl ?_
  show Go p e below _ (T432.setTop (mkF m 18 #[vr a1, vi (Int32.ofNat bs.length), vi ct, vi (Int32.ofNat d), uu] [(.int (46 : Int32)), (.int ((Int32.ofNat bs.length) + (2 : Int32))), (.ref a1)]))
  refine sC X432 hx hZ e432 V_a1 (by rw [show Int32.ofNat bs.length + (2 : Int32) = Int32.ofNat (bs.length + 2) from o_add _ 2]; exact o_in (by omega) (by omega)) (bs.length + 2) (by rw [show Int32.ofNat bs.length + (2 : Int32) = Int32.ofNat (bs.length + 2) from o_add _ 2]; exact o_nat (by omega)) (lt_app _ _ (Nat.le_of_ble_eq_true rfl)) (46 : Int32) (show nar .char (46 : Int32) = (46 : Int32) from rfl) (D 15 rfl) fun T433 h433 X433 e433 W433 Vn433 => ?_
  replace V_a1 := Vn433
  clear Vn433
  replace K0 := K0.wr W433 (Or.inl (List.mem_of_getElem? (i := 0) rfl))
  have N433 := Fr.snoc X433 N432 g_a1
  replace V_a1 : Arv Z h433 a1 kc .char (Int32.ofNat (bs.length + (d + 17))) (bs ++ ((.int (46 : Int32)) :: (.int (46 : Int32)) :: (.int (46 : Int32)) :: (.int (0 : Int32)) :: (.int (0 : Int32)) :: List.replicate (d + 12) (.int 0))) (.int 0) := arv_eq V_a1 (set_app bs _ 2 _)
  refine ga X433 hx (D 16 rfl) rfl rfl ?_
  refine gi X433 hx (D 17 rfl) rfl ?_
  refine gk X433 hx 3 (D 18 rfl) rfl ?_
  refine gq (XS.iadd X433.here hx rfl (D 19 rfl) rfl) rfl ?_
  refine gb X433 hx 32 (D 20 rfl) rfl ?_
  show Go p e below _ (T433.setTop (mkF m 25 #[vr a1, vi (Int32.ofNat bs.length), vi ct, vi (Int32.ofNat d), uu] [(.int (32 : Int32)), (.int ((Int32.ofNat bs.length) + (3 : Int32))), (.ref a1)]))
  refine sC X433 hx hZ e433 V_a1 (by rw [show Int32.ofNat bs.length + (3 : Int32) = Int32.ofNat (bs.length + 3) from o_add _ 3]; exact o_in (by omega) (by omega)) (bs.length + 3) (by rw [show Int32.ofNat bs.length + (3 : Int32) = Int32.ofNat (bs.length + 3) from o_add _ 3]; exact o_nat (by omega)) (lt_app _ _ (Nat.le_of_ble_eq_true rfl)) (32 : Int32) (show nar .char (32 : Int32) = (32 : Int32) from rfl) (D 21 rfl) fun T434 h434 X434 e434 W434 Vn434 => ?_
  replace V_a1 := Vn434
  clear Vn434
  replace K0 := K0.wr W434 (Or.inl (List.mem_of_getElem? (i := 0) rfl))
  have N434 := Fr.snoc X434 N433 g_a1
  replace V_a1 : Arv Z h434 a1 kc .char (Int32.ofNat (bs.length + (d + 17))) (bs ++ ((.int (46 : Int32)) :: (.int (46 : Int32)) :: (.int (46 : Int32)) :: (.int (32 : Int32)) :: (.int (0 : Int32)) :: List.replicate (d + 12) (.int 0))) (.int 0) := arv_eq V_a1 (set_app bs _ 3 _)
  refine ga X434 hx (D 22 rfl) rfl rfl ?_
  refine gi X434 hx (D 23 rfl) rfl ?_
  refine gk X434 hx 4 (D 24 rfl) rfl ?_
  refine gq (XS.iadd X434.here hx rfl (D 25 rfl) rfl) rfl ?_
  refine gb X434 hx 40 (D 26 rfl) rfl ?_
  show Go p e below _ (T434.setTop (mkF m 32 #[vr a1, vi (Int32.ofNat bs.length), vi ct, vi (Int32.ofNat d), uu] [(.int (40 : Int32)), (.int ((Int32.ofNat bs.length) + (4 : Int32))), (.ref a1)]))
  refine sC X434 hx hZ e434 V_a1 (by rw [show Int32.ofNat bs.length + (4 : Int32) = Int32.ofNat (bs.length + 4) from o_add _ 4]; exact o_in (by omega) (by omega)) (bs.length + 4) (by rw [show Int32.ofNat bs.length + (4 : Int32) = Int32.ofNat (bs.length + 4) from o_add _ 4]; exact o_nat (by omega)) (lt_app _ _ (Nat.le_of_ble_eq_true rfl)) (40 : Int32) (show nar .char (40 : Int32) = (40 : Int32) from rfl) (D 27 rfl) fun T435 h435 X435 e435 W435 Vn435 => ?_
  replace V_a1 := Vn435
  clear Vn435
  replace K0 := K0.wr W435 (Or.inl (List.mem_of_getElem? (i := 0) rfl))
  have N435 := Fr.snoc X435 N434 g_a1
  replace V_a1 : Arv Z h435 a1 kc .char (Int32.ofNat (bs.length + (d + 17))) (bs ++ ((.int (46 : Int32)) :: (.int (46 : Int32)) :: (.int (46 : Int32)) :: (.int (32 : Int32)) :: (.int (40 : Int32)) :: List.replicate (d + 12) (.int 0))) (.int 0) := arv_eq V_a1 (set_app bs _ 4 _)
  refine gi X435 hx (D 28 rfl) rfl ?_
  refine gk X435 hx 5 (D 29 rfl) rfl ?_
  refine gq (XS.iadd X435.here hx rfl (D 30 rfl) rfl) rfl ?_
  have hB5 : (bs ++ [Value.int 46, Value.int 46, Value.int 46, Value.int 32, Value.int 40]).length = bs.length + 5 := by rw [List.length_append]; rfl
  show Go p e below _ (T435.setTop (mkF m 36 #[vr a1, vi (Int32.ofNat bs.length), vi ct, vi (Int32.ofNat d), uu] [(.int ((Int32.ofNat bs.length) + (5 : Int32)))]))
  rw [show ((Int32.ofNat bs.length) + (5 : Int32)) = Int32.ofNat (bs ++ [Value.int 46, Value.int 46, Value.int 46, Value.int 32, Value.int 40]).length from by rw [hB5]; exact o_add _ 5]
  replace V_a1 : Arv Z h435 a1 kc .char (Int32.ofNat (bs.length + (d + 17))) ((bs ++ [Value.int 46, Value.int 46, Value.int 46, Value.int 32, Value.int 40]) ++ List.replicate (d + 12) (.int 0)) (.int 0) := arv_eq V_a1 (by rw [List.append_assoc]; rfl)
  refine gT X435 hx #[vr a1, vi (Int32.ofNat bs.length), vi ct, vi (Int32.ofNat d), vi (Int32.ofNat (bs ++ [Value.int 46, Value.int 46, Value.int 46, Value.int 32, Value.int 40]).length)] (D 31 rfl) rfl ?_
  refine gi X435 hx (D 32 rfl) rfl ?_
  refine gk X435 hx 4 (D 33 rfl) rfl ?_
  rcases hd with ⟨rfl, rfl⟩ | ⟨rfl, rfl⟩ | ⟨rfl, rfl⟩
  ·
    refine cY X435 hx 62 (D 34 rfl) (feq (by decide : ¬ ((Int32.ofNat 2) = (4 : Int32)))).2 (by decide) ?_
    refine gi X435 hx (D 47 rfl) rfl ?_
    refine gk X435 hx 3 (D 48 rfl) rfl ?_
    refine cY X435 hx 85 (D 49 rfl) (tlt (by decide : (Int32.ofNat 2) < (3 : Int32))).1 (by decide) ?_
    subst e435
    exact tail (bs ++ [Value.int 46, Value.int 46, Value.int 46, Value.int 32, Value.int 40]) _ _ (by rw [hB5]) (by intro t o ht ho; subst ht ho; simp only [sufL, tailL, List.append_assoc]; rfl) X435 N435 K0 V_a1
  ·
    refine cY X435 hx 62 (D 34 rfl) (feq (by decide : ¬ ((Int32.ofNat 3) = (4 : Int32)))).2 (by decide) ?_
    refine gi X435 hx (D 47 rfl) rfl ?_
    refine gk X435 hx 3 (D 48 rfl) rfl ?_
    refine cN X435 hx (D 49 rfl) (flt (by decide : ¬ ((Int32.ofNat 3) < (3 : Int32)))).1 ?_
    refine ga X435 hx (D 50 rfl) rfl rfl ?_
    refine gI X435 hx (D 51 rfl) rfl ?_
    refine gb X435 hx 48 (D 52 rfl) rfl ?_
    refine gi X435 hx (D 53 rfl) rfl ?_
    refine gb X435 hx 100 (D 54 rfl) rfl ?_
    refine gq (XS.idiv X435.here hx rfl (D 55 rfl) rfl (by first | assumption | decide)) rfl ?_
    refine gb X435 hx 10 (D 56 rfl) rfl ?_
    refine gq (iremM X435 hx rfl (D 57 rfl) rfl (by first | assumption | decide)) rfl ?_
    refine gq (XS.iadd X435.here hx rfl (D 58 rfl) rfl) rfl ?_
    refine gq (XS.i2c X435.here hx rfl (D 59 rfl) rfl) rfl ?_
    show Go p e below _ (T435.setTop (mkF m 81 #[vr a1, vi (Int32.ofNat bs.length), vi ct, vi (Int32.ofNat 3), vi (Int32.ofNat (bs ++ [Value.int 46, Value.int 46, Value.int 46, Value.int 32, Value.int 40]).length)] [(.int (((48 : Int32) + ((ct / (100 : Int32)) % (10 : Int32))).toUInt32.toUInt16.toUInt32.toInt32)), (.int (Int32.ofNat (bs ++ [Value.int 46, Value.int 46, Value.int 46, Value.int 32, Value.int 40]).length)), (.ref a1)]))
    rw [show (((48 : Int32) + ((ct / (100 : Int32)) % (10 : Int32))).toUInt32.toUInt16.toUInt32.toInt32) = dgc (ct / (100 : Int32)) from rfl]
    replace V_a1 : Arv Z h435 a1 kc .char (Int32.ofNat (bs.length + (3 + 17))) ((bs ++ [Value.int 46, Value.int 46, Value.int 46, Value.int 32, Value.int 40]) ++ ((.int (0 : Int32)) :: List.replicate 14 (.int 0))) (.int 0) := V_a1
    show Go p e below _ (T435.setTop (mkF m 81 #[vr a1, vi (Int32.ofNat bs.length), vi ct, vi (Int32.ofNat 3), vi (Int32.ofNat (bs ++ [Value.int 46, Value.int 46, Value.int 46, Value.int 32, Value.int 40]).length)] [(.int (dgc (ct / (100 : Int32)))), (.int (Int32.ofNat (bs ++ [Value.int 46, Value.int 46, Value.int 46, Value.int 32, Value.int 40]).length)), (.ref a1)]))
    refine sC X435 hx hZ e435 V_a1 (by exact o_in (by omega) (by omega)) ((bs ++ [Value.int 46, Value.int 46, Value.int 46, Value.int 32, Value.int 40]).length + 0) (by exact o_nat (by omega)) (lt_app _ _ (Nat.le_of_ble_eq_true rfl)) (dgc (ct / (100 : Int32))) (show nar .char (dgc (ct / (100 : Int32))) = (dgc (ct / (100 : Int32))) from nar_c (i2c_bd _)) (D 60 rfl) fun T436 h436 X436 e436 W436 Vn436 => ?_
    replace V_a1 := Vn436
    clear Vn436
    replace K0 := K0.wr W436 (Or.inl (List.mem_of_getElem? (i := 0) rfl))
    have N436 := Fr.snoc X436 N435 g_a1
    replace V_a1 : Arv Z h436 a1 kc .char (Int32.ofNat (bs.length + (3 + 17))) ((bs ++ [Value.int 46, Value.int 46, Value.int 46, Value.int 32, Value.int 40]) ++ ((.int (dgc (ct / (100 : Int32)))) :: List.replicate 14 (.int 0))) (.int 0) := arv_eq V_a1 (set_app (bs ++ [Value.int 46, Value.int 46, Value.int 46, Value.int 32, Value.int 40]) _ 0 _)
    refine gn X436 hx #[vr a1, vi (Int32.ofNat bs.length), vi ct, vi (Int32.ofNat 3), vi ((Int32.ofNat (bs ++ [Value.int 46, Value.int 46, Value.int 46, Value.int 32, Value.int 40]).length) + (1 : Int32))] (D 61 rfl) rfl rfl ?_
    show Go p e below _ (T436.setTop (mkF m 85 #[vr a1, vi (Int32.ofNat bs.length), vi ct, vi (Int32.ofNat 3), vi ((Int32.ofNat (bs ++ [Value.int 46, Value.int 46, Value.int 46, Value.int 32, Value.int 40]).length) + (1 : Int32))] []))
    have hB7 : ((bs ++ [Value.int 46, Value.int 46, Value.int 46, Value.int 32, Value.int 40]) ++ [Value.int (dgc (ct / (100 : Int32)))]).length = (bs ++ [Value.int 46, Value.int 46, Value.int 46, Value.int 32, Value.int 40]).length + 1 := by rw [List.length_append]; rfl
    rw [show Int32.ofNat (bs ++ [Value.int 46, Value.int 46, Value.int 46, Value.int 32, Value.int 40]).length + (1 : Int32) = Int32.ofNat ((bs ++ [Value.int 46, Value.int 46, Value.int 46, Value.int 32, Value.int 40]) ++ [Value.int (dgc (ct / (100 : Int32)))]).length from by rw [hB7]; exact o_add _ 1]
    replace V_a1 : Arv Z h436 a1 kc .char (Int32.ofNat (bs.length + (3 + 17))) (((bs ++ [Value.int 46, Value.int 46, Value.int 46, Value.int 32, Value.int 40]) ++ [Value.int (dgc (ct / (100 : Int32)))]) ++ List.replicate 14 (.int 0)) (.int 0) := arv_eq V_a1 (List.append_cons _ _ _)
    subst e436
    exact tail ((bs ++ [Value.int 46, Value.int 46, Value.int 46, Value.int 32, Value.int 40]) ++ [Value.int (dgc (ct / (100 : Int32)))]) _ _ (by rw [hB7, hB5]) (by intro t o ht ho; subst ht ho; simp only [sufL, tailL, List.append_assoc]; rfl) X436 N436 K0 V_a1
  ·
    refine cN X435 hx (D 34 rfl) (teq (rfl : (Int32.ofNat 4) = (4 : Int32))).2 ?_
    refine ga X435 hx (D 35 rfl) rfl rfl ?_
    refine gI X435 hx (D 36 rfl) rfl ?_
    refine gb X435 hx 48 (D 37 rfl) rfl ?_
    refine gi X435 hx (D 38 rfl) rfl ?_
    refine gs X435 hx 1000 (D 39 rfl) rfl ?_
    refine gq (XS.idiv X435.here hx rfl (D 40 rfl) rfl (by first | assumption | decide)) rfl ?_
    refine gb X435 hx 10 (D 41 rfl) rfl ?_
    refine gq (iremM X435 hx rfl (D 42 rfl) rfl (by first | assumption | decide)) rfl ?_
    refine gq (XS.iadd X435.here hx rfl (D 43 rfl) rfl) rfl ?_
    refine gq (XS.i2c X435.here hx rfl (D 44 rfl) rfl) rfl ?_
    show Go p e below _ (T435.setTop (mkF m 58 #[vr a1, vi (Int32.ofNat bs.length), vi ct, vi (Int32.ofNat 4), vi (Int32.ofNat (bs ++ [Value.int 46, Value.int 46, Value.int 46, Value.int 32, Value.int 40]).length)] [(.int (((48 : Int32) + ((ct / (1000 : Int32)) % (10 : Int32))).toUInt32.toUInt16.toUInt32.toInt32)), (.int (Int32.ofNat (bs ++ [Value.int 46, Value.int 46, Value.int 46, Value.int 32, Value.int 40]).length)), (.ref a1)]))
    rw [show (((48 : Int32) + ((ct / (1000 : Int32)) % (10 : Int32))).toUInt32.toUInt16.toUInt32.toInt32) = dgc (ct / (1000 : Int32)) from rfl]
    replace V_a1 : Arv Z h435 a1 kc .char (Int32.ofNat (bs.length + (4 + 17))) ((bs ++ [Value.int 46, Value.int 46, Value.int 46, Value.int 32, Value.int 40]) ++ ((.int (0 : Int32)) :: List.replicate 15 (.int 0))) (.int 0) := V_a1
    show Go p e below _ (T435.setTop (mkF m 58 #[vr a1, vi (Int32.ofNat bs.length), vi ct, vi (Int32.ofNat 4), vi (Int32.ofNat (bs ++ [Value.int 46, Value.int 46, Value.int 46, Value.int 32, Value.int 40]).length)] [(.int (dgc (ct / (1000 : Int32)))), (.int (Int32.ofNat (bs ++ [Value.int 46, Value.int 46, Value.int 46, Value.int 32, Value.int 40]).length)), (.ref a1)]))
    refine sC X435 hx hZ e435 V_a1 (by exact o_in (by omega) (by omega)) ((bs ++ [Value.int 46, Value.int 46, Value.int 46, Value.int 32, Value.int 40]).length + 0) (by exact o_nat (by omega)) (lt_app _ _ (Nat.le_of_ble_eq_true rfl)) (dgc (ct / (1000 : Int32))) (show nar .char (dgc (ct / (1000 : Int32))) = (dgc (ct / (1000 : Int32))) from nar_c (i2c_bd _)) (D 45 rfl) fun T437 h437 X437 e437 W437 Vn437 => ?_
    replace V_a1 := Vn437
    clear Vn437
    replace K0 := K0.wr W437 (Or.inl (List.mem_of_getElem? (i := 0) rfl))
    have N437 := Fr.snoc X437 N435 g_a1
    replace V_a1 : Arv Z h437 a1 kc .char (Int32.ofNat (bs.length + (4 + 17))) ((bs ++ [Value.int 46, Value.int 46, Value.int 46, Value.int 32, Value.int 40]) ++ ((.int (dgc (ct / (1000 : Int32)))) :: List.replicate 15 (.int 0))) (.int 0) := arv_eq V_a1 (set_app (bs ++ [Value.int 46, Value.int 46, Value.int 46, Value.int 32, Value.int 40]) _ 0 _)
    refine gn X437 hx #[vr a1, vi (Int32.ofNat bs.length), vi ct, vi (Int32.ofNat 4), vi ((Int32.ofNat (bs ++ [Value.int 46, Value.int 46, Value.int 46, Value.int 32, Value.int 40]).length) + (1 : Int32))] (D 46 rfl) rfl rfl ?_
    show Go p e below _ (T437.setTop (mkF m 62 #[vr a1, vi (Int32.ofNat bs.length), vi ct, vi (Int32.ofNat 4), vi ((Int32.ofNat (bs ++ [Value.int 46, Value.int 46, Value.int 46, Value.int 32, Value.int 40]).length) + (1 : Int32))] []))
    have hB7 : ((bs ++ [Value.int 46, Value.int 46, Value.int 46, Value.int 32, Value.int 40]) ++ [Value.int (dgc (ct / (1000 : Int32)))]).length = (bs ++ [Value.int 46, Value.int 46, Value.int 46, Value.int 32, Value.int 40]).length + 1 := by rw [List.length_append]; rfl
    rw [show Int32.ofNat (bs ++ [Value.int 46, Value.int 46, Value.int 46, Value.int 32, Value.int 40]).length + (1 : Int32) = Int32.ofNat ((bs ++ [Value.int 46, Value.int 46, Value.int 46, Value.int 32, Value.int 40]) ++ [Value.int (dgc (ct / (1000 : Int32)))]).length from by rw [hB7]; exact o_add _ 1]
    replace V_a1 : Arv Z h437 a1 kc .char (Int32.ofNat (bs.length + (4 + 17))) (((bs ++ [Value.int 46, Value.int 46, Value.int 46, Value.int 32, Value.int 40]) ++ [Value.int (dgc (ct / (1000 : Int32)))]) ++ List.replicate 15 (.int 0)) (.int 0) := arv_eq V_a1 (List.append_cons _ _ _)
    refine gi X437 hx (D 47 rfl) rfl ?_
    refine gk X437 hx 3 (D 48 rfl) rfl ?_
    refine cN X437 hx (D 49 rfl) (flt (by decide : ¬ ((Int32.ofNat 4) < (3 : Int32)))).1 ?_
    refine ga X437 hx (D 50 rfl) rfl rfl ?_
    refine gI X437 hx (D 51 rfl) rfl ?_
    refine gb X437 hx 48 (D 52 rfl) rfl ?_
    refine gi X437 hx (D 53 rfl) rfl ?_
    refine gb X437 hx 100 (D 54 rfl) rfl ?_
    refine gq (XS.idiv X437.here hx rfl (D 55 rfl) rfl (by first | assumption | decide)) rfl ?_
    refine gb X437 hx 10 (D 56 rfl) rfl ?_
    refine gq (iremM X437 hx rfl (D 57 rfl) rfl (by first | assumption | decide)) rfl ?_
    refine gq (XS.iadd X437.here hx rfl (D 58 rfl) rfl) rfl ?_
    refine gq (XS.i2c X437.here hx rfl (D 59 rfl) rfl) rfl ?_
    show Go p e below _ (T437.setTop (mkF m 81 #[vr a1, vi (Int32.ofNat bs.length), vi ct, vi (Int32.ofNat 4), vi (Int32.ofNat ((bs ++ [Value.int 46, Value.int 46, Value.int 46, Value.int 32, Value.int 40]) ++ [Value.int (dgc (ct / (1000 : Int32)))]).length)] [(.int (((48 : Int32) + ((ct / (100 : Int32)) % (10 : Int32))).toUInt32.toUInt16.toUInt32.toInt32)), (.int (Int32.ofNat ((bs ++ [Value.int 46, Value.int 46, Value.int 46, Value.int 32, Value.int 40]) ++ [Value.int (dgc (ct / (1000 : Int32)))]).length)), (.ref a1)]))
    rw [show (((48 : Int32) + ((ct / (100 : Int32)) % (10 : Int32))).toUInt32.toUInt16.toUInt32.toInt32) = dgc (ct / (100 : Int32)) from rfl]
    replace V_a1 : Arv Z h437 a1 kc .char (Int32.ofNat (bs.length + (4 + 17))) (((bs ++ [Value.int 46, Value.int 46, Value.int 46, Value.int 32, Value.int 40]) ++ [Value.int (dgc (ct / (1000 : Int32)))]) ++ ((.int (0 : Int32)) :: List.replicate 14 (.int 0))) (.int 0) := V_a1
    show Go p e below _ (T437.setTop (mkF m 81 #[vr a1, vi (Int32.ofNat bs.length), vi ct, vi (Int32.ofNat 4), vi (Int32.ofNat ((bs ++ [Value.int 46, Value.int 46, Value.int 46, Value.int 32, Value.int 40]) ++ [Value.int (dgc (ct / (1000 : Int32)))]).length)] [(.int (dgc (ct / (100 : Int32)))), (.int (Int32.ofNat ((bs ++ [Value.int 46, Value.int 46, Value.int 46, Value.int 32, Value.int 40]) ++ [Value.int (dgc (ct / (1000 : Int32)))]).length)), (.ref a1)]))
    refine sC X437 hx hZ e437 V_a1 (by exact o_in (by omega) (by omega)) (((bs ++ [Value.int 46, Value.int 46, Value.int 46, Value.int 32, Value.int 40]) ++ [Value.int (dgc (ct / (1000 : Int32)))]).length + 0) (by exact o_nat (by omega)) (lt_app _ _ (Nat.le_of_ble_eq_true rfl)) (dgc (ct / (100 : Int32))) (show nar .char (dgc (ct / (100 : Int32))) = (dgc (ct / (100 : Int32))) from nar_c (i2c_bd _)) (D 60 rfl) fun T438 h438 X438 e438 W438 Vn438 => ?_
    replace V_a1 := Vn438
    clear Vn438
    replace K0 := K0.wr W438 (Or.inl (List.mem_of_getElem? (i := 0) rfl))
    have N438 := Fr.snoc X438 N437 g_a1
    replace V_a1 : Arv Z h438 a1 kc .char (Int32.ofNat (bs.length + (4 + 17))) (((bs ++ [Value.int 46, Value.int 46, Value.int 46, Value.int 32, Value.int 40]) ++ [Value.int (dgc (ct / (1000 : Int32)))]) ++ ((.int (dgc (ct / (100 : Int32)))) :: List.replicate 14 (.int 0))) (.int 0) := arv_eq V_a1 (set_app ((bs ++ [Value.int 46, Value.int 46, Value.int 46, Value.int 32, Value.int 40]) ++ [Value.int (dgc (ct / (1000 : Int32)))]) _ 0 _)
    refine gn X438 hx #[vr a1, vi (Int32.ofNat bs.length), vi ct, vi (Int32.ofNat 4), vi ((Int32.ofNat ((bs ++ [Value.int 46, Value.int 46, Value.int 46, Value.int 32, Value.int 40]) ++ [Value.int (dgc (ct / (1000 : Int32)))]).length) + (1 : Int32))] (D 61 rfl) rfl rfl ?_
    show Go p e below _ (T438.setTop (mkF m 85 #[vr a1, vi (Int32.ofNat bs.length), vi ct, vi (Int32.ofNat 4), vi ((Int32.ofNat ((bs ++ [Value.int 46, Value.int 46, Value.int 46, Value.int 32, Value.int 40]) ++ [Value.int (dgc (ct / (1000 : Int32)))]).length) + (1 : Int32))] []))
    have hB8 : (((bs ++ [Value.int 46, Value.int 46, Value.int 46, Value.int 32, Value.int 40]) ++ [Value.int (dgc (ct / (1000 : Int32)))]) ++ [Value.int (dgc (ct / (100 : Int32)))]).length = ((bs ++ [Value.int 46, Value.int 46, Value.int 46, Value.int 32, Value.int 40]) ++ [Value.int (dgc (ct / (1000 : Int32)))]).length + 1 := by rw [List.length_append]; rfl
    rw [show Int32.ofNat ((bs ++ [Value.int 46, Value.int 46, Value.int 46, Value.int 32, Value.int 40]) ++ [Value.int (dgc (ct / (1000 : Int32)))]).length + (1 : Int32) = Int32.ofNat (((bs ++ [Value.int 46, Value.int 46, Value.int 46, Value.int 32, Value.int 40]) ++ [Value.int (dgc (ct / (1000 : Int32)))]) ++ [Value.int (dgc (ct / (100 : Int32)))]).length from by rw [hB8]; exact o_add _ 1]
    replace V_a1 : Arv Z h438 a1 kc .char (Int32.ofNat (bs.length + (4 + 17))) ((((bs ++ [Value.int 46, Value.int 46, Value.int 46, Value.int 32, Value.int 40]) ++ [Value.int (dgc (ct / (1000 : Int32)))]) ++ [Value.int (dgc (ct / (100 : Int32)))]) ++ List.replicate 14 (.int 0)) (.int 0) := arv_eq V_a1 (List.append_cons _ _ _)
    subst e438
    exact tail (((bs ++ [Value.int 46, Value.int 46, Value.int 46, Value.int 32, Value.int 40]) ++ [Value.int (dgc (ct / (1000 : Int32)))]) ++ [Value.int (dgc (ct / (100 : Int32)))]) _ _ (by rw [hB8, hB7, hB5]) (by intro t o ht ho; subst ht ho; simp only [sufL, tailL, List.append_assoc]; rfl) X438 N438 K0 V_a1
def Q_rmSH0 (Z : State) (s1 : Addr) (cs : List Int32) (k : Nat) (G1 : Int32) (h0 : Heap) (n0 : Nat) : Option Value → Heap → List Loc → Prop := fun v h L => v = some (.ref s1) ∧ Fr n0 L ∧ h = h0
set_option maxRecDepth 65536 in
set_option maxHeartbeats 40000000 in
theorem rmSH0 (l : Launch) (Z : State) (a0 : Array Value) (hw : HW a0 Z) (ws : List Jvm.Cond) (s1 : Addr) (cs : List Int32) (k : Nat) (G1 : Int32) (h0 : Heap) (n0 : Nat) (Od : Old Z n0 h0) (A1 : SA1 Z) (HS : SHS Z) (LS : SLS Z) (O2 : SO2 Z G1) (P5 : ¬ (G1 = (0 : Int32))) (S1 : StrU Z h0 s1 cs) (hk : cs.length ≤ 1000) (tp : TxtP cs k) (hk64 : k ≤ 64) :
    CT l (⟨"com/example/gearline/gearline/data/Values", "shown", "(Ljava/lang/String;)Ljava/lang/String;"⟩ : MethodName) prog_32_method_2_code 2 (some (.object "java/lang/String")) ws (⟨4, 0, 0, 70⟩ : Jvm.Room) #[(.ref s1)] Z h0 (Q_rmSH0 Z s1 cs k G1 h0 n0) := by
  refine Go.start (plainFor_of_name pn_3) #[vr s1, uu] n0 (by first | (simp [argsToLocals, Value.category, maxLocals]; done) | rfl) ?_
  intro p e s m below meth c s₁ Bd hx hby hml hZ hown X0 e0 N0
  have D := @dB _ _ hby _ D9
  refine ga X0 hx (D 0 rfl) rfl rfl ?_
  refine gk X0 hx 0 (D 1 rfl) rfl ?_
  refine ga X0 hx (D 2 rfl) rfl rfl ?_
  refine kV (W := 2) (C := 0) (S := 0) X0 hx hZ hown (wd hw 43 rfl) (wd hw 44 rfl) (wd hw 46 rfl) (wd hw 45 rfl) (wd hw 12 rfl) (wd hw 47 rfl) (notFace_of_selects (args := #[]) (mvT hZ (wd hw 46 rfl))) S1.exa (rmLEN l Z a0 hw [] s1 cs G1 h0 n0 Od O2 P5 S1 (by omega)) pd_13 (D 3 rfl) e0 hml (by exact ⟨rfl, rfl, rfl, rfl⟩) (by decide) fun v439 T439 L439 Lc439 X439 hQ439 l439 => ?_
  obtain ⟨rfl, Nq439, e439⟩ := hQ439
  have N439 := l439 N0 Nq439
  refine kV (W := 0) (C := 0) (S := 0) X439 hx hZ hown (wd hw 53 rfl) (wd hw 54 rfl) (wd hw 56 rfl) (wd hw 55 rfl) (wd hw 12 rfl) (wd hw 57 rfl) (notFace_of_selects (args := #[]) (mvT hZ (wd hw 56 rfl))) S1.exa (rm12 l Z a0 hw [] s1 cs k G1 h0 n0 Od A1 HS LS O2 P5 S1 hk tp) pd_14 (D 4 rfl) e439 hml (by exact ⟨rfl, rfl, rfl, rfl⟩) (by decide) fun v440 T440 L440 Lc440 X440 hQ440 l440 => ?_
  obtain ⟨rfl, Nq440, e440⟩ := hQ440
  have N440 := l440 N439 Nq440
  refine gt X440 hx #[vr s1, vi (Int32.ofNat k)] (D 5 rfl) rfl ?_
  refine gi X440 hx (D 6 rfl) rfl ?_
  refine gb X440 hx 64 (D 7 rfl) rfl ?_
  refine cN X440 hx (D 8 rfl) (flt (by rw [show (64 : Int32) = Int32.ofNat 64 from rfl, o_lt (by decide) (by omega)]; omega : ¬ ((64 : Int32) < (Int32.ofNat k)))).2.2.1 ?_
  refine ga X440 hx (D 9 rfl) rfl rfl ?_
  refine gg X440 hx 59 (D 10 rfl) (by decide) ?_
  exact Go.ret1 X440 hx Bd.returns Bd.notSynchronized rfl (Or.inr (Or.inr (Or.inr (Or.inr ⟨rfl, rfl, rfl⟩)))) (D 29 rfl) (by decide) (by decide) (by first | (rw [e440]; exact ⟨rfl, N440, rfl⟩) | exact ⟨rfl, N440, rfl⟩)
def Q_rmSH1 (Z : State) (s1 : Addr) (cs : List Int32) (k p1 d : Nat) (dl : List Int32) (dO dT : Addr) (kO kT : ClassId) (G1 : Int32) (G3 : Value) (h0 : Heap) (n0 : Nat) : Option Value → Heap → List Loc → Prop := fun v h L => ∃ r : Addr, v = some (.ref r) ∧ Fr n0 L ∧ Keep h0 h [] ∧ StrU Z h r (cs.take p1 ++ sufL dl)
set_option maxRecDepth 65536 in
set_option maxHeartbeats 40000000 in
theorem rmSH1 (l : Launch) (Z : State) (a0 : Array Value) (hw : HW a0 Z) (ws : List Jvm.Cond) (s1 : Addr) (cs : List Int32) (k p1 d : Nat) (dl : List Int32) (dO dT : Addr) (kO kT : ClassId) (G1 : Int32) (G3 : Value) (h0 : Heap) (n0 : Nat) (Z0 : n0 ≤ h0.size) (Od : Old Z n0 h0) (A1 : SA1 Z) (HS : SHS Z) (LS : SLS Z) (O4 : SO4 Z G3) (rG3 : G3.isRef = true) (O2 : SO2 Z G1) (P5 : ¬ (G1 = (0 : Int32))) (SO : Sta Z Z.heap "java/lang/Integer" "DigitOnes" "[B" (.ref dO)) (SN : Sta Z Z.heap "java/lang/Integer" "DigitTens" "[B" (.ref dT)) (V_dO : Arv Z h0 dO kO .byte (100 : Int32) onesL (.int 0)) (V_dT : Arv Z h0 dT kT .byte (100 : Int32) tensL (.int 0)) (S1 : StrU Z h0 s1 cs) (hkc : cs.length ≤ 1000) (hbd : ∀ c ∈ cs, ¬ c < 0 ∧ ¬ (65535 : Int32) < c) (tp : TxtP cs k) (hk64 : 64 < k) (op : OffP cs p1) (hd : DgP d (Int32.ofNat k) dl) (ld : LatP dl) (hd3 : p1 = 65 → d ≤ 3) :
    CTW EL l (⟨"com/example/gearline/gearline/data/Values", "shown", "(Ljava/lang/String;)Ljava/lang/String;"⟩ : MethodName) prog_32_method_2_code 2 (some (.object "java/lang/String")) ws (⟨10, 20, 3000, 190⟩ : Jvm.Room) #[(.ref s1)] Z h0 (Q_rmSH1 Z s1 cs k p1 d dl dO dT kO kT G1 G3 h0 n0) := by
  refine Go.startW (plainFor_of_name pn_3) #[vr s1, uu] n0 (by first | (simp [argsToLocals, Value.category, maxLocals]; done) | rfl) ?_
  intro p e s m below meth c s₁ Bd hx hby hml hZ hown X0 e0 N0 hS CR
  have hk : 0 ≤ h0.size := Nat.zero_le _
  have hEL := ew_of hw
  have hwS := ws_of hw
  have D := @dB _ _ hby _ D9
  have K0 : Keep h0 h0 [] := Keep.refl _ _
  have hkl : k ≤ 1000 := by rcases tp with ⟨-, h⟩ | ⟨_, _, _, _, _, _, _, _, _, h⟩ <;> omega
  refine ga X0 hx (D 0 rfl) rfl rfl ?_
  refine gk X0 hx 0 (D 1 rfl) rfl ?_
  refine ga X0 hx (D 2 rfl) rfl rfl ?_
  refine kV (W := 2) (C := 0) (S := 0) X0 hx hZ hown (wd hw 43 rfl) (wd hw 44 rfl) (wd hw 46 rfl) (wd hw 45 rfl) (wd hw 12 rfl) (wd hw 47 rfl) (notFace_of_selects (args := #[]) (mvT hZ (wd hw 46 rfl))) S1.exa (rmLEN l Z a0 hw [] s1 cs G1 h0 n0 Od O2 P5 S1 (by omega)) pd_13 (D 3 rfl) e0 hml (by exact ⟨rfl, rfl, rfl, rfl⟩) (by decide) fun v441 T441 L441 Lc441 X441 hQ441 l441 => ?_
  obtain ⟨rfl, Nq441, e441⟩ := hQ441
  have N441 := l441 N0 Nq441
  refine kV (W := 0) (C := 0) (S := 0) X441 hx hZ hown (wd hw 53 rfl) (wd hw 54 rfl) (wd hw 56 rfl) (wd hw 55 rfl) (wd hw 12 rfl) (wd hw 57 rfl) (notFace_of_selects (args := #[]) (mvT hZ (wd hw 56 rfl))) S1.exa (rm12 l Z a0 hw [] s1 cs k G1 h0 n0 Od A1 HS LS O2 P5 S1 hkc tp) pd_14 (D 4 rfl) e441 hml (by exact ⟨rfl, rfl, rfl, rfl⟩) (by decide) fun v442 T442 L442 Lc442 X442 hQ442 l442 => ?_
  obtain ⟨rfl, Nq442, e442⟩ := hQ442
  have N442 := l442 N441 Nq442
  refine gt X442 hx #[vr s1, vi (Int32.ofNat k)] (D 5 rfl) rfl ?_
  refine gi X442 hx (D 6 rfl) rfl ?_
  refine gb X442 hx 64 (D 7 rfl) rfl ?_
  refine cY X442 hx 20 (D 8 rfl) (tlt ((o_lt (a := 64) (by decide) (by omega)).2 hk64 : (64 : Int32) < (Int32.ofNat k))).2.2.1 (by decide) ?_
  obtain ⟨T443, h443, X443, e443, E443, A443, D443, -, st443⟩ := newO X442 hx hZ hown (wd hw 112 rfl) (wd hw 113 rfl) (wd hw 114 rfl) e442 (g := (mkF m 20 #[vr s1, vi (Int32.ofNat k)] [])) rfl (D 11 rfl) (by decide) (by decide)
  obtain ⟨x1, g443⟩ : ∃ z, z = h0.size := ⟨_, rfl⟩
  rw [← g443] at A443 D443 st443
  refine Go.by (fun t => st443 t) ?_
  have g_x1 : n0 ≤ x1 := Nat.le_trans Z0 (Nat.le_of_eq g443.symm)
  have sz_x1 : h0.size ≤ x1 := Nat.le_trans K0.1 (Nat.le_of_eq g443.symm)
  have ne_dO_x1 : dO ≠ x1 := Nat.ne_of_lt (Nat.lt_of_lt_of_le V_dO.lt (Nat.le_of_eq g443.symm))
  have ne_dT_x1 : dT ≠ x1 := Nat.ne_of_lt (Nat.lt_of_lt_of_le V_dT.lt (Nat.le_of_eq g443.symm))
  have ne_s1_x1 : s1 ≠ x1 := Nat.ne_of_lt (Nat.lt_of_lt_of_le S1.lt (Nat.le_of_eq g443.symm))
  replace CR := CR.trans (CHr.ext E443 CR.1)
  replace hk := Nat.le_trans hk E443.1
  replace Od := Od.ext E443
  replace S1 := S1.ext E443
  replace V_dO := V_dO.ext E443
  replace V_dT := V_dT.ext E443
  replace Z0 := Nat.le_trans Z0 E443.1
  replace K0 := K0.ext E443
  have E_x1 := A443
  have F_value_x1 : Fld Z h443 x1 "java/lang/AbstractStringBuilder" "value" "[B" .null := D443 (Or.inl (wd hw 127 rfl)) (ty := (.array .byte)) (by decide)
  have F_coder_x1 : Fld Z h443 x1 "java/lang/AbstractStringBuilder" "coder" "B" (.int (0 : Int32)) := D443 (Or.inl (wd hw 129 rfl)) (ty := .byte) (by decide)
  have F_count_x1 : Fld Z h443 x1 "java/lang/AbstractStringBuilder" "count" "I" (.int (0 : Int32)) := D443 (Or.inl (wd hw 234 rfl)) (ty := .int) (by decide)
  have F_maybeLatin1_x1 : Fld Z h443 x1 "java/lang/AbstractStringBuilder" "maybeLatin1" "Z" (.int (0 : Int32)) := D443 (Or.inl (wd hw 349 rfl)) (ty := .boolean) (by decide)
  replace X443 := Stand.num (C := 1) (S := 4) X443 rfl rfl
  show Go p e below _ (T443.setTop (mkF m 23 #[vr s1, vi (Int32.ofNat k)] [(.ref x1)]))
  refine gq (XS.dup X443.here hx rfl (D 12 rfl) rfl rfl) rfl ?_
  refine kI (W := 1) (C := 2) (S := 20) X443 hx hZ hown (wd hw 115 rfl) (wd hw 116 rfl) (wd hw 114 rfl) (wd hw 117 rfl) (rm26 l Z a0 hw [] x1 G1 h443 n0 Z0 Od O2 P5 E_x1 F_value_x1 F_coder_x1 F_count_x1 F_maybeLatin1_x1 g_x1) pd_7 (D 13 rfl) e443 hml (by exact ⟨rfl, rfl, rfl, rfl⟩) (by decide) fun v444 T444 L444 Lc444 X444 hQ444 l444 => ?_
  obtain ⟨vb, kv, rfl, Nq444, K444, sz_vb, f1, f2, f3, f4, V_vb⟩ := hQ444
  have g_vb : n0 ≤ vb := Nat.le_trans Z0 sz_vb
  have Sf_vb : Safe Z EL s.vm h443 vb := Safe.new sz_vb
  have ne_dO_vb : dO ≠ vb := Nat.ne_of_lt (Nat.lt_of_lt_of_le V_dO.lt sz_vb)
  have ne_dT_vb : dT ≠ vb := Nat.ne_of_lt (Nat.lt_of_lt_of_le V_dT.lt sz_vb)
  replace sz_vb : h0.size ≤ vb := Nat.le_trans K0.1 sz_vb
  have N444 := l444 N442 Nq444
  have Sfw := ((sfS (Safe.exa hZ.alike E_x1 (by decide) (by decide)) sf0) : ∀ x ∈ [x1], Safe Z EL s.vm h443 x)
  replace Sf_vb := Safe.keep K444 Sfw CR.1 Sf_vb
  replace CR := CR.trans (CHr.keep K444 Sfw CR.1)
  clear Sfw
  replace hk := Nat.le_trans hk K444.1
  replace S1 := S1.keep K444 (ninS ne_s1_x1 nin0) (fun _ _ _ _ A => (ninS (Ne.symm (Exa.neArv E_x1 A (wd hw 113 rfl))) nin0))
  replace Od := Od.keep K444 (allS g_x1 all0)
  replace V_dO := V_dO.keep K444 (ninS ne_dO_x1 nin0)
  replace V_dT := V_dT.keep K444 (ninS ne_dT_x1 nin0)
  replace E_x1 := E_x1.keep K444
  replace Z0 := Nat.le_trans Z0 K444.1
  replace K0 := K0.trans K444 (allS (P := fun x => x ∈ _ ∨ _ ≤ x) (Or.inr sz_x1) all0)
  clear F_value_x1 F_coder_x1 F_count_x1 F_maybeLatin1_x1
  have F_value_x1 := f1
  have F_coder_x1 := f2
  have F_count_x1 := f3
  have F_maybeLatin1_x1 := f4
  clear f1 f2 f3 f4
  have B1 : SBA Z T444.heap x1 vb kv (Int32.ofNat ([] : List Int32).length) 16 [] := ⟨E_x1, F_value_x1, F_count_x1, F_maybeLatin1_x1, 0, [], F_coder_x1, V_vb, Or.inl ⟨rfl, (fun _ h => nomatch h), rfl⟩, Nat.zero_le _⟩
  refine ga X444 hx (D 14 rfl) rfl rfl ?_
  refine gk X444 hx 0 (D 15 rfl) rfl ?_
  refine ga X444 hx (D 16 rfl) rfl rfl ?_
  refine gk X444 hx 0 (D 17 rfl) rfl ?_
  refine gb X444 hx 64 (D 18 rfl) rfl ?_
  refine kV (W := 3) (C := 2) (S := 20) X444 hx hZ hown (wd hw 130 rfl) (wd hw 131 rfl) (wd hw 133 rfl) (wd hw 132 rfl) (wd hw 12 rfl) (wd hw 134 rfl) (notFace_of_selects (args := #[]) (mvT hZ (wd hw 133 rfl))) S1.exa (rm28 l Z a0 hw [] s1 cs p1 G1 G3 T444.heap n0 Od A1 HS LS O4 rG3 O2 P5 S1 hkc hbd op) pd_14 (D 19 rfl) rfl hml (by exact ⟨rfl, rfl, rfl, rfl⟩) (by decide) fun v445 T445 L445 Lc445 X445 hQ445 l445 => ?_
  obtain ⟨rfl, Nq445, e445⟩ := hQ445
  have N445 := l445 N444 Nq445
  have hp : (1 ≤ p1 ∧ p1 < cs.length) ∧ 2 * p1 ≤ 300 := by rcases op with ⟨ps, rs, -, -, -, h, rfl⟩ | ⟨_, _, _, _, _, -, -, -, -, -, -, h, rfl⟩ <;> omega
  refine kV (W := 1) (C := 5) (S := 624) X445 hx hZ hown (wd hw 171 rfl) (wd hw 172 rfl) (wd hw 174 rfl) (wd hw 173 rfl) (wd hw 12 rfl) (wd hw 175 rfl) (notFace_of_selects (args := #[]) (mvT hZ (wd hw 174 rfl))) S1.exa (rm36 l Z a0 hw [] s1 cs p1 G1 G3 T444.heap n0 Z0 Od A1 HS LS O4 rG3 O2 P5 S1 hkc hbd hp.1 hp.2) pd_15 (D 20 rfl) e445 hml (by exact ⟨rfl, rfl, rfl, rfl⟩) (by decide) fun v446 T446 L446 Lc446 X446 hQ446 l446 => ?_
  obtain ⟨r, t, rfl, Nq446, K446, sr, st, S2⟩ := hQ446
  have ne_t_vb : t ≠ vb := Nat.ne_of_gt (Nat.lt_of_lt_of_le V_vb.lt st)
  have N446 := l446 N445 Nq446
  have Sfw := (sf0 : ∀ x ∈ [], Safe Z EL s.vm T444.heap x)
  replace Sf_vb := Safe.keep K446 Sfw CR.1 Sf_vb
  replace CR := CR.trans (CHr.keep K446 Sfw CR.1)
  clear Sfw
  replace hk := Nat.le_trans hk K446.1
  replace Od := Od.keep K446 all0
  replace V_dO := V_dO.keep K446 nin0
  replace V_dT := V_dT.keep K446 nin0
  replace E_x1 := E_x1.keep K446
  replace B1 := B1.keep K446 nin0
  replace V_vb := V_vb.keep K446 nin0
  replace Z0 := Nat.le_trans Z0 K446.1
  replace K0 := K0.trans K446 all0
  have hl : (cs.take p1).length = p1 := by rw [List.length_take]; omega
  rcases op with ⟨ps, rs, hsh, h64, lp, hlt, hp1⟩ | ⟨us0, hi, lo, ws0, rs, hsh, lu, lw, h64, hh, hlo, hlt, hp1⟩
  ·
    have lt0 : LatP (cs.take p1) := by rw [hp1, hsh, ← h64, List.take_left]; exact lp
    refine kV (W := 0) (C := 7) (S := 1224) X446 hx hZ hown (wd hw 222 rfl) (wd hw 223 rfl) (wd hw 225 rfl) (wd hw 224 rfl) (wd hw 114 rfl) (wd hw 226 rfl) (notFace_of_selects (args := #[]) (mvT hZ (wd hw 225 rfl))) E_x1 (rmSA l Z a0 hw [] x1 r t vb kv ([]) (cs.take p1) 16 64 64 G1 G3 T446.heap n0 Z0 Od A1 HS LS O4 rG3 O2 P5 B1 S2 g_x1 g_vb ne_t_vb (Or.inl (fun _ h => nomatch h)) (fun _ _ => ⟨by show 0 + _ ≤ 64; omega, rfl⟩) (fun _ => (fun h => absurd h (fun ⟨c, hc, q⟩ => (lt0 c hc).2 q))) (fun h => absurd h (fun ⟨_, hc, _⟩ => nomatch hc)) ⟨by decide, by decide⟩ (fun _ => by rw [show ([] : List Int32).length + (cs.take p1).length = 64 from by show 0 + _ = 64; omega]; exact enc_16_64) (fun h => absurd h (fun ⟨_, hc, _⟩ => nomatch hc))) pd_16 (D 21 rfl) rfl hml (by exact ⟨rfl, rfl, rfl, rfl⟩) (by decide) fun v447 T447 L447 Lc447 X447 hQ447 l447 => ?_
    obtain ⟨vc, k_vc, rfl, Nq447, K447, hbg, Bn⟩ := hQ447
    have g_vc : n0 ≤ vc := by rcases hbg with rfl | h; exact g_vb; exact Nat.le_trans Z0 h
    have Sf_vc : Safe Z EL s.vm T446.heap vc := by rcases hbg with rfl | h; exact Sf_vb; exact Safe.new h
    have ne_dO_vc : dO ≠ vc := by rcases hbg with rfl | h; exact ne_dO_vb; exact Nat.ne_of_lt (Nat.lt_of_lt_of_le V_dO.lt h)
    have ne_dT_vc : dT ≠ vc := by rcases hbg with rfl | h; exact ne_dT_vb; exact Nat.ne_of_lt (Nat.lt_of_lt_of_le V_dT.lt h)
    have inb_vc : vc ∈ ([] : List Addr) ∨ h0.size ≤ vc := by rcases hbg with rfl | h; exact Or.inr sz_vb; exact Or.inr (Nat.le_trans K0.1 h)
    have sz_vc : h0.size ≤ vc := inb_vc.elim (fun h => nomatch h) id
    have N447 := l447 N446 Nq447
    have Sfw := ((sfS (Safe.exa hZ.alike E_x1 (by decide) (by decide)) (sfS Sf_vb sf0)) : ∀ x ∈ [x1, vb], Safe Z EL s.vm T446.heap x)
    replace Sf_vb := Safe.keep K447 Sfw CR.1 Sf_vb
    replace Sf_vc := Safe.keep K447 Sfw CR.1 Sf_vc
    replace CR := CR.trans (CHr.keep K447 Sfw CR.1)
    clear Sfw
    replace hk := Nat.le_trans hk K447.1
    replace Od := Od.keep K447 (allS g_x1 (allS g_vb all0))
    replace V_dO := V_dO.keep K447 (ninS ne_dO_x1 (ninS ne_dO_vb nin0))
    replace V_dT := V_dT.keep K447 (ninS ne_dT_x1 (ninS ne_dT_vb nin0))
    replace E_x1 := E_x1.keep K447
    replace Z0 := Nat.le_trans Z0 K447.1
    replace K0 := K0.trans K447 (allS (P := fun x => x ∈ _ ∨ _ ≤ x) (Or.inr sz_x1) (allS (P := fun x => x ∈ _ ∨ _ ≤ x) (Or.inr sz_vb) all0))
    clear B1
    have B1 := Bn
    clear Bn
    obtain ⟨vz_vc, V_vc⟩ := B1.arv
    rw [List.nil_append, List.length_nil, Nat.zero_add] at B1
    obtain ⟨c1, T448, h448, k448, t_c1, kb_c1, X448, e448, E448, hS448, hk448, hZ448, hown448, E_c1, F_coder_c1, F_value_c1, V_t_c1, lt_c1, ltb_c1, CRn, Lit448, sf448, st448⟩ := ldcCH X447 hx hZ hown (wd hw 292 rfl) hwS rfl hS hk hEL (by decide) CR.1 (vs := [(.int (46 : Int32)), (.int (46 : Int32)), (.int (46 : Int32)), (.int (32 : Int32)), (.int (40 : Int32))]) (z := 5) (by decide) (by decide) rfl (g := (mkF m 42 #[vr s1, vi (Int32.ofNat k)] [(.ref x1)])) rfl (D 22 rfl) (n := 20) (by decide) (by decide) (by decide) (by decide)
    refine Go.by (fun t => st448 t) ?_
    replace Sf_vc := CRn.safe V_vc.lt Sf_vc
    replace CR := CR.trans CRn
    replace Od := Od.ext E448
    replace V_dO := V_dO.ext E448
    replace V_dT := V_dT.ext E448
    replace E_x1 := E_x1.ext E448
    replace B1 := B1.ext E448
    replace V_vc := V_vc.ext E448
    replace Z0 := Nat.le_trans Z0 E448.1
    replace K0 := K0.ext E448
    clear CRn hS hk
    have hS := hS448
    have hk := hk448
    replace hZ := hZ448
    replace hown := hown448
    replace X448 := Stand.num (C := 9) (S := 1248) X448 rfl rfl
    have ne_vc_c1 := (sf448 _ Sf_vc).1
    have ne_vc_t_c1 := (sf448 _ Sf_vc).2
    show Go p e below _ (T448.setTop (mkF m 44 #[vr s1, vi (Int32.ofNat k)] [(.ref c1), (.ref x1)]))
    have S_c1 : StrT Z h448 c1 t_c1 [(46 : Int32), (46 : Int32), (46 : Int32), (32 : Int32), (40 : Int32)] := ⟨kb_c1, E_c1, F_value_c1, Or.inl ⟨F_coder_c1, (by unfold LatP; decide), arv_eq V_t_c1 (by first | rfl | decide)⟩⟩
    have ne_t_c1_vc : t_c1 ≠ vc := Ne.symm ne_vc_t_c1
    have lc : LatP [(46 : Int32), (46 : Int32), (46 : Int32), (32 : Int32), (40 : Int32)] := by unfold LatP; decide
    have lc2 : LatP [(32 : Int32), (99 : Int32), (104 : Int32), (97 : Int32), (114 : Int32), (97 : Int32), (99 : Int32), (116 : Int32), (101 : Int32), (114 : Int32), (115 : Int32), (41 : Int32)] := by unfold LatP; decide
    refine kV (W := 0) (C := 11) (S := 1848) X448 hx hZ hown (wd hw 222 rfl) (wd hw 223 rfl) (wd hw 225 rfl) (wd hw 224 rfl) (wd hw 114 rfl) (wd hw 226 rfl) (notFace_of_selects (args := #[]) (mvT hZ (wd hw 225 rfl))) E_x1 (rmSA l Z a0 hw [] x1 c1 t_c1 vc k_vc (cs.take p1) ([(46 : Int32), (46 : Int32), (46 : Int32), (32 : Int32), (40 : Int32)]) 64 130 130 G1 G3 h448 n0 Z0 Od A1 HS LS O4 rG3 O2 P5 B1 S_c1 g_x1 g_vc ne_t_c1_vc (Or.inr lc) (fun _ _ => ⟨by show (cs.take p1).length + 5 ≤ 130; omega, rfl⟩) (fun _ h => absurd h (fun ⟨c, hc, q⟩ => (lc c hc).2 q)) (fun h => absurd h (fun ⟨c, hc, q⟩ => (lt0 c hc).2 q)) ⟨by decide, by decide⟩ (fun _ => by rw [show (cs.take p1).length + [(46 : Int32), (46 : Int32), (46 : Int32), (32 : Int32), (40 : Int32)].length = 69 from by show (cs.take p1).length + 5 = 69; omega]; exact enc_64_69) (fun h => absurd h (fun ⟨c, hc, q⟩ => (lt0 c hc).2 q))) pd_16 (D 23 rfl) e448 hml (by exact ⟨rfl, rfl, rfl, rfl⟩) (by decide) fun v449 T449 L449 Lc449 X449 hQ449 l449 => ?_
    obtain ⟨vd, k_vd, rfl, Nq449, K449, hbg, Bn⟩ := hQ449
    have g_vd : n0 ≤ vd := by rcases hbg with rfl | h; exact g_vc; exact Nat.le_trans Z0 h
    have Sf_vd : Safe Z EL T448.vm h448 vd := by rcases hbg with rfl | h; exact Sf_vc; exact Safe.new h
    have ne_dO_vd : dO ≠ vd := by rcases hbg with rfl | h; exact ne_dO_vc; exact Nat.ne_of_lt (Nat.lt_of_lt_of_le V_dO.lt h)
    have ne_dT_vd : dT ≠ vd := by rcases hbg with rfl | h; exact ne_dT_vc; exact Nat.ne_of_lt (Nat.lt_of_lt_of_le V_dT.lt h)
    have inb_vd : vd ∈ ([] : List Addr) ∨ h0.size ≤ vd := by rcases hbg with rfl | h; exact Or.inr sz_vc; exact Or.inr (Nat.le_trans K0.1 h)
    have sz_vd : h0.size ≤ vd := inb_vd.elim (fun h => nomatch h) id
    have N449 := l449 N447 Nq449
    have Sfw := ((sfS (Safe.exa hZ.alike E_x1 (by decide) (by decide)) (sfS Sf_vc sf0)) : ∀ x ∈ [x1, vc], Safe Z EL T448.vm h448 x)
    replace Sf_vc := Safe.keep K449 Sfw CR.1 Sf_vc
    replace Sf_vd := Safe.keep K449 Sfw CR.1 Sf_vd
    replace CR := CR.trans (CHr.keep K449 Sfw CR.1)
    clear Sfw
    replace hk := Nat.le_trans hk K449.1
    replace Od := Od.keep K449 (allS g_x1 (allS g_vc all0))
    replace V_dO := V_dO.keep K449 (ninS ne_dO_x1 (ninS ne_dO_vc nin0))
    replace V_dT := V_dT.keep K449 (ninS ne_dT_x1 (ninS ne_dT_vc nin0))
    replace E_x1 := E_x1.keep K449
    replace Z0 := Nat.le_trans Z0 K449.1
    replace K0 := K0.trans K449 (allS (P := fun x => x ∈ _ ∨ _ ≤ x) (Or.inr sz_x1) (allS (P := fun x => x ∈ _ ∨ _ ≤ x) (Or.inr sz_vc) all0))
    clear B1
    have B1 := Bn
    clear Bn
    obtain ⟨vz_vd, V_vd⟩ := B1.arv
    rw [← List.length_append] at B1
    have h5 : (cs.take p1 ++ [(46 : Int32), (46 : Int32), (46 : Int32), (32 : Int32), (40 : Int32)]).length = p1 + 5 := by rw [List.length_append, hl]; rfl
    obtain ⟨hdl, hd4⟩ := hd.len
    refine gi X449 hx (D 24 rfl) rfl ?_
    refine kV (W := 0) (C := 11) (S := 1848) X449 hx hZ hown (wd hw 296 rfl) (wd hw 297 rfl) (wd hw 299 rfl) (wd hw 298 rfl) (wd hw 114 rfl) (wd hw 300 rfl) (notFace_of_selects (args := #[]) (mvT hZ (wd hw 299 rfl))) E_x1 (rmSAI l Z a0 hw [] x1 vd k_vd (cs.take p1 ++ [(46 : Int32), (46 : Int32), (46 : Int32), (32 : Int32), (40 : Int32)]) dl (Int32.ofNat k) d 130 dO dT kO kT G1 G3 T449.heap n0 Od A1 HS LS O4 rG3 O2 P5 SO SN V_dO V_dT ne_dO_vd ne_dT_vd B1 g_x1 g_vd hd ld (fun _ => by rw [h5]; omega) (fun h => absurd h (fun ⟨c, hc, q⟩ => ((all_app lt0 lc) c hc).2 q)) (by decide)) pd_17 (D 25 rfl) rfl hml (by exact ⟨rfl, rfl, rfl, rfl⟩) (by decide) fun v450 T450 L450 Lc450 X450 hQ450 l450 => ?_
    obtain ⟨rfl, Nq450, K450, Bn⟩ := hQ450
    have N450 := l450 N449 Nq450
    have Sfw := ((sfS (Safe.exa hZ.alike E_x1 (by decide) (by decide)) (sfS Sf_vd sf0)) : ∀ x ∈ [x1, vd], Safe Z EL T448.vm T449.heap x)
    replace Sf_vd := Safe.keep K450 Sfw CR.1 Sf_vd
    replace CR := CR.trans (CHr.keep K450 Sfw CR.1)
    clear Sfw
    replace hk := Nat.le_trans hk K450.1
    replace Od := Od.keep K450 (allS g_x1 (allS g_vd all0))
    replace V_dO := V_dO.keep K450 (ninS ne_dO_x1 (ninS ne_dO_vd nin0))
    replace V_dT := V_dT.keep K450 (ninS ne_dT_x1 (ninS ne_dT_vd nin0))
    replace E_x1 := E_x1.keep K450
    replace Z0 := Nat.le_trans Z0 K450.1
    replace K0 := K0.trans K450 (allS (P := fun x => x ∈ _ ∨ _ ≤ x) (Or.inr sz_x1) (allS (P := fun x => x ∈ _ ∨ _ ≤ x) (Or.inr sz_vd) all0))
    clear B1
    have B1 := Bn
    clear Bn
    rw [← hdl, ← List.length_append] at B1
    clear V_vd
    obtain ⟨vy, V_vd⟩ := B1.arv
    obtain ⟨c2, T451, h451, k451, t_c2, kb_c2, X451, e451, E451, hS451, hk451, hZ451, hown451, E_c2, F_coder_c2, F_value_c2, V_t_c2, lt_c2, ltb_c2, CRn, Lit451, sf451, st451⟩ := ldcCH X450 hx hZ hown (wd hw 321 rfl) hwS rfl hS hk hEL (by decide) CR.1 (vs := [(.int (32 : Int32)), (.int (99 : Int32)), (.int (104 : Int32)), (.int (97 : Int32)), (.int (114 : Int32)), (.int (97 : Int32)), (.int (99 : Int32)), (.int (116 : Int32)), (.int (101 : Int32)), (.int (114 : Int32)), (.int (115 : Int32)), (.int (41 : Int32))]) (z := 12) (by decide) (by decide) rfl (g := (mkF m 51 #[vr s1, vi (Int32.ofNat k)] [(.ref x1)])) rfl (D 26 rfl) (n := 48) (by decide) (by decide) (by decide) (by decide)
    refine Go.by (fun t => st451 t) ?_
    replace Sf_vd := CRn.safe V_vd.lt Sf_vd
    replace CR := CR.trans CRn
    replace Od := Od.ext E451
    replace V_dO := V_dO.ext E451
    replace V_dT := V_dT.ext E451
    replace E_x1 := E_x1.ext E451
    replace B1 := B1.ext E451
    replace V_vd := V_vd.ext E451
    replace Z0 := Nat.le_trans Z0 E451.1
    replace K0 := K0.ext E451
    clear CRn hS hk
    have hS := hS451
    have hk := hk451
    replace hZ := hZ451
    replace hown := hown451
    replace X451 := Stand.num (C := 13) (S := 1900) X451 rfl rfl
    have ne_vd_c2 := (sf451 _ Sf_vd).1
    have ne_vd_t_c2 := (sf451 _ Sf_vd).2
    show Go p e below _ (T451.setTop (mkF m 53 #[vr s1, vi (Int32.ofNat k)] [(.ref c2), (.ref x1)]))
    have S_c2 : StrT Z h451 c2 t_c2 [(32 : Int32), (99 : Int32), (104 : Int32), (97 : Int32), (114 : Int32), (97 : Int32), (99 : Int32), (116 : Int32), (101 : Int32), (114 : Int32), (115 : Int32), (41 : Int32)] := ⟨kb_c2, E_c2, F_value_c2, Or.inl ⟨F_coder_c2, (by unfold LatP; decide), arv_eq V_t_c2 (by first | rfl | decide)⟩⟩
    have ne_t_c2_vd : t_c2 ≠ vd := Ne.symm ne_vd_t_c2
    have h7 : ((cs.take p1 ++ [(46 : Int32), (46 : Int32), (46 : Int32), (32 : Int32), (40 : Int32)]) ++ dl).length = p1 + 5 + d := by rw [List.length_append, h5, hdl]
    have l7 : LatP ((cs.take p1 ++ [(46 : Int32), (46 : Int32), (46 : Int32), (32 : Int32), (40 : Int32)]) ++ dl) := all_app (all_app lt0 lc) ld
    refine kV (W := 0) (C := 15) (S := 2500) X451 hx hZ hown (wd hw 222 rfl) (wd hw 223 rfl) (wd hw 225 rfl) (wd hw 224 rfl) (wd hw 114 rfl) (wd hw 226 rfl) (notFace_of_selects (args := #[]) (mvT hZ (wd hw 225 rfl))) E_x1 (rmSA l Z a0 hw [] x1 c2 t_c2 vd k_vd ((cs.take p1 ++ [(46 : Int32), (46 : Int32), (46 : Int32), (32 : Int32), (40 : Int32)]) ++ dl) ([(32 : Int32), (99 : Int32), (104 : Int32), (97 : Int32), (114 : Int32), (97 : Int32), (99 : Int32), (116 : Int32), (101 : Int32), (114 : Int32), (115 : Int32), (41 : Int32)]) 130 130 130 G1 G3 h451 n0 Z0 Od A1 HS LS O4 rG3 O2 P5 B1 S_c2 g_x1 g_vd ne_t_c2_vd (Or.inr lc2) (fun _ _ => ⟨by rw [h7]; show _ + 12 ≤ 130; omega, rfl⟩) (fun _ h => absurd h (fun ⟨c, hc, q⟩ => (lc2 c hc).2 q)) (fun h => absurd h (fun ⟨c, hc, q⟩ => (l7 c hc).2 q)) ⟨by decide, by decide⟩ (fun _ => Or.inl ⟨by rw [o_shr0, h7]; exact sub_np (by show _ + 12 ≤ 130; omega) (by decide), rfl⟩) (fun h => absurd h (fun ⟨c, hc, q⟩ => (l7 c hc).2 q))) pd_16 (D 27 rfl) e451 hml (by exact ⟨rfl, rfl, rfl, rfl⟩) (by decide) fun v452 T452 L452 Lc452 X452 hQ452 l452 => ?_
    obtain ⟨ve, k_ve, rfl, Nq452, K452, hbg, Bn⟩ := hQ452
    have g_ve : n0 ≤ ve := by rcases hbg with rfl | h; exact g_vd; exact Nat.le_trans Z0 h
    have Sf_ve : Safe Z EL T451.vm h451 ve := by rcases hbg with rfl | h; exact Sf_vd; exact Safe.new h
    have ne_dO_ve : dO ≠ ve := by rcases hbg with rfl | h; exact ne_dO_vd; exact Nat.ne_of_lt (Nat.lt_of_lt_of_le V_dO.lt h)
    have ne_dT_ve : dT ≠ ve := by rcases hbg with rfl | h; exact ne_dT_vd; exact Nat.ne_of_lt (Nat.lt_of_lt_of_le V_dT.lt h)
    have inb_ve : ve ∈ ([] : List Addr) ∨ h0.size ≤ ve := by rcases hbg with rfl | h; exact Or.inr sz_vd; exact Or.inr (Nat.le_trans K0.1 h)
    have sz_ve : h0.size ≤ ve := inb_ve.elim (fun h => nomatch h) id
    have N452 := l452 N450 Nq452
    have Sfw := ((sfS (Safe.exa hZ.alike E_x1 (by decide) (by decide)) (sfS Sf_vd sf0)) : ∀ x ∈ [x1, vd], Safe Z EL T451.vm h451 x)
    replace Sf_vd := Safe.keep K452 Sfw CR.1 Sf_vd
    replace Sf_ve := Safe.keep K452 Sfw CR.1 Sf_ve
    replace CR := CR.trans (CHr.keep K452 Sfw CR.1)
    clear Sfw
    replace hk := Nat.le_trans hk K452.1
    replace Od := Od.keep K452 (allS g_x1 (allS g_vd all0))
    replace V_dO := V_dO.keep K452 (ninS ne_dO_x1 (ninS ne_dO_vd nin0))
    replace V_dT := V_dT.keep K452 (ninS ne_dT_x1 (ninS ne_dT_vd nin0))
    replace E_x1 := E_x1.keep K452
    replace Z0 := Nat.le_trans Z0 K452.1
    replace K0 := K0.trans K452 (allS (P := fun x => x ∈ _ ∨ _ ≤ x) (Or.inr sz_x1) (allS (P := fun x => x ∈ _ ∨ _ ≤ x) (Or.inr sz_vd) all0))
    clear B1
    have B1 := Bn
    clear Bn
    obtain ⟨vz_ve, V_ve⟩ := B1.arv
    rw [← List.length_append] at B1
    have h9 : (((cs.take p1 ++ [(46 : Int32), (46 : Int32), (46 : Int32), (32 : Int32), (40 : Int32)]) ++ dl) ++ [(32 : Int32), (99 : Int32), (104 : Int32), (97 : Int32), (114 : Int32), (97 : Int32), (99 : Int32), (116 : Int32), (101 : Int32), (114 : Int32), (115 : Int32), (41 : Int32)]).length = p1 + 17 + d := by rw [List.length_append, h7]; show _ + 12 = _; omega
    obtain ⟨b1, b2, b4, b5, cd, us, b3, b6, hen, hvl⟩ := B1
    have hus : us.length < 130 ∧ us.length ≤ 300 := by
      rcases hen with ⟨-, -, q⟩ | ⟨-, ⟨z, hz, q⟩, -⟩
      · rw [q, lat_len, h9]; omega
      · exact absurd q (all_app l7 lc2 z hz).2
    refine kV (W := 0) (C := 17) (S := 2804) X452 hx hZ hown (wd hw 322 rfl) (wd hw 323 rfl) (wd hw 325 rfl) (wd hw 324 rfl) (wd hw 114 rfl) (wd hw 326 rfl) (notFace_of_selects (args := #[]) (mvT hZ (wd hw 325 rfl))) E_x1 (rmTS l Z a0 hw [] x1 ve k_ve us [] (((cs.take p1 ++ [(46 : Int32), (46 : Int32), (46 : Int32), (32 : Int32), (40 : Int32)]) ++ dl) ++ [(32 : Int32), (99 : Int32), (104 : Int32), (97 : Int32), (114 : Int32), (97 : Int32), (99 : Int32), (116 : Int32), (101 : Int32), (114 : Int32), (115 : Int32), (41 : Int32)]).length 130 G1 cd T452.heap n0 Z0 Od O2 P5 b1 b2 b3 b4 b5 (by rw [List.append_nil]; exact b6) (enc_len hen) hus.1 (by decide) hus.2) pd_18 (D 28 rfl) rfl hml (by exact ⟨rfl, rfl, rfl, rfl⟩) (by decide) fun v453 T453 L453 Lc453 X453 hQ453 l453 => ?_
    obtain ⟨r9, t9, kt9, rfl, Nq453, K453, sz_r, E_r, Fv, Fc, V_t⟩ := hQ453
    have N453 := l453 N452 Nq453
    have Sfw := (sf0 : ∀ x ∈ [], Safe Z EL T451.vm T452.heap x)
    replace CR := CR.trans (CHr.keep K453 Sfw CR.1)
    clear Sfw
    replace hk := Nat.le_trans hk K453.1
    replace Z0 := Nat.le_trans Z0 K453.1
    replace K0 := K0.trans K453 all0
    have S9 := enc_str hen E_r Fv Fc V_t
    rw [List.append_assoc, List.append_assoc] at S9
    exact Go.ret1W X453 hS hk CR hZ hEL hx Bd.returns Bd.notSynchronized rfl (Or.inr (Or.inr (Or.inr (Or.inr ⟨rfl, rfl, rfl⟩)))) (D 29 rfl) (by decide) (by decide) ⟨r9, rfl, N453, K0, S9⟩
  ·
    have hx0 : ∃ c ∈ cs.take p1, (255 : Int32) < c := ⟨hi, by rw [hp1, hsh]; exact take_mem (by omega), hi_255 hh⟩
    have nl : ¬ LatP (cs.take p1) := fun h => (h hi (by obtain ⟨c, hc, q⟩ := hx0; rw [hp1, hsh]; exact take_mem (by omega))).2 (hi_255 hh)
    refine kV (W := 0) (C := 7) (S := 1224) X446 hx hZ hown (wd hw 222 rfl) (wd hw 223 rfl) (wd hw 225 rfl) (wd hw 224 rfl) (wd hw 114 rfl) (wd hw 226 rfl) (notFace_of_selects (args := #[]) (mvT hZ (wd hw 225 rfl))) E_x1 (rmSA l Z a0 hw [] x1 r t vb kv ([]) (cs.take p1) 16 65 130 G1 G3 T446.heap n0 Z0 Od A1 HS LS O4 rG3 O2 P5 B1 S2 g_x1 g_vb ne_t_vb (Or.inl (fun _ h => nomatch h)) (fun _ h => absurd h nl) (fun _ _ => ⟨by show 0 + _ ≤ 65; omega, by decide, rfl⟩) (fun h => absurd h (fun ⟨_, hc, _⟩ => nomatch hc)) ⟨by decide, by decide⟩ (fun _ => by rw [show ([] : List Int32).length + (cs.take p1).length = 65 from by show 0 + _ = 65; omega]; exact enc_16_65) (fun h => absurd h (fun ⟨_, hc, _⟩ => nomatch hc))) pd_16 (D 21 rfl) rfl hml (by exact ⟨rfl, rfl, rfl, rfl⟩) (by decide) fun v454 T454 L454 Lc454 X454 hQ454 l454 => ?_
    obtain ⟨vc, k_vc, rfl, Nq454, K454, hbg, Bn⟩ := hQ454
    have g_vc : n0 ≤ vc := by rcases hbg with rfl | h; exact g_vb; exact Nat.le_trans Z0 h
    have Sf_vc : Safe Z EL s.vm T446.heap vc := by rcases hbg with rfl | h; exact Sf_vb; exact Safe.new h
    have ne_dO_vc : dO ≠ vc := by rcases hbg with rfl | h; exact ne_dO_vb; exact Nat.ne_of_lt (Nat.lt_of_lt_of_le V_dO.lt h)
    have ne_dT_vc : dT ≠ vc := by rcases hbg with rfl | h; exact ne_dT_vb; exact Nat.ne_of_lt (Nat.lt_of_lt_of_le V_dT.lt h)
    have inb_vc : vc ∈ ([] : List Addr) ∨ h0.size ≤ vc := by rcases hbg with rfl | h; exact Or.inr sz_vb; exact Or.inr (Nat.le_trans K0.1 h)
    have sz_vc : h0.size ≤ vc := inb_vc.elim (fun h => nomatch h) id
    have N454 := l454 N446 Nq454
    have Sfw := ((sfS (Safe.exa hZ.alike E_x1 (by decide) (by decide)) (sfS Sf_vb sf0)) : ∀ x ∈ [x1, vb], Safe Z EL s.vm T446.heap x)
    replace Sf_vb := Safe.keep K454 Sfw CR.1 Sf_vb
    replace Sf_vc := Safe.keep K454 Sfw CR.1 Sf_vc
    replace CR := CR.trans (CHr.keep K454 Sfw CR.1)
    clear Sfw
    replace hk := Nat.le_trans hk K454.1
    replace Od := Od.keep K454 (allS g_x1 (allS g_vb all0))
    replace V_dO := V_dO.keep K454 (ninS ne_dO_x1 (ninS ne_dO_vb nin0))
    replace V_dT := V_dT.keep K454 (ninS ne_dT_x1 (ninS ne_dT_vb nin0))
    replace E_x1 := E_x1.keep K454
    replace Z0 := Nat.le_trans Z0 K454.1
    replace K0 := K0.trans K454 (allS (P := fun x => x ∈ _ ∨ _ ≤ x) (Or.inr sz_x1) (allS (P := fun x => x ∈ _ ∨ _ ≤ x) (Or.inr sz_vb) all0))
    clear B1
    have B1 := Bn
    clear Bn
    obtain ⟨vz_vc, V_vc⟩ := B1.arv
    rw [List.nil_append, List.length_nil, Nat.zero_add] at B1
    obtain ⟨c1, T455, h455, k455, t_c1, kb_c1, X455, e455, E455, hS455, hk455, hZ455, hown455, E_c1, F_coder_c1, F_value_c1, V_t_c1, lt_c1, ltb_c1, CRn, Lit455, sf455, st455⟩ := ldcCH X454 hx hZ hown (wd hw 292 rfl) hwS rfl hS hk hEL (by decide) CR.1 (vs := [(.int (46 : Int32)), (.int (46 : Int32)), (.int (46 : Int32)), (.int (32 : Int32)), (.int (40 : Int32))]) (z := 5) (by decide) (by decide) rfl (g := (mkF m 42 #[vr s1, vi (Int32.ofNat k)] [(.ref x1)])) rfl (D 22 rfl) (n := 20) (by decide) (by decide) (by decide) (by decide)
    refine Go.by (fun t => st455 t) ?_
    replace Sf_vc := CRn.safe V_vc.lt Sf_vc
    replace CR := CR.trans CRn
    replace Od := Od.ext E455
    replace V_dO := V_dO.ext E455
    replace V_dT := V_dT.ext E455
    replace E_x1 := E_x1.ext E455
    replace B1 := B1.ext E455
    replace V_vc := V_vc.ext E455
    replace Z0 := Nat.le_trans Z0 E455.1
    replace K0 := K0.ext E455
    clear CRn hS hk
    have hS := hS455
    have hk := hk455
    replace hZ := hZ455
    replace hown := hown455
    replace X455 := Stand.num (C := 9) (S := 1248) X455 rfl rfl
    have ne_vc_c1 := (sf455 _ Sf_vc).1
    have ne_vc_t_c1 := (sf455 _ Sf_vc).2
    show Go p e below _ (T455.setTop (mkF m 44 #[vr s1, vi (Int32.ofNat k)] [(.ref c1), (.ref x1)]))
    have S_c1 : StrT Z h455 c1 t_c1 [(46 : Int32), (46 : Int32), (46 : Int32), (32 : Int32), (40 : Int32)] := ⟨kb_c1, E_c1, F_value_c1, Or.inl ⟨F_coder_c1, (by unfold LatP; decide), arv_eq V_t_c1 (by first | rfl | decide)⟩⟩
    have ne_t_c1_vc : t_c1 ≠ vc := Ne.symm ne_vc_t_c1
    have lc : LatP [(46 : Int32), (46 : Int32), (46 : Int32), (32 : Int32), (40 : Int32)] := by unfold LatP; decide
    have lc2 : LatP [(32 : Int32), (99 : Int32), (104 : Int32), (97 : Int32), (114 : Int32), (97 : Int32), (99 : Int32), (116 : Int32), (101 : Int32), (114 : Int32), (115 : Int32), (41 : Int32)] := by unfold LatP; decide
    refine kV (W := 0) (C := 11) (S := 1848) X455 hx hZ hown (wd hw 222 rfl) (wd hw 223 rfl) (wd hw 225 rfl) (wd hw 224 rfl) (wd hw 114 rfl) (wd hw 226 rfl) (notFace_of_selects (args := #[]) (mvT hZ (wd hw 225 rfl))) E_x1 (rmSA l Z a0 hw [] x1 c1 t_c1 vc k_vc (cs.take p1) ([(46 : Int32), (46 : Int32), (46 : Int32), (32 : Int32), (40 : Int32)]) 130 264 264 G1 G3 h455 n0 Z0 Od A1 HS LS O4 rG3 O2 P5 B1 S_c1 g_x1 g_vc ne_t_c1_vc (Or.inr lc) (fun h => absurd h nl) (fun h => absurd h nl) (fun _ _ => ⟨132, rfl, by show (cs.take p1).length + 5 ≤ 132; omega, rfl⟩) ⟨by decide, by decide⟩ (fun h => absurd h nl) (fun _ => by rw [show (cs.take p1).length + [(46 : Int32), (46 : Int32), (46 : Int32), (32 : Int32), (40 : Int32)].length = 70 from by show (cs.take p1).length + 5 = 70; omega]; exact enc_130_70)) pd_16 (D 23 rfl) e455 hml (by exact ⟨rfl, rfl, rfl, rfl⟩) (by decide) fun v456 T456 L456 Lc456 X456 hQ456 l456 => ?_
    obtain ⟨vd, k_vd, rfl, Nq456, K456, hbg, Bn⟩ := hQ456
    have g_vd : n0 ≤ vd := by rcases hbg with rfl | h; exact g_vc; exact Nat.le_trans Z0 h
    have Sf_vd : Safe Z EL T455.vm h455 vd := by rcases hbg with rfl | h; exact Sf_vc; exact Safe.new h
    have ne_dO_vd : dO ≠ vd := by rcases hbg with rfl | h; exact ne_dO_vc; exact Nat.ne_of_lt (Nat.lt_of_lt_of_le V_dO.lt h)
    have ne_dT_vd : dT ≠ vd := by rcases hbg with rfl | h; exact ne_dT_vc; exact Nat.ne_of_lt (Nat.lt_of_lt_of_le V_dT.lt h)
    have inb_vd : vd ∈ ([] : List Addr) ∨ h0.size ≤ vd := by rcases hbg with rfl | h; exact Or.inr sz_vc; exact Or.inr (Nat.le_trans K0.1 h)
    have sz_vd : h0.size ≤ vd := inb_vd.elim (fun h => nomatch h) id
    have N456 := l456 N454 Nq456
    have Sfw := ((sfS (Safe.exa hZ.alike E_x1 (by decide) (by decide)) (sfS Sf_vc sf0)) : ∀ x ∈ [x1, vc], Safe Z EL T455.vm h455 x)
    replace Sf_vc := Safe.keep K456 Sfw CR.1 Sf_vc
    replace Sf_vd := Safe.keep K456 Sfw CR.1 Sf_vd
    replace CR := CR.trans (CHr.keep K456 Sfw CR.1)
    clear Sfw
    replace hk := Nat.le_trans hk K456.1
    replace Od := Od.keep K456 (allS g_x1 (allS g_vc all0))
    replace V_dO := V_dO.keep K456 (ninS ne_dO_x1 (ninS ne_dO_vc nin0))
    replace V_dT := V_dT.keep K456 (ninS ne_dT_x1 (ninS ne_dT_vc nin0))
    replace E_x1 := E_x1.keep K456
    replace Z0 := Nat.le_trans Z0 K456.1
    replace K0 := K0.trans K456 (allS (P := fun x => x ∈ _ ∨ _ ≤ x) (Or.inr sz_x1) (allS (P := fun x => x ∈ _ ∨ _ ≤ x) (Or.inr sz_vc) all0))
    clear B1
    have B1 := Bn
    clear Bn
    obtain ⟨vz_vd, V_vd⟩ := B1.arv
    rw [← List.length_append] at B1
    have h5 : (cs.take p1 ++ [(46 : Int32), (46 : Int32), (46 : Int32), (32 : Int32), (40 : Int32)]).length = p1 + 5 := by rw [List.length_append, hl]; rfl
    obtain ⟨hdl, hd4⟩ := hd.len
    refine gi X456 hx (D 24 rfl) rfl ?_
    refine kV (W := 0) (C := 11) (S := 1848) X456 hx hZ hown (wd hw 296 rfl) (wd hw 297 rfl) (wd hw 299 rfl) (wd hw 298 rfl) (wd hw 114 rfl) (wd hw 300 rfl) (notFace_of_selects (args := #[]) (mvT hZ (wd hw 299 rfl))) E_x1 (rmSAI l Z a0 hw [] x1 vd k_vd (cs.take p1 ++ [(46 : Int32), (46 : Int32), (46 : Int32), (32 : Int32), (40 : Int32)]) dl (Int32.ofNat k) d 264 dO dT kO kT G1 G3 T456.heap n0 Od A1 HS LS O4 rG3 O2 P5 SO SN V_dO V_dT ne_dO_vd ne_dT_vd B1 g_x1 g_vd hd ld (fun h => absurd h (fun h => nl (fun c hc => h c (List.mem_append_left _ hc)))) (fun _ => ⟨132, rfl, by rw [h5]; omega, hd3 hp1⟩) (by decide)) pd_17 (D 25 rfl) rfl hml (by exact ⟨rfl, rfl, rfl, rfl⟩) (by decide) fun v457 T457 L457 Lc457 X457 hQ457 l457 => ?_
    obtain ⟨rfl, Nq457, K457, Bn⟩ := hQ457
    have N457 := l457 N456 Nq457
    have Sfw := ((sfS (Safe.exa hZ.alike E_x1 (by decide) (by decide)) (sfS Sf_vd sf0)) : ∀ x ∈ [x1, vd], Safe Z EL T455.vm T456.heap x)
    replace Sf_vd := Safe.keep K457 Sfw CR.1 Sf_vd
    replace CR := CR.trans (CHr.keep K457 Sfw CR.1)
    clear Sfw
    replace hk := Nat.le_trans hk K457.1
    replace Od := Od.keep K457 (allS g_x1 (allS g_vd all0))
    replace V_dO := V_dO.keep K457 (ninS ne_dO_x1 (ninS ne_dO_vd nin0))
    replace V_dT := V_dT.keep K457 (ninS ne_dT_x1 (ninS ne_dT_vd nin0))
    replace E_x1 := E_x1.keep K457
    replace Z0 := Nat.le_trans Z0 K457.1
    replace K0 := K0.trans K457 (allS (P := fun x => x ∈ _ ∨ _ ≤ x) (Or.inr sz_x1) (allS (P := fun x => x ∈ _ ∨ _ ≤ x) (Or.inr sz_vd) all0))
    clear B1
    have B1 := Bn
    clear Bn
    rw [← hdl, ← List.length_append] at B1
    clear V_vd
    obtain ⟨vy, V_vd⟩ := B1.arv
    obtain ⟨c2, T458, h458, k458, t_c2, kb_c2, X458, e458, E458, hS458, hk458, hZ458, hown458, E_c2, F_coder_c2, F_value_c2, V_t_c2, lt_c2, ltb_c2, CRn, Lit458, sf458, st458⟩ := ldcCH X457 hx hZ hown (wd hw 321 rfl) hwS rfl hS hk hEL (by decide) CR.1 (vs := [(.int (32 : Int32)), (.int (99 : Int32)), (.int (104 : Int32)), (.int (97 : Int32)), (.int (114 : Int32)), (.int (97 : Int32)), (.int (99 : Int32)), (.int (116 : Int32)), (.int (101 : Int32)), (.int (114 : Int32)), (.int (115 : Int32)), (.int (41 : Int32))]) (z := 12) (by decide) (by decide) rfl (g := (mkF m 51 #[vr s1, vi (Int32.ofNat k)] [(.ref x1)])) rfl (D 26 rfl) (n := 48) (by decide) (by decide) (by decide) (by decide)
    refine Go.by (fun t => st458 t) ?_
    replace Sf_vd := CRn.safe V_vd.lt Sf_vd
    replace CR := CR.trans CRn
    replace Od := Od.ext E458
    replace V_dO := V_dO.ext E458
    replace V_dT := V_dT.ext E458
    replace E_x1 := E_x1.ext E458
    replace B1 := B1.ext E458
    replace V_vd := V_vd.ext E458
    replace Z0 := Nat.le_trans Z0 E458.1
    replace K0 := K0.ext E458
    clear CRn hS hk
    have hS := hS458
    have hk := hk458
    replace hZ := hZ458
    replace hown := hown458
    replace X458 := Stand.num (C := 13) (S := 1900) X458 rfl rfl
    have ne_vd_c2 := (sf458 _ Sf_vd).1
    have ne_vd_t_c2 := (sf458 _ Sf_vd).2
    show Go p e below _ (T458.setTop (mkF m 53 #[vr s1, vi (Int32.ofNat k)] [(.ref c2), (.ref x1)]))
    have S_c2 : StrT Z h458 c2 t_c2 [(32 : Int32), (99 : Int32), (104 : Int32), (97 : Int32), (114 : Int32), (97 : Int32), (99 : Int32), (116 : Int32), (101 : Int32), (114 : Int32), (115 : Int32), (41 : Int32)] := ⟨kb_c2, E_c2, F_value_c2, Or.inl ⟨F_coder_c2, (by unfold LatP; decide), arv_eq V_t_c2 (by first | rfl | decide)⟩⟩
    have ne_t_c2_vd : t_c2 ≠ vd := Ne.symm ne_vd_t_c2
    have h7 : ((cs.take p1 ++ [(46 : Int32), (46 : Int32), (46 : Int32), (32 : Int32), (40 : Int32)]) ++ dl).length = p1 + 5 + d := by rw [List.length_append, h5, hdl]
    have b7 : ∃ c ∈ (cs.take p1 ++ [(46 : Int32), (46 : Int32), (46 : Int32), (32 : Int32), (40 : Int32)]) ++ dl, (255 : Int32) < c := ex_appL (ex_appL hx0)
    refine kV (W := 0) (C := 15) (S := 2500) X458 hx hZ hown (wd hw 222 rfl) (wd hw 223 rfl) (wd hw 225 rfl) (wd hw 224 rfl) (wd hw 114 rfl) (wd hw 226 rfl) (notFace_of_selects (args := #[]) (mvT hZ (wd hw 225 rfl))) E_x1 (rmSA l Z a0 hw [] x1 c2 t_c2 vd k_vd ((cs.take p1 ++ [(46 : Int32), (46 : Int32), (46 : Int32), (32 : Int32), (40 : Int32)]) ++ dl) ([(32 : Int32), (99 : Int32), (104 : Int32), (97 : Int32), (114 : Int32), (97 : Int32), (99 : Int32), (116 : Int32), (101 : Int32), (114 : Int32), (115 : Int32), (41 : Int32)]) 264 264 264 G1 G3 h458 n0 Z0 Od A1 HS LS O4 rG3 O2 P5 B1 S_c2 g_x1 g_vd ne_t_c2_vd (Or.inr lc2) (fun h => absurd h (fun h => nl (fun c hc => h c (List.mem_append_left _ (List.mem_append_left _ hc))))) (fun h => absurd h (fun h => nl (fun c hc => h c (List.mem_append_left _ (List.mem_append_left _ hc))))) (fun _ _ => ⟨132, rfl, by rw [h7]; show _ + 12 ≤ 132; omega, rfl⟩) ⟨by decide, by decide⟩ (fun h => absurd h (fun h => nl (fun c hc => h c (List.mem_append_left _ (List.mem_append_left _ hc))))) (fun _ => Or.inl ⟨by rw [show Int32.ofNat 264 = Int32.ofNat (2 * 132) from rfl, o_shr (by decide), h7]; exact sub_np (by show _ + 12 ≤ 132; omega) (by decide), rfl⟩)) pd_16 (D 27 rfl) e458 hml (by exact ⟨rfl, rfl, rfl, rfl⟩) (by decide) fun v459 T459 L459 Lc459 X459 hQ459 l459 => ?_
    obtain ⟨ve, k_ve, rfl, Nq459, K459, hbg, Bn⟩ := hQ459
    have g_ve : n0 ≤ ve := by rcases hbg with rfl | h; exact g_vd; exact Nat.le_trans Z0 h
    have Sf_ve : Safe Z EL T458.vm h458 ve := by rcases hbg with rfl | h; exact Sf_vd; exact Safe.new h
    have ne_dO_ve : dO ≠ ve := by rcases hbg with rfl | h; exact ne_dO_vd; exact Nat.ne_of_lt (Nat.lt_of_lt_of_le V_dO.lt h)
    have ne_dT_ve : dT ≠ ve := by rcases hbg with rfl | h; exact ne_dT_vd; exact Nat.ne_of_lt (Nat.lt_of_lt_of_le V_dT.lt h)
    have inb_ve : ve ∈ ([] : List Addr) ∨ h0.size ≤ ve := by rcases hbg with rfl | h; exact Or.inr sz_vd; exact Or.inr (Nat.le_trans K0.1 h)
    have sz_ve : h0.size ≤ ve := inb_ve.elim (fun h => nomatch h) id
    have N459 := l459 N457 Nq459
    have Sfw := ((sfS (Safe.exa hZ.alike E_x1 (by decide) (by decide)) (sfS Sf_vd sf0)) : ∀ x ∈ [x1, vd], Safe Z EL T458.vm h458 x)
    replace Sf_vd := Safe.keep K459 Sfw CR.1 Sf_vd
    replace Sf_ve := Safe.keep K459 Sfw CR.1 Sf_ve
    replace CR := CR.trans (CHr.keep K459 Sfw CR.1)
    clear Sfw
    replace hk := Nat.le_trans hk K459.1
    replace Od := Od.keep K459 (allS g_x1 (allS g_vd all0))
    replace V_dO := V_dO.keep K459 (ninS ne_dO_x1 (ninS ne_dO_vd nin0))
    replace V_dT := V_dT.keep K459 (ninS ne_dT_x1 (ninS ne_dT_vd nin0))
    replace E_x1 := E_x1.keep K459
    replace Z0 := Nat.le_trans Z0 K459.1
    replace K0 := K0.trans K459 (allS (P := fun x => x ∈ _ ∨ _ ≤ x) (Or.inr sz_x1) (allS (P := fun x => x ∈ _ ∨ _ ≤ x) (Or.inr sz_vd) all0))
    clear B1
    have B1 := Bn
    clear Bn
    obtain ⟨vz_ve, V_ve⟩ := B1.arv
    rw [← List.length_append] at B1
    have h9 : (((cs.take p1 ++ [(46 : Int32), (46 : Int32), (46 : Int32), (32 : Int32), (40 : Int32)]) ++ dl) ++ [(32 : Int32), (99 : Int32), (104 : Int32), (97 : Int32), (114 : Int32), (97 : Int32), (99 : Int32), (116 : Int32), (101 : Int32), (114 : Int32), (115 : Int32), (41 : Int32)]).length = p1 + 17 + d := by rw [List.length_append, h7]; show _ + 12 = _; omega
    obtain ⟨b1, b2, b4, b5, cd, us, b3, b6, hen, hvl⟩ := B1
    have hus : us.length < 264 ∧ us.length ≤ 300 := by rcases enc_len hen with ⟨-, q⟩ | ⟨-, q⟩ <;> (rw [q, h9]; omega)
    refine kV (W := 0) (C := 17) (S := 2804) X459 hx hZ hown (wd hw 322 rfl) (wd hw 323 rfl) (wd hw 325 rfl) (wd hw 324 rfl) (wd hw 114 rfl) (wd hw 326 rfl) (notFace_of_selects (args := #[]) (mvT hZ (wd hw 325 rfl))) E_x1 (rmTS l Z a0 hw [] x1 ve k_ve us [] (((cs.take p1 ++ [(46 : Int32), (46 : Int32), (46 : Int32), (32 : Int32), (40 : Int32)]) ++ dl) ++ [(32 : Int32), (99 : Int32), (104 : Int32), (97 : Int32), (114 : Int32), (97 : Int32), (99 : Int32), (116 : Int32), (101 : Int32), (114 : Int32), (115 : Int32), (41 : Int32)]).length 264 G1 cd T459.heap n0 Z0 Od O2 P5 b1 b2 b3 b4 b5 (by rw [List.append_nil]; exact b6) (enc_len hen) hus.1 (by decide) hus.2) pd_18 (D 28 rfl) rfl hml (by exact ⟨rfl, rfl, rfl, rfl⟩) (by decide) fun v460 T460 L460 Lc460 X460 hQ460 l460 => ?_
    obtain ⟨r9, t9, kt9, rfl, Nq460, K460, sz_r, E_r, Fv, Fc, V_t⟩ := hQ460
    have N460 := l460 N459 Nq460
    have Sfw := (sf0 : ∀ x ∈ [], Safe Z EL T458.vm T459.heap x)
    replace CR := CR.trans (CHr.keep K460 Sfw CR.1)
    clear Sfw
    replace hk := Nat.le_trans hk K460.1
    replace Z0 := Nat.le_trans Z0 K460.1
    replace K0 := K0.trans K460 all0
    have S9 := enc_str hen E_r Fv Fc V_t
    rw [List.append_assoc, List.append_assoc] at S9
    exact Go.ret1W X460 hS hk CR hZ hEL hx Bd.returns Bd.notSynchronized rfl (Or.inr (Or.inr (Or.inr (Or.inr ⟨rfl, rfl, rfl⟩)))) (D 29 rfl) (by decide) (by decide) ⟨r9, rfl, N460, K0, S9⟩
def Q_rm0 (Z : State) (i0 i1 i2 c0 c1 c2 c3 hi lo : Int32) (n : Nat) (dO dT : Addr) (kO kT : ClassId) (G1 : Int32) (G3 : Value) (h0 : Heap) (n0 : Nat) : Option Value → Heap → List Loc → Prop := fun v _ L => v = some (.int 1) ∧ Fr n0 L
set_option maxRecDepth 65536 in
set_option maxHeartbeats 40000000 in
theorem rm0 (l : Launch) (Z : State) (a0 : Array Value) (hw : HW a0 Z) (ws : List Jvm.Cond) (i0 i1 i2 c0 c1 c2 c3 hi lo : Int32) (n : Nat) (dO dT : Addr) (kO kT : ClassId) (G1 : Int32) (G3 : Value) (h0 : Heap) (n0 : Nat) (Z0 : n0 ≤ h0.size) (Od : Old Z n0 h0) (A1 : SA1 Z) (HS : SHS Z) (LS : SLS Z) (O4 : SO4 Z G3) (rG3 : G3.isRef = true) (O2 : SO2 Z G1) (P5 : ¬ (G1 = (0 : Int32))) (SO : Sta Z Z.heap "java/lang/Integer" "DigitOnes" "[B" (.ref dO)) (SN : Sta Z Z.heap "java/lang/Integer" "DigitTens" "[B" (.ref dT)) (V_dO : Arv Z h0 dO kO .byte (100 : Int32) onesL (.int 0)) (V_dT : Arv Z h0 dT kT .byte (100 : Int32) tensL (.int 0)) (sn : SelP (i2 &&& (7 : Int32)) n) (e0' : (i0 &&& (255 : Int32)).toUInt32.toUInt16.toUInt32.toInt32 = c0) (e1' : (((i0.toUInt32 >>> ((8 : Int32) &&& 31).toUInt32).toInt32) &&& (255 : Int32)).toUInt32.toUInt16.toUInt32.toInt32 = c1) (e2' : (((i0.toUInt32 >>> ((16 : Int32) &&& 31).toUInt32).toInt32) &&& (255 : Int32)).toUInt32.toUInt16.toUInt32.toInt32 = c2) (e3' : (((i0.toUInt32 >>> ((24 : Int32) &&& 31).toUInt32).toInt32) &&& (255 : Int32)).toUInt32.toUInt16.toUInt32.toInt32 = c3) (g0 : ¬ c0 < 0 ∧ ¬ (255 : Int32) < c0) (g1 : ¬ c1 < 0 ∧ ¬ (255 : Int32) < c1) (g2 : ¬ c2 < 0 ∧ ¬ (255 : Int32) < c2) (g3 : ¬ c3 < 0 ∧ ¬ (255 : Int32) < c3) (ehi : ((55296 : Int32) + (((i1.toUInt32 >>> ((10 : Int32) &&& 31).toUInt32).toInt32) &&& (1023 : Int32))).toUInt32.toUInt16.toUInt32.toInt32 = hi) (elo : ((56320 : Int32) + (i1 &&& (1023 : Int32))).toUInt32.toUInt16.toUInt32.toInt32 = lo) (bh : ¬ (hi < (55296 : Int32)) ∧ hi < (56320 : Int32)) (bl : ¬ (lo < (56320 : Int32)) ∧ lo < (57344 : Int32)) :
    CTW EL l x code maxLocals ret ws room_1 #[(.int i0), (.int i1), (.int i2)] Z h0 (Q_rm0 Z i0 i1 i2 c0 c1 c2 c3 hi lo n dO dT kO kT G1 G3 h0 n0) := by
  refine Go.startW (plainFor_of_name pn_0) #[vi i0, vi i1, vi i2, uu, uu, uu, uu, uu, uu, uu, uu, uu, uu, uu, uu, uu, uu] n0 (by first | (simp [argsToLocals, Value.category, maxLocals]; done) | rfl) ?_
  intro p e s m below meth c s₁ Bd hx hby hml hZ hown X0 e0 N0 hS CR
  replace hown : s.vm.findClass "com/example/gearline/gearline/data/ValuesShownPinLaw" = some m.cls := hown
  have hk : 0 ≤ h0.size := Nat.zero_le _
  have hEL := ew_of hw
  have hwS := ws_of hw
  have hN := sn.in
  have hn0 : n ≤ 1000 := by omega
  refine gi X0 hx (hb hby at_0) rfl ?_
  refine gb X0 hx 7 (hb hby at_1) rfl ?_
  refine gq (XS.iand X0.here hx rfl (hb hby at_3) rfl) rfl ?_
  refine gt X0 hx #[vi i0, vi i1, vi i2, vi (i2 &&& (7 : Int32)), uu, uu, uu, uu, uu, uu, uu, uu, uu, uu, uu, uu, uu] (hb hby at_4) rfl ?_
  refine Go.two (B := s₁.setTop (mkF m 77 #[vi i0, vi i1, vi i2, vi (i2 &&& (7 : Int32)), uu, uu, uu, uu, uu, uu, uu, uu, uu, uu, uu, uu, uu] [(.int (Int32.ofNat n))])) ?_ fun tail => ?_
  ·
    refine gT X0 hx #[vi i0, vi i1, vi i2, vi (i2 &&& (7 : Int32)), vi (Int32.ofNat n), uu, uu, uu, uu, uu, uu, uu, uu, uu, uu, uu, uu] (hb hby at_77) rfl ?_
    refine gi X0 hx (hb hby at_79) rfl ?_
    refine gk X0 hx 3 (hb hby at_80) rfl ?_
    refine gq (XS.iushr X0.here hx rfl (hb hby at_81) rfl) rfl ?_
    refine gk X0 hx 3 (hb hby at_82) rfl ?_
    refine gq (XS.iand X0.here hx rfl (hb hby at_83) rfl) rfl ?_
    obtain ⟨md, hmd⟩ : ∃ z, z = (((i2.toUInt32 >>> ((3 : Int32) &&& 31).toUInt32).toInt32) &&& (3 : Int32)) := ⟨_, rfl⟩
    show Go p e below _ (s₁.setTop (mkF m 84 #[vi i0, vi i1, vi i2, vi (i2 &&& (7 : Int32)), vi (Int32.ofNat n), uu, uu, uu, uu, uu, uu, uu, uu, uu, uu, uu, uu] [(.int (((i2.toUInt32 >>> ((3 : Int32) &&& 31).toUInt32).toInt32) &&& (3 : Int32)))]))
    rw [← hmd]
    refine gT X0 hx #[vi i0, vi i1, vi i2, vi (i2 &&& (7 : Int32)), vi (Int32.ofNat n), vi md, uu, uu, uu, uu, uu, uu, uu, uu, uu, uu, uu] (hb hby at_84) rfl ?_
    refine gI X0 hx (hb hby at_86) rfl ?_
    refine gk X0 hx 1 (hb hby at_88) rfl ?_
    refine Go.twoP (P := fun pp : Int32 => pp < 0 ∨ ∃ j : Nat, j ≤ 1000 ∧ pp = Int32.ofNat j) (B := fun pp => s₁.setTop (mkF m 111 #[vi i0, vi i1, vi i2, vi (i2 &&& (7 : Int32)), vi (Int32.ofNat n), vi md, uu, uu, uu, uu, uu, uu, uu, uu, uu, uu, uu] [(.int pp)])) ?_ fun tail2 => ?_
    ·
      intro pp hpp
      show Go p e below _ (s₁.setTop (mkF m 111 #[vi i0, vi i1, vi i2, vi (i2 &&& (7 : Int32)), vi (Int32.ofNat n), vi md, uu, uu, uu, uu, uu, uu, uu, uu, uu, uu, uu] [(.int pp)]))
      refine gT X0 hx #[vi i0, vi i1, vi i2, vi (i2 &&& (7 : Int32)), vi (Int32.ofNat n), vi md, vi pp, uu, uu, uu, uu, uu, uu, uu, uu, uu, uu] (hb hby at_111) rfl ?_
      refine gI X0 hx (hb hby at_113) rfl ?_
      refine Go.twoP (P := fun pd : Int32 => pd = 0 ∨ (pd = 1 ∧ ∃ j : Nat, pp = Int32.ofNat j ∧ j + 1 < n)) (B := fun pd => s₁.setTop (mkF m 137 #[vi i0, vi i1, vi i2, vi (i2 &&& (7 : Int32)), vi (Int32.ofNat n), vi md, vi pp, uu, uu, uu, uu, uu, uu, uu, uu, uu, uu] [(.int pd)])) ?_ fun tail3 => ?_
      ·
        intro pd hpd
        rcases hpd with rfl | ⟨rfl, j, rfl, hj⟩
        ·
          show Go p e below _ (s₁.setTop (mkF m 137 #[vi i0, vi i1, vi i2, vi (i2 &&& (7 : Int32)), vi (Int32.ofNat n), vi md, vi pp, uu, uu, uu, uu, uu, uu, uu, uu, uu, uu] [(.int (0 : Int32))]))
          refine gT X0 hx #[vi i0, vi i1, vi i2, vi (i2 &&& (7 : Int32)), vi (Int32.ofNat n), vi md, vi pp, vi (0 : Int32), uu, uu, uu, uu, uu, uu, uu, uu, uu] (hb hby at_137) rfl ?_
          refine Go.by (fun t => X0.ldcInt hx hown (mvT hZ (wd hw 0 rfl)) (g := (mkF m 139 #[vi i0, vi i1, vi i2, vi (i2 &&& (7 : Int32)), vi (Int32.ofNat n), vi md, vi pp, vi (0 : Int32), uu, uu, uu, uu, uu, uu, uu, uu, uu] [])) rfl (hb hby at_139) t) ?_
          show Go p e below _ (s₁.setTop (mkF m 141 #[vi i0, vi i1, vi i2, vi (i2 &&& (7 : Int32)), vi (Int32.ofNat n), vi md, vi pp, vi (0 : Int32), uu, uu, uu, uu, uu, uu, uu, uu, uu] [(.int (55296 : Int32))]))
          refine gi X0 hx (hb hby at_141) rfl ?_
          refine gb X0 hx 10 (hb hby at_142) rfl ?_
          refine gq (XS.iushr X0.here hx rfl (hb hby at_144) rfl) rfl ?_
          refine gs X0 hx 1023 (hb hby at_145) rfl ?_
          refine gq (XS.iand X0.here hx rfl (hb hby at_148) rfl) rfl ?_
          refine gq (XS.iadd X0.here hx rfl (hb hby at_149) rfl) rfl ?_
          refine gq (XS.i2c X0.here hx rfl (hb hby at_150) rfl) rfl ?_
          have ehi' : (((55296 : Int32) + (((i1.toUInt32 >>> ((10 : Int32) &&& 31).toUInt32).toInt32) &&& (1023 : Int32))).toUInt32.toUInt16.toUInt32.toInt32) = hi := ehi
          show Go p e below _ (s₁.setTop (mkF m 151 #[vi i0, vi i1, vi i2, vi (i2 &&& (7 : Int32)), vi (Int32.ofNat n), vi md, vi pp, vi (0 : Int32), uu, uu, uu, uu, uu, uu, uu, uu, uu] [(.int (((55296 : Int32) + (((i1.toUInt32 >>> ((10 : Int32) &&& 31).toUInt32).toInt32) &&& (1023 : Int32))).toUInt32.toUInt16.toUInt32.toInt32))]))
          rw [ehi']
          refine gT X0 hx #[vi i0, vi i1, vi i2, vi (i2 &&& (7 : Int32)), vi (Int32.ofNat n), vi md, vi pp, vi (0 : Int32), vi hi, uu, uu, uu, uu, uu, uu, uu, uu] (hb hby at_151) rfl ?_
          refine Go.by (fun t => X0.ldcInt hx hown (mvT hZ (wd hw 1 rfl)) (g := (mkF m 153 #[vi i0, vi i1, vi i2, vi (i2 &&& (7 : Int32)), vi (Int32.ofNat n), vi md, vi pp, vi (0 : Int32), vi hi, uu, uu, uu, uu, uu, uu, uu, uu] [])) rfl (hb hby at_153) t) ?_
          show Go p e below _ (s₁.setTop (mkF m 155 #[vi i0, vi i1, vi i2, vi (i2 &&& (7 : Int32)), vi (Int32.ofNat n), vi md, vi pp, vi (0 : Int32), vi hi, uu, uu, uu, uu, uu, uu, uu, uu] [(.int (56320 : Int32))]))
          refine gi X0 hx (hb hby at_155) rfl ?_
          refine gs X0 hx 1023 (hb hby at_156) rfl ?_
          refine gq (XS.iand X0.here hx rfl (hb hby at_159) rfl) rfl ?_
          refine gq (XS.iadd X0.here hx rfl (hb hby at_160) rfl) rfl ?_
          refine gq (XS.i2c X0.here hx rfl (hb hby at_161) rfl) rfl ?_
          have elo' : (((56320 : Int32) + (i1 &&& (1023 : Int32))).toUInt32.toUInt16.toUInt32.toInt32) = lo := elo
          show Go p e below _ (s₁.setTop (mkF m 162 #[vi i0, vi i1, vi i2, vi (i2 &&& (7 : Int32)), vi (Int32.ofNat n), vi md, vi pp, vi (0 : Int32), vi hi, uu, uu, uu, uu, uu, uu, uu, uu] [(.int (((56320 : Int32) + (i1 &&& (1023 : Int32))).toUInt32.toUInt16.toUInt32.toInt32))]))
          rw [elo']
          refine gT X0 hx #[vi i0, vi i1, vi i2, vi (i2 &&& (7 : Int32)), vi (Int32.ofNat n), vi md, vi pp, vi (0 : Int32), vi hi, vi lo, uu, uu, uu, uu, uu, uu, uu] (hb hby at_162) rfl ?_
          refine gI X0 hx (hb hby at_164) rfl ?_
          obtain ⟨T461, h461, k461, X461, e461, E461, A461, st461⟩ := newP X0 hx hZ (wd hw 2 rfl) e0 (g := (mkF m 166 #[vi i0, vi i1, vi i2, vi (i2 &&& (7 : Int32)), vi (Int32.ofNat n), vi md, vi pp, vi (0 : Int32), vi hi, vi lo, uu, uu, uu, uu, uu, uu, uu] [(.int (Int32.ofNat n))])) rfl (hb hby at_166) rfl (o_nn (by omega)) (cap := 1000) (by rw [o_nat (by omega)]; omega) (by decide) (by decide) (by decide)
          obtain ⟨b, g461⟩ : ∃ z, z = h0.size := ⟨_, rfl⟩
          rw [← g461] at A461 st461
          refine Go.by (fun t => st461 t) ?_
          have g_b : n0 ≤ b := Nat.le_trans Z0 (Nat.le_of_eq g461.symm)
          have ne_dO_b : dO ≠ b := Nat.ne_of_lt (Nat.lt_of_lt_of_le V_dO.lt (Nat.le_of_eq g461.symm))
          have ne_dT_b : dT ≠ b := Nat.ne_of_lt (Nat.lt_of_lt_of_le V_dT.lt (Nat.le_of_eq g461.symm))
          replace CR := CR.trans (CHr.ext E461 CR.1)
          replace hk := Nat.le_trans hk E461.1
          replace Od := Od.ext E461
          replace V_dO := V_dO.ext E461
          replace V_dT := V_dT.ext E461
          replace Z0 := Nat.le_trans Z0 E461.1
          have V_b := Arv.new A461 (o_nn (by omega))
          replace X461 := Stand.num (C := 1) (S := 1000) X461 rfl rfl
          show Go p e below _ (T461.setTop (mkF m 168 #[vi i0, vi i1, vi i2, vi (i2 &&& (7 : Int32)), vi (Int32.ofNat n), vi md, vi pp, vi (0 : Int32), vi hi, vi lo, uu, uu, uu, uu, uu, uu, uu] [(.ref b)]))
          replace V_b : Arv Z h461 b k461 .char (Int32.ofNat n) ((List.replicate (n) (0 : Int32)).map Value.int) (.int 0) := by rw [List.map_replicate]; exact V_b.pad (pad_rep [] _ (n))
          refine gU X461 hx #[vi i0, vi i1, vi i2, vi (i2 &&& (7 : Int32)), vi (Int32.ofNat n), vi md, vi pp, vi (0 : Int32), vi hi, vi lo, vr b, uu, uu, uu, uu, uu, uu] (hb hby at_168) rfl rfl ?_
          refine gA X461 hx (hb hby at_170) rfl rfl ?_
          refine gI X461 hx (hb hby at_172) rfl ?_
          refine gI X461 hx (hb hby at_174) rfl ?_
          refine gi X461 hx (hb hby at_176) rfl ?_
          refine gI X461 hx (hb hby at_177) rfl ?_
          refine gI X461 hx (hb hby at_179) rfl ?_
          refine gI X461 hx (hb hby at_181) rfl ?_
          refine gI X461 hx (hb hby at_183) rfl ?_
          obtain ⟨cs, ecs⟩ : ∃ z, z = fillN (List.replicate n 0) n n c0 c1 c2 c3 false 0 hi lo := ⟨_, rfl⟩
          obtain ⟨hcl, tp, hop, hbd⟩ := plan0 g0 g1 g2 g3 ecs
          have hkc : cs.length ≤ 1000 := by omega
          refine kS (W := 0) (C := 1) (S := 1000) X461 hx hZ hown (wd hw 3 rfl) (wd hw 4 rfl) (wd hw 5 rfl) (wd hw 6 rfl) (rmFIL l Z a0 hw [] b k461 (Int32.ofNat n) (Int32.ofNat n) (Int32.ofNat n) i0 (0 : Int32) pp hi lo c0 c1 c2 c3 (List.replicate (n) 0) h461 n0 g_b V_b (fun q q1 q2 => by rw [List.length_replicate]; exact hlim (n := n) (N := n) (by omega) (by omega) q q1 q2) e0' e1' e2' e3' g0 g1 g2 g3 (sur_16 (a := 55296) (b := 56320) (by decide) (by decide) (by decide) bh) (sur_16 (a := 56320) (b := 57344) (by decide) (by decide) (by decide) bl)) pd_0 (hb hby at_185) e461 hml (by exact ⟨rfl, rfl, rfl, rfl⟩) (by decide) fun v462 T462 L462 Lc462 X462 hQ462 l462 => ?_
          obtain ⟨rfl, Nq462, K462, Vn⟩ := hQ462
          have N462 := l462 N0 Nq462
          have Sfw := ((sfS (Safe.arv hZ.alike V_b (by decide)) sf0) : ∀ x ∈ [b], Safe Z EL s.vm h461 x)
          replace CR := CR.trans (CHr.keep K462 Sfw CR.1)
          clear Sfw
          replace hk := Nat.le_trans hk K462.1
          replace Od := Od.keep K462 (allS g_b all0)
          replace V_dO := V_dO.keep K462 (ninS ne_dO_b nin0)
          replace V_dT := V_dT.keep K462 (ninS ne_dT_b nin0)
          replace Z0 := Nat.le_trans Z0 K462.1
          clear V_b
          have V_b : Arv Z T462.heap b k461 .char (Int32.ofNat n) ((cs).map Value.int) (.int 0) := arv_eq Vn (congrArg (List.map Value.int) ((fillI_0 _ (by omega) (by omega) pp c0 c1 c2 c3 hi lo).trans ecs.symm))
          clear Vn
          obtain ⟨T463, h463, X463, e463, E463, A463, D463, -, st463⟩ := newO X462 hx hZ hown (wd hw 10 rfl) (wd hw 11 rfl) (wd hw 12 rfl) rfl (g := (mkF m 188 #[vi i0, vi i1, vi i2, vi (i2 &&& (7 : Int32)), vi (Int32.ofNat n), vi md, vi pp, vi (0 : Int32), vi hi, vi lo, vr b, uu, uu, uu, uu, uu, uu] [])) rfl (hb hby at_188) (by decide) (by decide)
          obtain ⟨s1, g463⟩ : ∃ z, z = T462.heap.size := ⟨_, rfl⟩
          rw [← g463] at A463 D463 st463
          refine Go.by (fun t => st463 t) ?_
          have g_s1 : n0 ≤ s1 := Nat.le_trans Z0 (Nat.le_of_eq g463.symm)
          have ne_b_s1 : b ≠ s1 := Nat.ne_of_lt (Nat.lt_of_lt_of_le V_b.lt (Nat.le_of_eq g463.symm))
          have ne_dO_s1 : dO ≠ s1 := Nat.ne_of_lt (Nat.lt_of_lt_of_le V_dO.lt (Nat.le_of_eq g463.symm))
          have ne_dT_s1 : dT ≠ s1 := Nat.ne_of_lt (Nat.lt_of_lt_of_le V_dT.lt (Nat.le_of_eq g463.symm))
          have Sf_s1 : Safe Z EL s.vm T462.heap s1 := Safe.new (Nat.le_of_eq g463.symm)
          replace Sf_s1 := Sf_s1.ext E463 CR.1
          replace CR := CR.trans (CHr.ext E463 CR.1)
          replace hk := Nat.le_trans hk E463.1
          replace Od := Od.ext E463
          replace V_dO := V_dO.ext E463
          replace V_dT := V_dT.ext E463
          replace V_b := V_b.ext E463
          replace Z0 := Nat.le_trans Z0 E463.1
          have E_s1 := A463
          have F_coder_s1 : Fld Z h463 s1 "java/lang/String" "coder" "B" (.int (0 : Int32)) := D463 (Or.inr (wd hw 36 rfl)) (ty := .byte) (by decide)
          have F_value_s1 : Fld Z h463 s1 "java/lang/String" "value" "[B" .null := D463 (Or.inr (wd hw 38 rfl)) (ty := (.array .byte)) (by decide)
          replace X463 := Stand.num (C := 2) (S := 1004) X463 rfl rfl
          show Go p e below _ (T463.setTop (mkF m 191 #[vi i0, vi i1, vi i2, vi (i2 &&& (7 : Int32)), vi (Int32.ofNat n), vi md, vi pp, vi (0 : Int32), vi hi, vi lo, vr b, uu, uu, uu, uu, uu, uu] [(.ref s1)]))
          refine gq (XS.dup X463.here hx rfl (hb hby at_191) rfl rfl) rfl ?_
          refine gA X463 hx (hb hby at_192) rfl rfl ?_
          by_cases hz : n = 0
          ·
            have Vz : Arv Z h463 b k461 .char (0 : Int32) (cs.map Value.int) (.int 0) := by have z := V_b; rw [hz] at z; exact z
            obtain ⟨_, _, ⟨T464, L464, k464, n464⟩, -, X464, hSn, hgn, ⟨Lc464, hQ464, l464, y464, z464, CRn⟩, st464⟩ := X463.specialBackS hx (y := (⟨"java/lang/String", "<init>", "([C)V"⟩ : MethodName)) rfl hown (mvT (s := s.setVm s.vm) hZ (wd hw 13 rfl)) (mvT (s := s.setVm s.vm) hZ (wd hw 14 rfl)) (mvT (s := s.setVm s.vm) hZ (wd hw 15 rfl)) (by decide) (backOfSH (W := 1) (rmE1 l Z a0 hw [] s1 b k461 _ _ h463 n0 E_s1 F_value_s1 F_coder_s1 g_s1 Vz) hZ (wd hw 15 rfl) (wd hw 12 rfl) (by decide) (by decide) hEL CR.1) (g := (mkF m 194 #[vi i0, vi i1, vi i2, vi (i2 &&& (7 : Int32)), vi (Int32.ofNat n), vi md, vi pp, vi (0 : Int32), vi hi, vi lo, vr b, uu, uu, uu, uu, uu, uu] [(.ref b), (.ref s1), (.ref s1)])) rfl (by rw [hml]; rfl) (Steps.refl _) (a := s1) (argsL := [(.ref b)]) (rest := [(.ref s1)]) (lenOf pd_1 rfl) rfl (by show 2 * 0 + _ ≤ _; exact Nat.le_of_eq rfl) (hb hby at_194) (fun _ _ => ⟨rfl, e463, (by decide : 2 + 4 ≤ _), (by decide : 1004 + 8 ≤ _)⟩)
            dsimp only [Pt.U, Pt.locs, Pt.cells, Pt.slots] at X464 l464 y464 z464 st464 hQ464 hSn hgn CRn
            subst y464 z464
            rw [e463] at hgn
            obtain ⟨X464', hS464, hZ464, hown464⟩ := rebS hS hk X464 hSn hgn hZ hown
            obtain ⟨rfl, Nq464, K464, S_s1⟩ := hQ464
            have N464 : Fr n0 L464 := by rw [l464]; exact Fr.app N462 Nq464
            clear l464
            refine Go.by (fun t => st464.trans) ?_
            replace X464' := Stand.num (C := 6) (S := 1012) X464' rfl rfl
            replace Sf_s1 := CRn.safe E_s1.lt Sf_s1
            replace CR := CR.trans CRn
            replace Od := Od.keep K464 (allS g_s1 all0)
            replace V_dO := V_dO.keep K464 (ninS ne_dO_s1 nin0)
            replace V_dT := V_dT.keep K464 (ninS ne_dT_s1 nin0)
            replace E_s1 := E_s1.keep K464
            replace Z0 := Nat.le_trans Z0 K464.1
            clear CRn hS hk hSn
            have hS := hS464
            have hk : T464.heap.size ≤ T464.heap.size := Nat.le_refl _
            replace hZ := hZ464
            replace hown := hown464
            show Go p e below _ (T464.setTop (mkF m 197 #[vi i0, vi i1, vi i2, vi (i2 &&& (7 : Int32)), vi (Int32.ofNat n), vi md, vi pp, vi (0 : Int32), vi hi, vi lo, vr b, uu, uu, uu, uu, uu, uu] [(.ref s1)]))
            rw [show ([] : List Int32) = cs from (List.eq_nil_of_length_eq_zero (hcl.trans hz)).symm] at S_s1
            refine gU X464' hx #[vi i0, vi i1, vi i2, vi (i2 &&& (7 : Int32)), vi (Int32.ofNat n), vi md, vi pp, vi (0 : Int32), vi hi, vi lo, vr b, vr s1, uu, uu, uu, uu, uu] (hb hby at_197) rfl rfl ?_
            refine gA X464' hx (hb hby at_199) rfl rfl ?_
            refine kS (W := 0) (C := 6) (S := 1012) X464' hx hZ hown (wd hw 39 rfl) (wd hw 40 rfl) (wd hw 41 rfl) (wd hw 42 rfl) (rmSH0 l Z a0 hw [] s1 cs n G1 T464.heap n0 Od A1 HS LS O2 P5 S_s1 hkc tp (by omega)) pd_2 (hb hby at_201) rfl hml (by exact ⟨rfl, rfl, rfl, rfl⟩) (by decide) fun v465 T465 L465 Lc465 X465 hQ465 l465 => ?_
            obtain ⟨rfl, Nq465, e465⟩ := hQ465
            have N465 := l465 N464 Nq465
            refine gU X465 hx #[vi i0, vi i1, vi i2, vi (i2 &&& (7 : Int32)), vi (Int32.ofNat n), vi md, vi pp, vi (0 : Int32), vi hi, vi lo, vr b, vr s1, vr s1, uu, uu, uu, uu] (hb hby at_204) rfl rfl ?_
            refine gI X465 hx (hb hby at_206) rfl ?_
            refine zY X465 hx 218 (hb hby at_208) ((if0 _ _).trans (teq (rfl : (0 : Int32) = (0 : Int32))).1) (by decide) ?_
            refine gI X465 hx (hb hby at_218) rfl ?_
            refine gT X465 hx #[vi i0, vi i1, vi i2, vi (i2 &&& (7 : Int32)), vi (Int32.ofNat n), vi md, vi pp, vi (0 : Int32), vi hi, vi lo, vr b, vr s1, vr s1, vi (Int32.ofNat n), uu, uu, uu] (hb hby at_220) rfl ?_
            refine gI X465 hx (hb hby at_222) rfl ?_
            refine gb X465 hx 64 (hb hby at_224) rfl ?_
            refine cN X465 hx (hb hby at_226) (flt (by rw [show (64 : Int32) = Int32.ofNat 64 from rfl, o_lt (by decide) (by omega)]; omega : ¬ ((64 : Int32) < (Int32.ofNat n)))).2.2.1 ?_
            refine gA X465 hx (hb hby at_229) rfl rfl ?_
            refine gA X465 hx (hb hby at_231) rfl rfl ?_
            refine kV (W := 0) (C := 6) (S := 1012) X465 hx hZ hown (wd hw 72 rfl) (wd hw 73 rfl) (wd hw 75 rfl) (wd hw 74 rfl) (wd hw 12 rfl) (wd hw 76 rfl) (notFace_of_selects (args := #[]) (mvT hZ (wd hw 75 rfl))) S_s1.exa (rm16 l Z a0 hw [] s1 s1 cs G1 T464.heap n0 Od O2 P5 S_s1 S_s1 hkc) pd_3 (hb hby at_233) e465 hml (by exact ⟨rfl, rfl, rfl, rfl⟩) (by decide) fun v466 T466 L466 Lc466 X466 hQ466 l466 => ?_
            obtain ⟨rfl, Nq466, e466⟩ := hQ466
            have N466 := l466 N465 Nq466
            exact Go.ret1W X466 hS (by rw [e466]; exact hk) (by rw [e466]; exact CR) hZ hEL hx Bd.returns Bd.notSynchronized (by first | rfl | decide) (Or.inl ⟨rfl, by simp, _, rfl⟩) (hb hby at_236) (by decide) (by decide) (by first | (rw [e466]; exact ⟨rfl, N466⟩) | exact ⟨rfl, N466⟩)
          ·
            have Vs : Arv Z h463 b k461 .char (Int32.ofNat (cs).length) ((cs).map Value.int) (.int 0) := by rw [hcl]; exact V_b
            refine kI (W := 1) (C := 4) (S := 4004) X463 hx hZ hown (wd hw 13 rfl) (wd hw 14 rfl) (wd hw 12 rfl) (wd hw 15 rfl) (rmI1 l Z a0 hw [] s1 b k461 (cs) G1 h463 n0 Z0 Od A1 HS LS O2 P5 E_s1 F_value_s1 F_coder_s1 g_s1 Vs hkc (by omega) hbd) pd_1 (hb hby at_194) e463 hml (by exact ⟨rfl, rfl, rfl, rfl⟩) (by decide) fun v467 T467 L467 Lc467 X467 hQ467 l467 => ?_
            obtain ⟨rfl, Nq467, K467, S_s1⟩ := hQ467
            clear Vs
            have N467 := l467 N462 Nq467
            have Sfw := ((sfS Sf_s1 sf0) : ∀ x ∈ [s1], Safe Z EL s.vm h463 x)
            replace Sf_s1 := Safe.keep K467 Sfw CR.1 Sf_s1
            replace CR := CR.trans (CHr.keep K467 Sfw CR.1)
            clear Sfw
            replace hk := Nat.le_trans hk K467.1
            replace Od := Od.keep K467 (allS g_s1 all0)
            replace V_dO := V_dO.keep K467 (ninS ne_dO_s1 nin0)
            replace V_dT := V_dT.keep K467 (ninS ne_dT_s1 nin0)
            replace E_s1 := E_s1.keep K467
            replace Z0 := Nat.le_trans Z0 K467.1
            refine gU X467 hx #[vi i0, vi i1, vi i2, vi (i2 &&& (7 : Int32)), vi (Int32.ofNat n), vi md, vi pp, vi (0 : Int32), vi hi, vi lo, vr b, vr s1, uu, uu, uu, uu, uu] (hb hby at_197) rfl rfl ?_
            refine gA X467 hx (hb hby at_199) rfl rfl ?_
            by_cases hk64 : n ≤ 64
            ·
              refine kS (W := 0) (C := 4) (S := 4004) X467 hx hZ hown (wd hw 39 rfl) (wd hw 40 rfl) (wd hw 41 rfl) (wd hw 42 rfl) (rmSH0 l Z a0 hw [] s1 cs n G1 T467.heap n0 Od A1 HS LS O2 P5 S_s1 hkc tp hk64) pd_2 (hb hby at_201) rfl hml (by exact ⟨rfl, rfl, rfl, rfl⟩) (by decide) fun v468 T468 L468 Lc468 X468 hQ468 l468 => ?_
              obtain ⟨rfl, Nq468, e468⟩ := hQ468
              have N468 := l468 N467 Nq468
              refine gU X468 hx #[vi i0, vi i1, vi i2, vi (i2 &&& (7 : Int32)), vi (Int32.ofNat n), vi md, vi pp, vi (0 : Int32), vi hi, vi lo, vr b, vr s1, vr s1, uu, uu, uu, uu] (hb hby at_204) rfl rfl ?_
              refine gI X468 hx (hb hby at_206) rfl ?_
              refine zY X468 hx 218 (hb hby at_208) ((if0 _ _).trans (teq (rfl : (0 : Int32) = (0 : Int32))).1) (by decide) ?_
              refine gI X468 hx (hb hby at_218) rfl ?_
              refine gT X468 hx #[vi i0, vi i1, vi i2, vi (i2 &&& (7 : Int32)), vi (Int32.ofNat n), vi md, vi pp, vi (0 : Int32), vi hi, vi lo, vr b, vr s1, vr s1, vi (Int32.ofNat n), uu, uu, uu] (hb hby at_220) rfl ?_
              refine gI X468 hx (hb hby at_222) rfl ?_
              refine gb X468 hx 64 (hb hby at_224) rfl ?_
              refine cN X468 hx (hb hby at_226) (flt (by rw [show (64 : Int32) = Int32.ofNat 64 from rfl, o_lt (by decide) (by omega)]; omega : ¬ ((64 : Int32) < (Int32.ofNat n)))).2.2.1 ?_
              refine gA X468 hx (hb hby at_229) rfl rfl ?_
              refine gA X468 hx (hb hby at_231) rfl rfl ?_
              refine kV (W := 0) (C := 4) (S := 4004) X468 hx hZ hown (wd hw 72 rfl) (wd hw 73 rfl) (wd hw 75 rfl) (wd hw 74 rfl) (wd hw 12 rfl) (wd hw 76 rfl) (notFace_of_selects (args := #[]) (mvT hZ (wd hw 75 rfl))) S_s1.exa (rm16 l Z a0 hw [] s1 s1 cs G1 T467.heap n0 Od O2 P5 S_s1 S_s1 hkc) pd_3 (hb hby at_233) e468 hml (by exact ⟨rfl, rfl, rfl, rfl⟩) (by decide) fun v469 T469 L469 Lc469 X469 hQ469 l469 => ?_
              obtain ⟨rfl, Nq469, e469⟩ := hQ469
              have N469 := l469 N468 Nq469
              exact Go.ret1W X469 hS (by rw [e469]; exact hk) (by rw [e469]; exact CR) hZ hEL hx Bd.returns Bd.notSynchronized (by first | rfl | decide) (Or.inl ⟨rfl, by simp, _, rfl⟩) (hb hby at_236) (by decide) (by decide) (by first | (rw [e469]; exact ⟨rfl, N469⟩) | exact ⟨rfl, N469⟩)
            ·
              obtain ⟨d, dl, hd, hsf, ld, hdk⟩ := digs (k := n) (by omega)
              have hd4 : 2 ≤ d ∧ d ≤ 4 := by omega
              have op := hop (by omega)
              obtain ⟨_, _, ⟨T470, L470, k470, n470⟩, -, X470, hSn, hgn, ⟨Lc470, hQ470, l470, y470, z470, CRn⟩, st470⟩ := callSS X467 hx (y := (⟨"com/example/gearline/gearline/data/Values", "shown", "(Ljava/lang/String;)Ljava/lang/String;"⟩ : MethodName)) hown (mvT (s := s.setVm s.vm) hZ (wd hw 39 rfl)) (mvT (s := s.setVm s.vm) hZ (wd hw 40 rfl)) (mvT (s := s.setVm s.vm) hZ (wd hw 41 rfl)) (mvT (s := s.setVm s.vm) hZ (wd hw 42 rfl)) (by decide) (backOfSH (W := 0) (rmSH1 l Z a0 hw [] s1 cs n 64 d dl dO dT kO kT G1 G3 T467.heap n0 Z0 Od A1 HS LS O4 rG3 O2 P5 SO SN V_dO V_dT S_s1 hkc hbd tp (by omega) op hd ld (by omega)) hZ (wd hw 42 rfl) (wd hw 41 rfl) (by decide) (by decide) hEL CR.1) (g := (mkF m 201 #[vi i0, vi i1, vi i2, vi (i2 &&& (7 : Int32)), vi (Int32.ofNat n), vi md, vi pp, vi (0 : Int32), vi hi, vi lo, vr b, vr s1, uu, uu, uu, uu, uu] [(.ref s1)])) rfl (by rw [hml]; rfl) (argsL := [(.ref s1)]) (rest := []) (lenOf pd_2 rfl) rfl (by show 2 * 0 + _ ≤ _; exact Nat.le_of_eq rfl) (hb hby at_201) (fun _ _ => ⟨rfl, rfl, (by decide : 4 + 20 ≤ _), (by decide : 4004 + 3000 ≤ _)⟩)
              dsimp only [Pt.U, Pt.locs, Pt.cells, Pt.slots] at X470 l470 y470 z470 st470 hQ470 hSn hgn CRn
              subst y470 z470
              skip
              obtain ⟨X470', hS470, hZ470, hown470⟩ := rebS hS hk X470 hSn hgn hZ hown
              obtain ⟨u1, rfl, Nq470, K470, U1⟩ := hQ470
              have N470 : Fr n0 L470 := by rw [l470]; exact Fr.app N467 Nq470
              clear l470
              refine Go.by (fun t => st470.trans) ?_
              replace X470' := Stand.num (C := 24) (S := 7004) X470' rfl rfl
              replace CR := CR.trans CRn
              replace Od := Od.keep K470 all0
              replace Z0 := Nat.le_trans Z0 K470.1
              clear CRn hS hk hSn
              have hS := hS470
              have hk : T470.heap.size ≤ T470.heap.size := Nat.le_refl _
              replace hZ := hZ470
              replace hown := hown470
              show Go p e below _ (T470.setTop (mkF m 204 #[vi i0, vi i1, vi i2, vi (i2 &&& (7 : Int32)), vi (Int32.ofNat n), vi md, vi pp, vi (0 : Int32), vi hi, vi lo, vr b, vr s1, uu, uu, uu, uu, uu] [(.ref u1)]))
              refine gU X470' hx #[vi i0, vi i1, vi i2, vi (i2 &&& (7 : Int32)), vi (Int32.ofNat n), vi md, vi pp, vi (0 : Int32), vi hi, vi lo, vr b, vr s1, vr u1, uu, uu, uu, uu] (hb hby at_204) rfl rfl ?_
              refine gI X470' hx (hb hby at_206) rfl ?_
              refine zY X470' hx 218 (hb hby at_208) ((if0 _ _).trans (teq (rfl : (0 : Int32) = (0 : Int32))).1) (by decide) ?_
              refine gI X470' hx (hb hby at_218) rfl ?_
              refine gT X470' hx #[vi i0, vi i1, vi i2, vi (i2 &&& (7 : Int32)), vi (Int32.ofNat n), vi md, vi pp, vi (0 : Int32), vi hi, vi lo, vr b, vr s1, vr u1, vi (Int32.ofNat n), uu, uu, uu] (hb hby at_220) rfl ?_
              refine gI X470' hx (hb hby at_222) rfl ?_
              refine gb X470' hx 64 (hb hby at_224) rfl ?_
              refine cY X470' hx 237 (hb hby at_226) (tlt ((o_lt (a := 64) (by decide) (by omega)).2 (by omega) : (64 : Int32) < (Int32.ofNat n))).2.2.1 (by decide) ?_
              refine gI X470' hx (hb hby at_237) rfl ?_
              refine zY X470' hx 254 (hb hby at_239) ((if0 _ _).trans (teq (rfl : (0 : Int32) = (0 : Int32))).1) (by decide) ?_
              refine gb X470' hx 64 (hb hby at_254) rfl ?_
              refine gT X470' hx #[vi i0, vi i1, vi i2, vi (i2 &&& (7 : Int32)), vi (Int32.ofNat n), vi md, vi pp, vi (0 : Int32), vi hi, vi lo, vr b, vr s1, vr u1, vi (Int32.ofNat n), vi (64 : Int32), uu, uu] (hb hby at_256) rfl ?_
              refine gI X470' hx (hb hby at_258) rfl ?_
              refine gs X470' hx 1000 (hb hby at_260) rfl ?_
              refine Go.two (B := T470.setTop (mkF m 282 #[vi i0, vi i1, vi i2, vi (i2 &&& (7 : Int32)), vi (Int32.ofNat n), vi md, vi pp, vi (0 : Int32), vi hi, vi lo, vr b, vr s1, vr u1, vi (Int32.ofNat n), vi (64 : Int32), uu, uu] [(.int (Int32.ofNat d))])) ?_ fun tailD => ?_
              ·
                refine gT X470' hx #[vi i0, vi i1, vi i2, vi (i2 &&& (7 : Int32)), vi (Int32.ofNat n), vi md, vi pp, vi (0 : Int32), vi hi, vi lo, vr b, vr s1, vr u1, vi (Int32.ofNat n), vi (64 : Int32), vi (Int32.ofNat d), uu] (hb hby at_282) rfl ?_
                refine gI X470' hx (hb hby at_284) rfl ?_
                refine gb X470' hx 17 (hb hby at_286) rfl ?_
                refine gq (XS.iadd X470'.here hx rfl (hb hby at_288) rfl) rfl ?_
                refine gI X470' hx (hb hby at_289) rfl ?_
                refine gq (XS.iadd X470'.here hx rfl (hb hby at_291) rfl) rfl ?_
                show Go p e below _ (T470.setTop (mkF m 292 #[vi i0, vi i1, vi i2, vi (i2 &&& (7 : Int32)), vi (Int32.ofNat n), vi md, vi pp, vi (0 : Int32), vi hi, vi lo, vr b, vr s1, vr u1, vi (Int32.ofNat n), vi (64 : Int32), vi (Int32.ofNat d), uu] [(.int (((64 : Int32) + (17 : Int32)) + (Int32.ofNat d)))]))
                rw [show (((64 : Int32) + (17 : Int32)) + (Int32.ofNat d)) = (Int32.ofNat (64 + (d + 17))) from by rw [show (64 : Int32) + (17 : Int32) = Int32.ofNat 81 from rfl, o_add]; congr 1; omega]
                obtain ⟨T471, h471, k471, X471, e471, E471, A471, st471⟩ := newP X470' hx hZ (wd hw 2 rfl) rfl (g := (mkF m 292 #[vi i0, vi i1, vi i2, vi (i2 &&& (7 : Int32)), vi (Int32.ofNat n), vi md, vi pp, vi (0 : Int32), vi hi, vi lo, vr b, vr s1, vr u1, vi (Int32.ofNat n), vi (64 : Int32), vi (Int32.ofNat d), uu] [(.int (Int32.ofNat (64 + (d + 17))))])) rfl (hb hby at_292) rfl (o_nn (by omega)) (cap := 100) (by rw [o_nat (by omega)]; omega) (by decide) (by decide) (by decide)
                obtain ⟨x2, g471⟩ : ∃ z, z = T470.heap.size := ⟨_, rfl⟩
                rw [← g471] at A471 st471
                refine Go.by (fun t => st471 t) ?_
                have g_x2 : n0 ≤ x2 := Nat.le_trans Z0 (Nat.le_of_eq g471.symm)
                have ne_u1_x2 : u1 ≠ x2 := Nat.ne_of_lt (Nat.lt_of_lt_of_le U1.lt (Nat.le_of_eq g471.symm))
                replace CR := CR.trans (CHr.ext E471 CR.1)
                replace hk := Nat.le_trans hk E471.1
                replace Od := Od.ext E471
                replace U1 := U1.ext E471
                replace Z0 := Nat.le_trans Z0 E471.1
                have V_x2 := Arv.new A471 (o_nn (by omega))
                replace X471 := Stand.num (C := 25) (S := 7104) X471 rfl rfl
                show Go p e below _ (T471.setTop (mkF m 294 #[vi i0, vi i1, vi i2, vi (i2 &&& (7 : Int32)), vi (Int32.ofNat n), vi md, vi pp, vi (0 : Int32), vi hi, vi lo, vr b, vr s1, vr u1, vi (Int32.ofNat n), vi (64 : Int32), vi (Int32.ofNat d), uu] [(.ref x2)]))
                replace V_x2 : Arv Z h471 x2 k471 .char (Int32.ofNat (64 + (d + 17))) ((List.replicate (64 + (d + 17)) (0 : Int32)).map Value.int) (.int 0) := by rw [List.map_replicate]; exact V_x2.pad (pad_rep [] _ (64 + (d + 17)))
                refine gU X471 hx #[vi i0, vi i1, vi i2, vi (i2 &&& (7 : Int32)), vi (Int32.ofNat n), vi md, vi pp, vi (0 : Int32), vi hi, vi lo, vr b, vr s1, vr u1, vi (Int32.ofNat n), vi (64 : Int32), vi (Int32.ofNat d), vr x2] (hb hby at_294) rfl rfl ?_
                refine gA X471 hx (hb hby at_296) rfl rfl ?_
                refine gI X471 hx (hb hby at_298) rfl ?_
                refine gI X471 hx (hb hby at_300) rfl ?_
                refine gi X471 hx (hb hby at_302) rfl ?_
                refine gI X471 hx (hb hby at_303) rfl ?_
                refine gI X471 hx (hb hby at_305) rfl ?_
                refine gI X471 hx (hb hby at_307) rfl ?_
                refine gI X471 hx (hb hby at_309) rfl ?_
                refine kS (W := 0) (C := 25) (S := 7104) X471 hx hZ hown (wd hw 3 rfl) (wd hw 4 rfl) (wd hw 5 rfl) (wd hw 6 rfl) (rmFIL l Z a0 hw [] x2 k471 (Int32.ofNat (64 + (d + 17))) (64 : Int32) (Int32.ofNat n) i0 (0 : Int32) pp hi lo c0 c1 c2 c3 (List.replicate (64 + (d + 17)) 0) h471 n0 g_x2 V_x2 (fun q q1 q2 => by rw [List.length_replicate]; exact hlim (n := 64) (N := 64 + (d + 17)) (by omega) (by omega) q q1 q2) e0' e1' e2' e3' g0 g1 g2 g3 (sur_16 (a := 55296) (b := 56320) (by decide) (by decide) (by decide) bh) (sur_16 (a := 56320) (b := 57344) (by decide) (by decide) (by decide) bl)) pd_0 (hb hby at_311) e471 hml (by exact ⟨rfl, rfl, rfl, rfl⟩) (by decide) fun v472 T472 L472 Lc472 X472 hQ472 l472 => ?_
                obtain ⟨rfl, Nq472, K472, Vn⟩ := hQ472
                have N472 := l472 N470 Nq472
                have Sfw := ((sfS (Safe.arv hZ.alike V_x2 (by decide)) sf0) : ∀ x ∈ [x2], Safe Z EL T470.vm h471 x)
                replace CR := CR.trans (CHr.keep K472 Sfw CR.1)
                clear Sfw
                replace hk := Nat.le_trans hk K472.1
                replace U1 := U1.keep K472 (ninS ne_u1_x2 nin0) (fun _ _ _ _ A => (ninS (arv_neT A V_x2 (by decide)) nin0))
                replace Od := Od.keep K472 (allS g_x2 all0)
                replace Z0 := Nat.le_trans Z0 K472.1
                clear V_x2
                have V_x2 : Arv Z T472.heap x2 k471 .char (Int32.ofNat (64 + (d + 17))) ((cs.take 64 ++ List.replicate (d + 17) 0).map Value.int) (.int 0) := arv_eq Vn (congrArg (List.map Value.int) ((fillI_0 _ (m := 64) (by decide) (by omega) pp c0 c1 c2 c3 hi lo).trans ((exp_list (d + 17) (p := 64) (n := n) (by omega) c0 c1 c2 c3 false 0 hi lo).trans (by rw [ecs]))))
                clear Vn
                refine gA X472 hx (hb hby at_314) rfl rfl ?_
                refine gI X472 hx (hb hby at_316) rfl ?_
                refine gI X472 hx (hb hby at_318) rfl ?_
                refine gI X472 hx (hb hby at_320) rfl ?_
                have hlt : (cs.take 64).length = 64 := by rw [List.length_take, hcl]; omega
                have hxl : (cs.take 64 ++ sufL dl).length = 64 + (d + 17) := by rw [List.length_append, hlt, suf_len hd.len.1]
                have V3 : Arv Z T472.heap x2 k471 .char (Int32.ofNat (64 + (d + 17))) ((cs.take 64).map Value.int ++ List.replicate (d + 17) (.int 0)) (.int 0) := arv_eq V_x2 (by rw [List.map_append, List.map_replicate])
                refine kS (W := 0) (C := 25) (S := 7104) X472 hx hZ hown (wd hw 351 rfl) (wd hw 352 rfl) (wd hw 5 rfl) (wd hw 353 rfl) (rmSUF l Z a0 hw [] x2 k471 (Int32.ofNat n) d 64 ((cs.take 64).map Value.int) dl T472.heap n0 g_x2 V3 hsf (by rw [List.length_map, hlt]; omega) (by rw [List.length_map, hlt])) pd_4 (hb hby at_322) rfl hml (by exact ⟨rfl, rfl, rfl, rfl⟩) (by decide) fun v473 T473 L473 Lc473 X473 hQ473 l473 => ?_
                obtain ⟨rfl, Nq473, K473, Vn⟩ := hQ473
                clear V3
                have N473 := l473 N472 Nq473
                have Sfw := ((sfS (Safe.arv hZ.alike V_x2 (by decide)) sf0) : ∀ x ∈ [x2], Safe Z EL T470.vm T472.heap x)
                replace CR := CR.trans (CHr.keep K473 Sfw CR.1)
                clear Sfw
                replace hk := Nat.le_trans hk K473.1
                replace U1 := U1.keep K473 (ninS ne_u1_x2 nin0) (fun _ _ _ _ A => (ninS (arv_neT A V_x2 (by decide)) nin0))
                replace Od := Od.keep K473 (allS g_x2 all0)
                replace Z0 := Nat.le_trans Z0 K473.1
                clear V_x2
                have V_x2 : Arv Z T473.heap x2 k471 .char (Int32.ofNat (64 + (d + 17))) ((cs.take 64 ++ sufL dl).map Value.int) (.int 0) := arv_eq Vn (List.map_append ..).symm
                clear Vn
                refine gA X473 hx (hb hby at_325) rfl rfl ?_
                obtain ⟨T474, h474, X474, e474, E474, A474, D474, -, st474⟩ := newO X473 hx hZ hown (wd hw 10 rfl) (wd hw 11 rfl) (wd hw 12 rfl) rfl (g := (mkF m 327 #[vi i0, vi i1, vi i2, vi (i2 &&& (7 : Int32)), vi (Int32.ofNat n), vi md, vi pp, vi (0 : Int32), vi hi, vi lo, vr b, vr s1, vr u1, vi (Int32.ofNat n), vi (64 : Int32), vi (Int32.ofNat d), vr x2] [(.ref u1)])) rfl (hb hby at_327) (by decide) (by decide)
                obtain ⟨s2, g474⟩ : ∃ z, z = T473.heap.size := ⟨_, rfl⟩
                rw [← g474] at A474 D474 st474
                refine Go.by (fun t => st474 t) ?_
                have g_s2 : n0 ≤ s2 := Nat.le_trans Z0 (Nat.le_of_eq g474.symm)
                have ne_u1_s2 : u1 ≠ s2 := Nat.ne_of_lt (Nat.lt_of_lt_of_le U1.lt (Nat.le_of_eq g474.symm))
                have ne_x2_s2 : x2 ≠ s2 := Nat.ne_of_lt (Nat.lt_of_lt_of_le V_x2.lt (Nat.le_of_eq g474.symm))
                have Sf_s2 : Safe Z EL T470.vm T473.heap s2 := Safe.new (Nat.le_of_eq g474.symm)
                replace Sf_s2 := Sf_s2.ext E474 CR.1
                replace CR := CR.trans (CHr.ext E474 CR.1)
                replace hk := Nat.le_trans hk E474.1
                replace Od := Od.ext E474
                replace U1 := U1.ext E474
                replace V_x2 := V_x2.ext E474
                replace Z0 := Nat.le_trans Z0 E474.1
                have E_s2 := A474
                have F_coder_s2 : Fld Z h474 s2 "java/lang/String" "coder" "B" (.int (0 : Int32)) := D474 (Or.inr (wd hw 36 rfl)) (ty := .byte) (by decide)
                have F_value_s2 : Fld Z h474 s2 "java/lang/String" "value" "[B" .null := D474 (Or.inr (wd hw 38 rfl)) (ty := (.array .byte)) (by decide)
                replace X474 := Stand.num (C := 26) (S := 7108) X474 rfl rfl
                show Go p e below _ (T474.setTop (mkF m 330 #[vi i0, vi i1, vi i2, vi (i2 &&& (7 : Int32)), vi (Int32.ofNat n), vi md, vi pp, vi (0 : Int32), vi hi, vi lo, vr b, vr s1, vr u1, vi (Int32.ofNat n), vi (64 : Int32), vi (Int32.ofNat d), vr x2] [(.ref s2), (.ref u1)]))
                refine gq (XS.dup X474.here hx rfl (hb hby at_330) rfl rfl) rfl ?_
                refine gA X474 hx (hb hby at_331) rfl rfl ?_
                have hxb : ∀ c ∈ cs.take 64 ++ sufL dl, ¬ c < 0 ∧ ¬ (65535 : Int32) < c := fun c hc => (List.mem_append.mp hc).elim (fun h => hbd c (List.mem_of_mem_take h)) (fun h => lat_16 (suf_lat ld c h))
                have hx0 : (cs.take 64 ++ sufL dl).length ≤ 1000 := by rw [hxl]; omega
                have hx1 : 1 ≤ (cs.take 64 ++ sufL dl).length := by rw [hxl]; omega
                have Vs : Arv Z h474 x2 k471 .char (Int32.ofNat (cs.take 64 ++ sufL dl).length) ((cs.take 64 ++ sufL dl).map Value.int) (.int 0) := by rw [hxl]; exact V_x2
                refine kI (W := 2) (C := 28) (S := 10108) X474 hx hZ hown (wd hw 13 rfl) (wd hw 14 rfl) (wd hw 12 rfl) (wd hw 15 rfl) (rmI1 l Z a0 hw [] s2 x2 k471 (cs.take 64 ++ sufL dl) G1 h474 n0 Z0 Od A1 HS LS O2 P5 E_s2 F_value_s2 F_coder_s2 g_s2 Vs hx0 hx1 hxb) pd_1 (hb hby at_333) e474 hml (by exact ⟨rfl, rfl, rfl, rfl⟩) (by decide) fun v475 T475 L475 Lc475 X475 hQ475 l475 => ?_
                obtain ⟨rfl, Nq475, K475, S_s2⟩ := hQ475
                clear Vs
                have N475 := l475 N473 Nq475
                have Sfw := ((sfS Sf_s2 sf0) : ∀ x ∈ [s2], Safe Z EL T470.vm h474 x)
                replace Sf_s2 := Safe.keep K475 Sfw CR.1 Sf_s2
                replace CR := CR.trans (CHr.keep K475 Sfw CR.1)
                clear Sfw
                replace hk := Nat.le_trans hk K475.1
                replace U1 := U1.keep K475 (ninS ne_u1_s2 nin0) (fun _ _ _ _ A => (ninS (Ne.symm (Exa.neArv E_s2 A (wd hw 11 rfl))) nin0))
                replace Od := Od.keep K475 (allS g_s2 all0)
                replace E_s2 := E_s2.keep K475
                replace Z0 := Nat.le_trans Z0 K475.1
                refine kV (W := 0) (C := 28) (S := 10108) X475 hx hZ hown (wd hw 72 rfl) (wd hw 73 rfl) (wd hw 75 rfl) (wd hw 74 rfl) (wd hw 12 rfl) (wd hw 76 rfl) (notFace_of_selects (args := #[]) (mvT hZ (wd hw 75 rfl))) U1.exa (rm16 l Z a0 hw [] u1 s2 (cs.take 64 ++ sufL dl) G1 T475.heap n0 Od O2 P5 U1 S_s2 hx0) pd_3 (hb hby at_336) rfl hml (by exact ⟨rfl, rfl, rfl, rfl⟩) (by decide) fun v476 T476 L476 Lc476 X476 hQ476 l476 => ?_
                obtain ⟨rfl, Nq476, e476⟩ := hQ476
                have N476 := l476 N475 Nq476
                exact Go.ret1W X476 hS (by rw [e476]; exact hk) (by rw [e476]; exact CR) hZ hEL hx Bd.returns Bd.notSynchronized (by first | rfl | decide) (Or.inl ⟨rfl, by simp, _, rfl⟩) (hb hby at_339) (by decide) (by decide) (by first | (rw [e476]; exact ⟨rfl, N476⟩) | exact ⟨rfl, N476⟩)
              · rcases hdk with ⟨hh, rfl⟩ | ⟨hh, hh2, rfl⟩ | ⟨hh, rfl⟩
                ·
                  refine cN X470' hx (hb hby at_263) (flt (fun q => absurd ((o_lt (b := 1000) (by omega) (by decide)).1 q) (by omega) : ¬ ((Int32.ofNat n) < (1000 : Int32)))).1 ?_
                  refine gk X470' hx 4 (hb hby at_266) rfl ?_
                  refine gg X470' hx 282 (hb hby at_267) (by decide) ?_
                  exact tailD
                ·
                  refine cY X470' hx 270 (hb hby at_263) (tlt ((o_lt (b := 1000) (by omega) (by decide)).2 (by omega) : (Int32.ofNat n) < (1000 : Int32))).1 (by decide) ?_
                  refine gI X470' hx (hb hby at_270) rfl ?_
                  refine gb X470' hx 100 (hb hby at_272) rfl ?_
                  refine cN X470' hx (hb hby at_274) (flt (fun q => absurd ((o_lt (b := 100) (by omega) (by decide)).1 q) (by omega) : ¬ ((Int32.ofNat n) < (100 : Int32)))).1 ?_
                  refine gk X470' hx 3 (hb hby at_277) rfl ?_
                  refine gg X470' hx 282 (hb hby at_278) (by decide) ?_
                  exact tailD
                ·
                  refine cY X470' hx 270 (hb hby at_263) (tlt ((o_lt (b := 1000) (by omega) (by decide)).2 (by omega) : (Int32.ofNat n) < (1000 : Int32))).1 (by decide) ?_
                  refine gI X470' hx (hb hby at_270) rfl ?_
                  refine gb X470' hx 100 (hb hby at_272) rfl ?_
                  refine cY X470' hx 281 (hb hby at_274) (tlt ((o_lt (b := 100) (by omega) (by decide)).2 (by omega) : (Int32.ofNat n) < (100 : Int32))).1 (by decide) ?_
                  refine gk X470' hx 2 (hb hby at_281) rfl ?_
                  exact tailD
        ·
          show Go p e below _ (s₁.setTop (mkF m 137 #[vi i0, vi i1, vi i2, vi (i2 &&& (7 : Int32)), vi (Int32.ofNat n), vi md, vi (Int32.ofNat j), uu, uu, uu, uu, uu, uu, uu, uu, uu, uu] [(.int (1 : Int32))]))
          refine gT X0 hx #[vi i0, vi i1, vi i2, vi (i2 &&& (7 : Int32)), vi (Int32.ofNat n), vi md, vi (Int32.ofNat j), vi (1 : Int32), uu, uu, uu, uu, uu, uu, uu, uu, uu] (hb hby at_137) rfl ?_
          refine Go.by (fun t => X0.ldcInt hx hown (mvT hZ (wd hw 0 rfl)) (g := (mkF m 139 #[vi i0, vi i1, vi i2, vi (i2 &&& (7 : Int32)), vi (Int32.ofNat n), vi md, vi (Int32.ofNat j), vi (1 : Int32), uu, uu, uu, uu, uu, uu, uu, uu, uu] [])) rfl (hb hby at_139) t) ?_
          show Go p e below _ (s₁.setTop (mkF m 141 #[vi i0, vi i1, vi i2, vi (i2 &&& (7 : Int32)), vi (Int32.ofNat n), vi md, vi (Int32.ofNat j), vi (1 : Int32), uu, uu, uu, uu, uu, uu, uu, uu, uu] [(.int (55296 : Int32))]))
          refine gi X0 hx (hb hby at_141) rfl ?_
          refine gb X0 hx 10 (hb hby at_142) rfl ?_
          refine gq (XS.iushr X0.here hx rfl (hb hby at_144) rfl) rfl ?_
          refine gs X0 hx 1023 (hb hby at_145) rfl ?_
          refine gq (XS.iand X0.here hx rfl (hb hby at_148) rfl) rfl ?_
          refine gq (XS.iadd X0.here hx rfl (hb hby at_149) rfl) rfl ?_
          refine gq (XS.i2c X0.here hx rfl (hb hby at_150) rfl) rfl ?_
          have ehi' : (((55296 : Int32) + (((i1.toUInt32 >>> ((10 : Int32) &&& 31).toUInt32).toInt32) &&& (1023 : Int32))).toUInt32.toUInt16.toUInt32.toInt32) = hi := ehi
          show Go p e below _ (s₁.setTop (mkF m 151 #[vi i0, vi i1, vi i2, vi (i2 &&& (7 : Int32)), vi (Int32.ofNat n), vi md, vi (Int32.ofNat j), vi (1 : Int32), uu, uu, uu, uu, uu, uu, uu, uu, uu] [(.int (((55296 : Int32) + (((i1.toUInt32 >>> ((10 : Int32) &&& 31).toUInt32).toInt32) &&& (1023 : Int32))).toUInt32.toUInt16.toUInt32.toInt32))]))
          rw [ehi']
          refine gT X0 hx #[vi i0, vi i1, vi i2, vi (i2 &&& (7 : Int32)), vi (Int32.ofNat n), vi md, vi (Int32.ofNat j), vi (1 : Int32), vi hi, uu, uu, uu, uu, uu, uu, uu, uu] (hb hby at_151) rfl ?_
          refine Go.by (fun t => X0.ldcInt hx hown (mvT hZ (wd hw 1 rfl)) (g := (mkF m 153 #[vi i0, vi i1, vi i2, vi (i2 &&& (7 : Int32)), vi (Int32.ofNat n), vi md, vi (Int32.ofNat j), vi (1 : Int32), vi hi, uu, uu, uu, uu, uu, uu, uu, uu] [])) rfl (hb hby at_153) t) ?_
          show Go p e below _ (s₁.setTop (mkF m 155 #[vi i0, vi i1, vi i2, vi (i2 &&& (7 : Int32)), vi (Int32.ofNat n), vi md, vi (Int32.ofNat j), vi (1 : Int32), vi hi, uu, uu, uu, uu, uu, uu, uu, uu] [(.int (56320 : Int32))]))
          refine gi X0 hx (hb hby at_155) rfl ?_
          refine gs X0 hx 1023 (hb hby at_156) rfl ?_
          refine gq (XS.iand X0.here hx rfl (hb hby at_159) rfl) rfl ?_
          refine gq (XS.iadd X0.here hx rfl (hb hby at_160) rfl) rfl ?_
          refine gq (XS.i2c X0.here hx rfl (hb hby at_161) rfl) rfl ?_
          have elo' : (((56320 : Int32) + (i1 &&& (1023 : Int32))).toUInt32.toUInt16.toUInt32.toInt32) = lo := elo
          show Go p e below _ (s₁.setTop (mkF m 162 #[vi i0, vi i1, vi i2, vi (i2 &&& (7 : Int32)), vi (Int32.ofNat n), vi md, vi (Int32.ofNat j), vi (1 : Int32), vi hi, uu, uu, uu, uu, uu, uu, uu, uu] [(.int (((56320 : Int32) + (i1 &&& (1023 : Int32))).toUInt32.toUInt16.toUInt32.toInt32))]))
          rw [elo']
          refine gT X0 hx #[vi i0, vi i1, vi i2, vi (i2 &&& (7 : Int32)), vi (Int32.ofNat n), vi md, vi (Int32.ofNat j), vi (1 : Int32), vi hi, vi lo, uu, uu, uu, uu, uu, uu, uu] (hb hby at_162) rfl ?_
          refine gI X0 hx (hb hby at_164) rfl ?_
          obtain ⟨T477, h477, k477, X477, e477, E477, A477, st477⟩ := newP X0 hx hZ (wd hw 2 rfl) e0 (g := (mkF m 166 #[vi i0, vi i1, vi i2, vi (i2 &&& (7 : Int32)), vi (Int32.ofNat n), vi md, vi (Int32.ofNat j), vi (1 : Int32), vi hi, vi lo, uu, uu, uu, uu, uu, uu, uu] [(.int (Int32.ofNat n))])) rfl (hb hby at_166) rfl (o_nn (by omega)) (cap := 1000) (by rw [o_nat (by omega)]; omega) (by decide) (by decide) (by decide)
          obtain ⟨b, g477⟩ : ∃ z, z = h0.size := ⟨_, rfl⟩
          rw [← g477] at A477 st477
          refine Go.by (fun t => st477 t) ?_
          have g_b : n0 ≤ b := Nat.le_trans Z0 (Nat.le_of_eq g477.symm)
          have ne_dO_b : dO ≠ b := Nat.ne_of_lt (Nat.lt_of_lt_of_le V_dO.lt (Nat.le_of_eq g477.symm))
          have ne_dT_b : dT ≠ b := Nat.ne_of_lt (Nat.lt_of_lt_of_le V_dT.lt (Nat.le_of_eq g477.symm))
          replace CR := CR.trans (CHr.ext E477 CR.1)
          replace hk := Nat.le_trans hk E477.1
          replace Od := Od.ext E477
          replace V_dO := V_dO.ext E477
          replace V_dT := V_dT.ext E477
          replace Z0 := Nat.le_trans Z0 E477.1
          have V_b := Arv.new A477 (o_nn (by omega))
          replace X477 := Stand.num (C := 1) (S := 1000) X477 rfl rfl
          show Go p e below _ (T477.setTop (mkF m 168 #[vi i0, vi i1, vi i2, vi (i2 &&& (7 : Int32)), vi (Int32.ofNat n), vi md, vi (Int32.ofNat j), vi (1 : Int32), vi hi, vi lo, uu, uu, uu, uu, uu, uu, uu] [(.ref b)]))
          replace V_b : Arv Z h477 b k477 .char (Int32.ofNat n) ((List.replicate (n) (0 : Int32)).map Value.int) (.int 0) := by rw [List.map_replicate]; exact V_b.pad (pad_rep [] _ (n))
          refine gU X477 hx #[vi i0, vi i1, vi i2, vi (i2 &&& (7 : Int32)), vi (Int32.ofNat n), vi md, vi (Int32.ofNat j), vi (1 : Int32), vi hi, vi lo, vr b, uu, uu, uu, uu, uu, uu] (hb hby at_168) rfl rfl ?_
          refine gA X477 hx (hb hby at_170) rfl rfl ?_
          refine gI X477 hx (hb hby at_172) rfl ?_
          refine gI X477 hx (hb hby at_174) rfl ?_
          refine gi X477 hx (hb hby at_176) rfl ?_
          refine gI X477 hx (hb hby at_177) rfl ?_
          refine gI X477 hx (hb hby at_179) rfl ?_
          refine gI X477 hx (hb hby at_181) rfl ?_
          refine gI X477 hx (hb hby at_183) rfl ?_
          obtain ⟨cs, ecs⟩ : ∃ z, z = fillN (List.replicate n 0) n n c0 c1 c2 c3 true j hi lo := ⟨_, rfl⟩
          obtain ⟨hcl, tp, hop, hbd⟩ := plan1 g0 g1 g2 g3 hj bh bl ecs
          have hkc : cs.length ≤ 1000 := by omega
          refine kS (W := 0) (C := 1) (S := 1000) X477 hx hZ hown (wd hw 3 rfl) (wd hw 4 rfl) (wd hw 5 rfl) (wd hw 6 rfl) (rmFIL l Z a0 hw [] b k477 (Int32.ofNat n) (Int32.ofNat n) (Int32.ofNat n) i0 (1 : Int32) (Int32.ofNat j) hi lo c0 c1 c2 c3 (List.replicate (n) 0) h477 n0 g_b V_b (fun q q1 q2 => by rw [List.length_replicate]; exact hlim (n := n) (N := n) (by omega) (by omega) q q1 q2) e0' e1' e2' e3' g0 g1 g2 g3 (sur_16 (a := 55296) (b := 56320) (by decide) (by decide) (by decide) bh) (sur_16 (a := 56320) (b := 57344) (by decide) (by decide) (by decide) bl)) pd_0 (hb hby at_185) e477 hml (by exact ⟨rfl, rfl, rfl, rfl⟩) (by decide) fun v478 T478 L478 Lc478 X478 hQ478 l478 => ?_
          obtain ⟨rfl, Nq478, K478, Vn⟩ := hQ478
          have N478 := l478 N0 Nq478
          have Sfw := ((sfS (Safe.arv hZ.alike V_b (by decide)) sf0) : ∀ x ∈ [b], Safe Z EL s.vm h477 x)
          replace CR := CR.trans (CHr.keep K478 Sfw CR.1)
          clear Sfw
          replace hk := Nat.le_trans hk K478.1
          replace Od := Od.keep K478 (allS g_b all0)
          replace V_dO := V_dO.keep K478 (ninS ne_dO_b nin0)
          replace V_dT := V_dT.keep K478 (ninS ne_dT_b nin0)
          replace Z0 := Nat.le_trans Z0 K478.1
          clear V_b
          have V_b : Arv Z T478.heap b k477 .char (Int32.ofNat n) ((cs).map Value.int) (.int 0) := arv_eq Vn (congrArg (List.map Value.int) ((fillI_nat _ (by omega) (by omega) (by omega) 1 c0 c1 c2 c3 hi lo).trans ecs.symm))
          clear Vn
          obtain ⟨T479, h479, X479, e479, E479, A479, D479, -, st479⟩ := newO X478 hx hZ hown (wd hw 10 rfl) (wd hw 11 rfl) (wd hw 12 rfl) rfl (g := (mkF m 188 #[vi i0, vi i1, vi i2, vi (i2 &&& (7 : Int32)), vi (Int32.ofNat n), vi md, vi (Int32.ofNat j), vi (1 : Int32), vi hi, vi lo, vr b, uu, uu, uu, uu, uu, uu] [])) rfl (hb hby at_188) (by decide) (by decide)
          obtain ⟨s1, g479⟩ : ∃ z, z = T478.heap.size := ⟨_, rfl⟩
          rw [← g479] at A479 D479 st479
          refine Go.by (fun t => st479 t) ?_
          have g_s1 : n0 ≤ s1 := Nat.le_trans Z0 (Nat.le_of_eq g479.symm)
          have ne_b_s1 : b ≠ s1 := Nat.ne_of_lt (Nat.lt_of_lt_of_le V_b.lt (Nat.le_of_eq g479.symm))
          have ne_dO_s1 : dO ≠ s1 := Nat.ne_of_lt (Nat.lt_of_lt_of_le V_dO.lt (Nat.le_of_eq g479.symm))
          have ne_dT_s1 : dT ≠ s1 := Nat.ne_of_lt (Nat.lt_of_lt_of_le V_dT.lt (Nat.le_of_eq g479.symm))
          have Sf_s1 : Safe Z EL s.vm T478.heap s1 := Safe.new (Nat.le_of_eq g479.symm)
          replace Sf_s1 := Sf_s1.ext E479 CR.1
          replace CR := CR.trans (CHr.ext E479 CR.1)
          replace hk := Nat.le_trans hk E479.1
          replace Od := Od.ext E479
          replace V_dO := V_dO.ext E479
          replace V_dT := V_dT.ext E479
          replace V_b := V_b.ext E479
          replace Z0 := Nat.le_trans Z0 E479.1
          have E_s1 := A479
          have F_coder_s1 : Fld Z h479 s1 "java/lang/String" "coder" "B" (.int (0 : Int32)) := D479 (Or.inr (wd hw 36 rfl)) (ty := .byte) (by decide)
          have F_value_s1 : Fld Z h479 s1 "java/lang/String" "value" "[B" .null := D479 (Or.inr (wd hw 38 rfl)) (ty := (.array .byte)) (by decide)
          replace X479 := Stand.num (C := 2) (S := 1004) X479 rfl rfl
          show Go p e below _ (T479.setTop (mkF m 191 #[vi i0, vi i1, vi i2, vi (i2 &&& (7 : Int32)), vi (Int32.ofNat n), vi md, vi (Int32.ofNat j), vi (1 : Int32), vi hi, vi lo, vr b, uu, uu, uu, uu, uu, uu] [(.ref s1)]))
          refine gq (XS.dup X479.here hx rfl (hb hby at_191) rfl rfl) rfl ?_
          refine gA X479 hx (hb hby at_192) rfl rfl ?_
          have Vs : Arv Z h479 b k477 .char (Int32.ofNat (cs).length) ((cs).map Value.int) (.int 0) := by rw [hcl]; exact V_b
          refine kI (W := 1) (C := 4) (S := 4004) X479 hx hZ hown (wd hw 13 rfl) (wd hw 14 rfl) (wd hw 12 rfl) (wd hw 15 rfl) (rmI1 l Z a0 hw [] s1 b k477 (cs) G1 h479 n0 Z0 Od A1 HS LS O2 P5 E_s1 F_value_s1 F_coder_s1 g_s1 Vs hkc (by omega) hbd) pd_1 (hb hby at_194) e479 hml (by exact ⟨rfl, rfl, rfl, rfl⟩) (by decide) fun v480 T480 L480 Lc480 X480 hQ480 l480 => ?_
          obtain ⟨rfl, Nq480, K480, S_s1⟩ := hQ480
          clear Vs
          have N480 := l480 N478 Nq480
          have Sfw := ((sfS Sf_s1 sf0) : ∀ x ∈ [s1], Safe Z EL s.vm h479 x)
          replace Sf_s1 := Safe.keep K480 Sfw CR.1 Sf_s1
          replace CR := CR.trans (CHr.keep K480 Sfw CR.1)
          clear Sfw
          replace hk := Nat.le_trans hk K480.1
          replace Od := Od.keep K480 (allS g_s1 all0)
          replace V_dO := V_dO.keep K480 (ninS ne_dO_s1 nin0)
          replace V_dT := V_dT.keep K480 (ninS ne_dT_s1 nin0)
          replace E_s1 := E_s1.keep K480
          replace Z0 := Nat.le_trans Z0 K480.1
          refine gU X480 hx #[vi i0, vi i1, vi i2, vi (i2 &&& (7 : Int32)), vi (Int32.ofNat n), vi md, vi (Int32.ofNat j), vi (1 : Int32), vi hi, vi lo, vr b, vr s1, uu, uu, uu, uu, uu] (hb hby at_197) rfl rfl ?_
          refine gA X480 hx (hb hby at_199) rfl rfl ?_
          by_cases hk64 : (n - 1) ≤ 64
          ·
            refine kS (W := 0) (C := 4) (S := 4004) X480 hx hZ hown (wd hw 39 rfl) (wd hw 40 rfl) (wd hw 41 rfl) (wd hw 42 rfl) (rmSH0 l Z a0 hw [] s1 cs (n - 1) G1 T480.heap n0 Od A1 HS LS O2 P5 S_s1 hkc tp hk64) pd_2 (hb hby at_201) rfl hml (by exact ⟨rfl, rfl, rfl, rfl⟩) (by decide) fun v481 T481 L481 Lc481 X481 hQ481 l481 => ?_
            obtain ⟨rfl, Nq481, e481⟩ := hQ481
            have N481 := l481 N480 Nq481
            refine gU X481 hx #[vi i0, vi i1, vi i2, vi (i2 &&& (7 : Int32)), vi (Int32.ofNat n), vi md, vi (Int32.ofNat j), vi (1 : Int32), vi hi, vi lo, vr b, vr s1, vr s1, uu, uu, uu, uu] (hb hby at_204) rfl rfl ?_
            refine gI X481 hx (hb hby at_206) rfl ?_
            refine zN X481 hx (hb hby at_208) ((if0 _ _).trans (feq (by decide : ¬ ((1 : Int32) = (0 : Int32)))).1) ?_
            refine gI X481 hx (hb hby at_211) rfl ?_
            refine gk X481 hx 1 (hb hby at_213) rfl ?_
            refine gq (XS.isub X481.here hx rfl (hb hby at_214) rfl) rfl ?_
            show Go p e below _ (T481.setTop (mkF m 215 #[vi i0, vi i1, vi i2, vi (i2 &&& (7 : Int32)), vi (Int32.ofNat n), vi md, vi (Int32.ofNat j), vi (1 : Int32), vi hi, vi lo, vr b, vr s1, vr s1, uu, uu, uu, uu] [(.int ((Int32.ofNat n) - (1 : Int32)))]))
            rw [show ((Int32.ofNat n) - (1 : Int32)) = Int32.ofNat (n - 1) from o_sub (b := 1) (by omega) (by omega)]
            refine gg X481 hx 220 (hb hby at_215) (by decide) ?_
            refine gT X481 hx #[vi i0, vi i1, vi i2, vi (i2 &&& (7 : Int32)), vi (Int32.ofNat n), vi md, vi (Int32.ofNat j), vi (1 : Int32), vi hi, vi lo, vr b, vr s1, vr s1, vi (Int32.ofNat (n - 1)), uu, uu, uu] (hb hby at_220) rfl ?_
            refine gI X481 hx (hb hby at_222) rfl ?_
            refine gb X481 hx 64 (hb hby at_224) rfl ?_
            refine cN X481 hx (hb hby at_226) (flt (by rw [show (64 : Int32) = Int32.ofNat 64 from rfl, o_lt (by decide) (by omega)]; omega : ¬ ((64 : Int32) < (Int32.ofNat (n - 1))))).2.2.1 ?_
            refine gA X481 hx (hb hby at_229) rfl rfl ?_
            refine gA X481 hx (hb hby at_231) rfl rfl ?_
            refine kV (W := 0) (C := 4) (S := 4004) X481 hx hZ hown (wd hw 72 rfl) (wd hw 73 rfl) (wd hw 75 rfl) (wd hw 74 rfl) (wd hw 12 rfl) (wd hw 76 rfl) (notFace_of_selects (args := #[]) (mvT hZ (wd hw 75 rfl))) S_s1.exa (rm16 l Z a0 hw [] s1 s1 cs G1 T480.heap n0 Od O2 P5 S_s1 S_s1 hkc) pd_3 (hb hby at_233) e481 hml (by exact ⟨rfl, rfl, rfl, rfl⟩) (by decide) fun v482 T482 L482 Lc482 X482 hQ482 l482 => ?_
            obtain ⟨rfl, Nq482, e482⟩ := hQ482
            have N482 := l482 N481 Nq482
            exact Go.ret1W X482 hS (by rw [e482]; exact hk) (by rw [e482]; exact CR) hZ hEL hx Bd.returns Bd.notSynchronized (by first | rfl | decide) (Or.inl ⟨rfl, by simp, _, rfl⟩) (hb hby at_236) (by decide) (by decide) (by first | (rw [e482]; exact ⟨rfl, N482⟩) | exact ⟨rfl, N482⟩)
          ·
            obtain ⟨d, dl, hd, hsf, ld, hdk⟩ := digs (k := (n - 1)) (by omega)
            have hd4 : 2 ≤ d ∧ d ≤ 4 := by omega
            obtain ⟨p1, op, ⟨hj1, rfl⟩ | ⟨hj1, rfl⟩⟩ := hop (by omega)
            ·
              obtain ⟨_, _, ⟨T483, L483, k483, n483⟩, -, X483, hSn, hgn, ⟨Lc483, hQ483, l483, y483, z483, CRn⟩, st483⟩ := callSS X480 hx (y := (⟨"com/example/gearline/gearline/data/Values", "shown", "(Ljava/lang/String;)Ljava/lang/String;"⟩ : MethodName)) hown (mvT (s := s.setVm s.vm) hZ (wd hw 39 rfl)) (mvT (s := s.setVm s.vm) hZ (wd hw 40 rfl)) (mvT (s := s.setVm s.vm) hZ (wd hw 41 rfl)) (mvT (s := s.setVm s.vm) hZ (wd hw 42 rfl)) (by decide) (backOfSH (W := 0) (rmSH1 l Z a0 hw [] s1 cs (n - 1) 65 d dl dO dT kO kT G1 G3 T480.heap n0 Z0 Od A1 HS LS O4 rG3 O2 P5 SO SN V_dO V_dT S_s1 hkc hbd tp (by omega) op hd ld (by omega)) hZ (wd hw 42 rfl) (wd hw 41 rfl) (by decide) (by decide) hEL CR.1) (g := (mkF m 201 #[vi i0, vi i1, vi i2, vi (i2 &&& (7 : Int32)), vi (Int32.ofNat n), vi md, vi (Int32.ofNat j), vi (1 : Int32), vi hi, vi lo, vr b, vr s1, uu, uu, uu, uu, uu] [(.ref s1)])) rfl (by rw [hml]; rfl) (argsL := [(.ref s1)]) (rest := []) (lenOf pd_2 rfl) rfl (by show 2 * 0 + _ ≤ _; exact Nat.le_of_eq rfl) (hb hby at_201) (fun _ _ => ⟨rfl, rfl, (by decide : 4 + 20 ≤ _), (by decide : 4004 + 3000 ≤ _)⟩)
              dsimp only [Pt.U, Pt.locs, Pt.cells, Pt.slots] at X483 l483 y483 z483 st483 hQ483 hSn hgn CRn
              subst y483 z483
              skip
              obtain ⟨X483', hS483, hZ483, hown483⟩ := rebS hS hk X483 hSn hgn hZ hown
              obtain ⟨u1, rfl, Nq483, K483, U1⟩ := hQ483
              have N483 : Fr n0 L483 := by rw [l483]; exact Fr.app N480 Nq483
              clear l483
              refine Go.by (fun t => st483.trans) ?_
              replace X483' := Stand.num (C := 24) (S := 7004) X483' rfl rfl
              replace CR := CR.trans CRn
              replace Od := Od.keep K483 all0
              replace Z0 := Nat.le_trans Z0 K483.1
              clear CRn hS hk hSn
              have hS := hS483
              have hk : T483.heap.size ≤ T483.heap.size := Nat.le_refl _
              replace hZ := hZ483
              replace hown := hown483
              show Go p e below _ (T483.setTop (mkF m 204 #[vi i0, vi i1, vi i2, vi (i2 &&& (7 : Int32)), vi (Int32.ofNat n), vi md, vi (Int32.ofNat j), vi (1 : Int32), vi hi, vi lo, vr b, vr s1, uu, uu, uu, uu, uu] [(.ref u1)]))
              refine gU X483' hx #[vi i0, vi i1, vi i2, vi (i2 &&& (7 : Int32)), vi (Int32.ofNat n), vi md, vi (Int32.ofNat j), vi (1 : Int32), vi hi, vi lo, vr b, vr s1, vr u1, uu, uu, uu, uu] (hb hby at_204) rfl rfl ?_
              refine gI X483' hx (hb hby at_206) rfl ?_
              refine zN X483' hx (hb hby at_208) ((if0 _ _).trans (feq (by decide : ¬ ((1 : Int32) = (0 : Int32)))).1) ?_
              refine gI X483' hx (hb hby at_211) rfl ?_
              refine gk X483' hx 1 (hb hby at_213) rfl ?_
              refine gq (XS.isub X483'.here hx rfl (hb hby at_214) rfl) rfl ?_
              show Go p e below _ (T483.setTop (mkF m 215 #[vi i0, vi i1, vi i2, vi (i2 &&& (7 : Int32)), vi (Int32.ofNat n), vi md, vi (Int32.ofNat j), vi (1 : Int32), vi hi, vi lo, vr b, vr s1, vr u1, uu, uu, uu, uu] [(.int ((Int32.ofNat n) - (1 : Int32)))]))
              rw [show ((Int32.ofNat n) - (1 : Int32)) = Int32.ofNat (n - 1) from o_sub (b := 1) (by omega) (by omega)]
              refine gg X483' hx 220 (hb hby at_215) (by decide) ?_
              refine gT X483' hx #[vi i0, vi i1, vi i2, vi (i2 &&& (7 : Int32)), vi (Int32.ofNat n), vi md, vi (Int32.ofNat j), vi (1 : Int32), vi hi, vi lo, vr b, vr s1, vr u1, vi (Int32.ofNat (n - 1)), uu, uu, uu] (hb hby at_220) rfl ?_
              refine gI X483' hx (hb hby at_222) rfl ?_
              refine gb X483' hx 64 (hb hby at_224) rfl ?_
              refine cY X483' hx 237 (hb hby at_226) (tlt ((o_lt (a := 64) (by decide) (by omega)).2 (by omega) : (64 : Int32) < (Int32.ofNat (n - 1)))).2.2.1 (by decide) ?_
              refine gI X483' hx (hb hby at_237) rfl ?_
              refine zN X483' hx (hb hby at_239) ((if0 _ _).trans (feq (by decide : ¬ ((1 : Int32) = (0 : Int32)))).1) ?_
              refine gI X483' hx (hb hby at_242) rfl ?_
              refine gb X483' hx 63 (hb hby at_244) rfl ?_
              refine cN X483' hx (hb hby at_246) (flt (by rw [show (63 : Int32) = Int32.ofNat 63 from rfl, o_lt (by decide) (by omega)]; omega : ¬ ((63 : Int32) < (Int32.ofNat j)))).2.2.1 ?_
              refine gb X483' hx 65 (hb hby at_249) rfl ?_
              refine gg X483' hx 256 (hb hby at_251) (by decide) ?_
              refine gT X483' hx #[vi i0, vi i1, vi i2, vi (i2 &&& (7 : Int32)), vi (Int32.ofNat n), vi md, vi (Int32.ofNat j), vi (1 : Int32), vi hi, vi lo, vr b, vr s1, vr u1, vi (Int32.ofNat (n - 1)), vi (65 : Int32), uu, uu] (hb hby at_256) rfl ?_
              refine gI X483' hx (hb hby at_258) rfl ?_
              refine gs X483' hx 1000 (hb hby at_260) rfl ?_
              refine Go.two (B := T483.setTop (mkF m 282 #[vi i0, vi i1, vi i2, vi (i2 &&& (7 : Int32)), vi (Int32.ofNat n), vi md, vi (Int32.ofNat j), vi (1 : Int32), vi hi, vi lo, vr b, vr s1, vr u1, vi (Int32.ofNat (n - 1)), vi (65 : Int32), uu, uu] [(.int (Int32.ofNat d))])) ?_ fun tailD => ?_
              ·
                refine gT X483' hx #[vi i0, vi i1, vi i2, vi (i2 &&& (7 : Int32)), vi (Int32.ofNat n), vi md, vi (Int32.ofNat j), vi (1 : Int32), vi hi, vi lo, vr b, vr s1, vr u1, vi (Int32.ofNat (n - 1)), vi (65 : Int32), vi (Int32.ofNat d), uu] (hb hby at_282) rfl ?_
                refine gI X483' hx (hb hby at_284) rfl ?_
                refine gb X483' hx 17 (hb hby at_286) rfl ?_
                refine gq (XS.iadd X483'.here hx rfl (hb hby at_288) rfl) rfl ?_
                refine gI X483' hx (hb hby at_289) rfl ?_
                refine gq (XS.iadd X483'.here hx rfl (hb hby at_291) rfl) rfl ?_
                show Go p e below _ (T483.setTop (mkF m 292 #[vi i0, vi i1, vi i2, vi (i2 &&& (7 : Int32)), vi (Int32.ofNat n), vi md, vi (Int32.ofNat j), vi (1 : Int32), vi hi, vi lo, vr b, vr s1, vr u1, vi (Int32.ofNat (n - 1)), vi (65 : Int32), vi (Int32.ofNat d), uu] [(.int (((65 : Int32) + (17 : Int32)) + (Int32.ofNat d)))]))
                rw [show (((65 : Int32) + (17 : Int32)) + (Int32.ofNat d)) = (Int32.ofNat (65 + (d + 17))) from by rw [show (65 : Int32) + (17 : Int32) = Int32.ofNat 82 from rfl, o_add]; congr 1; omega]
                obtain ⟨T484, h484, k484, X484, e484, E484, A484, st484⟩ := newP X483' hx hZ (wd hw 2 rfl) rfl (g := (mkF m 292 #[vi i0, vi i1, vi i2, vi (i2 &&& (7 : Int32)), vi (Int32.ofNat n), vi md, vi (Int32.ofNat j), vi (1 : Int32), vi hi, vi lo, vr b, vr s1, vr u1, vi (Int32.ofNat (n - 1)), vi (65 : Int32), vi (Int32.ofNat d), uu] [(.int (Int32.ofNat (65 + (d + 17))))])) rfl (hb hby at_292) rfl (o_nn (by omega)) (cap := 100) (by rw [o_nat (by omega)]; omega) (by decide) (by decide) (by decide)
                obtain ⟨x2, g484⟩ : ∃ z, z = T483.heap.size := ⟨_, rfl⟩
                rw [← g484] at A484 st484
                refine Go.by (fun t => st484 t) ?_
                have g_x2 : n0 ≤ x2 := Nat.le_trans Z0 (Nat.le_of_eq g484.symm)
                have ne_u1_x2 : u1 ≠ x2 := Nat.ne_of_lt (Nat.lt_of_lt_of_le U1.lt (Nat.le_of_eq g484.symm))
                replace CR := CR.trans (CHr.ext E484 CR.1)
                replace hk := Nat.le_trans hk E484.1
                replace Od := Od.ext E484
                replace U1 := U1.ext E484
                replace Z0 := Nat.le_trans Z0 E484.1
                have V_x2 := Arv.new A484 (o_nn (by omega))
                replace X484 := Stand.num (C := 25) (S := 7104) X484 rfl rfl
                show Go p e below _ (T484.setTop (mkF m 294 #[vi i0, vi i1, vi i2, vi (i2 &&& (7 : Int32)), vi (Int32.ofNat n), vi md, vi (Int32.ofNat j), vi (1 : Int32), vi hi, vi lo, vr b, vr s1, vr u1, vi (Int32.ofNat (n - 1)), vi (65 : Int32), vi (Int32.ofNat d), uu] [(.ref x2)]))
                replace V_x2 : Arv Z h484 x2 k484 .char (Int32.ofNat (65 + (d + 17))) ((List.replicate (65 + (d + 17)) (0 : Int32)).map Value.int) (.int 0) := by rw [List.map_replicate]; exact V_x2.pad (pad_rep [] _ (65 + (d + 17)))
                refine gU X484 hx #[vi i0, vi i1, vi i2, vi (i2 &&& (7 : Int32)), vi (Int32.ofNat n), vi md, vi (Int32.ofNat j), vi (1 : Int32), vi hi, vi lo, vr b, vr s1, vr u1, vi (Int32.ofNat (n - 1)), vi (65 : Int32), vi (Int32.ofNat d), vr x2] (hb hby at_294) rfl rfl ?_
                refine gA X484 hx (hb hby at_296) rfl rfl ?_
                refine gI X484 hx (hb hby at_298) rfl ?_
                refine gI X484 hx (hb hby at_300) rfl ?_
                refine gi X484 hx (hb hby at_302) rfl ?_
                refine gI X484 hx (hb hby at_303) rfl ?_
                refine gI X484 hx (hb hby at_305) rfl ?_
                refine gI X484 hx (hb hby at_307) rfl ?_
                refine gI X484 hx (hb hby at_309) rfl ?_
                refine kS (W := 0) (C := 25) (S := 7104) X484 hx hZ hown (wd hw 3 rfl) (wd hw 4 rfl) (wd hw 5 rfl) (wd hw 6 rfl) (rmFIL l Z a0 hw [] x2 k484 (Int32.ofNat (65 + (d + 17))) (65 : Int32) (Int32.ofNat n) i0 (1 : Int32) (Int32.ofNat j) hi lo c0 c1 c2 c3 (List.replicate (65 + (d + 17)) 0) h484 n0 g_x2 V_x2 (fun q q1 q2 => by rw [List.length_replicate]; exact hlim (n := 65) (N := 65 + (d + 17)) (by omega) (by omega) q q1 q2) e0' e1' e2' e3' g0 g1 g2 g3 (sur_16 (a := 55296) (b := 56320) (by decide) (by decide) (by decide) bh) (sur_16 (a := 56320) (b := 57344) (by decide) (by decide) (by decide) bl)) pd_0 (hb hby at_311) e484 hml (by exact ⟨rfl, rfl, rfl, rfl⟩) (by decide) fun v485 T485 L485 Lc485 X485 hQ485 l485 => ?_
                obtain ⟨rfl, Nq485, K485, Vn⟩ := hQ485
                have N485 := l485 N483 Nq485
                have Sfw := ((sfS (Safe.arv hZ.alike V_x2 (by decide)) sf0) : ∀ x ∈ [x2], Safe Z EL T483.vm h484 x)
                replace CR := CR.trans (CHr.keep K485 Sfw CR.1)
                clear Sfw
                replace hk := Nat.le_trans hk K485.1
                replace U1 := U1.keep K485 (ninS ne_u1_x2 nin0) (fun _ _ _ _ A => (ninS (arv_neT A V_x2 (by decide)) nin0))
                replace Od := Od.keep K485 (allS g_x2 all0)
                replace Z0 := Nat.le_trans Z0 K485.1
                clear V_x2
                have V_x2 : Arv Z T485.heap x2 k484 .char (Int32.ofNat (65 + (d + 17))) ((cs.take 65 ++ List.replicate (d + 17) 0).map Value.int) (.int 0) := arv_eq Vn (congrArg (List.map Value.int) ((fillI_nat _ (m := 65) (by decide) (by omega) (pos := j) (by omega) 1 c0 c1 c2 c3 hi lo).trans ((exp_list (d + 17) (p := 65) (n := n) (by omega) c0 c1 c2 c3 true j hi lo).trans (by rw [ecs]))))
                clear Vn
                refine gA X485 hx (hb hby at_314) rfl rfl ?_
                refine gI X485 hx (hb hby at_316) rfl ?_
                refine gI X485 hx (hb hby at_318) rfl ?_
                refine gI X485 hx (hb hby at_320) rfl ?_
                have hlt : (cs.take 65).length = 65 := by rw [List.length_take, hcl]; omega
                have hxl : (cs.take 65 ++ sufL dl).length = 65 + (d + 17) := by rw [List.length_append, hlt, suf_len hd.len.1]
                have V3 : Arv Z T485.heap x2 k484 .char (Int32.ofNat (65 + (d + 17))) ((cs.take 65).map Value.int ++ List.replicate (d + 17) (.int 0)) (.int 0) := arv_eq V_x2 (by rw [List.map_append, List.map_replicate])
                refine kS (W := 0) (C := 25) (S := 7104) X485 hx hZ hown (wd hw 351 rfl) (wd hw 352 rfl) (wd hw 5 rfl) (wd hw 353 rfl) (rmSUF l Z a0 hw [] x2 k484 (Int32.ofNat (n - 1)) d 65 ((cs.take 65).map Value.int) dl T485.heap n0 g_x2 V3 hsf (by rw [List.length_map, hlt]; omega) (by rw [List.length_map, hlt])) pd_4 (hb hby at_322) rfl hml (by exact ⟨rfl, rfl, rfl, rfl⟩) (by decide) fun v486 T486 L486 Lc486 X486 hQ486 l486 => ?_
                obtain ⟨rfl, Nq486, K486, Vn⟩ := hQ486
                clear V3
                have N486 := l486 N485 Nq486
                have Sfw := ((sfS (Safe.arv hZ.alike V_x2 (by decide)) sf0) : ∀ x ∈ [x2], Safe Z EL T483.vm T485.heap x)
                replace CR := CR.trans (CHr.keep K486 Sfw CR.1)
                clear Sfw
                replace hk := Nat.le_trans hk K486.1
                replace U1 := U1.keep K486 (ninS ne_u1_x2 nin0) (fun _ _ _ _ A => (ninS (arv_neT A V_x2 (by decide)) nin0))
                replace Od := Od.keep K486 (allS g_x2 all0)
                replace Z0 := Nat.le_trans Z0 K486.1
                clear V_x2
                have V_x2 : Arv Z T486.heap x2 k484 .char (Int32.ofNat (65 + (d + 17))) ((cs.take 65 ++ sufL dl).map Value.int) (.int 0) := arv_eq Vn (List.map_append ..).symm
                clear Vn
                refine gA X486 hx (hb hby at_325) rfl rfl ?_
                obtain ⟨T487, h487, X487, e487, E487, A487, D487, -, st487⟩ := newO X486 hx hZ hown (wd hw 10 rfl) (wd hw 11 rfl) (wd hw 12 rfl) rfl (g := (mkF m 327 #[vi i0, vi i1, vi i2, vi (i2 &&& (7 : Int32)), vi (Int32.ofNat n), vi md, vi (Int32.ofNat j), vi (1 : Int32), vi hi, vi lo, vr b, vr s1, vr u1, vi (Int32.ofNat (n - 1)), vi (65 : Int32), vi (Int32.ofNat d), vr x2] [(.ref u1)])) rfl (hb hby at_327) (by decide) (by decide)
                obtain ⟨s2, g487⟩ : ∃ z, z = T486.heap.size := ⟨_, rfl⟩
                rw [← g487] at A487 D487 st487
                refine Go.by (fun t => st487 t) ?_
                have g_s2 : n0 ≤ s2 := Nat.le_trans Z0 (Nat.le_of_eq g487.symm)
                have ne_u1_s2 : u1 ≠ s2 := Nat.ne_of_lt (Nat.lt_of_lt_of_le U1.lt (Nat.le_of_eq g487.symm))
                have ne_x2_s2 : x2 ≠ s2 := Nat.ne_of_lt (Nat.lt_of_lt_of_le V_x2.lt (Nat.le_of_eq g487.symm))
                have Sf_s2 : Safe Z EL T483.vm T486.heap s2 := Safe.new (Nat.le_of_eq g487.symm)
                replace Sf_s2 := Sf_s2.ext E487 CR.1
                replace CR := CR.trans (CHr.ext E487 CR.1)
                replace hk := Nat.le_trans hk E487.1
                replace Od := Od.ext E487
                replace U1 := U1.ext E487
                replace V_x2 := V_x2.ext E487
                replace Z0 := Nat.le_trans Z0 E487.1
                have E_s2 := A487
                have F_coder_s2 : Fld Z h487 s2 "java/lang/String" "coder" "B" (.int (0 : Int32)) := D487 (Or.inr (wd hw 36 rfl)) (ty := .byte) (by decide)
                have F_value_s2 : Fld Z h487 s2 "java/lang/String" "value" "[B" .null := D487 (Or.inr (wd hw 38 rfl)) (ty := (.array .byte)) (by decide)
                replace X487 := Stand.num (C := 26) (S := 7108) X487 rfl rfl
                show Go p e below _ (T487.setTop (mkF m 330 #[vi i0, vi i1, vi i2, vi (i2 &&& (7 : Int32)), vi (Int32.ofNat n), vi md, vi (Int32.ofNat j), vi (1 : Int32), vi hi, vi lo, vr b, vr s1, vr u1, vi (Int32.ofNat (n - 1)), vi (65 : Int32), vi (Int32.ofNat d), vr x2] [(.ref s2), (.ref u1)]))
                refine gq (XS.dup X487.here hx rfl (hb hby at_330) rfl rfl) rfl ?_
                refine gA X487 hx (hb hby at_331) rfl rfl ?_
                have hxb : ∀ c ∈ cs.take 65 ++ sufL dl, ¬ c < 0 ∧ ¬ (65535 : Int32) < c := fun c hc => (List.mem_append.mp hc).elim (fun h => hbd c (List.mem_of_mem_take h)) (fun h => lat_16 (suf_lat ld c h))
                have hx0 : (cs.take 65 ++ sufL dl).length ≤ 1000 := by rw [hxl]; omega
                have hx1 : 1 ≤ (cs.take 65 ++ sufL dl).length := by rw [hxl]; omega
                have Vs : Arv Z h487 x2 k484 .char (Int32.ofNat (cs.take 65 ++ sufL dl).length) ((cs.take 65 ++ sufL dl).map Value.int) (.int 0) := by rw [hxl]; exact V_x2
                refine kI (W := 2) (C := 28) (S := 10108) X487 hx hZ hown (wd hw 13 rfl) (wd hw 14 rfl) (wd hw 12 rfl) (wd hw 15 rfl) (rmI1 l Z a0 hw [] s2 x2 k484 (cs.take 65 ++ sufL dl) G1 h487 n0 Z0 Od A1 HS LS O2 P5 E_s2 F_value_s2 F_coder_s2 g_s2 Vs hx0 hx1 hxb) pd_1 (hb hby at_333) e487 hml (by exact ⟨rfl, rfl, rfl, rfl⟩) (by decide) fun v488 T488 L488 Lc488 X488 hQ488 l488 => ?_
                obtain ⟨rfl, Nq488, K488, S_s2⟩ := hQ488
                clear Vs
                have N488 := l488 N486 Nq488
                have Sfw := ((sfS Sf_s2 sf0) : ∀ x ∈ [s2], Safe Z EL T483.vm h487 x)
                replace Sf_s2 := Safe.keep K488 Sfw CR.1 Sf_s2
                replace CR := CR.trans (CHr.keep K488 Sfw CR.1)
                clear Sfw
                replace hk := Nat.le_trans hk K488.1
                replace U1 := U1.keep K488 (ninS ne_u1_s2 nin0) (fun _ _ _ _ A => (ninS (Ne.symm (Exa.neArv E_s2 A (wd hw 11 rfl))) nin0))
                replace Od := Od.keep K488 (allS g_s2 all0)
                replace E_s2 := E_s2.keep K488
                replace Z0 := Nat.le_trans Z0 K488.1
                refine kV (W := 0) (C := 28) (S := 10108) X488 hx hZ hown (wd hw 72 rfl) (wd hw 73 rfl) (wd hw 75 rfl) (wd hw 74 rfl) (wd hw 12 rfl) (wd hw 76 rfl) (notFace_of_selects (args := #[]) (mvT hZ (wd hw 75 rfl))) U1.exa (rm16 l Z a0 hw [] u1 s2 (cs.take 65 ++ sufL dl) G1 T488.heap n0 Od O2 P5 U1 S_s2 hx0) pd_3 (hb hby at_336) rfl hml (by exact ⟨rfl, rfl, rfl, rfl⟩) (by decide) fun v489 T489 L489 Lc489 X489 hQ489 l489 => ?_
                obtain ⟨rfl, Nq489, e489⟩ := hQ489
                have N489 := l489 N488 Nq489
                exact Go.ret1W X489 hS (by rw [e489]; exact hk) (by rw [e489]; exact CR) hZ hEL hx Bd.returns Bd.notSynchronized (by first | rfl | decide) (Or.inl ⟨rfl, by simp, _, rfl⟩) (hb hby at_339) (by decide) (by decide) (by first | (rw [e489]; exact ⟨rfl, N489⟩) | exact ⟨rfl, N489⟩)
              · rcases hdk with ⟨hh, rfl⟩ | ⟨hh, hh2, rfl⟩ | ⟨hh, rfl⟩
                ·
                  refine cN X483' hx (hb hby at_263) (flt (fun q => absurd ((o_lt (b := 1000) (by omega) (by decide)).1 q) (by omega) : ¬ ((Int32.ofNat (n - 1)) < (1000 : Int32)))).1 ?_
                  refine gk X483' hx 4 (hb hby at_266) rfl ?_
                  refine gg X483' hx 282 (hb hby at_267) (by decide) ?_
                  exact tailD
                ·
                  refine cY X483' hx 270 (hb hby at_263) (tlt ((o_lt (b := 1000) (by omega) (by decide)).2 (by omega) : (Int32.ofNat (n - 1)) < (1000 : Int32))).1 (by decide) ?_
                  refine gI X483' hx (hb hby at_270) rfl ?_
                  refine gb X483' hx 100 (hb hby at_272) rfl ?_
                  refine cN X483' hx (hb hby at_274) (flt (fun q => absurd ((o_lt (b := 100) (by omega) (by decide)).1 q) (by omega) : ¬ ((Int32.ofNat (n - 1)) < (100 : Int32)))).1 ?_
                  refine gk X483' hx 3 (hb hby at_277) rfl ?_
                  refine gg X483' hx 282 (hb hby at_278) (by decide) ?_
                  exact tailD
                ·
                  refine cY X483' hx 270 (hb hby at_263) (tlt ((o_lt (b := 1000) (by omega) (by decide)).2 (by omega) : (Int32.ofNat (n - 1)) < (1000 : Int32))).1 (by decide) ?_
                  refine gI X483' hx (hb hby at_270) rfl ?_
                  refine gb X483' hx 100 (hb hby at_272) rfl ?_
                  refine cY X483' hx 281 (hb hby at_274) (tlt ((o_lt (b := 100) (by omega) (by decide)).2 (by omega) : (Int32.ofNat (n - 1)) < (100 : Int32))).1 (by decide) ?_
                  refine gk X483' hx 2 (hb hby at_281) rfl ?_
                  exact tailD
            ·
              obtain ⟨_, _, ⟨T490, L490, k490, n490⟩, -, X490, hSn, hgn, ⟨Lc490, hQ490, l490, y490, z490, CRn⟩, st490⟩ := callSS X480 hx (y := (⟨"com/example/gearline/gearline/data/Values", "shown", "(Ljava/lang/String;)Ljava/lang/String;"⟩ : MethodName)) hown (mvT (s := s.setVm s.vm) hZ (wd hw 39 rfl)) (mvT (s := s.setVm s.vm) hZ (wd hw 40 rfl)) (mvT (s := s.setVm s.vm) hZ (wd hw 41 rfl)) (mvT (s := s.setVm s.vm) hZ (wd hw 42 rfl)) (by decide) (backOfSH (W := 0) (rmSH1 l Z a0 hw [] s1 cs (n - 1) 64 d dl dO dT kO kT G1 G3 T480.heap n0 Z0 Od A1 HS LS O4 rG3 O2 P5 SO SN V_dO V_dT S_s1 hkc hbd tp (by omega) op hd ld (by omega)) hZ (wd hw 42 rfl) (wd hw 41 rfl) (by decide) (by decide) hEL CR.1) (g := (mkF m 201 #[vi i0, vi i1, vi i2, vi (i2 &&& (7 : Int32)), vi (Int32.ofNat n), vi md, vi (Int32.ofNat j), vi (1 : Int32), vi hi, vi lo, vr b, vr s1, uu, uu, uu, uu, uu] [(.ref s1)])) rfl (by rw [hml]; rfl) (argsL := [(.ref s1)]) (rest := []) (lenOf pd_2 rfl) rfl (by show 2 * 0 + _ ≤ _; exact Nat.le_of_eq rfl) (hb hby at_201) (fun _ _ => ⟨rfl, rfl, (by decide : 4 + 20 ≤ _), (by decide : 4004 + 3000 ≤ _)⟩)
              dsimp only [Pt.U, Pt.locs, Pt.cells, Pt.slots] at X490 l490 y490 z490 st490 hQ490 hSn hgn CRn
              subst y490 z490
              skip
              obtain ⟨X490', hS490, hZ490, hown490⟩ := rebS hS hk X490 hSn hgn hZ hown
              obtain ⟨u1, rfl, Nq490, K490, U1⟩ := hQ490
              have N490 : Fr n0 L490 := by rw [l490]; exact Fr.app N480 Nq490
              clear l490
              refine Go.by (fun t => st490.trans) ?_
              replace X490' := Stand.num (C := 24) (S := 7004) X490' rfl rfl
              replace CR := CR.trans CRn
              replace Od := Od.keep K490 all0
              replace Z0 := Nat.le_trans Z0 K490.1
              clear CRn hS hk hSn
              have hS := hS490
              have hk : T490.heap.size ≤ T490.heap.size := Nat.le_refl _
              replace hZ := hZ490
              replace hown := hown490
              show Go p e below _ (T490.setTop (mkF m 204 #[vi i0, vi i1, vi i2, vi (i2 &&& (7 : Int32)), vi (Int32.ofNat n), vi md, vi (Int32.ofNat j), vi (1 : Int32), vi hi, vi lo, vr b, vr s1, uu, uu, uu, uu, uu] [(.ref u1)]))
              refine gU X490' hx #[vi i0, vi i1, vi i2, vi (i2 &&& (7 : Int32)), vi (Int32.ofNat n), vi md, vi (Int32.ofNat j), vi (1 : Int32), vi hi, vi lo, vr b, vr s1, vr u1, uu, uu, uu, uu] (hb hby at_204) rfl rfl ?_
              refine gI X490' hx (hb hby at_206) rfl ?_
              refine zN X490' hx (hb hby at_208) ((if0 _ _).trans (feq (by decide : ¬ ((1 : Int32) = (0 : Int32)))).1) ?_
              refine gI X490' hx (hb hby at_211) rfl ?_
              refine gk X490' hx 1 (hb hby at_213) rfl ?_
              refine gq (XS.isub X490'.here hx rfl (hb hby at_214) rfl) rfl ?_
              show Go p e below _ (T490.setTop (mkF m 215 #[vi i0, vi i1, vi i2, vi (i2 &&& (7 : Int32)), vi (Int32.ofNat n), vi md, vi (Int32.ofNat j), vi (1 : Int32), vi hi, vi lo, vr b, vr s1, vr u1, uu, uu, uu, uu] [(.int ((Int32.ofNat n) - (1 : Int32)))]))
              rw [show ((Int32.ofNat n) - (1 : Int32)) = Int32.ofNat (n - 1) from o_sub (b := 1) (by omega) (by omega)]
              refine gg X490' hx 220 (hb hby at_215) (by decide) ?_
              refine gT X490' hx #[vi i0, vi i1, vi i2, vi (i2 &&& (7 : Int32)), vi (Int32.ofNat n), vi md, vi (Int32.ofNat j), vi (1 : Int32), vi hi, vi lo, vr b, vr s1, vr u1, vi (Int32.ofNat (n - 1)), uu, uu, uu] (hb hby at_220) rfl ?_
              refine gI X490' hx (hb hby at_222) rfl ?_
              refine gb X490' hx 64 (hb hby at_224) rfl ?_
              refine cY X490' hx 237 (hb hby at_226) (tlt ((o_lt (a := 64) (by decide) (by omega)).2 (by omega) : (64 : Int32) < (Int32.ofNat (n - 1)))).2.2.1 (by decide) ?_
              refine gI X490' hx (hb hby at_237) rfl ?_
              refine zN X490' hx (hb hby at_239) ((if0 _ _).trans (feq (by decide : ¬ ((1 : Int32) = (0 : Int32)))).1) ?_
              refine gI X490' hx (hb hby at_242) rfl ?_
              refine gb X490' hx 63 (hb hby at_244) rfl ?_
              refine cY X490' hx 254 (hb hby at_246) (tlt (by rw [show (63 : Int32) = Int32.ofNat 63 from rfl, o_lt (by decide) (by omega)]; omega : (63 : Int32) < (Int32.ofNat j))).2.2.1 (by decide) ?_
              refine gb X490' hx 64 (hb hby at_254) rfl ?_
              refine gT X490' hx #[vi i0, vi i1, vi i2, vi (i2 &&& (7 : Int32)), vi (Int32.ofNat n), vi md, vi (Int32.ofNat j), vi (1 : Int32), vi hi, vi lo, vr b, vr s1, vr u1, vi (Int32.ofNat (n - 1)), vi (64 : Int32), uu, uu] (hb hby at_256) rfl ?_
              refine gI X490' hx (hb hby at_258) rfl ?_
              refine gs X490' hx 1000 (hb hby at_260) rfl ?_
              refine Go.two (B := T490.setTop (mkF m 282 #[vi i0, vi i1, vi i2, vi (i2 &&& (7 : Int32)), vi (Int32.ofNat n), vi md, vi (Int32.ofNat j), vi (1 : Int32), vi hi, vi lo, vr b, vr s1, vr u1, vi (Int32.ofNat (n - 1)), vi (64 : Int32), uu, uu] [(.int (Int32.ofNat d))])) ?_ fun tailD => ?_
              ·
                refine gT X490' hx #[vi i0, vi i1, vi i2, vi (i2 &&& (7 : Int32)), vi (Int32.ofNat n), vi md, vi (Int32.ofNat j), vi (1 : Int32), vi hi, vi lo, vr b, vr s1, vr u1, vi (Int32.ofNat (n - 1)), vi (64 : Int32), vi (Int32.ofNat d), uu] (hb hby at_282) rfl ?_
                refine gI X490' hx (hb hby at_284) rfl ?_
                refine gb X490' hx 17 (hb hby at_286) rfl ?_
                refine gq (XS.iadd X490'.here hx rfl (hb hby at_288) rfl) rfl ?_
                refine gI X490' hx (hb hby at_289) rfl ?_
                refine gq (XS.iadd X490'.here hx rfl (hb hby at_291) rfl) rfl ?_
                show Go p e below _ (T490.setTop (mkF m 292 #[vi i0, vi i1, vi i2, vi (i2 &&& (7 : Int32)), vi (Int32.ofNat n), vi md, vi (Int32.ofNat j), vi (1 : Int32), vi hi, vi lo, vr b, vr s1, vr u1, vi (Int32.ofNat (n - 1)), vi (64 : Int32), vi (Int32.ofNat d), uu] [(.int (((64 : Int32) + (17 : Int32)) + (Int32.ofNat d)))]))
                rw [show (((64 : Int32) + (17 : Int32)) + (Int32.ofNat d)) = (Int32.ofNat (64 + (d + 17))) from by rw [show (64 : Int32) + (17 : Int32) = Int32.ofNat 81 from rfl, o_add]; congr 1; omega]
                obtain ⟨T491, h491, k491, X491, e491, E491, A491, st491⟩ := newP X490' hx hZ (wd hw 2 rfl) rfl (g := (mkF m 292 #[vi i0, vi i1, vi i2, vi (i2 &&& (7 : Int32)), vi (Int32.ofNat n), vi md, vi (Int32.ofNat j), vi (1 : Int32), vi hi, vi lo, vr b, vr s1, vr u1, vi (Int32.ofNat (n - 1)), vi (64 : Int32), vi (Int32.ofNat d), uu] [(.int (Int32.ofNat (64 + (d + 17))))])) rfl (hb hby at_292) rfl (o_nn (by omega)) (cap := 100) (by rw [o_nat (by omega)]; omega) (by decide) (by decide) (by decide)
                obtain ⟨x2, g491⟩ : ∃ z, z = T490.heap.size := ⟨_, rfl⟩
                rw [← g491] at A491 st491
                refine Go.by (fun t => st491 t) ?_
                have g_x2 : n0 ≤ x2 := Nat.le_trans Z0 (Nat.le_of_eq g491.symm)
                have ne_u1_x2 : u1 ≠ x2 := Nat.ne_of_lt (Nat.lt_of_lt_of_le U1.lt (Nat.le_of_eq g491.symm))
                replace CR := CR.trans (CHr.ext E491 CR.1)
                replace hk := Nat.le_trans hk E491.1
                replace Od := Od.ext E491
                replace U1 := U1.ext E491
                replace Z0 := Nat.le_trans Z0 E491.1
                have V_x2 := Arv.new A491 (o_nn (by omega))
                replace X491 := Stand.num (C := 25) (S := 7104) X491 rfl rfl
                show Go p e below _ (T491.setTop (mkF m 294 #[vi i0, vi i1, vi i2, vi (i2 &&& (7 : Int32)), vi (Int32.ofNat n), vi md, vi (Int32.ofNat j), vi (1 : Int32), vi hi, vi lo, vr b, vr s1, vr u1, vi (Int32.ofNat (n - 1)), vi (64 : Int32), vi (Int32.ofNat d), uu] [(.ref x2)]))
                replace V_x2 : Arv Z h491 x2 k491 .char (Int32.ofNat (64 + (d + 17))) ((List.replicate (64 + (d + 17)) (0 : Int32)).map Value.int) (.int 0) := by rw [List.map_replicate]; exact V_x2.pad (pad_rep [] _ (64 + (d + 17)))
                refine gU X491 hx #[vi i0, vi i1, vi i2, vi (i2 &&& (7 : Int32)), vi (Int32.ofNat n), vi md, vi (Int32.ofNat j), vi (1 : Int32), vi hi, vi lo, vr b, vr s1, vr u1, vi (Int32.ofNat (n - 1)), vi (64 : Int32), vi (Int32.ofNat d), vr x2] (hb hby at_294) rfl rfl ?_
                refine gA X491 hx (hb hby at_296) rfl rfl ?_
                refine gI X491 hx (hb hby at_298) rfl ?_
                refine gI X491 hx (hb hby at_300) rfl ?_
                refine gi X491 hx (hb hby at_302) rfl ?_
                refine gI X491 hx (hb hby at_303) rfl ?_
                refine gI X491 hx (hb hby at_305) rfl ?_
                refine gI X491 hx (hb hby at_307) rfl ?_
                refine gI X491 hx (hb hby at_309) rfl ?_
                refine kS (W := 0) (C := 25) (S := 7104) X491 hx hZ hown (wd hw 3 rfl) (wd hw 4 rfl) (wd hw 5 rfl) (wd hw 6 rfl) (rmFIL l Z a0 hw [] x2 k491 (Int32.ofNat (64 + (d + 17))) (64 : Int32) (Int32.ofNat n) i0 (1 : Int32) (Int32.ofNat j) hi lo c0 c1 c2 c3 (List.replicate (64 + (d + 17)) 0) h491 n0 g_x2 V_x2 (fun q q1 q2 => by rw [List.length_replicate]; exact hlim (n := 64) (N := 64 + (d + 17)) (by omega) (by omega) q q1 q2) e0' e1' e2' e3' g0 g1 g2 g3 (sur_16 (a := 55296) (b := 56320) (by decide) (by decide) (by decide) bh) (sur_16 (a := 56320) (b := 57344) (by decide) (by decide) (by decide) bl)) pd_0 (hb hby at_311) e491 hml (by exact ⟨rfl, rfl, rfl, rfl⟩) (by decide) fun v492 T492 L492 Lc492 X492 hQ492 l492 => ?_
                obtain ⟨rfl, Nq492, K492, Vn⟩ := hQ492
                have N492 := l492 N490 Nq492
                have Sfw := ((sfS (Safe.arv hZ.alike V_x2 (by decide)) sf0) : ∀ x ∈ [x2], Safe Z EL T490.vm h491 x)
                replace CR := CR.trans (CHr.keep K492 Sfw CR.1)
                clear Sfw
                replace hk := Nat.le_trans hk K492.1
                replace U1 := U1.keep K492 (ninS ne_u1_x2 nin0) (fun _ _ _ _ A => (ninS (arv_neT A V_x2 (by decide)) nin0))
                replace Od := Od.keep K492 (allS g_x2 all0)
                replace Z0 := Nat.le_trans Z0 K492.1
                clear V_x2
                have V_x2 : Arv Z T492.heap x2 k491 .char (Int32.ofNat (64 + (d + 17))) ((cs.take 64 ++ List.replicate (d + 17) 0).map Value.int) (.int 0) := arv_eq Vn (congrArg (List.map Value.int) ((fillI_nat _ (m := 64) (by decide) (by omega) (pos := j) (by omega) 1 c0 c1 c2 c3 hi lo).trans ((exp_list (d + 17) (p := 64) (n := n) (by omega) c0 c1 c2 c3 true j hi lo).trans (by rw [ecs]))))
                clear Vn
                refine gA X492 hx (hb hby at_314) rfl rfl ?_
                refine gI X492 hx (hb hby at_316) rfl ?_
                refine gI X492 hx (hb hby at_318) rfl ?_
                refine gI X492 hx (hb hby at_320) rfl ?_
                have hlt : (cs.take 64).length = 64 := by rw [List.length_take, hcl]; omega
                have hxl : (cs.take 64 ++ sufL dl).length = 64 + (d + 17) := by rw [List.length_append, hlt, suf_len hd.len.1]
                have V3 : Arv Z T492.heap x2 k491 .char (Int32.ofNat (64 + (d + 17))) ((cs.take 64).map Value.int ++ List.replicate (d + 17) (.int 0)) (.int 0) := arv_eq V_x2 (by rw [List.map_append, List.map_replicate])
                refine kS (W := 0) (C := 25) (S := 7104) X492 hx hZ hown (wd hw 351 rfl) (wd hw 352 rfl) (wd hw 5 rfl) (wd hw 353 rfl) (rmSUF l Z a0 hw [] x2 k491 (Int32.ofNat (n - 1)) d 64 ((cs.take 64).map Value.int) dl T492.heap n0 g_x2 V3 hsf (by rw [List.length_map, hlt]; omega) (by rw [List.length_map, hlt])) pd_4 (hb hby at_322) rfl hml (by exact ⟨rfl, rfl, rfl, rfl⟩) (by decide) fun v493 T493 L493 Lc493 X493 hQ493 l493 => ?_
                obtain ⟨rfl, Nq493, K493, Vn⟩ := hQ493
                clear V3
                have N493 := l493 N492 Nq493
                have Sfw := ((sfS (Safe.arv hZ.alike V_x2 (by decide)) sf0) : ∀ x ∈ [x2], Safe Z EL T490.vm T492.heap x)
                replace CR := CR.trans (CHr.keep K493 Sfw CR.1)
                clear Sfw
                replace hk := Nat.le_trans hk K493.1
                replace U1 := U1.keep K493 (ninS ne_u1_x2 nin0) (fun _ _ _ _ A => (ninS (arv_neT A V_x2 (by decide)) nin0))
                replace Od := Od.keep K493 (allS g_x2 all0)
                replace Z0 := Nat.le_trans Z0 K493.1
                clear V_x2
                have V_x2 : Arv Z T493.heap x2 k491 .char (Int32.ofNat (64 + (d + 17))) ((cs.take 64 ++ sufL dl).map Value.int) (.int 0) := arv_eq Vn (List.map_append ..).symm
                clear Vn
                refine gA X493 hx (hb hby at_325) rfl rfl ?_
                obtain ⟨T494, h494, X494, e494, E494, A494, D494, -, st494⟩ := newO X493 hx hZ hown (wd hw 10 rfl) (wd hw 11 rfl) (wd hw 12 rfl) rfl (g := (mkF m 327 #[vi i0, vi i1, vi i2, vi (i2 &&& (7 : Int32)), vi (Int32.ofNat n), vi md, vi (Int32.ofNat j), vi (1 : Int32), vi hi, vi lo, vr b, vr s1, vr u1, vi (Int32.ofNat (n - 1)), vi (64 : Int32), vi (Int32.ofNat d), vr x2] [(.ref u1)])) rfl (hb hby at_327) (by decide) (by decide)
                obtain ⟨s2, g494⟩ : ∃ z, z = T493.heap.size := ⟨_, rfl⟩
                rw [← g494] at A494 D494 st494
                refine Go.by (fun t => st494 t) ?_
                have g_s2 : n0 ≤ s2 := Nat.le_trans Z0 (Nat.le_of_eq g494.symm)
                have ne_u1_s2 : u1 ≠ s2 := Nat.ne_of_lt (Nat.lt_of_lt_of_le U1.lt (Nat.le_of_eq g494.symm))
                have ne_x2_s2 : x2 ≠ s2 := Nat.ne_of_lt (Nat.lt_of_lt_of_le V_x2.lt (Nat.le_of_eq g494.symm))
                have Sf_s2 : Safe Z EL T490.vm T493.heap s2 := Safe.new (Nat.le_of_eq g494.symm)
                replace Sf_s2 := Sf_s2.ext E494 CR.1
                replace CR := CR.trans (CHr.ext E494 CR.1)
                replace hk := Nat.le_trans hk E494.1
                replace Od := Od.ext E494
                replace U1 := U1.ext E494
                replace V_x2 := V_x2.ext E494
                replace Z0 := Nat.le_trans Z0 E494.1
                have E_s2 := A494
                have F_coder_s2 : Fld Z h494 s2 "java/lang/String" "coder" "B" (.int (0 : Int32)) := D494 (Or.inr (wd hw 36 rfl)) (ty := .byte) (by decide)
                have F_value_s2 : Fld Z h494 s2 "java/lang/String" "value" "[B" .null := D494 (Or.inr (wd hw 38 rfl)) (ty := (.array .byte)) (by decide)
                replace X494 := Stand.num (C := 26) (S := 7108) X494 rfl rfl
                show Go p e below _ (T494.setTop (mkF m 330 #[vi i0, vi i1, vi i2, vi (i2 &&& (7 : Int32)), vi (Int32.ofNat n), vi md, vi (Int32.ofNat j), vi (1 : Int32), vi hi, vi lo, vr b, vr s1, vr u1, vi (Int32.ofNat (n - 1)), vi (64 : Int32), vi (Int32.ofNat d), vr x2] [(.ref s2), (.ref u1)]))
                refine gq (XS.dup X494.here hx rfl (hb hby at_330) rfl rfl) rfl ?_
                refine gA X494 hx (hb hby at_331) rfl rfl ?_
                have hxb : ∀ c ∈ cs.take 64 ++ sufL dl, ¬ c < 0 ∧ ¬ (65535 : Int32) < c := fun c hc => (List.mem_append.mp hc).elim (fun h => hbd c (List.mem_of_mem_take h)) (fun h => lat_16 (suf_lat ld c h))
                have hx0 : (cs.take 64 ++ sufL dl).length ≤ 1000 := by rw [hxl]; omega
                have hx1 : 1 ≤ (cs.take 64 ++ sufL dl).length := by rw [hxl]; omega
                have Vs : Arv Z h494 x2 k491 .char (Int32.ofNat (cs.take 64 ++ sufL dl).length) ((cs.take 64 ++ sufL dl).map Value.int) (.int 0) := by rw [hxl]; exact V_x2
                refine kI (W := 2) (C := 28) (S := 10108) X494 hx hZ hown (wd hw 13 rfl) (wd hw 14 rfl) (wd hw 12 rfl) (wd hw 15 rfl) (rmI1 l Z a0 hw [] s2 x2 k491 (cs.take 64 ++ sufL dl) G1 h494 n0 Z0 Od A1 HS LS O2 P5 E_s2 F_value_s2 F_coder_s2 g_s2 Vs hx0 hx1 hxb) pd_1 (hb hby at_333) e494 hml (by exact ⟨rfl, rfl, rfl, rfl⟩) (by decide) fun v495 T495 L495 Lc495 X495 hQ495 l495 => ?_
                obtain ⟨rfl, Nq495, K495, S_s2⟩ := hQ495
                clear Vs
                have N495 := l495 N493 Nq495
                have Sfw := ((sfS Sf_s2 sf0) : ∀ x ∈ [s2], Safe Z EL T490.vm h494 x)
                replace Sf_s2 := Safe.keep K495 Sfw CR.1 Sf_s2
                replace CR := CR.trans (CHr.keep K495 Sfw CR.1)
                clear Sfw
                replace hk := Nat.le_trans hk K495.1
                replace U1 := U1.keep K495 (ninS ne_u1_s2 nin0) (fun _ _ _ _ A => (ninS (Ne.symm (Exa.neArv E_s2 A (wd hw 11 rfl))) nin0))
                replace Od := Od.keep K495 (allS g_s2 all0)
                replace E_s2 := E_s2.keep K495
                replace Z0 := Nat.le_trans Z0 K495.1
                refine kV (W := 0) (C := 28) (S := 10108) X495 hx hZ hown (wd hw 72 rfl) (wd hw 73 rfl) (wd hw 75 rfl) (wd hw 74 rfl) (wd hw 12 rfl) (wd hw 76 rfl) (notFace_of_selects (args := #[]) (mvT hZ (wd hw 75 rfl))) U1.exa (rm16 l Z a0 hw [] u1 s2 (cs.take 64 ++ sufL dl) G1 T495.heap n0 Od O2 P5 U1 S_s2 hx0) pd_3 (hb hby at_336) rfl hml (by exact ⟨rfl, rfl, rfl, rfl⟩) (by decide) fun v496 T496 L496 Lc496 X496 hQ496 l496 => ?_
                obtain ⟨rfl, Nq496, e496⟩ := hQ496
                have N496 := l496 N495 Nq496
                exact Go.ret1W X496 hS (by rw [e496]; exact hk) (by rw [e496]; exact CR) hZ hEL hx Bd.returns Bd.notSynchronized (by first | rfl | decide) (Or.inl ⟨rfl, by simp, _, rfl⟩) (hb hby at_339) (by decide) (by decide) (by first | (rw [e496]; exact ⟨rfl, N496⟩) | exact ⟨rfl, N496⟩)
              · rcases hdk with ⟨hh, rfl⟩ | ⟨hh, hh2, rfl⟩ | ⟨hh, rfl⟩
                ·
                  refine cN X490' hx (hb hby at_263) (flt (fun q => absurd ((o_lt (b := 1000) (by omega) (by decide)).1 q) (by omega) : ¬ ((Int32.ofNat (n - 1)) < (1000 : Int32)))).1 ?_
                  refine gk X490' hx 4 (hb hby at_266) rfl ?_
                  refine gg X490' hx 282 (hb hby at_267) (by decide) ?_
                  exact tailD
                ·
                  refine cY X490' hx 270 (hb hby at_263) (tlt ((o_lt (b := 1000) (by omega) (by decide)).2 (by omega) : (Int32.ofNat (n - 1)) < (1000 : Int32))).1 (by decide) ?_
                  refine gI X490' hx (hb hby at_270) rfl ?_
                  refine gb X490' hx 100 (hb hby at_272) rfl ?_
                  refine cN X490' hx (hb hby at_274) (flt (fun q => absurd ((o_lt (b := 100) (by omega) (by decide)).1 q) (by omega) : ¬ ((Int32.ofNat (n - 1)) < (100 : Int32)))).1 ?_
                  refine gk X490' hx 3 (hb hby at_277) rfl ?_
                  refine gg X490' hx 282 (hb hby at_278) (by decide) ?_
                  exact tailD
                ·
                  refine cY X490' hx 270 (hb hby at_263) (tlt ((o_lt (b := 1000) (by omega) (by decide)).2 (by omega) : (Int32.ofNat (n - 1)) < (1000 : Int32))).1 (by decide) ?_
                  refine gI X490' hx (hb hby at_270) rfl ?_
                  refine gb X490' hx 100 (hb hby at_272) rfl ?_
                  refine cY X490' hx 281 (hb hby at_274) (tlt ((o_lt (b := 100) (by omega) (by decide)).2 (by omega) : (Int32.ofNat (n - 1)) < (100 : Int32))).1 (by decide) ?_
                  refine gk X490' hx 2 (hb hby at_281) rfl ?_
                  exact tailD
      · by_cases m0 : md = 0
        ·
          refine zY X0 hx 136 (hb hby at_115) ((if0 _ _).trans (teq m0).1) (by decide) ?_
          refine gk X0 hx 0 (hb hby at_136) rfl ?_
          exact tail3 0 (Or.inl rfl)
        ·
          refine zN X0 hx (hb hby at_115) ((if0 _ _).trans (feq m0).1) ?_
          refine gI X0 hx (hb hby at_118) rfl ?_
          by_cases p0 : pp < 0
          ·
            refine zY X0 hx 136 (hb hby at_120) ((if0 _ _).trans (tlt p0).1) (by decide) ?_
            refine gk X0 hx 0 (hb hby at_136) rfl ?_
            exact tail3 0 (Or.inl rfl)
          ·
            refine zN X0 hx (hb hby at_120) ((if0 _ _).trans (flt p0).1) ?_
            refine gI X0 hx (hb hby at_123) rfl ?_
            refine gk X0 hx 1 (hb hby at_125) rfl ?_
            refine gq (XS.iadd X0.here hx rfl (hb hby at_126) rfl) rfl ?_
            refine gI X0 hx (hb hby at_127) rfl ?_
            by_cases p1 : (pp + (1 : Int32)) < (Int32.ofNat n)
            ·
              refine cN X0 hx (hb hby at_129) (tlt p1).2.1 ?_
              refine gk X0 hx 1 (hb hby at_132) rfl ?_
              refine gg X0 hx 137 (hb hby at_133) (by decide) ?_
              rcases hpp with q | ⟨j, hj, rfl⟩
              · exact absurd q p0
              · refine tail3 1 (Or.inr ⟨rfl, j, rfl, ?_⟩)
                rw [o_one] at p1
                exact (o_lt (by omega) (by omega)).1 p1
            ·
              refine cY X0 hx 136 (hb hby at_129) (flt p1).2.1 (by decide) ?_
              refine gk X0 hx 0 (hb hby at_136) rfl ?_
              exact tail3 0 (Or.inl rfl)
    · by_cases m1 : md = 1
      ·
        refine cN X0 hx (hb hby at_89) (teq m1).2 ?_
        refine gk X0 hx 0 (hb hby at_92) rfl ?_
        refine gg X0 hx 111 (hb hby at_93) (by decide) ?_
        exact tail2 0 (Or.inr ⟨0, by decide, rfl⟩)
      ·
        refine cY X0 hx 96 (hb hby at_89) (feq m1).2 (by decide) ?_
        refine gI X0 hx (hb hby at_96) rfl ?_
        refine gk X0 hx 2 (hb hby at_98) rfl ?_
        by_cases m2 : md = 2
        ·
          refine cN X0 hx (hb hby at_99) (teq m2).2 ?_
          refine gb X0 hx 63 (hb hby at_102) rfl ?_
          refine gg X0 hx 111 (hb hby at_104) (by decide) ?_
          exact tail2 63 (Or.inr ⟨63, by decide, rfl⟩)
        ·
          refine cY X0 hx 107 (hb hby at_99) (feq m2).2 (by decide) ?_
          refine gI X0 hx (hb hby at_107) rfl ?_
          refine gk X0 hx 2 (hb hby at_109) rfl ?_
          refine gq (XS.isub X0.here hx rfl (hb hby at_110) rfl) rfl ?_
          refine tail2 ((Int32.ofNat n) - 2) ?_
          by_cases hz : n = 0
          · left; rw [hz]; decide
          · exact Or.inr ⟨n - 2, by omega, o_sub (b := 2) (by omega) (by omega)⟩
  · rcases sn with ⟨hs, rfl⟩ | ⟨hs, rfl⟩ | ⟨hs, rfl⟩ | ⟨hs, rfl⟩ | ⟨hs, rfl⟩ | ⟨hs, rfl⟩ | ⟨hs, rfl⟩ | ⟨hs, rfl⟩
    ·
      refine gi X0 hx (hb hby at_5) rfl ?_
      refine zN X0 hx (hb hby at_6) ((if0 _ _).trans (teq hs).2) ?_
      refine gk X0 hx 0 (hb hby at_9) rfl ?_
      refine gg X0 hx 77 (hb hby at_10) (by decide) ?_
      exact tail
    ·
      refine gi X0 hx (hb hby at_5) rfl ?_
      refine zY X0 hx 13 (hb hby at_6) ((if0 _ _).trans (feq (by rw [hs]; decide : ¬ ((i2 &&& (7 : Int32)) = (0 : Int32)))).2) (by decide) ?_
      refine gi X0 hx (hb hby at_13) rfl ?_
      refine gk X0 hx 1 (hb hby at_14) rfl ?_
      refine cN X0 hx (hb hby at_15) (teq hs).2 ?_
      refine gk X0 hx 2 (hb hby at_18) rfl ?_
      refine gg X0 hx 77 (hb hby at_19) (by decide) ?_
      exact tail
    ·
      refine gi X0 hx (hb hby at_5) rfl ?_
      refine zY X0 hx 13 (hb hby at_6) ((if0 _ _).trans (feq (by rw [hs]; decide : ¬ ((i2 &&& (7 : Int32)) = (0 : Int32)))).2) (by decide) ?_
      refine gi X0 hx (hb hby at_13) rfl ?_
      refine gk X0 hx 1 (hb hby at_14) rfl ?_
      refine cY X0 hx 22 (hb hby at_15) (feq (by rw [hs]; decide : ¬ ((i2 &&& (7 : Int32)) = (1 : Int32)))).2 (by decide) ?_
      refine gi X0 hx (hb hby at_22) rfl ?_
      refine gk X0 hx 2 (hb hby at_23) rfl ?_
      refine cN X0 hx (hb hby at_24) (teq hs).2 ?_
      refine gb X0 hx 63 (hb hby at_27) rfl ?_
      refine gg X0 hx 77 (hb hby at_29) (by decide) ?_
      exact tail
    ·
      refine gi X0 hx (hb hby at_5) rfl ?_
      refine zY X0 hx 13 (hb hby at_6) ((if0 _ _).trans (feq (by rw [hs]; decide : ¬ ((i2 &&& (7 : Int32)) = (0 : Int32)))).2) (by decide) ?_
      refine gi X0 hx (hb hby at_13) rfl ?_
      refine gk X0 hx 1 (hb hby at_14) rfl ?_
      refine cY X0 hx 22 (hb hby at_15) (feq (by rw [hs]; decide : ¬ ((i2 &&& (7 : Int32)) = (1 : Int32)))).2 (by decide) ?_
      refine gi X0 hx (hb hby at_22) rfl ?_
      refine gk X0 hx 2 (hb hby at_23) rfl ?_
      refine cY X0 hx 32 (hb hby at_24) (feq (by rw [hs]; decide : ¬ ((i2 &&& (7 : Int32)) = (2 : Int32)))).2 (by decide) ?_
      refine gi X0 hx (hb hby at_32) rfl ?_
      refine gk X0 hx 3 (hb hby at_33) rfl ?_
      refine cN X0 hx (hb hby at_34) (teq hs).2 ?_
      refine gb X0 hx 64 (hb hby at_37) rfl ?_
      refine gg X0 hx 77 (hb hby at_39) (by decide) ?_
      exact tail
    ·
      refine gi X0 hx (hb hby at_5) rfl ?_
      refine zY X0 hx 13 (hb hby at_6) ((if0 _ _).trans (feq (by rw [hs]; decide : ¬ ((i2 &&& (7 : Int32)) = (0 : Int32)))).2) (by decide) ?_
      refine gi X0 hx (hb hby at_13) rfl ?_
      refine gk X0 hx 1 (hb hby at_14) rfl ?_
      refine cY X0 hx 22 (hb hby at_15) (feq (by rw [hs]; decide : ¬ ((i2 &&& (7 : Int32)) = (1 : Int32)))).2 (by decide) ?_
      refine gi X0 hx (hb hby at_22) rfl ?_
      refine gk X0 hx 2 (hb hby at_23) rfl ?_
      refine cY X0 hx 32 (hb hby at_24) (feq (by rw [hs]; decide : ¬ ((i2 &&& (7 : Int32)) = (2 : Int32)))).2 (by decide) ?_
      refine gi X0 hx (hb hby at_32) rfl ?_
      refine gk X0 hx 3 (hb hby at_33) rfl ?_
      refine cY X0 hx 42 (hb hby at_34) (feq (by rw [hs]; decide : ¬ ((i2 &&& (7 : Int32)) = (3 : Int32)))).2 (by decide) ?_
      refine gi X0 hx (hb hby at_42) rfl ?_
      refine gk X0 hx 4 (hb hby at_43) rfl ?_
      refine cN X0 hx (hb hby at_44) (teq hs).2 ?_
      refine gb X0 hx 65 (hb hby at_47) rfl ?_
      refine gg X0 hx 77 (hb hby at_49) (by decide) ?_
      exact tail
    ·
      refine gi X0 hx (hb hby at_5) rfl ?_
      refine zY X0 hx 13 (hb hby at_6) ((if0 _ _).trans (feq (by rw [hs]; decide : ¬ ((i2 &&& (7 : Int32)) = (0 : Int32)))).2) (by decide) ?_
      refine gi X0 hx (hb hby at_13) rfl ?_
      refine gk X0 hx 1 (hb hby at_14) rfl ?_
      refine cY X0 hx 22 (hb hby at_15) (feq (by rw [hs]; decide : ¬ ((i2 &&& (7 : Int32)) = (1 : Int32)))).2 (by decide) ?_
      refine gi X0 hx (hb hby at_22) rfl ?_
      refine gk X0 hx 2 (hb hby at_23) rfl ?_
      refine cY X0 hx 32 (hb hby at_24) (feq (by rw [hs]; decide : ¬ ((i2 &&& (7 : Int32)) = (2 : Int32)))).2 (by decide) ?_
      refine gi X0 hx (hb hby at_32) rfl ?_
      refine gk X0 hx 3 (hb hby at_33) rfl ?_
      refine cY X0 hx 42 (hb hby at_34) (feq (by rw [hs]; decide : ¬ ((i2 &&& (7 : Int32)) = (3 : Int32)))).2 (by decide) ?_
      refine gi X0 hx (hb hby at_42) rfl ?_
      refine gk X0 hx 4 (hb hby at_43) rfl ?_
      refine cY X0 hx 52 (hb hby at_44) (feq (by rw [hs]; decide : ¬ ((i2 &&& (7 : Int32)) = (4 : Int32)))).2 (by decide) ?_
      refine gi X0 hx (hb hby at_52) rfl ?_
      refine gk X0 hx 5 (hb hby at_53) rfl ?_
      refine cN X0 hx (hb hby at_54) (teq hs).2 ?_
      refine gb X0 hx 66 (hb hby at_57) rfl ?_
      refine gg X0 hx 77 (hb hby at_59) (by decide) ?_
      show Go p e below _ (s₁.setTop (mkF m 77 #[vi i0, vi i1, vi i2, vi (i2 &&& (7 : Int32)), uu, uu, uu, uu, uu, uu, uu, uu, uu, uu, uu, uu, uu] [(.int (66 : Int32))]))
      exact tail
    ·
      refine gi X0 hx (hb hby at_5) rfl ?_
      refine zY X0 hx 13 (hb hby at_6) ((if0 _ _).trans (feq (by rw [hs]; decide : ¬ ((i2 &&& (7 : Int32)) = (0 : Int32)))).2) (by decide) ?_
      refine gi X0 hx (hb hby at_13) rfl ?_
      refine gk X0 hx 1 (hb hby at_14) rfl ?_
      refine cY X0 hx 22 (hb hby at_15) (feq (by rw [hs]; decide : ¬ ((i2 &&& (7 : Int32)) = (1 : Int32)))).2 (by decide) ?_
      refine gi X0 hx (hb hby at_22) rfl ?_
      refine gk X0 hx 2 (hb hby at_23) rfl ?_
      refine cY X0 hx 32 (hb hby at_24) (feq (by rw [hs]; decide : ¬ ((i2 &&& (7 : Int32)) = (2 : Int32)))).2 (by decide) ?_
      refine gi X0 hx (hb hby at_32) rfl ?_
      refine gk X0 hx 3 (hb hby at_33) rfl ?_
      refine cY X0 hx 42 (hb hby at_34) (feq (by rw [hs]; decide : ¬ ((i2 &&& (7 : Int32)) = (3 : Int32)))).2 (by decide) ?_
      refine gi X0 hx (hb hby at_42) rfl ?_
      refine gk X0 hx 4 (hb hby at_43) rfl ?_
      refine cY X0 hx 52 (hb hby at_44) (feq (by rw [hs]; decide : ¬ ((i2 &&& (7 : Int32)) = (4 : Int32)))).2 (by decide) ?_
      refine gi X0 hx (hb hby at_52) rfl ?_
      refine gk X0 hx 5 (hb hby at_53) rfl ?_
      refine cY X0 hx 62 (hb hby at_54) (feq (by rw [hs]; decide : ¬ ((i2 &&& (7 : Int32)) = (5 : Int32)))).2 (by decide) ?_
      refine gi X0 hx (hb hby at_62) rfl ?_
      refine gb X0 hx 6 (hb hby at_63) rfl ?_
      show Go p e below _ (s₁.setTop (mkF m 65 #[vi i0, vi i1, vi i2, vi (i2 &&& (7 : Int32)), uu, uu, uu, uu, uu, uu, uu, uu, uu, uu, uu, uu, uu] [(.int (6 : Int32)), (.int (i2 &&& (7 : Int32)))]))
      refine cN X0 hx (hb hby at_65) (teq hs).2 ?_
      refine gs X0 hx 130 (hb hby at_68) rfl ?_
      refine gg X0 hx 77 (hb hby at_71) (by decide) ?_
      exact tail
    ·
      refine gi X0 hx (hb hby at_5) rfl ?_
      refine zY X0 hx 13 (hb hby at_6) ((if0 _ _).trans (feq (by rw [hs]; decide : ¬ ((i2 &&& (7 : Int32)) = (0 : Int32)))).2) (by decide) ?_
      refine gi X0 hx (hb hby at_13) rfl ?_
      refine gk X0 hx 1 (hb hby at_14) rfl ?_
      refine cY X0 hx 22 (hb hby at_15) (feq (by rw [hs]; decide : ¬ ((i2 &&& (7 : Int32)) = (1 : Int32)))).2 (by decide) ?_
      refine gi X0 hx (hb hby at_22) rfl ?_
      refine gk X0 hx 2 (hb hby at_23) rfl ?_
      refine cY X0 hx 32 (hb hby at_24) (feq (by rw [hs]; decide : ¬ ((i2 &&& (7 : Int32)) = (2 : Int32)))).2 (by decide) ?_
      refine gi X0 hx (hb hby at_32) rfl ?_
      refine gk X0 hx 3 (hb hby at_33) rfl ?_
      refine cY X0 hx 42 (hb hby at_34) (feq (by rw [hs]; decide : ¬ ((i2 &&& (7 : Int32)) = (3 : Int32)))).2 (by decide) ?_
      refine gi X0 hx (hb hby at_42) rfl ?_
      refine gk X0 hx 4 (hb hby at_43) rfl ?_
      refine cY X0 hx 52 (hb hby at_44) (feq (by rw [hs]; decide : ¬ ((i2 &&& (7 : Int32)) = (4 : Int32)))).2 (by decide) ?_
      refine gi X0 hx (hb hby at_52) rfl ?_
      refine gk X0 hx 5 (hb hby at_53) rfl ?_
      refine cY X0 hx 62 (hb hby at_54) (feq (by rw [hs]; decide : ¬ ((i2 &&& (7 : Int32)) = (5 : Int32)))).2 (by decide) ?_
      refine gi X0 hx (hb hby at_62) rfl ?_
      refine gb X0 hx 6 (hb hby at_63) rfl ?_
      show Go p e below _ (s₁.setTop (mkF m 65 #[vi i0, vi i1, vi i2, vi (i2 &&& (7 : Int32)), uu, uu, uu, uu, uu, uu, uu, uu, uu, uu, uu, uu, uu] [(.int (6 : Int32)), (.int (i2 &&& (7 : Int32)))]))
      refine cY X0 hx 74 (hb hby at_65) (feq (by rw [hs]; decide : ¬ ((i2 &&& (7 : Int32)) = (6 : Int32)))).2 (by decide) ?_
      refine gs X0 hx 1000 (hb hby at_74) rfl ?_
      exact tail
set_option maxRecDepth 65536 in
set_option maxHeartbeats 40000000 in
theorem comes_1 {Post : Tables → Env → Array Value → State → Outcome → State → Prop} (hpost : ∀ tb e args s v u, (limb_1_1.after args s (.returned v) u = true ∧ limb_1_2.after args s (.returned v) u = true ∧ True) → ReturnedEndW s (.returned v) u (Jvm.fieldLocs frame_1_writes args s ++ Jvm.arrayLocs frame_1_arrays args s ++ Jvm.staticLocs frame_1_statics s) 56 13568 → Post tb e args s (.returned v) u) :
    ArmFor flags0 classFile x code maxLocals ret World_1 tables_1 room_1 Calls_1 rest_1 Pre_1 Post := by
  intro l hfl _ _ p e ha hc hk s m args below hf hA hF happ hP
  obtain ⟨hcalls, hrest, hpre⟩ := hP
  obtain ⟨-, -, -, hnamed, -, -, -, hat⟩ := (Spec.applies_iff hf).mp happ
  obtain ⟨hg, hn⟩ := and_e (Cond.before_iff.mp (show (Jvm.Cond.and given_1 narrow_1).before args s = true from hpre))
  obtain ⟨hcount, hgs⟩ := and_e hg
  obtain ⟨w0, w1, w2, rfl⟩ : ∃ w0 w1 w2 : Value, args = #[w0, w1, w2] := by
    have hs : args.size = 3 := by simpa [Cond.value, given_1] using hcount
    obtain ⟨L⟩ := args
    match L, hs with
    | [w0, w1, w2], _ => exact ⟨w0, w1, w2, rfl⟩
  have hw := fun d (hd : d ∈ tables_1) => atoms_spec (ws := Jvm.Cond.code x code maxLocals ret :: tables_1) hat d (List.mem_cons_of_mem _ hd)
  have hfit : Fit s := fun {y c} hc i hi => by
    obtain ⟨ha, rfl⟩ := Array.getElem?_eq_some_iff.mp hc
    have q := List.all_eq_true.mp ((Array.all_eq_true_iff_forall_mem.mp hF) _ (Array.getElem_mem ha)) i (List.mem_range.mpr hi)
    simpa [Array.getElem?_eq_getElem hi] using q
  obtain ⟨ga0, gb0⟩ := and_e hgs
  obtain ⟨i0, ei0⟩ := is_v ga0
  obtain rfl : w0 = (.int i0) := Option.some.inj ei0
  obtain ⟨ga1, gb1⟩ := and_e gb0
  obtain ⟨i1, ei1⟩ := is_v ga1
  obtain rfl : w1 = (.int i1) := Option.some.inj ei1
  obtain ⟨i2, ei2⟩ := is_v gb1
  obtain rfl : w2 = (.int i2) := Option.some.inj ei2
  obtain ⟨hsets, hown0⟩ := atoms_of _ (rest_1_c_eq ▸ (show rest_1_c.before _ s = true from hrest))
  obtain ⟨G_COMPACT_STRINGS, eG_COMPACT_STRINGS⟩ := is_v (Cond.before_iff.mp (hsets _ (List.mem_of_getElem? (i := 1) rfl)))
  have S_COMPACT_STRINGS : Sta s s.heap "java/lang/String" "COMPACT_STRINGS" "Z" (.int G_COMPACT_STRINGS) := Sta.start eG_COMPACT_STRINGS (Or.inl (hsets _ (List.mem_of_getElem? (i := 0) rfl)))
  have n_CS := not_v (Cond.before_iff.mp (hsets _ (List.mem_of_getElem? (i := 2) rfl)))
  have c_CS : ¬ (G_COMPACT_STRINGS = (0 : Int32)) := gotF (Cond.eq_ints eG_COMPACT_STRINGS (Term.int_eval (0))) n_CS
  obtain ⟨G_SIOOBE_FORMATTER, eG_SIOOBE_FORMATTER, rG_SIOOBE_FORMATTER⟩ := isR_v (Cond.before_iff.mp (hsets _ (List.mem_of_getElem? (i := 8) rfl)))
  have S_SIOOBE_FORMATTER : Sta s s.heap "jdk/internal/util/Preconditions" "SIOOBE_FORMATTER" "Ljava/util/function/BiFunction;" G_SIOOBE_FORMATTER := Sta.start eG_SIOOBE_FORMATTER (Or.inl (hsets _ (List.mem_of_getElem? (i := 7) rfl)))
  have hcw : Jvm.Lit.compactW.before _ s = true := (hsets _ (List.mem_of_getElem? (i := 2) rfl))
  have hCH : CHv s EL s.vm s.heap := CHv.start (ew_of hw) (fun p hp => hcalls.1 p hp) hcw (wd hw 28 rfl) (wd hw 11 rfl)
  have A1 : Sta s s.heap "java/lang/StringUTF16" "$assertionsDisabled" "Z" (.int 1) := Sta.start (sta_eqI (Cond.before_iff.mp (hsets _ (List.mem_of_getElem? (i := 12) rfl)))) (Or.inl (hsets _ (List.mem_of_getElem? (i := 11) rfl)))
  have HS : Sta s s.heap "java/lang/StringUTF16" "HI_BYTE_SHIFT" "I" (.int 0) := Sta.start (sta_eqI (Cond.before_iff.mp (hsets _ (List.mem_of_getElem? (i := 15) rfl)))) (Or.inl (hsets _ (List.mem_of_getElem? (i := 14) rfl)))
  have LS : Sta s s.heap "java/lang/StringUTF16" "LO_BYTE_SHIFT" "I" (.int 8) := Sta.start (sta_eqI (Cond.before_iff.mp (hsets _ (List.mem_of_getElem? (i := 18) rfl)))) (Or.inl (hsets _ (List.mem_of_getElem? (i := 17) rfl)))
  obtain ⟨dO, eO⟩ := exa_v (Cond.before_iff.mp (hsets _ (List.mem_of_getElem? (i := 22) rfl)))
  have SO : Sta s s.heap "java/lang/Integer" "DigitOnes" "[B" (.ref dO) := Sta.start eO (Or.inl (hsets _ (List.mem_of_getElem? (i := 21) rfl)))
  obtain ⟨kO, VO⟩ := dig_arv hfit (fun idx => by simpa only [Term.eval] using eO) (Cond.before_iff.mp (hsets _ (List.mem_of_getElem? (i := 22) rfl))) (wd hw 28 rfl) (Cond.before_iff.mp (hsets _ (List.mem_of_getElem? (i := 23) rfl))) (Cond.before_iff.mp (hsets _ (List.mem_of_getElem? (i := 24) rfl))) (fun i hi => add_f' (Term.int_eval 48) (rem_f (x := Nat.toInt32 i) rfl (Term.int_eval 10) (by decide)))
  rw [ones_eq] at VO
  obtain ⟨dT, eT⟩ := exa_v (Cond.before_iff.mp (hsets _ (List.mem_of_getElem? (i := 27) rfl)))
  have ST : Sta s s.heap "java/lang/Integer" "DigitTens" "[B" (.ref dT) := Sta.start eT (Or.inl (hsets _ (List.mem_of_getElem? (i := 26) rfl)))
  obtain ⟨kT, VT⟩ := dig_arv hfit (fun idx => by simpa only [Term.eval] using eT) (Cond.before_iff.mp (hsets _ (List.mem_of_getElem? (i := 27) rfl))) (wd hw 28 rfl) (Cond.before_iff.mp (hsets _ (List.mem_of_getElem? (i := 28) rfl))) (Cond.before_iff.mp (hsets _ (List.mem_of_getElem? (i := 29) rfl))) (fun i hi => add_f' (Term.int_eval 48) (div_f (x := Nat.toInt32 i) rfl (Term.int_eval 10) (by decide)))
  rw [tens_eq] at VT
  obtain ⟨n, sn⟩ := sel_ex i2
  obtain ⟨n, o, h1, h2, h3, _, L, rfl, ⟨rfl, N⟩, -, hq⟩ := rm0 l s _ hw tables_1 i0 i1 i2 _ _ _ _ _ _ n dO dT kO kT G_COMPACT_STRINGS G_SIOOBE_FORMATTER s.heap s.heap.size (Nat.le_refl _) (Old.start s) A1 HS LS S_SIOOBE_FORMATTER rG_SIOOBE_FORMATTER S_COMPACT_STRINGS c_CS SO ST VO VT sn rfl rfl rfl rfl (lat_mask _) (lat_mask _) (lat_mask _) (lat_mask _) rfl rfl (sur_mask _ (k := 55296) (b := 56320) rfl (by decide)) (sur_mask _ (k := 56320) (b := 57344) rfl (by decide)) p e ha hc hk s m _ below hf ((Spec.applies_iff_loose hf).mp happ).1 ⟨rfl, State.Warmed39.refl s, rfl, hCH⟩ trivial
  refine ⟨n, _, h1, h2, h3, hpost _ _ _ _ _ _ ⟨Cond.after_iff.mpr rfl, Cond.after_iff.mpr (eq_i res_at (Term.int_eval (1)) rfl), trivial⟩ ⟨hq.1, hq.2.1, hq.2.2.1, (hq.2.2.2.sift fun y hy => Or.inr (N y hy)).mono (by decide) (by decide)⟩⟩
theorem main_1_1 : Claimed_1_1 := comes_1 fun _ _ _ _ _ _ h hF => ⟨h.1, hF⟩
theorem main_1_2 : Claimed_1_2 := comes_1 fun _ _ _ _ _ _ h hF => ⟨h.2.1, hF⟩
end Jvm.Pilot.@@N@@
namespace Jvm.Pilot.@@N@@
open Jvm Jvm.ClassFile Sem Op Lib Jvm.Free Jvm.Stand Jvm.Pilot.@@N@@.Jvm.D
/-! MADE BY PROGRAM (witnessworld.py) out of the Statement's table words and the real class files: 30 classes; the members and pool entries that the words name. The judged class is class 1, her method 1. -/
namespace start1
open Jvm.ClassFile
def u (s : String) : CpInfo := .utf8 (stringToUtf16 s)
/-- a pool by its gaps: so many unusable entries, then the entry; so many at the end -/
def gap : Nat → List CpInfo → List CpInfo
  | 0, r => r
  | n + 1, r => .unusable :: gap n r
def poolList (es : List (Nat × CpInfo)) (last : Nat) : List CpInfo := es.foldr (fun e r => gap e.1 (e.2 :: r)) (gap last [])
def pool (es : List (Nat × CpInfo)) (last : Nat) : Array CpInfo := ⟨poolList es last⟩
def fileOf (pool : Array CpInfo) (this : Nat) (attrs : Array Attribute := #[]) (ms : Array MethodInfo := #[]) (fl : Nat := 33) (sup : Nat := 0) (ifs : Array Nat := #[]) (fds : Array FieldInfo := #[]) : ClassFile where
  minorVersion := 0
  majorVersion := 65
  constantPool := pool
  accessFlags := fl
  thisClass := this
  superClass := sup
  interfaces := ifs
  fields := fds
  methods := ms
  attributes := attrs
def plain (name : String) (sup : Option ClassId) : Class where
  name := name
  kind := .ordinary
  loader := none
  accessFlags := 33
  super := sup
  interfaces := #[]
  cf := none
  fields := #[]
  methods := #[]
  instanceTypes := #[]
  staticTypes := #[]
  resolved := #[]
  callSites := []
  init := .initialized
  statics := none
  mirror := none

def pool0 : Array CpInfo := pool [(5, u "<init>"), (0, u "()V"), (1, .class_ 10), (1, u "java/lang/Object")] 113

def k0c0 : Code := { maxStack := 0, maxLocals := 1, code := object_method_1_code, exceptionTable := #[], attributes := #[] }
def k0m0 : Method := { name := "<init>", desc := "()V", sig := { parameters := [], returnType := none }, accessFlags := 1, code := some k0c0 }
/-- java/lang/Object -/
def k0 : Class := { plain "java/lang/Object" none with
  accessFlags := 33
  interfaces := #[]
  cf := some (fileOf pool0 8 #[] #[{ accessFlags := 1, nameIndex := 5, descriptorIndex := 6, attributes := #[] }] 33 0 #[] #[])
  fields := #[]
  methods := #[k0m0]
  instanceTypes := #[]
  staticTypes := #[]
  resolved := Array.replicate 124 none
  statics := none }

def pool1 : Array CpInfo := pool [(2, .class_ 4), (1, u "java/lang/Object"), (0, u "<init>"), (0, u "()V"), (0, .integer 55296), (0, .integer 56320), (0, .methodref 10 11), (0, .class_ 12), (0, .nameAndType 13 14), (0, u "com/example/gearline/gearline/data/ValuesShownPinLaw"), (0, u "fill"), (0, u "([CIIIZICC)V"), (0, .class_ 16), (0, u "java/lang/String"), (0, .methodref 15 18), (0, .nameAndType 5 19), (0, u "([C)V"), (0, .methodref 21 22), (0, .class_ 23), (0, .nameAndType 24 25), (0, u "com/example/gearline/gearline/data/Values"), (0, u "shown"), (0, u "(Ljava/lang/String;)Ljava/lang/String;"), (0, .methodref 15 27), (0, .nameAndType 28 29), (0, u "equals"), (0, u "(Ljava/lang/Object;)Z"), (0, .methodref 10 31), (0, .nameAndType 32 33), (0, u "suffix"), (0, u "([CIII)V"), (0, .methodref 10 35), (0, .nameAndType 36 37), (0, u "put"), (0, u "([CIIC)V"), (2, u "law"), (0, u "(III)Z")] 5

def k1m0 : Method := { name := "<init>", desc := "()V", sig := { parameters := [], returnType := none }, accessFlags := 2, code := none }
def k1c1 : Code := { maxStack := 8, maxLocals := 17, code := code, exceptionTable := #[], attributes := #[] }
def k1m1 : Method := { name := "law", desc := "(III)Z", sig := { parameters := [.int, .int, .int], returnType := some .boolean }, accessFlags := 9, code := some k1c1 }
def k1c2 : Code := { maxStack := 3, maxLocals := 4, code := method_3_code, exceptionTable := #[], attributes := #[] }
def k1m2 : Method := { name := "put", desc := "([CIIC)V", sig := { parameters := [(.array .char), .int, .int, .char], returnType := none }, accessFlags := 10, code := some k1c2 }
def k1c3 : Code := { maxStack := 5, maxLocals := 8, code := method_4_code, exceptionTable := #[], attributes := #[] }
def k1m3 : Method := { name := "fill", desc := "([CIIIZICC)V", sig := { parameters := [(.array .char), .int, .int, .int, .boolean, .int, .char, .char], returnType := none }, accessFlags := 10, code := some k1c3 }
def k1c4 : Code := { maxStack := 5, maxLocals := 5, code := method_5_code, exceptionTable := #[], attributes := #[] }
def k1m4 : Method := { name := "suffix", desc := "([CIII)V", sig := { parameters := [(.array .char), .int, .int, .int], returnType := none }, accessFlags := 10, code := some k1c4 }
/-- com/example/gearline/gearline/data/ValuesShownPinLaw -/
def k1 : Class := { plain "com/example/gearline/gearline/data/ValuesShownPinLaw" (some 0) with
  accessFlags := 49
  interfaces := #[]
  cf := some (fileOf pool1 10 #[] #[{ accessFlags := 2, nameIndex := 5, descriptorIndex := 6, attributes := #[] }, { accessFlags := 9, nameIndex := 40, descriptorIndex := 41, attributes := #[] }, { accessFlags := 10, nameIndex := 36, descriptorIndex := 37, attributes := #[] }, { accessFlags := 10, nameIndex := 13, descriptorIndex := 14, attributes := #[] }, { accessFlags := 10, nameIndex := 32, descriptorIndex := 33, attributes := #[] }] 49 2 #[] #[])
  fields := #[]
  methods := #[k1m0, k1m1, k1m2, k1m3, k1m4]
  instanceTypes := #[]
  staticTypes := #[]
  resolved := Array.replicate 47 none
  statics := none }

def pool2 : Array CpInfo := pool [(1, .class_ 2), (0, u "java/io/Serializable"), (0, .class_ 4), (0, u "java/lang/Object")] 2

/-- java/io/Serializable -/
def k2 : Class := { plain "java/io/Serializable" (some 0) with
  accessFlags := 1537
  interfaces := #[]
  cf := some (fileOf pool2 1 #[] #[] 1537 3 #[] #[])
  fields := #[]
  methods := #[]
  instanceTypes := #[]
  staticTypes := #[]
  resolved := Array.replicate 7 none
  statics := none }

def pool3 : Array CpInfo := pool [(1, .class_ 2), (0, u "java/lang/Comparable"), (0, .class_ 4), (0, u "java/lang/Object")] 7

/-- java/lang/Comparable -/
def k3 : Class := { plain "java/lang/Comparable" (some 0) with
  accessFlags := 1537
  interfaces := #[]
  cf := some (fileOf pool3 1 #[] #[] 1537 3 #[] #[])
  fields := #[]
  methods := #[]
  instanceTypes := #[]
  staticTypes := #[]
  resolved := Array.replicate 12 none
  statics := none }

def pool4 : Array CpInfo := pool [(2, .class_ 4), (1, u "java/lang/CharSequence"), (0, u "length"), (0, u "()I"), (38, u "charAt"), (0, u "(I)C"), (0, .class_ 48), (0, u "java/lang/CharSequence$1CodePointIterator"), (10, .class_ 60), (0, u "java/lang/CharSequence$1CharIterator"), (5, .class_ 67), (0, u "java/lang/Object")] 63

def k4m0 : Method := { name := "length", desc := "()I", sig := { parameters := [], returnType := some .int }, accessFlags := 1025, code := none }
def k4m1 : Method := { name := "charAt", desc := "(I)C", sig := { parameters := [.int], returnType := some .char }, accessFlags := 1025, code := none }
/-- java/lang/CharSequence -/
def k4 : Class := { plain "java/lang/CharSequence" (some 0) with
  accessFlags := 1537
  interfaces := #[]
  cf := some (fileOf pool4 2 #[.nestMembers #[47, 59]] #[{ accessFlags := 1025, nameIndex := 5, descriptorIndex := 6, attributes := #[] }, { accessFlags := 1025, nameIndex := 45, descriptorIndex := 46, attributes := #[] }] 1537 66 #[] #[])
  fields := #[]
  methods := #[k4m0, k4m1]
  instanceTypes := #[]
  staticTypes := #[]
  resolved := Array.replicate 131 none
  statics := none }

def pool5 : Array CpInfo := pool [(1, .class_ 2), (0, u "java/lang/constant/Constable"), (0, .class_ 4), (0, u "java/lang/Object")] 6

/-- java/lang/constant/Constable -/
def k5 : Class := { plain "java/lang/constant/Constable" (some 0) with
  accessFlags := 1537
  interfaces := #[]
  cf := some (fileOf pool5 1 #[] #[] 1537 3 #[] #[])
  fields := #[]
  methods := #[]
  instanceTypes := #[]
  staticTypes := #[]
  resolved := Array.replicate 11 none
  statics := none }

def pool6 : Array CpInfo := pool [(1, .class_ 2), (0, u "java/lang/constant/ConstantDesc"), (0, .class_ 4), (0, u "java/lang/Object")] 32

/-- java/lang/constant/ConstantDesc -/
def k6 : Class := { plain "java/lang/constant/ConstantDesc" (some 0) with
  accessFlags := 1537
  interfaces := #[]
  cf := some (fileOf pool6 1 #[] #[] 1537 3 #[] #[])
  fields := #[]
  methods := #[]
  instanceTypes := #[]
  staticTypes := #[]
  resolved := Array.replicate 37 none
  statics := none }

def pool7 : Array CpInfo := pool [(1, .methodref 2 3), (0, .class_ 4), (0, .nameAndType 5 6), (0, u "java/lang/Object"), (0, u "<init>"), (0, u "()V"), (0, .string 8), (0, u ""), (0, .fieldref 10 11), (0, .class_ 12), (0, .nameAndType 13 14), (0, u "java/lang/String"), (0, u "value"), (0, u "[B"), (0, .fieldref 10 16), (0, .nameAndType 17 18), (0, u "coder"), (0, u "B"), (2, u "hash"), (0, u "I"), (2, u "hashIsZero"), (0, u "Z"), (0, .methodref 10 28), (0, .nameAndType 5 29), (0, u "([CIILjava/lang/Void;)V"), (6, u "checkBoundsOffCount"), (0, u "(III)I"), (0, .fieldref 10 39), (0, .nameAndType 40 26), (0, u "COMPACT_STRINGS"), (1, .class_ 44), (1, u "java/lang/StringUTF16"), (0, u "compress"), (1, .methodref 42 48), (0, .nameAndType 49 50), (0, u "coderFromArrayLen"), (0, u "([BI)B"), (3, .methodref 55 56), (0, .class_ 57), (0, .nameAndType 58 59), (0, u "java/util/Arrays"), (0, u "copyOfRange"), (0, u "([BII)[B"), (19, .class_ 81), (1, u "java/util/Objects"), (15, u "([BII)I"), (8, .methodref 107 108), (0, .class_ 109), (0, .nameAndType 110 111), (0, u "java/lang/StringLatin1"), (0, u "inflate"), (0, u "([BI[BII)V"), (30, u "()Z"), (34, .methodref 42 178), (0, .nameAndType 45 179), (0, u "([CII)[B"), (13, .class_ 195), (1, u "java/lang/System"), (15, u "([BB)V"), (0, .methodref 193 213), (0, .nameAndType 214 215), (0, u "arraycopy"), (0, u "(Ljava/lang/Object;ILjava/lang/Object;II)V"), (118, u "()I"), (0, .methodref 10 336), (0, .nameAndType 17 337), (0, u "()B"), (2, u "()[B"), (22, u "([BI)C"), (1, .class_ 367), (1, u "java/lang/Character"), (23, u "(II)V"), (35, u "(I)C"), (61, .methodref 10 490), (0, .nameAndType 5 491), (0, u "(Ljava/lang/AbstractStringBuilder;Ljava/lang/Void;)V"), (0, .methodref 10 493), (0, .nameAndType 494 142), (0, u "isLatin1"), (0, .methodref 107 496), (0, .nameAndType 497 363), (0, u "charAt"), (0, .methodref 42 496), (2, u "checkIndex"), (3, .methodref 10 506), (0, .nameAndType 507 334), (0, u "length"), (3, .methodref 79 512), (0, .nameAndType 513 37), (0, u "checkFromToIndex"), (0, .methodref 42 515), (0, .nameAndType 516 97), (0, u "codePointCount"), (0, .methodref 365 518), (0, .nameAndType 519 520), (0, u "offsetByCodePoints"), (0, u "(Ljava/lang/CharSequence;II)I"), (0, .methodref 10 522), (0, .nameAndType 523 524), (0, u "checkBoundsBeginEnd"), (0, u "(III)V"), (7, u "getBytes"), (8, .methodref 107 542), (0, .nameAndType 543 544), (0, u "equals"), (0, u "([B[B)Z"), (4, .methodref 550 506), (0, .class_ 551), (0, u "java/lang/AbstractStringBuilder"), (0, .methodref 550 553), (0, .nameAndType 554 340), (0, u "getValue"), (18, u "(Ljava/lang/Object;)Z"), (1, .class_ 576), (0, u "java/lang/CharSequence"), (22, u "CASE_INSENSITIVE_ORDER"), (0, u "Ljava/util/Comparator;"), (35, u "(II)I"), (46, u "substring"), (0, u "(II)Ljava/lang/String;"), (0, .methodref 107 686), (0, .nameAndType 687 688), (0, u "newString"), (0, u "([BII)Ljava/lang/String;"), (0, .methodref 42 686), (131, u "([BIB)V"), (188, u "([C)V"), (36, .methodref 550 493), (0, .fieldref 550 1049), (0, .nameAndType 1050 26), (0, u "maybeLatin1"), (2, .fieldref 1054 1055), (0, .class_ 1056), (0, .nameAndType 1057 1058), (0, u "jdk/internal/util/Preconditions"), (0, u "SIOOBE_FORMATTER"), (0, u "Ljava/util/function/BiFunction;"), (0, .methodref 1054 1060), (0, .nameAndType 501 1061), (0, u "(IILjava/util/function/BiFunction;)I"), (0, .methodref 1054 1063), (0, .nameAndType 513 1064), (0, u "(IIILjava/util/function/BiFunction;)I"), (0, .methodref 1054 1066), (0, .nameAndType 1067 1064), (0, u "checkFromIndexSize"), (33, u "serialPersistentFields"), (0, u "[Ljava/io/ObjectStreamField;"), (0, .class_ 1104), (0, u "java/lang/String$CaseInsensitiveComparator"), (1, .class_ 1107), (0, u "java/io/Serializable"), (0, .class_ 1109), (0, u "java/lang/Comparable"), (0, .class_ 1111), (0, u "java/lang/constant/Constable"), (0, .class_ 1113), (0, u "java/lang/constant/ConstantDesc"), (2, u "serialVersionUID"), (0, u "J"), (3, u "REPL"), (0, u "C"), (2, u "LATIN1"), (1, u "UTF16"), (105, u "(Ljava/lang/StringBuilder;)V")] 217

def k7m0 : Method := { name := "<init>", desc := "()V", sig := { parameters := [], returnType := none }, accessFlags := 1, code := none }
def k7c1 : Code := { maxStack := 5, maxLocals := 2, code := jdk_42_method_3_code, exceptionTable := #[], attributes := #[] }
def k7m1 : Method := { name := "<init>", desc := "([C)V", sig := { parameters := [(.array .char)], returnType := none }, accessFlags := 1, code := some k7c1 }
def k7c2 : Code := { maxStack := 3, maxLocals := 2, code := jdk_42_method_53_code, exceptionTable := #[], attributes := #[] }
def k7m2 : Method := { name := "<init>", desc := "(Ljava/lang/StringBuilder;)V", sig := { parameters := [(.object "java/lang/StringBuilder")], returnType := none }, accessFlags := 1, code := some k7c2 }
def k7c3 : Code := { maxStack := 2, maxLocals := 1, code := jdk_42_method_54_code, exceptionTable := #[], attributes := #[] }
def k7m3 : Method := { name := "length", desc := "()I", sig := { parameters := [], returnType := some .int }, accessFlags := 1, code := some k7c3 }
def k7c4 : Code := { maxStack := 2, maxLocals := 2, code := jdk_42_method_56_code, exceptionTable := #[], attributes := #[] }
def k7m4 : Method := { name := "charAt", desc := "(I)C", sig := { parameters := [.int], returnType := some .char }, accessFlags := 1, code := some k7c4 }
def k7c5 : Code := { maxStack := 3, maxLocals := 3, code := jdk_42_method_59_code, exceptionTable := #[], attributes := #[] }
def k7m5 : Method := { name := "codePointCount", desc := "(II)I", sig := { parameters := [.int, .int], returnType := some .int }, accessFlags := 1, code := some k7c5 }
def k7c6 : Code := { maxStack := 3, maxLocals := 3, code := jdk_42_method_60_code, exceptionTable := #[], attributes := #[] }
def k7m6 : Method := { name := "offsetByCodePoints", desc := "(II)I", sig := { parameters := [.int, .int], returnType := some .int }, accessFlags := 1, code := some k7c6 }
def k7c7 : Code := { maxStack := 2, maxLocals := 3, code := jdk_42_method_66_code, exceptionTable := #[], attributes := #[] }
def k7m7 : Method := { name := "equals", desc := "(Ljava/lang/Object;)Z", sig := { parameters := [(.object "java/lang/Object")], returnType := some .boolean }, accessFlags := 1, code := some k7c7 }
def k7c8 : Code := { maxStack := 3, maxLocals := 5, code := jdk_42_method_92_code, exceptionTable := #[], attributes := #[] }
def k7m8 : Method := { name := "substring", desc := "(II)Ljava/lang/String;", sig := { parameters := [.int, .int], returnType := some (.object "java/lang/String") }, accessFlags := 1, code := some k7c8 }
def k7c9 : Code := { maxStack := 5, maxLocals := 4, code := jdk_42_method_147_code, exceptionTable := #[], attributes := #[] }
def k7m9 : Method := { name := "getBytes", desc := "([BIB)V", sig := { parameters := [(.array .byte), .int, .byte], returnType := none }, accessFlags := 0, code := some k7c9 }
def k7c10 : Code := { maxStack := 4, maxLocals := 6, code := jdk_42_method_149_code, exceptionTable := #[], attributes := #[] }
def k7m10 : Method := { name := "<init>", desc := "([CIILjava/lang/Void;)V", sig := { parameters := [(.array .char), .int, .int, (.object "java/lang/Void")], returnType := none }, accessFlags := 2, code := some k7c10 }
def k7c11 : Code := { maxStack := 5, maxLocals := 5, code := jdk_42_method_150_code, exceptionTable := #[], attributes := #[] }
def k7m11 : Method := { name := "<init>", desc := "(Ljava/lang/AbstractStringBuilder;Ljava/lang/Void;)V", sig := { parameters := [(.object "java/lang/AbstractStringBuilder"), (.object "java/lang/Void")], returnType := none }, accessFlags := 0, code := some k7c11 }
def k7c12 : Code := { maxStack := 2, maxLocals := 3, code := jdk_42_method_151_code, exceptionTable := #[], attributes := #[] }
def k7m12 : Method := { name := "<init>", desc := "([BB)V", sig := { parameters := [(.array .byte), .byte], returnType := none }, accessFlags := 0, code := some k7c12 }
def k7c13 : Code := { maxStack := 1, maxLocals := 1, code := jdk_42_method_152_code, exceptionTable := #[], attributes := #[] }
def k7m13 : Method := { name := "coder", desc := "()B", sig := { parameters := [], returnType := some .byte }, accessFlags := 0, code := some k7c13 }
def k7c14 : Code := { maxStack := 1, maxLocals := 1, code := jdk_42_method_154_code, exceptionTable := #[], attributes := #[] }
def k7m14 : Method := { name := "isLatin1", desc := "()Z", sig := { parameters := [], returnType := some .boolean }, accessFlags := 0, code := some k7c14 }
def k7c15 : Code := { maxStack := 3, maxLocals := 2, code := jdk_42_method_155_code, exceptionTable := #[], attributes := #[] }
def k7m15 : Method := { name := "checkIndex", desc := "(II)V", sig := { parameters := [.int, .int], returnType := none }, accessFlags := 8, code := some k7c15 }
def k7c16 : Code := { maxStack := 4, maxLocals := 3, code := jdk_42_method_157_code, exceptionTable := #[], attributes := #[] }
def k7m16 : Method := { name := "checkBoundsOffCount", desc := "(III)I", sig := { parameters := [.int, .int, .int], returnType := some .int }, accessFlags := 8, code := some k7c16 }
def k7c17 : Code := { maxStack := 4, maxLocals := 3, code := jdk_42_method_158_code, exceptionTable := #[], attributes := #[] }
def k7m17 : Method := { name := "checkBoundsBeginEnd", desc := "(III)V", sig := { parameters := [.int, .int, .int], returnType := none }, accessFlags := 8, code := some k7c17 }
/-- java/lang/String -/
def k7 : Class := { plain "java/lang/String" (some 0) with
  accessFlags := 49
  interfaces := #[2, 3, 4, 5, 6]
  cf := some (fileOf pool7 10 #[.nestMembers #[1103]] #[{ accessFlags := 1, nameIndex := 5, descriptorIndex := 6, attributes := #[] }, { accessFlags := 1, nameIndex := 5, descriptorIndex := 1010, attributes := #[] }, { accessFlags := 1, nameIndex := 5, descriptorIndex := 1233, attributes := #[] }, { accessFlags := 1, nameIndex := 507, descriptorIndex := 334, attributes := #[] }, { accessFlags := 1, nameIndex := 497, descriptorIndex := 427, attributes := #[] }, { accessFlags := 1, nameIndex := 516, descriptorIndex := 636, attributes := #[] }, { accessFlags := 1, nameIndex := 519, descriptorIndex := 636, attributes := #[] }, { accessFlags := 1, nameIndex := 543, descriptorIndex := 573, attributes := #[] }, { accessFlags := 1, nameIndex := 683, descriptorIndex := 684, attributes := #[] }, { accessFlags := 0, nameIndex := 532, descriptorIndex := 821, attributes := #[] }, { accessFlags := 2, nameIndex := 5, descriptorIndex := 29, attributes := #[] }, { accessFlags := 0, nameIndex := 5, descriptorIndex := 491, attributes := #[] }, { accessFlags := 0, nameIndex := 5, descriptorIndex := 211, attributes := #[] }, { accessFlags := 0, nameIndex := 17, descriptorIndex := 337, attributes := #[] }, { accessFlags := 0, nameIndex := 494, descriptorIndex := 142, attributes := #[] }, { accessFlags := 8, nameIndex := 501, descriptorIndex := 391, attributes := #[] }, { accessFlags := 8, nameIndex := 36, descriptorIndex := 37, attributes := #[] }, { accessFlags := 8, nameIndex := 523, descriptorIndex := 524, attributes := #[] }] 49 2 #[1106, 1108, 575, 1110, 1112] #[{ accessFlags := 18, nameIndex := 13, descriptorIndex := 14, attributes := #[] }, { accessFlags := 18, nameIndex := 17, descriptorIndex := 18, attributes := #[] }, { accessFlags := 2, nameIndex := 21, descriptorIndex := 22, attributes := #[] }, { accessFlags := 2, nameIndex := 25, descriptorIndex := 26, attributes := #[] }, { accessFlags := 26, nameIndex := 1116, descriptorIndex := 1117, attributes := #[] }, { accessFlags := 24, nameIndex := 40, descriptorIndex := 26, attributes := #[] }, { accessFlags := 26, nameIndex := 1101, descriptorIndex := 1102, attributes := #[] }, { accessFlags := 26, nameIndex := 1121, descriptorIndex := 1122, attributes := #[] }, { accessFlags := 25, nameIndex := 599, descriptorIndex := 600, attributes := #[] }, { accessFlags := 24, nameIndex := 1125, descriptorIndex := 18, attributes := #[] }, { accessFlags := 24, nameIndex := 1127, descriptorIndex := 18, attributes := #[] }])
  fields := #[{ name := "value", type := (.array .byte), accessFlags := 18, slot := 0, constantValue := 0 }, { name := "coder", type := .byte, accessFlags := 18, slot := 1, constantValue := 0 }, { name := "hash", type := .int, accessFlags := 2, slot := 2, constantValue := 0 }, { name := "hashIsZero", type := .boolean, accessFlags := 2, slot := 3, constantValue := 0 }, { name := "serialVersionUID", type := .long, accessFlags := 26, slot := 0, constantValue := 0 }, { name := "COMPACT_STRINGS", type := .boolean, accessFlags := 24, slot := 1, constantValue := 0 }, { name := "serialPersistentFields", type := (.array (.object "java/io/ObjectStreamField")), accessFlags := 26, slot := 2, constantValue := 0 }, { name := "REPL", type := .char, accessFlags := 26, slot := 3, constantValue := 0 }, { name := "CASE_INSENSITIVE_ORDER", type := (.object "java/util/Comparator"), accessFlags := 25, slot := 4, constantValue := 0 }, { name := "LATIN1", type := .byte, accessFlags := 24, slot := 5, constantValue := 0 }, { name := "UTF16", type := .byte, accessFlags := 24, slot := 6, constantValue := 0 }]
  methods := #[k7m0, k7m1, k7m2, k7m3, k7m4, k7m5, k7m6, k7m7, k7m8, k7m9, k7m10, k7m11, k7m12, k7m13, k7m14, k7m15, k7m16, k7m17]
  instanceTypes := #[(.array .byte), .byte, .int, .boolean]
  staticTypes := #[.long, .boolean, (.array (.object "java/io/ObjectStreamField")), .char, (.object "java/util/Comparator"), .byte, .byte]
  resolved := Array.replicate 1451 none
  statics := some 0 }

def pool8 : Array CpInfo := pool [(1, .class_ 2), (0, u "java/lang/Integer"), (0, .class_ 4), (0, u "java/lang/String"), (1, .class_ 8), (1, u "java/lang/Object"), (0, u "<init>"), (0, u "()V"), (0, .methodref 12 13), (0, .class_ 14), (0, .nameAndType 15 16), (0, u "java/lang/StringUTF16"), (0, u "newBytesLength"), (0, u "(I)I"), (3, .integer 1073741823), (23, .fieldref 12 45), (0, .nameAndType 46 47), (0, u "$assertionsDisabled"), (0, u "Z"), (0, .methodref 12 49), (0, .nameAndType 50 51), (0, u "length"), (0, u "([B)I"), (7, .fieldref 12 60), (0, .nameAndType 61 62), (0, u "HI_BYTE_SHIFT"), (0, u "I"), (0, .fieldref 12 64), (0, .nameAndType 65 62), (0, u "LO_BYTE_SHIFT"), (1, .methodref 12 68), (0, .nameAndType 69 70), (0, u "checkIndex"), (0, u "(I[B)V"), (0, .methodref 12 72), (0, .nameAndType 73 74), (0, u "getChar"), (0, u "([BI)C"), (0, .methodref 76 77), (0, .class_ 78), (0, .nameAndType 79 80), (0, u "java/lang/Character"), (0, u "isHighSurrogate"), (0, u "(C)Z"), (0, .methodref 76 82), (0, .nameAndType 83 80), (0, u "isLowSurrogate"), (7, u "([BIIZ)I"), (4, .methodref 12 97), (0, .nameAndType 98 99), (0, u "checkBoundsBeginEnd"), (0, u "(II[B)V"), (0, .methodref 12 101), (0, .nameAndType 102 91), (0, u "codePointCount"), (2, u "getChars"), (1, .methodref 12 108), (0, .nameAndType 109 110), (0, u "newBytesFor"), (0, u "(I)[B"), (0, .methodref 12 112), (0, .nameAndType 113 114), (0, u "putChar"), (0, u "([BII)V"), (0, .methodref 12 116), (0, .nameAndType 117 118), (0, u "compress"), (0, u "([CI[BII)I"), (0, .methodref 12 120), (0, .nameAndType 121 122), (0, u "toBytes"), (0, u "([CII)[B"), (0, .methodref 12 124), (0, .nameAndType 117 125), (0, u "([BI[BII)I"), (0, .methodref 127 128), (0, .class_ 129), (0, .nameAndType 130 131), (0, u "java/util/Arrays"), (0, u "copyOfRange"), (0, u "([BII)[B"), (8, u "inflate"), (0, u "([BI[BII)V"), (31, .methodref 12 174), (0, .nameAndType 175 99), (0, u "checkBoundsOffCount"), (65, .methodref 3 242), (0, .nameAndType 98 243), (0, u "(III)V"), (6, u "([BII)I"), (0, .fieldref 3 252), (0, .nameAndType 253 47), (0, u "COMPACT_STRINGS"), (3, .methodref 12 258), (0, .nameAndType 117 131), (0, .methodref 12 260), (0, .nameAndType 261 262), (0, u "coderFromArrayLen"), (0, u "([BI)B"), (0, .methodref 3 264), (0, .nameAndType 9 265), (0, u "([BB)V"), (15, u "(III)I"), (45, u "newString"), (0, u "([BII)Ljava/lang/String;"), (40, .class_ 371), (1, u "java/lang/StringUTF16$LinesSpliterator"), (20, u "charAt"), (0, .methodref 12 394), (0, .nameAndType 105 395), (0, u "(II[B)I"), (7, .fieldref 1 404), (0, .nameAndType 405 406), (0, u "DigitOnes"), (0, u "[B"), (0, .fieldref 1 408), (0, .nameAndType 409 406), (0, u "DigitTens"), (4, .methodref 3 415), (0, .nameAndType 69 416), (0, u "(II)V"), (2, .methodref 3 420), (0, .nameAndType 175 281), (9, u "MAX_LENGTH"), (164, u "(III[B)I"), (31, .class_ 628), (0, u "java/lang/StringUTF16$CodePointsSpliterator"), (0, .class_ 630), (0, u "java/lang/StringUTF16$CharsSpliterator")] 4

def k8m0 : Method := { name := "<init>", desc := "()V", sig := { parameters := [], returnType := none }, accessFlags := 0, code := none }
def k8c1 : Code := { maxStack := 1, maxLocals := 1, code := jdk_52_method_2_code, exceptionTable := #[], attributes := #[] }
def k8m1 : Method := { name := "newBytesFor", desc := "(I)[B", sig := { parameters := [.int], returnType := some (.array .byte) }, accessFlags := 9, code := some k8c1 }
def k8c2 : Code := { maxStack := 4, maxLocals := 1, code := jdk_52_method_3_code, exceptionTable := #[], attributes := #[] }
def k8m2 : Method := { name := "newBytesLength", desc := "(I)I", sig := { parameters := [.int], returnType := some .int }, accessFlags := 9, code := some k8c2 }
def k8c3 : Code := { maxStack := 4, maxLocals := 3, code := jdk_52_method_4_code, exceptionTable := #[], attributes := #[] }
def k8m3 : Method := { name := "putChar", desc := "([BII)V", sig := { parameters := [(.array .byte), .int, .int], returnType := none }, accessFlags := 8, code := some k8c3 }
def k8c4 : Code := { maxStack := 3, maxLocals := 2, code := jdk_52_method_5_code, exceptionTable := #[], attributes := #[] }
def k8m4 : Method := { name := "getChar", desc := "([BI)C", sig := { parameters := [(.array .byte), .int], returnType := some .char }, accessFlags := 8, code := some k8c4 }
def k8c5 : Code := { maxStack := 2, maxLocals := 1, code := jdk_52_method_6_code, exceptionTable := #[], attributes := #[] }
def k8m5 : Method := { name := "length", desc := "([B)I", sig := { parameters := [(.array .byte)], returnType := some .int }, accessFlags := 9, code := some k8c5 }
def k8c6 : Code := { maxStack := 3, maxLocals := 6, code := jdk_52_method_11_code, exceptionTable := #[], attributes := #[] }
def k8m6 : Method := { name := "codePointCount", desc := "([BIIZ)I", sig := { parameters := [(.array .byte), .int, .int, .boolean], returnType := some .int }, accessFlags := 10, code := some k8c6 }
def k8c7 : Code := { maxStack := 4, maxLocals := 3, code := jdk_52_method_12_code, exceptionTable := #[], attributes := #[] }
def k8m7 : Method := { name := "codePointCount", desc := "([BII)I", sig := { parameters := [(.array .byte), .int, .int], returnType := some .int }, accessFlags := 9, code := some k8c7 }
def k8c8 : Code := { maxStack := 4, maxLocals := 5, code := jdk_52_method_14_code, exceptionTable := #[], attributes := #[] }
def k8m8 : Method := { name := "toBytes", desc := "([CII)[B", sig := { parameters := [(.array .char), .int, .int], returnType := some (.array .byte) }, accessFlags := 9, code := some k8c8 }
def k8c9 : Code := { maxStack := 2, maxLocals := 2, code := jdk_52_method_15_code, exceptionTable := #[], attributes := #[] }
def k8m9 : Method := { name := "coderFromArrayLen", desc := "([BI)B", sig := { parameters := [(.array .byte), .int], returnType := some .byte }, accessFlags := 8, code := some k8c9 }
def k8c10 : Code := { maxStack := 5, maxLocals := 6, code := jdk_52_method_16_code, exceptionTable := #[], attributes := #[] }
def k8m10 : Method := { name := "compress", desc := "([CII)[B", sig := { parameters := [(.array .char), .int, .int], returnType := some (.array .byte) }, accessFlags := 9, code := some k8c10 }
def k8c11 : Code := { maxStack := 5, maxLocals := 6, code := jdk_52_method_17_code, exceptionTable := #[], attributes := #[] }
def k8m11 : Method := { name := "compress", desc := "([BII)[B", sig := { parameters := [(.array .byte), .int, .int], returnType := some (.array .byte) }, accessFlags := 9, code := some k8c11 }
def k8c12 : Code := { maxStack := 3, maxLocals := 7, code := jdk_52_method_21_code, exceptionTable := #[], attributes := #[] }
def k8m12 : Method := { name := "compress", desc := "([CI[BII)I", sig := { parameters := [(.array .char), .int, (.array .byte), .int, .int], returnType := some .int }, accessFlags := 9, code := some k8c12 }
def k8c13 : Code := { maxStack := 3, maxLocals := 7, code := jdk_52_method_22_code, exceptionTable := #[], attributes := #[] }
def k8m13 : Method := { name := "compress", desc := "([BI[BII)I", sig := { parameters := [(.array .byte), .int, (.array .byte), .int, .int], returnType := some .int }, accessFlags := 9, code := some k8c13 }
def k8c14 : Code := { maxStack := 6, maxLocals := 5, code := jdk_52_method_69_code, exceptionTable := #[], attributes := #[] }
def k8m14 : Method := { name := "newString", desc := "([BII)Ljava/lang/String;", sig := { parameters := [(.array .byte), .int, .int], returnType := some (.object "java/lang/String") }, accessFlags := 9, code := some k8c14 }
def k8c15 : Code := { maxStack := 3, maxLocals := 5, code := jdk_52_method_77_code, exceptionTable := #[], attributes := #[] }
def k8m15 : Method := { name := "getChars", desc := "(III[B)I", sig := { parameters := [.int, .int, .int, (.array .byte)], returnType := some .int }, accessFlags := 9, code := some k8c15 }
def k8c16 : Code := { maxStack := 2, maxLocals := 2, code := jdk_52_method_83_code, exceptionTable := #[], attributes := #[] }
def k8m16 : Method := { name := "charAt", desc := "([BI)C", sig := { parameters := [(.array .byte), .int], returnType := some .char }, accessFlags := 9, code := some k8c16 }
def k8c17 : Code := { maxStack := 4, maxLocals := 6, code := jdk_52_method_86_code, exceptionTable := #[], attributes := #[] }
def k8m17 : Method := { name := "inflate", desc := "([BI[BII)V", sig := { parameters := [(.array .byte), .int, (.array .byte), .int, .int], returnType := none }, accessFlags := 9, code := some k8c17 }
def k8c18 : Code := { maxStack := 4, maxLocals := 7, code := jdk_52_method_89_code, exceptionTable := #[], attributes := #[] }
def k8m18 : Method := { name := "getChars", desc := "(II[B)I", sig := { parameters := [.int, .int, (.array .byte)], returnType := some .int }, accessFlags := 8, code := some k8c18 }
def k8c19 : Code := { maxStack := 2, maxLocals := 2, code := jdk_52_method_91_code, exceptionTable := #[], attributes := #[] }
def k8m19 : Method := { name := "checkIndex", desc := "(I[B)V", sig := { parameters := [.int, (.array .byte)], returnType := none }, accessFlags := 9, code := some k8c19 }
def k8c20 : Code := { maxStack := 3, maxLocals := 3, code := jdk_52_method_93_code, exceptionTable := #[], attributes := #[] }
def k8m20 : Method := { name := "checkBoundsBeginEnd", desc := "(II[B)V", sig := { parameters := [.int, .int, (.array .byte)], returnType := none }, accessFlags := 9, code := some k8c20 }
def k8c21 : Code := { maxStack := 3, maxLocals := 3, code := jdk_52_method_94_code, exceptionTable := #[], attributes := #[] }
def k8m21 : Method := { name := "checkBoundsOffCount", desc := "(II[B)V", sig := { parameters := [.int, .int, (.array .byte)], returnType := none }, accessFlags := 9, code := some k8c21 }
/-- java/lang/StringUTF16 -/
def k8 : Class := { plain "java/lang/StringUTF16" (some 0) with
  accessFlags := 48
  interfaces := #[]
  cf := some (fileOf pool8 12 #[.nestMembers #[627, 629, 369]] #[{ accessFlags := 0, nameIndex := 9, descriptorIndex := 10, attributes := #[] }, { accessFlags := 9, nameIndex := 109, descriptorIndex := 110, attributes := #[] }, { accessFlags := 9, nameIndex := 15, descriptorIndex := 16, attributes := #[] }, { accessFlags := 8, nameIndex := 113, descriptorIndex := 114, attributes := #[] }, { accessFlags := 8, nameIndex := 73, descriptorIndex := 74, attributes := #[] }, { accessFlags := 9, nameIndex := 50, descriptorIndex := 51, attributes := #[] }, { accessFlags := 10, nameIndex := 102, descriptorIndex := 91, attributes := #[] }, { accessFlags := 9, nameIndex := 102, descriptorIndex := 250, attributes := #[] }, { accessFlags := 9, nameIndex := 121, descriptorIndex := 122, attributes := #[] }, { accessFlags := 8, nameIndex := 261, descriptorIndex := 262, attributes := #[] }, { accessFlags := 9, nameIndex := 117, descriptorIndex := 122, attributes := #[] }, { accessFlags := 9, nameIndex := 117, descriptorIndex := 131, attributes := #[] }, { accessFlags := 9, nameIndex := 117, descriptorIndex := 118, attributes := #[] }, { accessFlags := 9, nameIndex := 117, descriptorIndex := 125, attributes := #[] }, { accessFlags := 9, nameIndex := 327, descriptorIndex := 328, attributes := #[] }, { accessFlags := 9, nameIndex := 105, descriptorIndex := 595, attributes := #[] }, { accessFlags := 9, nameIndex := 392, descriptorIndex := 74, attributes := #[] }, { accessFlags := 9, nameIndex := 140, descriptorIndex := 141, attributes := #[] }, { accessFlags := 8, nameIndex := 105, descriptorIndex := 395, attributes := #[] }, { accessFlags := 9, nameIndex := 69, descriptorIndex := 70, attributes := #[] }, { accessFlags := 9, nameIndex := 98, descriptorIndex := 99, attributes := #[] }, { accessFlags := 9, nameIndex := 175, descriptorIndex := 99, attributes := #[] }] 48 6 #[] #[{ accessFlags := 26, nameIndex := 61, descriptorIndex := 62, attributes := #[] }, { accessFlags := 26, nameIndex := 65, descriptorIndex := 62, attributes := #[] }, { accessFlags := 24, nameIndex := 430, descriptorIndex := 62, attributes := #[] }, { accessFlags := 4120, nameIndex := 46, descriptorIndex := 47, attributes := #[] }])
  fields := #[{ name := "HI_BYTE_SHIFT", type := .int, accessFlags := 26, slot := 0, constantValue := 0 }, { name := "LO_BYTE_SHIFT", type := .int, accessFlags := 26, slot := 1, constantValue := 0 }, { name := "MAX_LENGTH", type := .int, accessFlags := 24, slot := 2, constantValue := 0 }, { name := "$assertionsDisabled", type := .boolean, accessFlags := 4120, slot := 3, constantValue := 0 }]
  methods := #[k8m0, k8m1, k8m2, k8m3, k8m4, k8m5, k8m6, k8m7, k8m8, k8m9, k8m10, k8m11, k8m12, k8m13, k8m14, k8m15, k8m16, k8m17, k8m18, k8m19, k8m20, k8m21]
  instanceTypes := #[]
  staticTypes := #[.int, .int, .int, .boolean]
  resolved := Array.replicate 635 none
  statics := some 1 }

def pool9 : Array CpInfo := pool [(1, .class_ 2), (0, u "com/example/gearline/gearline/data/Values"), (1, .class_ 6), (0, .nameAndType 7 8), (0, u "java/lang/Object"), (0, u "<init>"), (0, u "()V"), (0, .methodref 10 11), (0, .class_ 12), (0, .nameAndType 13 14), (0, u "java/lang/String"), (0, u "length"), (0, u "()I"), (0, .methodref 10 16), (0, .nameAndType 17 18), (0, u "codePointCount"), (0, u "(II)I"), (0, .class_ 20), (0, u "java/lang/StringBuilder"), (0, .methodref 19 5), (0, .methodref 10 23), (0, .nameAndType 24 18), (0, u "offsetByCodePoints"), (0, .methodref 10 26), (0, .nameAndType 27 28), (0, u "substring"), (0, u "(II)Ljava/lang/String;"), (0, .methodref 19 30), (0, .nameAndType 31 32), (0, u "append"), (0, u "(Ljava/lang/String;)Ljava/lang/StringBuilder;"), (0, .string 34), (0, u "... ("), (0, .methodref 19 36), (0, .nameAndType 31 37), (0, u "(I)Ljava/lang/StringBuilder;"), (0, .string 39), (0, u " characters)"), (0, .methodref 19 41), (0, .nameAndType 42 43), (0, u "toString"), (0, u "()Ljava/lang/String;"), (38, u "shown"), (0, u "(Ljava/lang/String;)Ljava/lang/String;"), (37, u "TIME"), (0, u "Ljava/time/format/DateTimeFormatter;"), (31, u "PLAIN_DIGITS"), (0, u "I"), (50, u "MAX_DIGITS"), (2, u "MAX_NUMBER_LENGTH"), (1, u "MAX_SHOWN")] 12

def k9m0 : Method := { name := "<init>", desc := "()V", sig := { parameters := [], returnType := none }, accessFlags := 2, code := none }
def k9c1 : Code := { maxStack := 6, maxLocals := 2, code := prog_32_method_2_code, exceptionTable := #[], attributes := #[] }
def k9m1 : Method := { name := "shown", desc := "(Ljava/lang/String;)Ljava/lang/String;", sig := { parameters := [(.object "java/lang/String")], returnType := some (.object "java/lang/String") }, accessFlags := 9, code := some k9c1 }
/-- com/example/gearline/gearline/data/Values -/
def k9 : Class := { plain "com/example/gearline/gearline/data/Values" (some 0) with
  accessFlags := 49
  interfaces := #[]
  cf := some (fileOf pool9 1 #[] #[{ accessFlags := 2, nameIndex := 7, descriptorIndex := 8, attributes := #[] }, { accessFlags := 9, nameIndex := 82, descriptorIndex := 83, attributes := #[] }] 49 4 #[] #[{ accessFlags := 24, nameIndex := 206, descriptorIndex := 155, attributes := #[] }, { accessFlags := 24, nameIndex := 209, descriptorIndex := 155, attributes := #[] }, { accessFlags := 24, nameIndex := 211, descriptorIndex := 155, attributes := #[] }, { accessFlags := 26, nameIndex := 154, descriptorIndex := 155, attributes := #[] }, { accessFlags := 24, nameIndex := 121, descriptorIndex := 122, attributes := #[] }])
  fields := #[{ name := "MAX_DIGITS", type := .int, accessFlags := 24, slot := 0, constantValue := 0 }, { name := "MAX_NUMBER_LENGTH", type := .int, accessFlags := 24, slot := 1, constantValue := 0 }, { name := "MAX_SHOWN", type := .int, accessFlags := 24, slot := 2, constantValue := 0 }, { name := "PLAIN_DIGITS", type := .int, accessFlags := 26, slot := 3, constantValue := 0 }, { name := "TIME", type := (.object "java/time/format/DateTimeFormatter"), accessFlags := 24, slot := 4, constantValue := 0 }]
  methods := #[k9m0, k9m1]
  instanceTypes := #[]
  staticTypes := #[.int, .int, .int, .int, (.object "java/time/format/DateTimeFormatter")]
  resolved := Array.replicate 224 none
  statics := none }

def pool10 : Array CpInfo := pool [(2, .class_ 4), (1, u "java/lang/Object"), (0, u "<init>"), (0, u "()V"), (35, .class_ 44), (1, u "java/util/Objects"), (61, .class_ 108), (1, u "jdk/internal/util/Preconditions"), (2, .methodref 106 112), (0, .nameAndType 113 114), (0, u "checkFromToIndex"), (0, u "(IIILjava/util/function/BiFunction;)I"), (60, u "(III)I")] 8

def k10m0 : Method := { name := "<init>", desc := "()V", sig := { parameters := [], returnType := none }, accessFlags := 2, code := none }
def k10c1 : Code := { maxStack := 4, maxLocals := 3, code := jdk_31_method_18_code, exceptionTable := #[], attributes := #[] }
def k10m1 : Method := { name := "checkFromToIndex", desc := "(III)I", sig := { parameters := [.int, .int, .int], returnType := some .int }, accessFlags := 9, code := some k10c1 }
/-- java/util/Objects -/
def k10 : Class := { plain "java/util/Objects" (some 0) with
  accessFlags := 49
  interfaces := #[]
  cf := some (fileOf pool10 42 #[] #[{ accessFlags := 2, nameIndex := 5, descriptorIndex := 6, attributes := #[] }, { accessFlags := 9, nameIndex := 113, descriptorIndex := 175, attributes := #[] }] 49 2 #[] #[])
  fields := #[]
  methods := #[k10m0, k10m1]
  instanceTypes := #[]
  staticTypes := #[]
  resolved := Array.replicate 184 none
  statics := none }

def pool11 : Array CpInfo := pool [(2, .class_ 4), (1, u "java/lang/Object"), (0, u "<init>"), (0, u "()V"), (17, .class_ 26), (1, u "jdk/internal/util/Preconditions"), (6, u "checkIndex"), (13, u "checkFromToIndex"), (1, u "checkFromIndexSize"), (5, .class_ 56), (0, u "jdk/internal/util/Preconditions$4"), (57, .class_ 115), (0, u "jdk/internal/util/Preconditions$1"), (7, u "SIOOBE_FORMATTER"), (0, u "Ljava/util/function/BiFunction;"), (0, .class_ 126), (0, u "jdk/internal/util/Preconditions$2"), (3, u "AIOOBE_FORMATTER"), (0, .class_ 132), (0, u "jdk/internal/util/Preconditions$3"), (3, u "IOOBE_FORMATTER"), (41, u "(IILjava/util/function/BiFunction;)I"), (4, u "(IIILjava/util/function/BiFunction;)I")] 10

def k11m0 : Method := { name := "<init>", desc := "()V", sig := { parameters := [], returnType := none }, accessFlags := 1, code := none }
def k11c1 : Code := { maxStack := 3, maxLocals := 3, code := jdk_41_method_11_code, exceptionTable := #[], attributes := #[] }
def k11m1 : Method := { name := "checkIndex", desc := "(IILjava/util/function/BiFunction;)I", sig := { parameters := [.int, .int, (.object "java/util/function/BiFunction")], returnType := some .int }, accessFlags := 9, code := some k11c1 }
def k11c2 : Code := { maxStack := 4, maxLocals := 4, code := jdk_41_method_12_code, exceptionTable := #[], attributes := #[] }
def k11m2 : Method := { name := "checkFromToIndex", desc := "(IIILjava/util/function/BiFunction;)I", sig := { parameters := [.int, .int, .int, (.object "java/util/function/BiFunction")], returnType := some .int }, accessFlags := 9, code := some k11c2 }
def k11c3 : Code := { maxStack := 4, maxLocals := 4, code := jdk_41_method_13_code, exceptionTable := #[], attributes := #[] }
def k11m3 : Method := { name := "checkFromIndexSize", desc := "(IIILjava/util/function/BiFunction;)I", sig := { parameters := [.int, .int, .int, (.object "java/util/function/BiFunction")], returnType := some .int }, accessFlags := 9, code := some k11c3 }
/-- jdk/internal/util/Preconditions -/
def k11 : Class := { plain "jdk/internal/util/Preconditions" (some 0) with
  accessFlags := 33
  interfaces := #[]
  cf := some (fileOf pool11 24 #[.nestMembers #[55, 131, 125, 114]] #[{ accessFlags := 1, nameIndex := 5, descriptorIndex := 6, attributes := #[] }, { accessFlags := 9, nameIndex := 33, descriptorIndex := 178, attributes := #[] }, { accessFlags := 9, nameIndex := 47, descriptorIndex := 183, attributes := #[] }, { accessFlags := 9, nameIndex := 49, descriptorIndex := 183, attributes := #[] }] 33 2 #[] #[{ accessFlags := 25, nameIndex := 123, descriptorIndex := 124, attributes := #[] }, { accessFlags := 25, nameIndex := 130, descriptorIndex := 124, attributes := #[] }, { accessFlags := 25, nameIndex := 136, descriptorIndex := 124, attributes := #[] }])
  fields := #[{ name := "SIOOBE_FORMATTER", type := (.object "java/util/function/BiFunction"), accessFlags := 25, slot := 0, constantValue := 0 }, { name := "AIOOBE_FORMATTER", type := (.object "java/util/function/BiFunction"), accessFlags := 25, slot := 1, constantValue := 0 }, { name := "IOOBE_FORMATTER", type := (.object "java/util/function/BiFunction"), accessFlags := 25, slot := 2, constantValue := 0 }]
  methods := #[k11m0, k11m1, k11m2, k11m3]
  instanceTypes := #[]
  staticTypes := #[(.object "java/util/function/BiFunction"), (.object "java/util/function/BiFunction"), (.object "java/util/function/BiFunction")]
  resolved := Array.replicate 194 none
  statics := some 2 }

def pool12 : Array CpInfo := pool [(1, .class_ 2), (0, u "java/lang/Character"), (18, u "value"), (0, u "C"), (19, .class_ 44), (1, u "java/lang/Object"), (3, .class_ 50), (1, u "java/lang/Character$CharacterCache"), (24, .integer 55296), (0, .integer 56320), (0, .integer 57344), (0, .methodref 1 79), (0, .nameAndType 80 81), (0, u "isHighSurrogate"), (0, u "(C)Z"), (0, .methodref 1 83), (0, .nameAndType 84 81), (0, u "isLowSurrogate"), (1, .interfaceMethodref 87 88), (0, .class_ 89), (0, .nameAndType 90 91), (0, u "java/lang/CharSequence"), (0, u "charAt"), (0, u "(I)C"), (0, .interfaceMethodref 87 93), (0, .nameAndType 94 95), (0, u "length"), (0, u "()I"), (188, u "$assertionsDisabled"), (0, u "Z"), (21, .class_ 309), (1, u "java/lang/Character$UnicodeBlock"), (73, u "TYPE"), (0, u "Ljava/lang/Class;"), (0, .class_ 386), (0, u "java/io/Serializable"), (0, .class_ 388), (0, u "java/lang/Comparable"), (0, .class_ 390), (0, u "java/lang/constant/Constable"), (0, u "MIN_RADIX"), (0, u "I"), (2, u "MAX_RADIX"), (1, u "MIN_VALUE"), (1, u "MAX_VALUE"), (3, u "UNASSIGNED"), (0, u "B"), (0, u "UPPERCASE_LETTER"), (1, u "LOWERCASE_LETTER"), (0, u "TITLECASE_LETTER"), (1, u "MODIFIER_LETTER"), (1, u "OTHER_LETTER"), (1, u "NON_SPACING_MARK"), (1, u "ENCLOSING_MARK"), (1, u "COMBINING_SPACING_MARK"), (1, u "DECIMAL_DIGIT_NUMBER"), (1, u "LETTER_NUMBER"), (1, u "OTHER_NUMBER"), (1, u "SPACE_SEPARATOR"), (1, u "LINE_SEPARATOR"), (1, u "PARAGRAPH_SEPARATOR"), (1, u "CONTROL"), (1, u "FORMAT"), (1, u "PRIVATE_USE"), (1, u "SURROGATE"), (1, u "DASH_PUNCTUATION"), (1, u "START_PUNCTUATION"), (1, u "END_PUNCTUATION"), (1, u "CONNECTOR_PUNCTUATION"), (1, u "OTHER_PUNCTUATION"), (1, u "MATH_SYMBOL"), (1, u "CURRENCY_SYMBOL"), (1, u "MODIFIER_SYMBOL"), (1, u "OTHER_SYMBOL"), (1, u "INITIAL_QUOTE_PUNCTUATION"), (1, u "FINAL_QUOTE_PUNCTUATION"), (1, u "ERROR"), (1, u "DIRECTIONALITY_UNDEFINED"), (0, u "DIRECTIONALITY_LEFT_TO_RIGHT"), (0, u "DIRECTIONALITY_RIGHT_TO_LEFT"), (0, u "DIRECTIONALITY_RIGHT_TO_LEFT_ARABIC"), (0, u "DIRECTIONALITY_EUROPEAN_NUMBER"), (0, u "DIRECTIONALITY_EUROPEAN_NUMBER_SEPARATOR"), (0, u "DIRECTIONALITY_EUROPEAN_NUMBER_TERMINATOR"), (0, u "DIRECTIONALITY_ARABIC_NUMBER"), (0, u "DIRECTIONALITY_COMMON_NUMBER_SEPARATOR"), (0, u "DIRECTIONALITY_NONSPACING_MARK"), (0, u "DIRECTIONALITY_BOUNDARY_NEUTRAL"), (0, u "DIRECTIONALITY_PARAGRAPH_SEPARATOR"), (0, u "DIRECTIONALITY_SEGMENT_SEPARATOR"), (0, u "DIRECTIONALITY_WHITESPACE"), (0, u "DIRECTIONALITY_OTHER_NEUTRALS"), (0, u "DIRECTIONALITY_LEFT_TO_RIGHT_EMBEDDING"), (0, u "DIRECTIONALITY_LEFT_TO_RIGHT_OVERRIDE"), (0, u "DIRECTIONALITY_RIGHT_TO_LEFT_EMBEDDING"), (0, u "DIRECTIONALITY_RIGHT_TO_LEFT_OVERRIDE"), (1, u "DIRECTIONALITY_POP_DIRECTIONAL_FORMAT"), (0, u "DIRECTIONALITY_LEFT_TO_RIGHT_ISOLATE"), (0, u "DIRECTIONALITY_RIGHT_TO_LEFT_ISOLATE"), (0, u "DIRECTIONALITY_FIRST_STRONG_ISOLATE"), (0, u "DIRECTIONALITY_POP_DIRECTIONAL_ISOLATE"), (0, u "MIN_HIGH_SURROGATE"), (0, u "MAX_HIGH_SURROGATE"), (1, u "MIN_LOW_SURROGATE"), (0, u "MAX_LOW_SURROGATE"), (1, u "MIN_SURROGATE"), (0, u "MAX_SURROGATE"), (0, u "MIN_SUPPLEMENTARY_CODE_POINT"), (0, u "MIN_CODE_POINT"), (0, u "MAX_CODE_POINT"), (1, u "serialVersionUID"), (0, u "J"), (2, u "SIZE"), (0, u "BYTES"), (49, u "(Ljava/lang/CharSequence;II)I"), (6, u "offsetByCodePoints"), (31, .class_ 596), (0, u "java/lang/Character$UnicodeScript"), (0, .class_ 598), (0, u "java/lang/Character$Subset")] 5

def k12c0 : Code := { maxStack := 2, maxLocals := 1, code := jdk_89_method_14_code, exceptionTable := #[], attributes := #[] }
def k12m0 : Method := { name := "isHighSurrogate", desc := "(C)Z", sig := { parameters := [.char], returnType := some .boolean }, accessFlags := 9, code := some k12c0 }
def k12c1 : Code := { maxStack := 2, maxLocals := 1, code := jdk_89_method_15_code, exceptionTable := #[], attributes := #[] }
def k12m1 : Method := { name := "isLowSurrogate", desc := "(C)Z", sig := { parameters := [.char], returnType := some .boolean }, accessFlags := 9, code := some k12c1 }
def k12c2 : Code := { maxStack := 3, maxLocals := 6, code := jdk_89_method_36_code, exceptionTable := #[], attributes := #[] }
def k12m2 : Method := { name := "offsetByCodePoints", desc := "(Ljava/lang/CharSequence;II)I", sig := { parameters := [(.object "java/lang/CharSequence"), .int, .int], returnType := some .int }, accessFlags := 9, code := some k12c2 }
/-- java/lang/Character -/
def k12 : Class := { plain "java/lang/Character" (some 0) with
  accessFlags := 49
  interfaces := #[2, 3, 5]
  cf := some (fileOf pool12 1 #[.nestMembers #[48, 595, 307, 597]] #[{ accessFlags := 9, nameIndex := 80, descriptorIndex := 81, attributes := #[] }, { accessFlags := 9, nameIndex := 84, descriptorIndex := 81, attributes := #[] }, { accessFlags := 9, nameIndex := 563, descriptorIndex := 556, attributes := #[] }] 49 42 #[385, 387, 389] #[{ accessFlags := 25, nameIndex := 391, descriptorIndex := 392, attributes := #[] }, { accessFlags := 25, nameIndex := 395, descriptorIndex := 392, attributes := #[] }, { accessFlags := 25, nameIndex := 397, descriptorIndex := 22, attributes := #[] }, { accessFlags := 25, nameIndex := 399, descriptorIndex := 22, attributes := #[] }, { accessFlags := 25, nameIndex := 383, descriptorIndex := 384, attributes := #[] }, { accessFlags := 25, nameIndex := 403, descriptorIndex := 404, attributes := #[] }, { accessFlags := 25, nameIndex := 405, descriptorIndex := 404, attributes := #[] }, { accessFlags := 25, nameIndex := 407, descriptorIndex := 404, attributes := #[] }, { accessFlags := 25, nameIndex := 408, descriptorIndex := 404, attributes := #[] }, { accessFlags := 25, nameIndex := 410, descriptorIndex := 404, attributes := #[] }, { accessFlags := 25, nameIndex := 412, descriptorIndex := 404, attributes := #[] }, { accessFlags := 25, nameIndex := 414, descriptorIndex := 404, attributes := #[] }, { accessFlags := 25, nameIndex := 416, descriptorIndex := 404, attributes := #[] }, { accessFlags := 25, nameIndex := 418, descriptorIndex := 404, attributes := #[] }, { accessFlags := 25, nameIndex := 420, descriptorIndex := 404, attributes := #[] }, { accessFlags := 25, nameIndex := 422, descriptorIndex := 404, attributes := #[] }, { accessFlags := 25, nameIndex := 424, descriptorIndex := 404, attributes := #[] }, { accessFlags := 25, nameIndex := 426, descriptorIndex := 404, attributes := #[] }, { accessFlags := 25, nameIndex := 428, descriptorIndex := 404, attributes := #[] }, { accessFlags := 25, nameIndex := 430, descriptorIndex := 404, attributes := #[] }, { accessFlags := 25, nameIndex := 432, descriptorIndex := 404, attributes := #[] }, { accessFlags := 25, nameIndex := 434, descriptorIndex := 404, attributes := #[] }, { accessFlags := 25, nameIndex := 436, descriptorIndex := 404, attributes := #[] }, { accessFlags := 25, nameIndex := 438, descriptorIndex := 404, attributes := #[] }, { accessFlags := 25, nameIndex := 440, descriptorIndex := 404, attributes := #[] }, { accessFlags := 25, nameIndex := 442, descriptorIndex := 404, attributes := #[] }, { accessFlags := 25, nameIndex := 444, descriptorIndex := 404, attributes := #[] }, { accessFlags := 25, nameIndex := 446, descriptorIndex := 404, attributes := #[] }, { accessFlags := 25, nameIndex := 448, descriptorIndex := 404, attributes := #[] }, { accessFlags := 25, nameIndex := 450, descriptorIndex := 404, attributes := #[] }, { accessFlags := 25, nameIndex := 452, descriptorIndex := 404, attributes := #[] }, { accessFlags := 25, nameIndex := 454, descriptorIndex := 404, attributes := #[] }, { accessFlags := 25, nameIndex := 456, descriptorIndex := 404, attributes := #[] }, { accessFlags := 25, nameIndex := 458, descriptorIndex := 404, attributes := #[] }, { accessFlags := 25, nameIndex := 460, descriptorIndex := 404, attributes := #[] }, { accessFlags := 24, nameIndex := 462, descriptorIndex := 392, attributes := #[] }, { accessFlags := 25, nameIndex := 464, descriptorIndex := 404, attributes := #[] }, { accessFlags := 25, nameIndex := 465, descriptorIndex := 404, attributes := #[] }, { accessFlags := 25, nameIndex := 466, descriptorIndex := 404, attributes := #[] }, { accessFlags := 25, nameIndex := 467, descriptorIndex := 404, attributes := #[] }, { accessFlags := 25, nameIndex := 468, descriptorIndex := 404, attributes := #[] }, { accessFlags := 25, nameIndex := 469, descriptorIndex := 404, attributes := #[] }, { accessFlags := 25, nameIndex := 470, descriptorIndex := 404, attributes := #[] }, { accessFlags := 25, nameIndex := 471, descriptorIndex := 404, attributes := #[] }, { accessFlags := 25, nameIndex := 472, descriptorIndex := 404, attributes := #[] }, { accessFlags := 25, nameIndex := 473, descriptorIndex := 404, attributes := #[] }, { accessFlags := 25, nameIndex := 474, descriptorIndex := 404, attributes := #[] }, { accessFlags := 25, nameIndex := 475, descriptorIndex := 404, attributes := #[] }, { accessFlags := 25, nameIndex := 476, descriptorIndex := 404, attributes := #[] }, { accessFlags := 25, nameIndex := 477, descriptorIndex := 404, attributes := #[] }, { accessFlags := 25, nameIndex := 478, descriptorIndex := 404, attributes := #[] }, { accessFlags := 25, nameIndex := 479, descriptorIndex := 404, attributes := #[] }, { accessFlags := 25, nameIndex := 480, descriptorIndex := 404, attributes := #[] }, { accessFlags := 25, nameIndex := 481, descriptorIndex := 404, attributes := #[] }, { accessFlags := 25, nameIndex := 482, descriptorIndex := 404, attributes := #[] }, { accessFlags := 25, nameIndex := 484, descriptorIndex := 404, attributes := #[] }, { accessFlags := 25, nameIndex := 485, descriptorIndex := 404, attributes := #[] }, { accessFlags := 25, nameIndex := 486, descriptorIndex := 404, attributes := #[] }, { accessFlags := 25, nameIndex := 487, descriptorIndex := 404, attributes := #[] }, { accessFlags := 25, nameIndex := 488, descriptorIndex := 404, attributes := #[] }, { accessFlags := 25, nameIndex := 489, descriptorIndex := 22, attributes := #[] }, { accessFlags := 25, nameIndex := 490, descriptorIndex := 22, attributes := #[] }, { accessFlags := 25, nameIndex := 492, descriptorIndex := 22, attributes := #[] }, { accessFlags := 25, nameIndex := 493, descriptorIndex := 22, attributes := #[] }, { accessFlags := 25, nameIndex := 495, descriptorIndex := 22, attributes := #[] }, { accessFlags := 25, nameIndex := 496, descriptorIndex := 22, attributes := #[] }, { accessFlags := 25, nameIndex := 497, descriptorIndex := 392, attributes := #[] }, { accessFlags := 25, nameIndex := 498, descriptorIndex := 392, attributes := #[] }, { accessFlags := 25, nameIndex := 499, descriptorIndex := 392, attributes := #[] }, { accessFlags := 18, nameIndex := 21, descriptorIndex := 22, attributes := #[] }, { accessFlags := 26, nameIndex := 501, descriptorIndex := 502, attributes := #[] }, { accessFlags := 25, nameIndex := 505, descriptorIndex := 392, attributes := #[] }, { accessFlags := 25, nameIndex := 506, descriptorIndex := 392, attributes := #[] }, { accessFlags := 4120, nameIndex := 284, descriptorIndex := 285, attributes := #[] }])
  fields := #[{ name := "MIN_RADIX", type := .int, accessFlags := 25, slot := 0, constantValue := 0 }, { name := "MAX_RADIX", type := .int, accessFlags := 25, slot := 1, constantValue := 0 }, { name := "MIN_VALUE", type := .char, accessFlags := 25, slot := 2, constantValue := 0 }, { name := "MAX_VALUE", type := .char, accessFlags := 25, slot := 3, constantValue := 0 }, { name := "TYPE", type := (.object "java/lang/Class"), accessFlags := 25, slot := 4, constantValue := 0 }, { name := "UNASSIGNED", type := .byte, accessFlags := 25, slot := 5, constantValue := 0 }, { name := "UPPERCASE_LETTER", type := .byte, accessFlags := 25, slot := 6, constantValue := 0 }, { name := "LOWERCASE_LETTER", type := .byte, accessFlags := 25, slot := 7, constantValue := 0 }, { name := "TITLECASE_LETTER", type := .byte, accessFlags := 25, slot := 8, constantValue := 0 }, { name := "MODIFIER_LETTER", type := .byte, accessFlags := 25, slot := 9, constantValue := 0 }, { name := "OTHER_LETTER", type := .byte, accessFlags := 25, slot := 10, constantValue := 0 }, { name := "NON_SPACING_MARK", type := .byte, accessFlags := 25, slot := 11, constantValue := 0 }, { name := "ENCLOSING_MARK", type := .byte, accessFlags := 25, slot := 12, constantValue := 0 }, { name := "COMBINING_SPACING_MARK", type := .byte, accessFlags := 25, slot := 13, constantValue := 0 }, { name := "DECIMAL_DIGIT_NUMBER", type := .byte, accessFlags := 25, slot := 14, constantValue := 0 }, { name := "LETTER_NUMBER", type := .byte, accessFlags := 25, slot := 15, constantValue := 0 }, { name := "OTHER_NUMBER", type := .byte, accessFlags := 25, slot := 16, constantValue := 0 }, { name := "SPACE_SEPARATOR", type := .byte, accessFlags := 25, slot := 17, constantValue := 0 }, { name := "LINE_SEPARATOR", type := .byte, accessFlags := 25, slot := 18, constantValue := 0 }, { name := "PARAGRAPH_SEPARATOR", type := .byte, accessFlags := 25, slot := 19, constantValue := 0 }, { name := "CONTROL", type := .byte, accessFlags := 25, slot := 20, constantValue := 0 }, { name := "FORMAT", type := .byte, accessFlags := 25, slot := 21, constantValue := 0 }, { name := "PRIVATE_USE", type := .byte, accessFlags := 25, slot := 22, constantValue := 0 }, { name := "SURROGATE", type := .byte, accessFlags := 25, slot := 23, constantValue := 0 }, { name := "DASH_PUNCTUATION", type := .byte, accessFlags := 25, slot := 24, constantValue := 0 }, { name := "START_PUNCTUATION", type := .byte, accessFlags := 25, slot := 25, constantValue := 0 }, { name := "END_PUNCTUATION", type := .byte, accessFlags := 25, slot := 26, constantValue := 0 }, { name := "CONNECTOR_PUNCTUATION", type := .byte, accessFlags := 25, slot := 27, constantValue := 0 }, { name := "OTHER_PUNCTUATION", type := .byte, accessFlags := 25, slot := 28, constantValue := 0 }, { name := "MATH_SYMBOL", type := .byte, accessFlags := 25, slot := 29, constantValue := 0 }, { name := "CURRENCY_SYMBOL", type := .byte, accessFlags := 25, slot := 30, constantValue := 0 }, { name := "MODIFIER_SYMBOL", type := .byte, accessFlags := 25, slot := 31, constantValue := 0 }, { name := "OTHER_SYMBOL", type := .byte, accessFlags := 25, slot := 32, constantValue := 0 }, { name := "INITIAL_QUOTE_PUNCTUATION", type := .byte, accessFlags := 25, slot := 33, constantValue := 0 }, { name := "FINAL_QUOTE_PUNCTUATION", type := .byte, accessFlags := 25, slot := 34, constantValue := 0 }, { name := "ERROR", type := .int, accessFlags := 24, slot := 35, constantValue := 0 }, { name := "DIRECTIONALITY_UNDEFINED", type := .byte, accessFlags := 25, slot := 36, constantValue := 0 }, { name := "DIRECTIONALITY_LEFT_TO_RIGHT", type := .byte, accessFlags := 25, slot := 37, constantValue := 0 }, { name := "DIRECTIONALITY_RIGHT_TO_LEFT", type := .byte, accessFlags := 25, slot := 38, constantValue := 0 }, { name := "DIRECTIONALITY_RIGHT_TO_LEFT_ARABIC", type := .byte, accessFlags := 25, slot := 39, constantValue := 0 }, { name := "DIRECTIONALITY_EUROPEAN_NUMBER", type := .byte, accessFlags := 25, slot := 40, constantValue := 0 }, { name := "DIRECTIONALITY_EUROPEAN_NUMBER_SEPARATOR", type := .byte, accessFlags := 25, slot := 41, constantValue := 0 }, { name := "DIRECTIONALITY_EUROPEAN_NUMBER_TERMINATOR", type := .byte, accessFlags := 25, slot := 42, constantValue := 0 }, { name := "DIRECTIONALITY_ARABIC_NUMBER", type := .byte, accessFlags := 25, slot := 43, constantValue := 0 }, { name := "DIRECTIONALITY_COMMON_NUMBER_SEPARATOR", type := .byte, accessFlags := 25, slot := 44, constantValue := 0 }, { name := "DIRECTIONALITY_NONSPACING_MARK", type := .byte, accessFlags := 25, slot := 45, constantValue := 0 }, { name := "DIRECTIONALITY_BOUNDARY_NEUTRAL", type := .byte, accessFlags := 25, slot := 46, constantValue := 0 }, { name := "DIRECTIONALITY_PARAGRAPH_SEPARATOR", type := .byte, accessFlags := 25, slot := 47, constantValue := 0 }, { name := "DIRECTIONALITY_SEGMENT_SEPARATOR", type := .byte, accessFlags := 25, slot := 48, constantValue := 0 }, { name := "DIRECTIONALITY_WHITESPACE", type := .byte, accessFlags := 25, slot := 49, constantValue := 0 }, { name := "DIRECTIONALITY_OTHER_NEUTRALS", type := .byte, accessFlags := 25, slot := 50, constantValue := 0 }, { name := "DIRECTIONALITY_LEFT_TO_RIGHT_EMBEDDING", type := .byte, accessFlags := 25, slot := 51, constantValue := 0 }, { name := "DIRECTIONALITY_LEFT_TO_RIGHT_OVERRIDE", type := .byte, accessFlags := 25, slot := 52, constantValue := 0 }, { name := "DIRECTIONALITY_RIGHT_TO_LEFT_EMBEDDING", type := .byte, accessFlags := 25, slot := 53, constantValue := 0 }, { name := "DIRECTIONALITY_RIGHT_TO_LEFT_OVERRIDE", type := .byte, accessFlags := 25, slot := 54, constantValue := 0 }, { name := "DIRECTIONALITY_POP_DIRECTIONAL_FORMAT", type := .byte, accessFlags := 25, slot := 55, constantValue := 0 }, { name := "DIRECTIONALITY_LEFT_TO_RIGHT_ISOLATE", type := .byte, accessFlags := 25, slot := 56, constantValue := 0 }, { name := "DIRECTIONALITY_RIGHT_TO_LEFT_ISOLATE", type := .byte, accessFlags := 25, slot := 57, constantValue := 0 }, { name := "DIRECTIONALITY_FIRST_STRONG_ISOLATE", type := .byte, accessFlags := 25, slot := 58, constantValue := 0 }, { name := "DIRECTIONALITY_POP_DIRECTIONAL_ISOLATE", type := .byte, accessFlags := 25, slot := 59, constantValue := 0 }, { name := "MIN_HIGH_SURROGATE", type := .char, accessFlags := 25, slot := 60, constantValue := 0 }, { name := "MAX_HIGH_SURROGATE", type := .char, accessFlags := 25, slot := 61, constantValue := 0 }, { name := "MIN_LOW_SURROGATE", type := .char, accessFlags := 25, slot := 62, constantValue := 0 }, { name := "MAX_LOW_SURROGATE", type := .char, accessFlags := 25, slot := 63, constantValue := 0 }, { name := "MIN_SURROGATE", type := .char, accessFlags := 25, slot := 64, constantValue := 0 }, { name := "MAX_SURROGATE", type := .char, accessFlags := 25, slot := 65, constantValue := 0 }, { name := "MIN_SUPPLEMENTARY_CODE_POINT", type := .int, accessFlags := 25, slot := 66, constantValue := 0 }, { name := "MIN_CODE_POINT", type := .int, accessFlags := 25, slot := 67, constantValue := 0 }, { name := "MAX_CODE_POINT", type := .int, accessFlags := 25, slot := 68, constantValue := 0 }, { name := "value", type := .char, accessFlags := 18, slot := 0, constantValue := 0 }, { name := "serialVersionUID", type := .long, accessFlags := 26, slot := 69, constantValue := 0 }, { name := "SIZE", type := .int, accessFlags := 25, slot := 70, constantValue := 0 }, { name := "BYTES", type := .int, accessFlags := 25, slot := 71, constantValue := 0 }, { name := "$assertionsDisabled", type := .boolean, accessFlags := 4120, slot := 72, constantValue := 0 }]
  methods := #[k12m0, k12m1, k12m2]
  instanceTypes := #[.char]
  staticTypes := #[.int, .int, .char, .char, (.object "java/lang/Class"), .byte, .byte, .byte, .byte, .byte, .byte, .byte, .byte, .byte, .byte, .byte, .byte, .byte, .byte, .byte, .byte, .byte, .byte, .byte, .byte, .byte, .byte, .byte, .byte, .byte, .byte, .byte, .byte, .byte, .byte, .int, .byte, .byte, .byte, .byte, .byte, .byte, .byte, .byte, .byte, .byte, .byte, .byte, .byte, .byte, .byte, .byte, .byte, .byte, .byte, .byte, .byte, .byte, .byte, .byte, .char, .char, .char, .char, .char, .char, .int, .int, .int, .long, .int, .int, .boolean]
  resolved := Array.replicate 604 none
  statics := none }

def pool13 : Array CpInfo := pool [(1, .class_ 2), (0, u "java/lang/Appendable"), (0, .class_ 4), (0, u "java/lang/Object")] 9

/-- java/lang/Appendable -/
def k13 : Class := { plain "java/lang/Appendable" (some 0) with
  accessFlags := 1537
  interfaces := #[]
  cf := some (fileOf pool13 1 #[] #[] 1537 3 #[] #[])
  fields := #[]
  methods := #[]
  instanceTypes := #[]
  staticTypes := #[]
  resolved := Array.replicate 14 none
  statics := none }

def pool14 : Array CpInfo := pool [(1, .class_ 2), (0, u "java/lang/String"), (0, .methodref 4 5), (0, .class_ 6), (0, .nameAndType 7 8), (0, u "java/lang/Object"), (0, u "<init>"), (0, u "()V"), (1, .class_ 12), (1, u "java/lang/AbstractStringBuilder"), (0, u "EMPTYVALUE"), (0, u "[B"), (0, .fieldref 10 16), (0, .nameAndType 17 14), (0, u "value"), (0, .fieldref 1 19), (0, .nameAndType 20 21), (0, u "COMPACT_STRINGS"), (0, u "Z"), (0, .fieldref 10 23), (0, .nameAndType 24 25), (0, u "coder"), (0, u "B"), (0, .methodref 27 28), (0, .class_ 29), (0, .nameAndType 30 31), (0, u "java/lang/StringUTF16"), (0, u "newBytesFor"), (0, u "(I)[B"), (0, .methodref 1 33), (0, .nameAndType 34 35), (0, u "length"), (0, u "()I"), (0, .class_ 37), (0, u "java/lang/Integer"), (1, .integer 2147483647), (0, .methodref 1 41), (0, .nameAndType 24 42), (0, u "()B"), (2, u "append"), (0, u "(Ljava/lang/String;)Ljava/lang/AbstractStringBuilder;"), (1, .class_ 49), (0, u "java/lang/CharSequence"), (19, u "(Ljava/lang/String;)V"), (5, u "maybeLatin1"), (3, .fieldref 10 80), (0, .nameAndType 81 82), (0, u "count"), (0, u "I"), (0, .methodref 10 84), (0, .nameAndType 85 86), (0, u "isLatin1"), (0, u "()Z"), (1, .class_ 90), (1, u "java/lang/StringLatin1"), (9, .methodref 10 101), (0, .nameAndType 102 103), (0, u "ensureCapacityInternal"), (0, u "(I)V"), (0, .methodref 10 105), (0, .nameAndType 106 107), (0, u "newCapacity"), (0, u "(I)I"), (0, .methodref 109 110), (0, .class_ 111), (0, .nameAndType 112 113), (0, u "java/util/Arrays"), (0, u "copyOf"), (0, u "([BI)[B"), (0, .methodref 115 116), (0, .class_ 117), (0, .nameAndType 118 119), (0, u "jdk/internal/util/ArraysSupport"), (0, u "newLength"), (0, u "(III)I"), (5, .methodref 88 126), (0, .nameAndType 127 128), (0, u "inflate"), (0, u "([BI[BII)V"), (59, u "getChars"), (6, .methodref 10 196), (0, .nameAndType 127 8), (11, .methodref 10 209), (0, .nameAndType 210 211), (0, u "putStringAt"), (0, u "(ILjava/lang/String;)V"), (5, u "inflateIfNeededFor"), (2, .nameAndType 221 222), (0, u "getBytes"), (0, u "([BIB)V"), (22, .methodref 36 246), (0, .nameAndType 247 107), (0, u "stringSize"), (0, .methodref 36 249), (0, .nameAndType 188 250), (0, u "(II[B)I"), (0, .methodref 27 252), (0, .nameAndType 188 253), (0, u "(III[B)I"), (143, .methodref 10 398), (0, .nameAndType 217 69), (0, .methodref 1 220), (3, u "()[B"), (40, .class_ 445), (0, u "java/lang/Appendable"), (65, u "(I)Ljava/lang/AbstractStringBuilder;"), (40, u "getValue")] 56

def k14m0 : Method := { name := "<init>", desc := "()V", sig := { parameters := [], returnType := none }, accessFlags := 0, code := none }
def k14c1 : Code := { maxStack := 2, maxLocals := 2, code := jdk_68_method_2_code, exceptionTable := #[], attributes := #[] }
def k14m1 : Method := { name := "<init>", desc := "(I)V", sig := { parameters := [.int], returnType := none }, accessFlags := 0, code := some k14c1 }
def k14c2 : Code := { maxStack := 1, maxLocals := 1, code := jdk_68_method_6_code, exceptionTable := #[], attributes := #[] }
def k14m2 : Method := { name := "length", desc := "()I", sig := { parameters := [], returnType := some .int }, accessFlags := 1, code := some k14c2 }
def k14c3 : Code := { maxStack := 4, maxLocals := 3, code := jdk_68_method_9_code, exceptionTable := #[], attributes := #[] }
def k14m3 : Method := { name := "ensureCapacityInternal", desc := "(I)V", sig := { parameters := [.int], returnType := none }, accessFlags := 2, code := some k14c3 }
def k14c4 : Code := { maxStack := 5, maxLocals := 6, code := jdk_68_method_10_code, exceptionTable := #[], attributes := #[] }
def k14m4 : Method := { name := "newCapacity", desc := "(I)I", sig := { parameters := [.int], returnType := some .int }, accessFlags := 2, code := some k14c4 }
def k14c5 : Code := { maxStack := 5, maxLocals := 2, code := jdk_68_method_11_code, exceptionTable := #[], attributes := #[] }
def k14m5 : Method := { name := "inflate", desc := "()V", sig := { parameters := [], returnType := none }, accessFlags := 2, code := some k14c5 }
def k14c6 : Code := { maxStack := 3, maxLocals := 3, code := jdk_68_method_22_code, exceptionTable := #[], attributes := #[] }
def k14m6 : Method := { name := "append", desc := "(Ljava/lang/String;)Ljava/lang/AbstractStringBuilder;", sig := { parameters := [(.object "java/lang/String")], returnType := some (.object "java/lang/AbstractStringBuilder") }, accessFlags := 1, code := some k14c6 }
def k14c7 : Code := { maxStack := 4, maxLocals := 4, code := jdk_68_method_32_code, exceptionTable := #[], attributes := #[] }
def k14m7 : Method := { name := "append", desc := "(I)Ljava/lang/AbstractStringBuilder;", sig := { parameters := [.int], returnType := some (.object "java/lang/AbstractStringBuilder") }, accessFlags := 1, code := some k14c7 }
def k14c8 : Code := { maxStack := 1, maxLocals := 1, code := jdk_68_method_64_code, exceptionTable := #[], attributes := #[] }
def k14m8 : Method := { name := "getValue", desc := "()[B", sig := { parameters := [], returnType := some (.array .byte) }, accessFlags := 16, code := some k14c8 }
def k14c9 : Code := { maxStack := 1, maxLocals := 1, code := jdk_68_method_68_code, exceptionTable := #[], attributes := #[] }
def k14m9 : Method := { name := "isLatin1", desc := "()Z", sig := { parameters := [], returnType := some .boolean }, accessFlags := 16, code := some k14c9 }
def k14c10 : Code := { maxStack := 2, maxLocals := 2, code := jdk_68_method_71_code, exceptionTable := #[], attributes := #[] }
def k14m10 : Method := { name := "inflateIfNeededFor", desc := "(Ljava/lang/String;)V", sig := { parameters := [(.object "java/lang/String")], returnType := none }, accessFlags := 2, code := some k14c10 }
def k14c11 : Code := { maxStack := 4, maxLocals := 3, code := jdk_68_method_73_code, exceptionTable := #[], attributes := #[] }
def k14m11 : Method := { name := "putStringAt", desc := "(ILjava/lang/String;)V", sig := { parameters := [.int, (.object "java/lang/String")], returnType := none }, accessFlags := 2, code := some k14c11 }
/-- java/lang/AbstractStringBuilder -/
def k14 : Class := { plain "java/lang/AbstractStringBuilder" (some 0) with
  accessFlags := 1056
  interfaces := #[13, 4]
  cf := some (fileOf pool14 10 #[] #[{ accessFlags := 0, nameIndex := 7, descriptorIndex := 8, attributes := #[] }, { accessFlags := 0, nameIndex := 7, descriptorIndex := 103, attributes := #[] }, { accessFlags := 1, nameIndex := 34, descriptorIndex := 35, attributes := #[] }, { accessFlags := 2, nameIndex := 102, descriptorIndex := 103, attributes := #[] }, { accessFlags := 2, nameIndex := 106, descriptorIndex := 107, attributes := #[] }, { accessFlags := 2, nameIndex := 127, descriptorIndex := 8, attributes := #[] }, { accessFlags := 1, nameIndex := 45, descriptorIndex := 46, attributes := #[] }, { accessFlags := 1, nameIndex := 45, descriptorIndex := 511, attributes := #[] }, { accessFlags := 16, nameIndex := 552, descriptorIndex := 403, attributes := #[] }, { accessFlags := 16, nameIndex := 85, descriptorIndex := 86, attributes := #[] }, { accessFlags := 2, nameIndex := 217, descriptorIndex := 69, attributes := #[] }, { accessFlags := 2, nameIndex := 210, descriptorIndex := 211, attributes := #[] }] 1056 4 #[444, 48] #[{ accessFlags := 0, nameIndex := 17, descriptorIndex := 14, attributes := #[] }, { accessFlags := 0, nameIndex := 24, descriptorIndex := 25, attributes := #[] }, { accessFlags := 0, nameIndex := 75, descriptorIndex := 21, attributes := #[] }, { accessFlags := 0, nameIndex := 81, descriptorIndex := 82, attributes := #[] }, { accessFlags := 26, nameIndex := 13, descriptorIndex := 14, attributes := #[] }])
  fields := #[{ name := "value", type := (.array .byte), accessFlags := 0, slot := 0, constantValue := 0 }, { name := "coder", type := .byte, accessFlags := 0, slot := 1, constantValue := 0 }, { name := "maybeLatin1", type := .boolean, accessFlags := 0, slot := 2, constantValue := 0 }, { name := "count", type := .int, accessFlags := 0, slot := 3, constantValue := 0 }, { name := "EMPTYVALUE", type := (.array .byte), accessFlags := 26, slot := 0, constantValue := 0 }]
  methods := #[k14m0, k14m1, k14m2, k14m3, k14m4, k14m5, k14m6, k14m7, k14m8, k14m9, k14m10, k14m11]
  instanceTypes := #[(.array .byte), .byte, .boolean, .int]
  staticTypes := #[(.array .byte)]
  resolved := Array.replicate 609 none
  statics := none }

def pool15 : Array CpInfo := pool [(1, .methodref 2 3), (0, .class_ 4), (0, .nameAndType 5 6), (0, u "java/lang/AbstractStringBuilder"), (0, u "<init>"), (0, u "(I)V"), (11, .class_ 20), (1, u "java/lang/String"), (3, .class_ 26), (1, u "java/lang/StringBuilder"), (0, u "append"), (0, u "(Ljava/lang/String;)Ljava/lang/StringBuilder;"), (0, .methodref 2 30), (0, .nameAndType 27 31), (0, u "(Ljava/lang/String;)Ljava/lang/AbstractStringBuilder;"), (21, .methodref 2 54), (0, .nameAndType 27 55), (0, u "(I)Ljava/lang/AbstractStringBuilder;"), (81, .methodref 18 138), (0, .nameAndType 5 139), (0, u "(Ljava/lang/StringBuilder;)V"), (5, u "()V"), (10, u "()I"), (111, u "(I)Ljava/lang/StringBuilder;"), (74, .methodref 2 344), (0, .nameAndType 345 156), (0, u "length"), (3, .class_ 350), (0, u "java/lang/Appendable"), (0, .class_ 352), (0, u "java/io/Serializable"), (0, .class_ 354), (0, u "java/lang/Comparable"), (0, .class_ 356), (0, u "java/lang/CharSequence"), (0, u "serialVersionUID"), (0, u "J"), (40, u "toString"), (0, u "()Ljava/lang/String;")] 21

def k15c0 : Code := { maxStack := 2, maxLocals := 1, code := jdk_67_method_1_code, exceptionTable := #[], attributes := #[] }
def k15m0 : Method := { name := "<init>", desc := "()V", sig := { parameters := [], returnType := none }, accessFlags := 1, code := some k15c0 }
def k15c1 : Code := { maxStack := 2, maxLocals := 2, code := jdk_67_method_7_code, exceptionTable := #[], attributes := #[] }
def k15m1 : Method := { name := "append", desc := "(Ljava/lang/String;)Ljava/lang/StringBuilder;", sig := { parameters := [(.object "java/lang/String")], returnType := some (.object "java/lang/StringBuilder") }, accessFlags := 1, code := some k15c1 }
def k15c2 : Code := { maxStack := 2, maxLocals := 2, code := jdk_67_method_15_code, exceptionTable := #[], attributes := #[] }
def k15m2 : Method := { name := "append", desc := "(I)Ljava/lang/StringBuilder;", sig := { parameters := [.int], returnType := some (.object "java/lang/StringBuilder") }, accessFlags := 1, code := some k15c2 }
def k15c3 : Code := { maxStack := 3, maxLocals := 1, code := jdk_67_method_42_code, exceptionTable := #[], attributes := #[] }
def k15m3 : Method := { name := "toString", desc := "()Ljava/lang/String;", sig := { parameters := [], returnType := some (.object "java/lang/String") }, accessFlags := 1, code := some k15c3 }
def k15c4 : Code := { maxStack := 1, maxLocals := 1, code := jdk_67_method_93_code, exceptionTable := #[], attributes := #[] }
def k15m4 : Method := { name := "length", desc := "()I", sig := { parameters := [], returnType := some .int }, accessFlags := 4161, code := some k15c4 }
/-- java/lang/StringBuilder -/
def k15 : Class := { plain "java/lang/StringBuilder" (some 14) with
  accessFlags := 49
  interfaces := #[13, 2, 3, 4]
  cf := some (fileOf pool15 24 #[] #[{ accessFlags := 1, nameIndex := 5, descriptorIndex := 145, attributes := #[] }, { accessFlags := 1, nameIndex := 27, descriptorIndex := 28, attributes := #[] }, { accessFlags := 1, nameIndex := 27, descriptorIndex := 268, attributes := #[] }, { accessFlags := 1, nameIndex := 399, descriptorIndex := 400, attributes := #[] }, { accessFlags := 4161, nameIndex := 345, descriptorIndex := 156, attributes := #[] }] 49 2 #[349, 351, 353, 355] #[{ accessFlags := 24, nameIndex := 357, descriptorIndex := 358, attributes := #[] }])
  fields := #[{ name := "serialVersionUID", type := .long, accessFlags := 24, slot := 0, constantValue := 0 }]
  methods := #[k15m0, k15m1, k15m2, k15m3, k15m4]
  instanceTypes := #[(.array .byte), .byte, .boolean, .int]
  staticTypes := #[.long]
  resolved := Array.replicate 422 none
  statics := none }

def pool16 : Array CpInfo := pool [(2, .class_ 4), (1, u "java/lang/Object"), (0, u "<init>"), (0, u "()V"), (7, .class_ 16), (1, u "java/util/Arrays"), (57, .class_ 76), (1, u "java/util/Arrays$NaturalOrder"), (36, .class_ 115), (1, u "java/util/Arrays$LegacyMergeSort"), (1, u "Z"), (21, u "copyOfRange"), (10, .methodref 151 152), (0, .class_ 153), (0, .nameAndType 154 155), (0, u "java/lang/System"), (0, u "arraycopy"), (0, u "(Ljava/lang/Object;ILjava/lang/Object;II)V"), (146, u "copyOf"), (1, .methodref 305 306), (0, .class_ 307), (0, .nameAndType 308 309), (0, u "java/lang/Math"), (0, u "min"), (0, u "(II)I"), (29, .methodref 14 340), (0, .nameAndType 341 342), (0, u "copyOfRangeByte"), (0, u "([BII)[B"), (0, .methodref 14 344), (0, .nameAndType 345 346), (0, u "checkLength"), (0, u "(II)V"), (28, .class_ 376), (0, u "java/util/Arrays$ArrayList"), (68, u "$assertionsDisabled"), (269, u "MIN_ARRAY_SORT_GRAN"), (0, u "I"), (2, u "INSERTIONSORT_THRESHOLD"), (149, u "([BI)[B"), (105, .class_ 976), (0, u "java/util/Arrays$ArrayItr")] 52

def k16m0 : Method := { name := "<init>", desc := "()V", sig := { parameters := [], returnType := none }, accessFlags := 2, code := none }
def k16c1 : Code := { maxStack := 6, maxLocals := 3, code := jdk_65_method_121_code, exceptionTable := #[], attributes := #[] }
def k16m1 : Method := { name := "copyOf", desc := "([BI)[B", sig := { parameters := [(.array .byte), .int], returnType := some (.array .byte) }, accessFlags := 9, code := some k16c1 }
def k16c2 : Code := { maxStack := 4, maxLocals := 2, code := jdk_65_method_131_code, exceptionTable := #[], attributes := #[] }
def k16m2 : Method := { name := "checkLength", desc := "(II)V", sig := { parameters := [.int, .int], returnType := none }, accessFlags := 10, code := some k16c2 }
def k16c3 : Code := { maxStack := 3, maxLocals := 3, code := jdk_65_method_132_code, exceptionTable := #[], attributes := #[] }
def k16m3 : Method := { name := "copyOfRange", desc := "([BII)[B", sig := { parameters := [(.array .byte), .int, .int], returnType := some (.array .byte) }, accessFlags := 9, code := some k16c3 }
def k16c4 : Code := { maxStack := 6, maxLocals := 5, code := jdk_65_method_133_code, exceptionTable := #[], attributes := #[] }
def k16m4 : Method := { name := "copyOfRangeByte", desc := "([BII)[B", sig := { parameters := [(.array .byte), .int, .int], returnType := some (.array .byte) }, accessFlags := 10, code := some k16c4 }
/-- java/util/Arrays -/
def k16 : Class := { plain "java/util/Arrays" (some 0) with
  accessFlags := 49
  interfaces := #[]
  cf := some (fileOf pool16 14 #[.nestMembers #[975, 375, 113, 74]] #[{ accessFlags := 2, nameIndex := 5, descriptorIndex := 6, attributes := #[] }, { accessFlags := 9, nameIndex := 302, descriptorIndex := 869, attributes := #[] }, { accessFlags := 10, nameIndex := 345, descriptorIndex := 346, attributes := #[] }, { accessFlags := 9, nameIndex := 139, descriptorIndex := 342, attributes := #[] }, { accessFlags := 10, nameIndex := 341, descriptorIndex := 342, attributes := #[] }] 49 2 #[] #[{ accessFlags := 26, nameIndex := 715, descriptorIndex := 716, attributes := #[] }, { accessFlags := 26, nameIndex := 719, descriptorIndex := 716, attributes := #[] }, { accessFlags := 4120, nameIndex := 445, descriptorIndex := 117, attributes := #[] }])
  fields := #[{ name := "MIN_ARRAY_SORT_GRAN", type := .int, accessFlags := 26, slot := 0, constantValue := 0 }, { name := "INSERTIONSORT_THRESHOLD", type := .int, accessFlags := 26, slot := 1, constantValue := 0 }, { name := "$assertionsDisabled", type := .boolean, accessFlags := 4120, slot := 2, constantValue := 0 }]
  methods := #[k16m0, k16m1, k16m2, k16m3, k16m4]
  instanceTypes := #[]
  staticTypes := #[.int, .int, .boolean]
  resolved := Array.replicate 1029 none
  statics := none }

def pool17 : Array CpInfo := pool [(1, .class_ 2), (0, u "java/lang/Math"), (1, .class_ 6), (1, u "java/lang/Object"), (0, u "<init>"), (0, u "()V"), (89, .class_ 100), (1, u "java/lang/Math$RandomNumberGeneratorHolder"), (71, u "negativeZeroFloatBits"), (0, u "J"), (2, u "negativeZeroDoubleBits"), (21, u "max"), (2, u "min"), (43, u "$assertionsDisabled"), (0, u "Z"), (88, u "(II)I"), (2, u "twoToTheDoubleScaleDown"), (0, u "D"), (4, u "twoToTheDoubleScaleUp"), (9, u "E"), (3, u "PI"), (2, u "TAU"), (2, u "DEGREES_TO_RADIANS"), (0, u "RADIANS_TO_DEGREES")] 94

def k17m0 : Method := { name := "<init>", desc := "()V", sig := { parameters := [], returnType := none }, accessFlags := 2, code := none }
def k17c1 : Code := { maxStack := 2, maxLocals := 2, code := jdk_29_method_65_code, exceptionTable := #[], attributes := #[] }
def k17m1 : Method := { name := "max", desc := "(II)I", sig := { parameters := [.int, .int], returnType := some .int }, accessFlags := 9, code := some k17c1 }
def k17c2 : Code := { maxStack := 2, maxLocals := 2, code := jdk_29_method_69_code, exceptionTable := #[], attributes := #[] }
def k17m2 : Method := { name := "min", desc := "(II)I", sig := { parameters := [.int, .int], returnType := some .int }, accessFlags := 9, code := some k17c2 }
/-- java/lang/Math -/
def k17 : Class := { plain "java/lang/Math" (some 0) with
  accessFlags := 49
  interfaces := #[]
  cf := some (fileOf pool17 1 #[.nestMembers #[98]] #[{ accessFlags := 2, nameIndex := 7, descriptorIndex := 8, attributes := #[] }, { accessFlags := 9, nameIndex := 198, descriptorIndex := 335, attributes := #[] }, { accessFlags := 9, nameIndex := 201, descriptorIndex := 335, attributes := #[] }] 49 4 #[] #[{ accessFlags := 25, nameIndex := 354, descriptorIndex := 339, attributes := #[] }, { accessFlags := 25, nameIndex := 358, descriptorIndex := 339, attributes := #[] }, { accessFlags := 25, nameIndex := 361, descriptorIndex := 339, attributes := #[] }, { accessFlags := 26, nameIndex := 364, descriptorIndex := 339, attributes := #[] }, { accessFlags := 26, nameIndex := 365, descriptorIndex := 339, attributes := #[] }, { accessFlags := 26, nameIndex := 172, descriptorIndex := 173, attributes := #[] }, { accessFlags := 26, nameIndex := 176, descriptorIndex := 173, attributes := #[] }, { accessFlags := 8, nameIndex := 344, descriptorIndex := 339, attributes := #[] }, { accessFlags := 8, nameIndex := 338, descriptorIndex := 339, attributes := #[] }, { accessFlags := 4120, nameIndex := 245, descriptorIndex := 246, attributes := #[] }])
  fields := #[{ name := "E", type := .double, accessFlags := 25, slot := 0, constantValue := 0 }, { name := "PI", type := .double, accessFlags := 25, slot := 1, constantValue := 0 }, { name := "TAU", type := .double, accessFlags := 25, slot := 2, constantValue := 0 }, { name := "DEGREES_TO_RADIANS", type := .double, accessFlags := 26, slot := 3, constantValue := 0 }, { name := "RADIANS_TO_DEGREES", type := .double, accessFlags := 26, slot := 4, constantValue := 0 }, { name := "negativeZeroFloatBits", type := .long, accessFlags := 26, slot := 5, constantValue := 0 }, { name := "negativeZeroDoubleBits", type := .long, accessFlags := 26, slot := 6, constantValue := 0 }, { name := "twoToTheDoubleScaleUp", type := .double, accessFlags := 8, slot := 7, constantValue := 0 }, { name := "twoToTheDoubleScaleDown", type := .double, accessFlags := 8, slot := 8, constantValue := 0 }, { name := "$assertionsDisabled", type := .boolean, accessFlags := 4120, slot := 9, constantValue := 0 }]
  methods := #[k17m0, k17m1, k17m2]
  instanceTypes := #[]
  staticTypes := #[.double, .double, .double, .double, .double, .long, .long, .double, .double, .boolean]
  resolved := Array.replicate 460 none
  statics := none }

def pool18 : Array CpInfo := pool [(2, .class_ 4), (1, u "java/lang/Object"), (0, u "<init>"), (0, u "()V"), (1, .class_ 10), (1, u "java/lang/System"), (0, u "allowSecurityManager"), (0, u "I"), (16, u "cons"), (0, u "Ljava/io/Console;"), (77, .class_ 110), (1, u "java/lang/System$CallersHolder"), (43, u "initialErrStream"), (0, u "Ljava/io/PrintStream;"), (19, u "security"), (0, u "Ljava/lang/SecurityManager;"), (31, .class_ 209), (0, u "java/lang/System$1"), (7, u "props"), (0, u "Ljava/util/Properties;"), (2, u "lineSeparator"), (0, u "Ljava/lang/String;"), (96, .class_ 321), (1, u "java/lang/System$LoggerFinder"), (5, .class_ 328), (0, u "java/lang/System$Logger"), (67, u "err"), (2, u "out"), (91, u "notSupportedJnuEncoding"), (15, u "in"), (17, u "initialIn"), (0, u "Ljava/io/InputStream;"), (35, u "bootLayer"), (0, u "Ljava/lang/ModuleLayer;"), (99, .class_ 664), (0, u "java/lang/System$2"), (9, u "NEVER"), (2, u "MAYBE"), (49, u "arraycopy"), (0, u "(Ljava/lang/Object;ILjava/lang/Object;II)V"), (72, .class_ 802), (0, u "java/lang/System$Logger$Level")] 31

def k18m0 : Method := { name := "<init>", desc := "()V", sig := { parameters := [], returnType := none }, accessFlags := 2, code := none }
def k18m1 : Method := { name := "arraycopy", desc := "(Ljava/lang/Object;ILjava/lang/Object;II)V", sig := { parameters := [(.object "java/lang/Object"), .int, (.object "java/lang/Object"), .int, .int], returnType := none }, accessFlags := 265, code := none }
/-- java/lang/System -/
def k18 : Class := { plain "java/lang/System" (some 0) with
  accessFlags := 49
  interfaces := #[]
  cf := some (fileOf pool18 8 #[.nestMembers #[319, 327, 801, 108, 663, 208]] #[{ accessFlags := 2, nameIndex := 5, descriptorIndex := 6, attributes := #[] }, { accessFlags := 265, nameIndex := 727, descriptorIndex := 728, attributes := #[] }] 49 2 #[] #[{ accessFlags := 25, nameIndex := 507, descriptorIndex := 526, attributes := #[] }, { accessFlags := 25, nameIndex := 399, descriptorIndex := 155, attributes := #[] }, { accessFlags := 25, nameIndex := 396, descriptorIndex := 155, attributes := #[] }, { accessFlags := 10, nameIndex := 525, descriptorIndex := 526, attributes := #[] }, { accessFlags := 26, nameIndex := 674, descriptorIndex := 12, attributes := #[] }, { accessFlags := 26, nameIndex := 677, descriptorIndex := 12, attributes := #[] }, { accessFlags := 10, nameIndex := 11, descriptorIndex := 12, attributes := #[] }, { accessFlags := 74, nameIndex := 175, descriptorIndex := 176, attributes := #[] }, { accessFlags := 10, nameIndex := 491, descriptorIndex := 222, attributes := #[] }, { accessFlags := 74, nameIndex := 29, descriptorIndex := 30, attributes := #[] }, { accessFlags := 74, nameIndex := 154, descriptorIndex := 155, attributes := #[] }, { accessFlags := 10, nameIndex := 217, descriptorIndex := 218, attributes := #[] }, { accessFlags := 10, nameIndex := 221, descriptorIndex := 222, attributes := #[] }, { accessFlags := 8, nameIndex := 562, descriptorIndex := 563, attributes := #[] }])
  fields := #[{ name := "in", type := (.object "java/io/InputStream"), accessFlags := 25, slot := 0, constantValue := 0 }, { name := "out", type := (.object "java/io/PrintStream"), accessFlags := 25, slot := 1, constantValue := 0 }, { name := "err", type := (.object "java/io/PrintStream"), accessFlags := 25, slot := 2, constantValue := 0 }, { name := "initialIn", type := (.object "java/io/InputStream"), accessFlags := 10, slot := 3, constantValue := 0 }, { name := "NEVER", type := .int, accessFlags := 26, slot := 4, constantValue := 0 }, { name := "MAYBE", type := .int, accessFlags := 26, slot := 5, constantValue := 0 }, { name := "allowSecurityManager", type := .int, accessFlags := 10, slot := 6, constantValue := 0 }, { name := "security", type := (.object "java/lang/SecurityManager"), accessFlags := 74, slot := 7, constantValue := 0 }, { name := "notSupportedJnuEncoding", type := (.object "java/lang/String"), accessFlags := 10, slot := 8, constantValue := 0 }, { name := "cons", type := (.object "java/io/Console"), accessFlags := 74, slot := 9, constantValue := 0 }, { name := "initialErrStream", type := (.object "java/io/PrintStream"), accessFlags := 74, slot := 10, constantValue := 0 }, { name := "props", type := (.object "java/util/Properties"), accessFlags := 10, slot := 11, constantValue := 0 }, { name := "lineSeparator", type := (.object "java/lang/String"), accessFlags := 10, slot := 12, constantValue := 0 }, { name := "bootLayer", type := (.object "java/lang/ModuleLayer"), accessFlags := 8, slot := 13, constantValue := 0 }]
  methods := #[k18m0, k18m1]
  instanceTypes := #[]
  staticTypes := #[(.object "java/io/InputStream"), (.object "java/io/PrintStream"), (.object "java/io/PrintStream"), (.object "java/io/InputStream"), .int, .int, .int, (.object "java/lang/SecurityManager"), (.object "java/lang/String"), (.object "java/io/Console"), (.object "java/io/PrintStream"), (.object "java/util/Properties"), (.object "java/lang/String"), (.object "java/lang/ModuleLayer")]
  resolved := Array.replicate 834 none
  statics := none }

def pool19 : Array CpInfo := pool [(9, u "<init>"), (6, .class_ 18), (1, u "java/lang/Object"), (0, u "()V"), (1, .class_ 23), (1, u "jdk/internal/util/ArraysSupport"), (0, u "LOG2_ARRAY_LONG_INDEX_SCALE"), (0, u "I"), (2, u "U"), (0, u "Ljdk/internal/misc/Unsafe;"), (8, u "BIG_ENDIAN"), (0, u "Z"), (8, u "LOG2_BYTE_BIT_SIZE"), (4, u "LOG2_ARRAY_INT_INDEX_SCALE"), (54, u "JLA"), (0, u "Ljdk/internal/access/JavaLangAccess;"), (11, u "LOG2_ARRAY_BOOLEAN_INDEX_SCALE"), (9, u "LOG2_ARRAY_BYTE_INDEX_SCALE"), (5, u "LOG2_ARRAY_CHAR_INDEX_SCALE"), (5, u "LOG2_ARRAY_SHORT_INDEX_SCALE"), (18, u "LOG2_ARRAY_FLOAT_INDEX_SCALE"), (24, u "LOG2_ARRAY_DOUBLE_INDEX_SCALE"), (6, .methodref 195 196), (0, .class_ 197), (0, .nameAndType 198 199), (0, u "java/lang/Math"), (0, u "max"), (0, u "(II)I"), (0, .integer 2147483639), (76, u "T_BOOLEAN"), (2, u "T_CHAR"), (1, u "T_FLOAT"), (1, u "T_DOUBLE"), (1, u "T_BYTE"), (1, u "T_SHORT"), (1, u "T_INT"), (1, u "T_LONG"), (1, u "SOFT_MAX_ARRAY_LENGTH"), (56, u "newLength"), (0, u "(III)I")] 25

def k19m0 : Method := { name := "<init>", desc := "()V", sig := { parameters := [], returnType := none }, accessFlags := 2, code := none }
def k19c1 : Code := { maxStack := 3, maxLocals := 4, code := jdk_48_method_27_code, exceptionTable := #[], attributes := #[] }
def k19m1 : Method := { name := "newLength", desc := "(III)I", sig := { parameters := [.int, .int, .int], returnType := some .int }, accessFlags := 9, code := some k19c1 }
/-- jdk/internal/util/ArraysSupport -/
def k19 : Class := { plain "jdk/internal/util/ArraysSupport" (some 0) with
  accessFlags := 33
  interfaces := #[]
  cf := some (fileOf pool19 21 #[] #[{ accessFlags := 2, nameIndex := 9, descriptorIndex := 19, attributes := #[] }, { accessFlags := 9, nameIndex := 351, descriptorIndex := 352, attributes := #[] }] 33 16 #[] #[{ accessFlags := 24, nameIndex := 28, descriptorIndex := 29, attributes := #[] }, { accessFlags := 26, nameIndex := 38, descriptorIndex := 39, attributes := #[] }, { accessFlags := 25, nameIndex := 121, descriptorIndex := 25, attributes := #[] }, { accessFlags := 25, nameIndex := 131, descriptorIndex := 25, attributes := #[] }, { accessFlags := 25, nameIndex := 137, descriptorIndex := 25, attributes := #[] }, { accessFlags := 25, nameIndex := 143, descriptorIndex := 25, attributes := #[] }, { accessFlags := 25, nameIndex := 53, descriptorIndex := 25, attributes := #[] }, { accessFlags := 25, nameIndex := 24, descriptorIndex := 25, attributes := #[] }, { accessFlags := 25, nameIndex := 162, descriptorIndex := 25, attributes := #[] }, { accessFlags := 25, nameIndex := 187, descriptorIndex := 25, attributes := #[] }, { accessFlags := 26, nameIndex := 48, descriptorIndex := 25, attributes := #[] }, { accessFlags := 25, nameIndex := 277, descriptorIndex := 25, attributes := #[] }, { accessFlags := 25, nameIndex := 280, descriptorIndex := 25, attributes := #[] }, { accessFlags := 25, nameIndex := 282, descriptorIndex := 25, attributes := #[] }, { accessFlags := 25, nameIndex := 284, descriptorIndex := 25, attributes := #[] }, { accessFlags := 25, nameIndex := 286, descriptorIndex := 25, attributes := #[] }, { accessFlags := 25, nameIndex := 288, descriptorIndex := 25, attributes := #[] }, { accessFlags := 25, nameIndex := 290, descriptorIndex := 25, attributes := #[] }, { accessFlags := 25, nameIndex := 292, descriptorIndex := 25, attributes := #[] }, { accessFlags := 26, nameIndex := 108, descriptorIndex := 109, attributes := #[] }, { accessFlags := 25, nameIndex := 294, descriptorIndex := 25, attributes := #[] }])
  fields := #[{ name := "U", type := (.object "jdk/internal/misc/Unsafe"), accessFlags := 24, slot := 0, constantValue := 0 }, { name := "BIG_ENDIAN", type := .boolean, accessFlags := 26, slot := 1, constantValue := 0 }, { name := "LOG2_ARRAY_BOOLEAN_INDEX_SCALE", type := .int, accessFlags := 25, slot := 2, constantValue := 0 }, { name := "LOG2_ARRAY_BYTE_INDEX_SCALE", type := .int, accessFlags := 25, slot := 3, constantValue := 0 }, { name := "LOG2_ARRAY_CHAR_INDEX_SCALE", type := .int, accessFlags := 25, slot := 4, constantValue := 0 }, { name := "LOG2_ARRAY_SHORT_INDEX_SCALE", type := .int, accessFlags := 25, slot := 5, constantValue := 0 }, { name := "LOG2_ARRAY_INT_INDEX_SCALE", type := .int, accessFlags := 25, slot := 6, constantValue := 0 }, { name := "LOG2_ARRAY_LONG_INDEX_SCALE", type := .int, accessFlags := 25, slot := 7, constantValue := 0 }, { name := "LOG2_ARRAY_FLOAT_INDEX_SCALE", type := .int, accessFlags := 25, slot := 8, constantValue := 0 }, { name := "LOG2_ARRAY_DOUBLE_INDEX_SCALE", type := .int, accessFlags := 25, slot := 9, constantValue := 0 }, { name := "LOG2_BYTE_BIT_SIZE", type := .int, accessFlags := 26, slot := 10, constantValue := 0 }, { name := "T_BOOLEAN", type := .int, accessFlags := 25, slot := 11, constantValue := 0 }, { name := "T_CHAR", type := .int, accessFlags := 25, slot := 12, constantValue := 0 }, { name := "T_FLOAT", type := .int, accessFlags := 25, slot := 13, constantValue := 0 }, { name := "T_DOUBLE", type := .int, accessFlags := 25, slot := 14, constantValue := 0 }, { name := "T_BYTE", type := .int, accessFlags := 25, slot := 15, constantValue := 0 }, { name := "T_SHORT", type := .int, accessFlags := 25, slot := 16, constantValue := 0 }, { name := "T_INT", type := .int, accessFlags := 25, slot := 17, constantValue := 0 }, { name := "T_LONG", type := .int, accessFlags := 25, slot := 18, constantValue := 0 }, { name := "JLA", type := (.object "jdk/internal/access/JavaLangAccess"), accessFlags := 26, slot := 19, constantValue := 0 }, { name := "SOFT_MAX_ARRAY_LENGTH", type := .int, accessFlags := 25, slot := 20, constantValue := 0 }]
  methods := #[k19m0, k19m1]
  instanceTypes := #[]
  staticTypes := #[(.object "jdk/internal/misc/Unsafe"), .boolean, .int, .int, .int, .int, .int, .int, .int, .int, .int, .int, .int, .int, .int, .int, .int, .int, .int, (.object "jdk/internal/access/JavaLangAccess"), .int]
  resolved := Array.replicate 378 none
  statics := none }

def pool20 : Array CpInfo := pool [(1, .class_ 2), (0, u "java/lang/String"), (1, .class_ 6), (1, u "java/lang/Object"), (0, u "<init>"), (0, u "()V"), (0, .methodref 1 10), (0, .nameAndType 11 12), (0, u "checkIndex"), (0, u "(II)V"), (1, .class_ 16), (1, u "java/lang/StringLatin1"), (0, u "inflate"), (2, .class_ 22), (1, u "java/lang/StringUTF16"), (3, .nameAndType 17 27), (0, u "([BI[BII)V"), (25, u "([BI)C"), (58, .methodref 1 113), (0, .nameAndType 7 114), (0, u "([BB)V"), (6, u "$assertionsDisabled"), (0, u "Z"), (8, .class_ 133), (1, u "java/util/Arrays"), (62, u "newString"), (0, u "([BII)Ljava/lang/String;"), (23, .class_ 223), (1, u "java/lang/StringLatin1$LinesSpliterator"), (8, .methodref 131 233), (0, .nameAndType 234 235), (0, u "copyOfRange"), (0, u "([BII)[B"), (4, .methodref 20 26), (11, u "charAt"), (28, u "equals"), (0, u "([B[B)Z"), (107, .class_ 391), (0, u "java/lang/StringLatin1$CharsSpliterator")] 3

def k20m0 : Method := { name := "<init>", desc := "()V", sig := { parameters := [], returnType := none }, accessFlags := 0, code := none }
def k20c1 : Code := { maxStack := 2, maxLocals := 2, code := jdk_43_method_2_code, exceptionTable := #[], attributes := #[] }
def k20m1 : Method := { name := "charAt", desc := "([BI)C", sig := { parameters := [(.array .byte), .int], returnType := some .char }, accessFlags := 9, code := some k20c1 }
def k20c2 : Code := { maxStack := 3, maxLocals := 3, code := jdk_43_method_13_code, exceptionTable := #[], attributes := #[] }
def k20m2 : Method := { name := "equals", desc := "([B[B)Z", sig := { parameters := [(.array .byte), (.array .byte)], returnType := some .boolean }, accessFlags := 9, code := some k20c2 }
def k20c3 : Code := { maxStack := 6, maxLocals := 3, code := jdk_43_method_47_code, exceptionTable := #[], attributes := #[] }
def k20m3 : Method := { name := "newString", desc := "([BII)Ljava/lang/String;", sig := { parameters := [(.array .byte), .int, .int], returnType := some (.object "java/lang/String") }, accessFlags := 9, code := some k20c3 }
def k20c4 : Code := { maxStack := 5, maxLocals := 5, code := jdk_43_method_50_code, exceptionTable := #[], attributes := #[] }
def k20m4 : Method := { name := "inflate", desc := "([BI[BII)V", sig := { parameters := [(.array .byte), .int, (.array .byte), .int, .int], returnType := none }, accessFlags := 9, code := some k20c4 }
/-- java/lang/StringLatin1 -/
def k20 : Class := { plain "java/lang/StringLatin1" (some 0) with
  accessFlags := 48
  interfaces := #[]
  cf := some (fileOf pool20 14 #[.nestMembers #[390, 221]] #[{ accessFlags := 0, nameIndex := 7, descriptorIndex := 8, attributes := #[] }, { accessFlags := 9, nameIndex := 252, descriptorIndex := 53, attributes := #[] }, { accessFlags := 9, nameIndex := 281, descriptorIndex := 282, attributes := #[] }, { accessFlags := 9, nameIndex := 196, descriptorIndex := 197, attributes := #[] }, { accessFlags := 9, nameIndex := 17, descriptorIndex := 27, attributes := #[] }] 48 4 #[] #[{ accessFlags := 4120, nameIndex := 121, descriptorIndex := 122, attributes := #[] }])
  fields := #[{ name := "$assertionsDisabled", type := .boolean, accessFlags := 4120, slot := 0, constantValue := 0 }]
  methods := #[k20m0, k20m1, k20m2, k20m3, k20m4]
  instanceTypes := #[]
  staticTypes := #[.boolean]
  resolved := Array.replicate 395 none
  statics := none }

def pool21 : Array CpInfo := pool [(2, .class_ 4), (1, u "java/lang/Object"), (0, u "<init>"), (0, u "()V"), (1, .class_ 10), (1, u "java/lang/Number"), (2, .class_ 14), (0, u "java/io/Serializable"), (0, u "serialVersionUID"), (0, u "J")] 20

def k21m0 : Method := { name := "<init>", desc := "()V", sig := { parameters := [], returnType := none }, accessFlags := 1, code := none }
/-- java/lang/Number -/
def k21 : Class := { plain "java/lang/Number" (some 0) with
  accessFlags := 1057
  interfaces := #[2]
  cf := some (fileOf pool21 8 #[] #[{ accessFlags := 1, nameIndex := 5, descriptorIndex := 6, attributes := #[] }] 1057 2 #[13] #[{ accessFlags := 26, nameIndex := 15, descriptorIndex := 16, attributes := #[] }])
  fields := #[{ name := "serialVersionUID", type := .long, accessFlags := 26, slot := 0, constantValue := 0 }]
  methods := #[k21m0]
  instanceTypes := #[]
  staticTypes := #[.long]
  resolved := Array.replicate 37 none
  statics := none }

def pool22 : Array CpInfo := pool [(1, .class_ 2), (0, u "java/lang/Integer"), (16, u "digits"), (0, u "[C"), (33, u "(I)I"), (19, u "stringSize"), (2, u "getChars"), (0, u "(II[B)I"), (4, .fieldref 1 84), (0, .nameAndType 85 86), (0, u "DigitOnes"), (0, u "[B"), (0, .fieldref 1 88), (0, .nameAndType 89 86), (0, u "DigitTens"), (99, .class_ 190), (0, u "java/lang/Integer$IntegerCache"), (3, u "I"), (8, .class_ 204), (0, u "java/lang/Number"), (2, u "value"), (94, u "TYPE"), (0, u "Ljava/lang/Class;"), (0, .class_ 305), (0, u "java/lang/Comparable"), (0, .class_ 307), (0, u "java/lang/constant/Constable"), (0, .class_ 309), (0, u "java/lang/constant/ConstantDesc"), (0, u "MIN_VALUE"), (1, u "MAX_VALUE"), (3, u "SIZE"), (1, u "BYTES"), (1, u "serialVersionUID"), (0, u "J")] 131

def k22c0 : Code := { maxStack := 4, maxLocals := 7, code := jdk_33_method_12_code, exceptionTable := #[], attributes := #[] }
def k22m0 : Method := { name := "getChars", desc := "(II[B)I", sig := { parameters := [.int, .int, (.array .byte)], returnType := some .int }, accessFlags := 8, code := some k22c0 }
def k22c1 : Code := { maxStack := 2, maxLocals := 4, code := jdk_33_method_13_code, exceptionTable := #[], attributes := #[] }
def k22m1 : Method := { name := "stringSize", desc := "(I)I", sig := { parameters := [.int], returnType := some .int }, accessFlags := 8, code := some k22c1 }
/-- java/lang/Integer -/
def k22 : Class := { plain "java/lang/Integer" (some 21) with
  accessFlags := 49
  interfaces := #[3, 5, 6]
  cf := some (fileOf pool22 1 #[.nestMembers #[189]] #[{ accessFlags := 8, nameIndex := 77, descriptorIndex := 78, attributes := #[] }, { accessFlags := 8, nameIndex := 74, descriptorIndex := 54, attributes := #[] }] 49 203 #[304, 306, 308] #[{ accessFlags := 25, nameIndex := 310, descriptorIndex := 194, attributes := #[] }, { accessFlags := 25, nameIndex := 312, descriptorIndex := 194, attributes := #[] }, { accessFlags := 25, nameIndex := 302, descriptorIndex := 303, attributes := #[] }, { accessFlags := 24, nameIndex := 19, descriptorIndex := 20, attributes := #[] }, { accessFlags := 24, nameIndex := 89, descriptorIndex := 86, attributes := #[] }, { accessFlags := 24, nameIndex := 85, descriptorIndex := 86, attributes := #[] }, { accessFlags := 18, nameIndex := 207, descriptorIndex := 194, attributes := #[] }, { accessFlags := 25, nameIndex := 316, descriptorIndex := 194, attributes := #[] }, { accessFlags := 25, nameIndex := 318, descriptorIndex := 194, attributes := #[] }, { accessFlags := 26, nameIndex := 320, descriptorIndex := 321, attributes := #[] }])
  fields := #[{ name := "MIN_VALUE", type := .int, accessFlags := 25, slot := 0, constantValue := 0 }, { name := "MAX_VALUE", type := .int, accessFlags := 25, slot := 1, constantValue := 0 }, { name := "TYPE", type := (.object "java/lang/Class"), accessFlags := 25, slot := 2, constantValue := 0 }, { name := "digits", type := (.array .char), accessFlags := 24, slot := 3, constantValue := 0 }, { name := "DigitTens", type := (.array .byte), accessFlags := 24, slot := 4, constantValue := 0 }, { name := "DigitOnes", type := (.array .byte), accessFlags := 24, slot := 5, constantValue := 0 }, { name := "value", type := .int, accessFlags := 18, slot := 0, constantValue := 0 }, { name := "SIZE", type := .int, accessFlags := 25, slot := 6, constantValue := 0 }, { name := "BYTES", type := .int, accessFlags := 25, slot := 7, constantValue := 0 }, { name := "serialVersionUID", type := .long, accessFlags := 26, slot := 8, constantValue := 0 }]
  methods := #[k22m0, k22m1]
  instanceTypes := #[.int]
  staticTypes := #[.int, .int, (.object "java/lang/Class"), (.array .char), (.array .byte), (.array .byte), .int, .int, .long]
  resolved := Array.replicate 453 none
  statics := some 3 }

def pool23 : Array CpInfo := pool [(1, u "java/lang/Cloneable"), (0, .class_ 1), (0, u "java/lang/Object"), (0, .class_ 3)] 3

/-- java/lang/Cloneable -/
def k23 : Class := { plain "java/lang/Cloneable" (some 0) with
  accessFlags := 1537
  interfaces := #[]
  cf := some (fileOf pool23 2 #[] #[] 1537 4 #[] #[])
  fields := #[]
  methods := #[]
  instanceTypes := #[]
  staticTypes := #[]
  resolved := Array.replicate 8 none
  statics := none }

/-- the primitive byte -/
def k24 : Class := { plain "byte" none with kind := .primitive 'B', accessFlags := 0x411 }
/-- [B -/
def k25 : Class := { plain "[B" (some 0) with kind := .array 24 .byte, interfaces := #[23, 2], accessFlags := 1041 }

/-- the primitive char -/
def k26 : Class := { plain "char" none with kind := .primitive 'C', accessFlags := 0x411 }
/-- [C -/
def k27 : Class := { plain "[C" (some 0) with kind := .array 26 .char, interfaces := #[23, 2], accessFlags := 1041 }

/-- the primitive int -/
def k28 : Class := { plain "int" none with kind := .primitive 'I', accessFlags := 0x411 }
/-- [I -/
def k29 : Class := { plain "[I" (some 0) with kind := .array 28 .int, interfaces := #[23, 2], accessFlags := 1041 }

def heap : Heap := #[{ cls := 7, slots := #[.long 0, .int 1, .null, .int 0, .null, .int 0, .int 0], vm := .statics 7 },
  { cls := 8, slots := #[.int 0, .int 8, .int 0, .int 1], vm := .statics 8 },
  { cls := 11, slots := #[.null, .null, .null], vm := .statics 11 },
  { cls := 22, slots := #[.int 0, .int 0, .null, .null, .ref 5, .ref 4, .int 0, .int 0, .long 0], vm := .statics 22 },
  { cls := 25, slots := #[.int 48, .int 49, .int 50, .int 51, .int 52, .int 53, .int 54, .int 55, .int 56, .int 57, .int 48, .int 49, .int 50, .int 51, .int 52, .int 53, .int 54, .int 55, .int 56, .int 57, .int 48, .int 49, .int 50, .int 51, .int 52, .int 53, .int 54, .int 55, .int 56, .int 57, .int 48, .int 49, .int 50, .int 51, .int 52, .int 53, .int 54, .int 55, .int 56, .int 57, .int 48, .int 49, .int 50, .int 51, .int 52, .int 53, .int 54, .int 55, .int 56, .int 57, .int 48, .int 49, .int 50, .int 51, .int 52, .int 53, .int 54, .int 55, .int 56, .int 57, .int 48, .int 49, .int 50, .int 51, .int 52, .int 53, .int 54, .int 55, .int 56, .int 57, .int 48, .int 49, .int 50, .int 51, .int 52, .int 53, .int 54, .int 55, .int 56, .int 57, .int 48, .int 49, .int 50, .int 51, .int 52, .int 53, .int 54, .int 55, .int 56, .int 57, .int 48, .int 49, .int 50, .int 51, .int 52, .int 53, .int 54, .int 55, .int 56, .int 57], vm := .none },
  { cls := 25, slots := #[.int 48, .int 48, .int 48, .int 48, .int 48, .int 48, .int 48, .int 48, .int 48, .int 48, .int 49, .int 49, .int 49, .int 49, .int 49, .int 49, .int 49, .int 49, .int 49, .int 49, .int 50, .int 50, .int 50, .int 50, .int 50, .int 50, .int 50, .int 50, .int 50, .int 50, .int 51, .int 51, .int 51, .int 51, .int 51, .int 51, .int 51, .int 51, .int 51, .int 51, .int 52, .int 52, .int 52, .int 52, .int 52, .int 52, .int 52, .int 52, .int 52, .int 52, .int 53, .int 53, .int 53, .int 53, .int 53, .int 53, .int 53, .int 53, .int 53, .int 53, .int 54, .int 54, .int 54, .int 54, .int 54, .int 54, .int 54, .int 54, .int 54, .int 54, .int 55, .int 55, .int 55, .int 55, .int 55, .int 55, .int 55, .int 55, .int 55, .int 55, .int 56, .int 56, .int 56, .int 56, .int 56, .int 56, .int 56, .int 56, .int 56, .int 56, .int 57, .int 57, .int 57, .int 57, .int 57, .int 57, .int 57, .int 57, .int 57, .int 57], vm := .none }]
def classes : Array Class := #[k0, k1, k2, k3, k4, k5, k6, k7, k8, k9, k10, k11, k12, k13, k14, k15, k16, k17, k18, k19, k20, k21, k22, k23, k24, k25, k26, k27, k28, k29]
def interned : List (Array UInt16 × Addr) := []
def slotsUsed : Nat := 223
def theMethod : MethodId := ⟨1, 1⟩
def args0 : Array Value := #[.int 5, .int 7, .int 2]
def aboutOver (below : List Frame) : State where
  vm := { classes := classes, interned := interned.toArray }
  heap := heap
  slotsUsed := slotsUsed
  threads := #[{ frames := .invoking theMethod args0 :: below }]
def below0 : List Frame := [.native { method := ⟨0, 0⟩, args := #[] }]
def about1 : State := aboutOver below0
def p0 : Program := .bare "" "" ""
def e0 : Env := launch0.env 0 0 0
theorem w_frames : about1.frames = Frame.invoking theMethod args0 :: below0 := rfl
set_option maxRecDepth 65536 in
theorem w_args : argsFit about1.vm theMethod args0 = true := by decide +kernel
set_option maxRecDepth 65536 in
theorem w_heap : heapFits about1 = true := by decide +kernel
set_option maxRecDepth 65536 in
theorem w_runnable : about1.curStatus? = some .runnable := by decide +kernel
set_option maxRecDepth 65536 in
theorem w_alone : about1.alone = true := by decide +kernel
set_option maxRecDepth 65536 in
theorem w_named : about1.methodNamed? x = some theMethod := by decide +kernel
set_option maxRecDepth 65536 in
theorem w_hears : about1.hears theMethod below0 = true := by decide +kernel
set_option maxRecDepth 65536 in
theorem w_ripe : about1.ripe theMethod args0 below0 = true := by decide +kernel
theorem w_running : about1.status = .running := rfl
set_option maxRecDepth 65536 in
theorem w_room : about1.hasRoom e0.platform room_1 = true :=
  launch0.hasRoom_least _ room_1 (by decide +kernel) (by decide +kernel) (by decide +kernel) (by decide +kernel) (by decide +kernel) (by decide +kernel)
theorem allAtoms_all (ts : List Jvm.Cond) (a : Array Jvm.Value) (st : Jvm.State) : (allAtoms ts).before a st = ts.all (fun c => c.before a st) := by
  induction ts with
  | nil => rfl
  | cons c t ih =>
    show (Jvm.Cond.and c (allAtoms t)).before a st = _
    rw [Jvm.Cond.before_and, ih, List.all_cons]
def words1 : List Jvm.Cond := Jvm.Cond.code x code maxLocals ret :: tables_1
/-- a 'code' word, met by the world's own term for the bytes: nothing is compared byte by byte -/
theorem code_word {y : MethodName} {bytes : ByteArray} {mx : Nat} {rt : Option FieldType} {a : Array Value} {s : State} {m : MethodId} {meth : Method} {c : Code} (h1 : s.methodNamed? y = some m) (h2 : s.vm.method? m = some meth) (h3 : meth.code = some c) (h4 : c.code = bytes)
    (h5 : (c.maxLocals == mx && c.exceptionTable.isEmpty && decide (c.maxStack ≤ mostOperands) && decide (meth.sig.returnType = rt) && !meth.locks && decide (parseMethodDescriptor y.desc = some meth.sig)) = true) : (Jvm.Cond.code y bytes mx rt).before a s = true := by
  simp only [Bool.and_eq_true, beq_iff_eq, Bool.not_eq_true', decide_eq_true_eq] at h5
  obtain ⟨⟨⟨⟨⟨g1, g2⟩, g3⟩, g4⟩, g5⟩, g6⟩ := h5
  simp [Cond.before, Cond.holds, Cond.value, h1, h2, h3, h4, g1, g2, g3, g4, g5, g6]
def isCode : Jvm.Cond → Bool
  | .code _ _ _ _ => true
  | _ => false
theorem all_split {L : List Jvm.Cond} {P : Jvm.Cond → Bool} (h1 : L.all (fun c => isCode c || P c) = true) (h2 : ∀ c ∈ L.filter isCode, P c = true) : L.all P = true := by
  refine List.all_eq_true.mpr fun c hc => ?_
  have h := List.all_eq_true.mp h1 c hc
  rcases Bool.eq_false_or_eq_true (isCode c) with hi | hi
  · exact h2 c (List.mem_filter.mpr ⟨hc, hi⟩)
  · simpa [hi] using h
set_option maxRecDepth 65536 in
theorem w_c0 : (Jvm.Cond.code x code maxLocals ret).before args0 about1 = true := code_word (m := ⟨1, 1⟩) (meth := k1m1) (c := k1c1) (by decide +kernel) rfl rfl rfl (by decide +kernel)
set_option maxRecDepth 65536 in
theorem w_c1 : (Jvm.Cond.code ({ cls := "com/example/gearline/gearline/data/ValuesShownPinLaw", name := "fill", desc := "([CIIIZICC)V" } : Jvm.MethodName) method_4_code (8 : Nat) (Option.none : Option Jvm.ClassFile.FieldType)).before args0 about1 = true := code_word (m := ⟨1, 3⟩) (meth := k1m3) (c := k1c3) (by decide +kernel) rfl rfl rfl (by decide +kernel)
set_option maxRecDepth 65536 in
theorem w_c2 : (Jvm.Cond.code ({ cls := "com/example/gearline/gearline/data/ValuesShownPinLaw", name := "put", desc := "([CIIC)V" } : Jvm.MethodName) method_3_code (4 : Nat) (Option.none : Option Jvm.ClassFile.FieldType)).before args0 about1 = true := code_word (m := ⟨1, 2⟩) (meth := k1m2) (c := k1c2) (by decide +kernel) rfl rfl rfl (by decide +kernel)
set_option maxRecDepth 65536 in
theorem w_c3 : (Jvm.Cond.code ({ cls := "java/lang/String", name := "<init>", desc := "([C)V" } : Jvm.MethodName) jdk_42_method_3_code (2 : Nat) (Option.none : Option Jvm.ClassFile.FieldType)).before args0 about1 = true := code_word (m := ⟨7, 1⟩) (meth := k7m1) (c := k7c1) (by decide +kernel) rfl rfl rfl (by decide +kernel)
set_option maxRecDepth 65536 in
theorem w_c4 : (Jvm.Cond.code ({ cls := "java/lang/String", name := "<init>", desc := "([CIILjava/lang/Void;)V" } : Jvm.MethodName) jdk_42_method_149_code (6 : Nat) (Option.none : Option Jvm.ClassFile.FieldType)).before args0 about1 = true := code_word (m := ⟨7, 10⟩) (meth := k7m10) (c := k7c10) (by decide +kernel) rfl rfl rfl (by decide +kernel)
set_option maxRecDepth 65536 in
theorem w_c5 : (Jvm.Cond.code ({ cls := "java/lang/Object", name := "<init>", desc := "()V" } : Jvm.MethodName) object_method_1_code (1 : Nat) (Option.none : Option Jvm.ClassFile.FieldType)).before args0 about1 = true := code_word (m := ⟨0, 0⟩) (meth := k0m0) (c := k0c0) (by decide +kernel) rfl rfl rfl (by decide +kernel)
set_option maxRecDepth 65536 in
theorem w_c6 : (Jvm.Cond.code ({ cls := "java/lang/StringUTF16", name := "compress", desc := "([CII)[B" } : Jvm.MethodName) jdk_52_method_16_code (6 : Nat) (Option.some (Jvm.ClassFile.FieldType.array Jvm.ClassFile.FieldType.byte))).before args0 about1 = true := code_word (m := ⟨8, 10⟩) (meth := k8m10) (c := k8c10) (by decide +kernel) rfl rfl rfl (by decide +kernel)
set_option maxRecDepth 65536 in
theorem w_c7 : (Jvm.Cond.code ({ cls := "java/lang/StringUTF16", name := "compress", desc := "([CI[BII)I" } : Jvm.MethodName) jdk_52_method_21_code (7 : Nat) (Option.some Jvm.ClassFile.FieldType.int)).before args0 about1 = true := code_word (m := ⟨8, 12⟩) (meth := k8m12) (c := k8c12) (by decide +kernel) rfl rfl rfl (by decide +kernel)
set_option maxRecDepth 65536 in
theorem w_c8 : (Jvm.Cond.code ({ cls := "java/lang/StringUTF16", name := "coderFromArrayLen", desc := "([BI)B" } : Jvm.MethodName) jdk_52_method_15_code (2 : Nat) (Option.some Jvm.ClassFile.FieldType.byte)).before args0 about1 = true := code_word (m := ⟨8, 9⟩) (meth := k8m9) (c := k8c9) (by decide +kernel) rfl rfl rfl (by decide +kernel)
set_option maxRecDepth 65536 in
theorem w_c9 : (Jvm.Cond.code ({ cls := "com/example/gearline/gearline/data/Values", name := "shown", desc := "(Ljava/lang/String;)Ljava/lang/String;" } : Jvm.MethodName) prog_32_method_2_code (2 : Nat) (Option.some (Jvm.ClassFile.FieldType.object "java/lang/String"))).before args0 about1 = true := code_word (m := ⟨9, 1⟩) (meth := k9m1) (c := k9c1) (by decide +kernel) rfl rfl rfl (by decide +kernel)
set_option maxRecDepth 65536 in
theorem w_c10 : (Jvm.Cond.code ({ cls := "java/lang/String", name := "length", desc := "()I" } : Jvm.MethodName) jdk_42_method_54_code (1 : Nat) (Option.some Jvm.ClassFile.FieldType.int)).before args0 about1 = true := code_word (m := ⟨7, 3⟩) (meth := k7m3) (c := k7c3) (by decide +kernel) rfl rfl rfl (by decide +kernel)
set_option maxRecDepth 65536 in
theorem w_c11 : (Jvm.Cond.code ({ cls := "java/lang/String", name := "coder", desc := "()B" } : Jvm.MethodName) jdk_42_method_152_code (1 : Nat) (Option.some Jvm.ClassFile.FieldType.byte)).before args0 about1 = true := code_word (m := ⟨7, 13⟩) (meth := k7m13) (c := k7c13) (by decide +kernel) rfl rfl rfl (by decide +kernel)
set_option maxRecDepth 65536 in
theorem w_c12 : (Jvm.Cond.code ({ cls := "java/lang/String", name := "codePointCount", desc := "(II)I" } : Jvm.MethodName) jdk_42_method_59_code (3 : Nat) (Option.some Jvm.ClassFile.FieldType.int)).before args0 about1 = true := code_word (m := ⟨7, 5⟩) (meth := k7m5) (c := k7c5) (by decide +kernel) rfl rfl rfl (by decide +kernel)
set_option maxRecDepth 65536 in
theorem w_c13 : (Jvm.Cond.code ({ cls := "java/util/Objects", name := "checkFromToIndex", desc := "(III)I" } : Jvm.MethodName) jdk_31_method_18_code (3 : Nat) (Option.some Jvm.ClassFile.FieldType.int)).before args0 about1 = true := code_word (m := ⟨10, 1⟩) (meth := k10m1) (c := k10c1) (by decide +kernel) rfl rfl rfl (by decide +kernel)
set_option maxRecDepth 65536 in
theorem w_c14 : (Jvm.Cond.code ({ cls := "jdk/internal/util/Preconditions", name := "checkFromToIndex", desc := "(IIILjava/util/function/BiFunction;)I" } : Jvm.MethodName) jdk_41_method_12_code (4 : Nat) (Option.some Jvm.ClassFile.FieldType.int)).before args0 about1 = true := code_word (m := ⟨11, 2⟩) (meth := k11m2) (c := k11c2) (by decide +kernel) rfl rfl rfl (by decide +kernel)
set_option maxRecDepth 65536 in
theorem w_c15 : (Jvm.Cond.code ({ cls := "java/lang/String", name := "isLatin1", desc := "()Z" } : Jvm.MethodName) jdk_42_method_154_code (1 : Nat) (Option.some Jvm.ClassFile.FieldType.boolean)).before args0 about1 = true := code_word (m := ⟨7, 14⟩) (meth := k7m14) (c := k7c14) (by decide +kernel) rfl rfl rfl (by decide +kernel)
set_option maxRecDepth 65536 in
theorem w_c16 : (Jvm.Cond.code ({ cls := "java/lang/String", name := "equals", desc := "(Ljava/lang/Object;)Z" } : Jvm.MethodName) jdk_42_method_66_code (3 : Nat) (Option.some Jvm.ClassFile.FieldType.boolean)).before args0 about1 = true := code_word (m := ⟨7, 7⟩) (meth := k7m7) (c := k7c7) (by decide +kernel) rfl rfl rfl (by decide +kernel)
set_option maxRecDepth 65536 in
theorem w_c17 : (Jvm.Cond.code ({ cls := "java/lang/StringUTF16", name := "toBytes", desc := "([CII)[B" } : Jvm.MethodName) jdk_52_method_14_code (5 : Nat) (Option.some (Jvm.ClassFile.FieldType.array Jvm.ClassFile.FieldType.byte))).before args0 about1 = true := code_word (m := ⟨8, 8⟩) (meth := k8m8) (c := k8c8) (by decide +kernel) rfl rfl rfl (by decide +kernel)
set_option maxRecDepth 65536 in
theorem w_c18 : (Jvm.Cond.code ({ cls := "java/lang/StringUTF16", name := "newBytesFor", desc := "(I)[B" } : Jvm.MethodName) jdk_52_method_2_code (1 : Nat) (Option.some (Jvm.ClassFile.FieldType.array Jvm.ClassFile.FieldType.byte))).before args0 about1 = true := code_word (m := ⟨8, 1⟩) (meth := k8m1) (c := k8c1) (by decide +kernel) rfl rfl rfl (by decide +kernel)
set_option maxRecDepth 65536 in
theorem w_c19 : (Jvm.Cond.code ({ cls := "java/lang/StringUTF16", name := "newBytesLength", desc := "(I)I" } : Jvm.MethodName) jdk_52_method_3_code (1 : Nat) (Option.some Jvm.ClassFile.FieldType.int)).before args0 about1 = true := code_word (m := ⟨8, 2⟩) (meth := k8m2) (c := k8c2) (by decide +kernel) rfl rfl rfl (by decide +kernel)
set_option maxRecDepth 65536 in
theorem w_c20 : (Jvm.Cond.code ({ cls := "java/lang/StringUTF16", name := "putChar", desc := "([BII)V" } : Jvm.MethodName) jdk_52_method_4_code (3 : Nat) (Option.none : Option Jvm.ClassFile.FieldType)).before args0 about1 = true := code_word (m := ⟨8, 3⟩) (meth := k8m3) (c := k8c3) (by decide +kernel) rfl rfl rfl (by decide +kernel)
set_option maxRecDepth 65536 in
theorem w_c21 : (Jvm.Cond.code ({ cls := "java/lang/StringUTF16", name := "getChar", desc := "([BI)C" } : Jvm.MethodName) jdk_52_method_5_code (2 : Nat) (Option.some Jvm.ClassFile.FieldType.char)).before args0 about1 = true := code_word (m := ⟨8, 4⟩) (meth := k8m4) (c := k8c4) (by decide +kernel) rfl rfl rfl (by decide +kernel)
set_option maxRecDepth 65536 in
theorem w_c22 : (Jvm.Cond.code ({ cls := "java/lang/StringUTF16", name := "codePointCount", desc := "([BII)I" } : Jvm.MethodName) jdk_52_method_12_code (3 : Nat) (Option.some Jvm.ClassFile.FieldType.int)).before args0 about1 = true := code_word (m := ⟨8, 7⟩) (meth := k8m7) (c := k8c7) (by decide +kernel) rfl rfl rfl (by decide +kernel)
set_option maxRecDepth 65536 in
theorem w_c23 : (Jvm.Cond.code ({ cls := "java/lang/StringUTF16", name := "codePointCount", desc := "([BIIZ)I" } : Jvm.MethodName) jdk_52_method_11_code (6 : Nat) (Option.some Jvm.ClassFile.FieldType.int)).before args0 about1 = true := code_word (m := ⟨8, 6⟩) (meth := k8m6) (c := k8c6) (by decide +kernel) rfl rfl rfl (by decide +kernel)
set_option maxRecDepth 65536 in
theorem w_c24 : (Jvm.Cond.code ({ cls := "java/lang/Character", name := "isHighSurrogate", desc := "(C)Z" } : Jvm.MethodName) jdk_89_method_14_code (1 : Nat) (Option.some Jvm.ClassFile.FieldType.boolean)).before args0 about1 = true := code_word (m := ⟨12, 0⟩) (meth := k12m0) (c := k12c0) (by decide +kernel) rfl rfl rfl (by decide +kernel)
set_option maxRecDepth 65536 in
theorem w_c25 : (Jvm.Cond.code ({ cls := "java/lang/Character", name := "isLowSurrogate", desc := "(C)Z" } : Jvm.MethodName) jdk_89_method_15_code (1 : Nat) (Option.some Jvm.ClassFile.FieldType.boolean)).before args0 about1 = true := code_word (m := ⟨12, 1⟩) (meth := k12m1) (c := k12c1) (by decide +kernel) rfl rfl rfl (by decide +kernel)
set_option maxRecDepth 65536 in
theorem w_c26 : (Jvm.Cond.code ({ cls := "java/lang/StringBuilder", name := "<init>", desc := "()V" } : Jvm.MethodName) jdk_67_method_1_code (1 : Nat) (Option.none : Option Jvm.ClassFile.FieldType)).before args0 about1 = true := code_word (m := ⟨15, 0⟩) (meth := k15m0) (c := k15c0) (by decide +kernel) rfl rfl rfl (by decide +kernel)
set_option maxRecDepth 65536 in
theorem w_c27 : (Jvm.Cond.code ({ cls := "java/lang/AbstractStringBuilder", name := "<init>", desc := "(I)V" } : Jvm.MethodName) jdk_68_method_2_code (2 : Nat) (Option.none : Option Jvm.ClassFile.FieldType)).before args0 about1 = true := code_word (m := ⟨14, 1⟩) (meth := k14m1) (c := k14c1) (by decide +kernel) rfl rfl rfl (by decide +kernel)
set_option maxRecDepth 65536 in
theorem w_c28 : (Jvm.Cond.code ({ cls := "java/lang/String", name := "offsetByCodePoints", desc := "(II)I" } : Jvm.MethodName) jdk_42_method_60_code (3 : Nat) (Option.some Jvm.ClassFile.FieldType.int)).before args0 about1 = true := code_word (m := ⟨7, 6⟩) (meth := k7m6) (c := k7c6) (by decide +kernel) rfl rfl rfl (by decide +kernel)
set_option maxRecDepth 65536 in
theorem w_c29 : (Jvm.Cond.code ({ cls := "java/lang/Character", name := "offsetByCodePoints", desc := "(Ljava/lang/CharSequence;II)I" } : Jvm.MethodName) jdk_89_method_36_code (6 : Nat) (Option.some Jvm.ClassFile.FieldType.int)).before args0 about1 = true := code_word (m := ⟨12, 2⟩) (meth := k12m2) (c := k12c2) (by decide +kernel) rfl rfl rfl (by decide +kernel)
set_option maxRecDepth 65536 in
theorem w_c30 : (Jvm.Cond.code ({ cls := "java/lang/String", name := "charAt", desc := "(I)C" } : Jvm.MethodName) jdk_42_method_56_code (2 : Nat) (Option.some Jvm.ClassFile.FieldType.char)).before args0 about1 = true := code_word (m := ⟨7, 4⟩) (meth := k7m4) (c := k7c4) (by decide +kernel) rfl rfl rfl (by decide +kernel)
set_option maxRecDepth 65536 in
theorem w_c31 : (Jvm.Cond.code ({ cls := "java/lang/StringUTF16", name := "charAt", desc := "([BI)C" } : Jvm.MethodName) jdk_52_method_83_code (2 : Nat) (Option.some Jvm.ClassFile.FieldType.char)).before args0 about1 = true := code_word (m := ⟨8, 16⟩) (meth := k8m16) (c := k8c16) (by decide +kernel) rfl rfl rfl (by decide +kernel)
set_option maxRecDepth 65536 in
theorem w_c32 : (Jvm.Cond.code ({ cls := "java/lang/StringUTF16", name := "checkIndex", desc := "(I[B)V" } : Jvm.MethodName) jdk_52_method_91_code (2 : Nat) (Option.none : Option Jvm.ClassFile.FieldType)).before args0 about1 = true := code_word (m := ⟨8, 19⟩) (meth := k8m19) (c := k8c19) (by decide +kernel) rfl rfl rfl (by decide +kernel)
set_option maxRecDepth 65536 in
theorem w_c33 : (Jvm.Cond.code ({ cls := "java/lang/StringUTF16", name := "length", desc := "([B)I" } : Jvm.MethodName) jdk_52_method_6_code (1 : Nat) (Option.some Jvm.ClassFile.FieldType.int)).before args0 about1 = true := code_word (m := ⟨8, 5⟩) (meth := k8m5) (c := k8c5) (by decide +kernel) rfl rfl rfl (by decide +kernel)
set_option maxRecDepth 65536 in
theorem w_c34 : (Jvm.Cond.code ({ cls := "java/lang/String", name := "checkIndex", desc := "(II)V" } : Jvm.MethodName) jdk_42_method_155_code (2 : Nat) (Option.none : Option Jvm.ClassFile.FieldType)).before args0 about1 = true := code_word (m := ⟨7, 15⟩) (meth := k7m15) (c := k7c15) (by decide +kernel) rfl rfl rfl (by decide +kernel)
set_option maxRecDepth 65536 in
theorem w_c35 : (Jvm.Cond.code ({ cls := "jdk/internal/util/Preconditions", name := "checkIndex", desc := "(IILjava/util/function/BiFunction;)I" } : Jvm.MethodName) jdk_41_method_11_code (3 : Nat) (Option.some Jvm.ClassFile.FieldType.int)).before args0 about1 = true := code_word (m := ⟨11, 1⟩) (meth := k11m1) (c := k11c1) (by decide +kernel) rfl rfl rfl (by decide +kernel)
set_option maxRecDepth 65536 in
theorem w_c36 : (Jvm.Cond.code ({ cls := "java/lang/String", name := "substring", desc := "(II)Ljava/lang/String;" } : Jvm.MethodName) jdk_42_method_92_code (5 : Nat) (Option.some (Jvm.ClassFile.FieldType.object "java/lang/String"))).before args0 about1 = true := code_word (m := ⟨7, 8⟩) (meth := k7m8) (c := k7c8) (by decide +kernel) rfl rfl rfl (by decide +kernel)
set_option maxRecDepth 65536 in
theorem w_c37 : (Jvm.Cond.code ({ cls := "java/lang/String", name := "checkBoundsBeginEnd", desc := "(III)V" } : Jvm.MethodName) jdk_42_method_158_code (3 : Nat) (Option.none : Option Jvm.ClassFile.FieldType)).before args0 about1 = true := code_word (m := ⟨7, 17⟩) (meth := k7m17) (c := k7c17) (by decide +kernel) rfl rfl rfl (by decide +kernel)
set_option maxRecDepth 65536 in
theorem w_c38 : (Jvm.Cond.code ({ cls := "java/lang/StringUTF16", name := "newString", desc := "([BII)Ljava/lang/String;" } : Jvm.MethodName) jdk_52_method_69_code (5 : Nat) (Option.some (Jvm.ClassFile.FieldType.object "java/lang/String"))).before args0 about1 = true := code_word (m := ⟨8, 14⟩) (meth := k8m14) (c := k8c14) (by decide +kernel) rfl rfl rfl (by decide +kernel)
set_option maxRecDepth 65536 in
theorem w_c39 : (Jvm.Cond.code ({ cls := "java/lang/StringUTF16", name := "compress", desc := "([BII)[B" } : Jvm.MethodName) jdk_52_method_17_code (6 : Nat) (Option.some (Jvm.ClassFile.FieldType.array Jvm.ClassFile.FieldType.byte))).before args0 about1 = true := code_word (m := ⟨8, 11⟩) (meth := k8m11) (c := k8c11) (by decide +kernel) rfl rfl rfl (by decide +kernel)
set_option maxRecDepth 65536 in
theorem w_c40 : (Jvm.Cond.code ({ cls := "java/lang/StringUTF16", name := "compress", desc := "([BI[BII)I" } : Jvm.MethodName) jdk_52_method_22_code (7 : Nat) (Option.some Jvm.ClassFile.FieldType.int)).before args0 about1 = true := code_word (m := ⟨8, 13⟩) (meth := k8m13) (c := k8c13) (by decide +kernel) rfl rfl rfl (by decide +kernel)
set_option maxRecDepth 65536 in
theorem w_c41 : (Jvm.Cond.code ({ cls := "java/lang/StringUTF16", name := "checkBoundsOffCount", desc := "(II[B)V" } : Jvm.MethodName) jdk_52_method_94_code (3 : Nat) (Option.none : Option Jvm.ClassFile.FieldType)).before args0 about1 = true := code_word (m := ⟨8, 21⟩) (meth := k8m21) (c := k8c21) (by decide +kernel) rfl rfl rfl (by decide +kernel)
set_option maxRecDepth 65536 in
theorem w_c42 : (Jvm.Cond.code ({ cls := "java/lang/String", name := "checkBoundsOffCount", desc := "(III)I" } : Jvm.MethodName) jdk_42_method_157_code (3 : Nat) (Option.some Jvm.ClassFile.FieldType.int)).before args0 about1 = true := code_word (m := ⟨7, 16⟩) (meth := k7m16) (c := k7c16) (by decide +kernel) rfl rfl rfl (by decide +kernel)
set_option maxRecDepth 65536 in
theorem w_c43 : (Jvm.Cond.code ({ cls := "jdk/internal/util/Preconditions", name := "checkFromIndexSize", desc := "(IIILjava/util/function/BiFunction;)I" } : Jvm.MethodName) jdk_41_method_13_code (4 : Nat) (Option.some Jvm.ClassFile.FieldType.int)).before args0 about1 = true := code_word (m := ⟨11, 3⟩) (meth := k11m3) (c := k11c3) (by decide +kernel) rfl rfl rfl (by decide +kernel)
set_option maxRecDepth 65536 in
theorem w_c44 : (Jvm.Cond.code ({ cls := "java/util/Arrays", name := "copyOfRange", desc := "([BII)[B" } : Jvm.MethodName) jdk_65_method_132_code (3 : Nat) (Option.some (Jvm.ClassFile.FieldType.array Jvm.ClassFile.FieldType.byte))).before args0 about1 = true := code_word (m := ⟨16, 3⟩) (meth := k16m3) (c := k16c3) (by decide +kernel) rfl rfl rfl (by decide +kernel)
set_option maxRecDepth 65536 in
theorem w_c45 : (Jvm.Cond.code ({ cls := "java/util/Arrays", name := "copyOfRangeByte", desc := "([BII)[B" } : Jvm.MethodName) jdk_65_method_133_code (5 : Nat) (Option.some (Jvm.ClassFile.FieldType.array Jvm.ClassFile.FieldType.byte))).before args0 about1 = true := code_word (m := ⟨16, 4⟩) (meth := k16m4) (c := k16c4) (by decide +kernel) rfl rfl rfl (by decide +kernel)
set_option maxRecDepth 65536 in
theorem w_c46 : (Jvm.Cond.code ({ cls := "java/util/Arrays", name := "checkLength", desc := "(II)V" } : Jvm.MethodName) jdk_65_method_131_code (2 : Nat) (Option.none : Option Jvm.ClassFile.FieldType)).before args0 about1 = true := code_word (m := ⟨16, 2⟩) (meth := k16m2) (c := k16c2) (by decide +kernel) rfl rfl rfl (by decide +kernel)
set_option maxRecDepth 65536 in
theorem w_c47 : (Jvm.Cond.code ({ cls := "java/lang/Math", name := "min", desc := "(II)I" } : Jvm.MethodName) jdk_29_method_69_code (2 : Nat) (Option.some Jvm.ClassFile.FieldType.int)).before args0 about1 = true := code_word (m := ⟨17, 2⟩) (meth := k17m2) (c := k17c2) (by decide +kernel) rfl rfl rfl (by decide +kernel)
set_option maxRecDepth 65536 in
theorem w_c48 : (Jvm.Cond.code ({ cls := "java/lang/String", name := "<init>", desc := "([BB)V" } : Jvm.MethodName) jdk_42_method_151_code (3 : Nat) (Option.none : Option Jvm.ClassFile.FieldType)).before args0 about1 = true := code_word (m := ⟨7, 12⟩) (meth := k7m12) (c := k7c12) (by decide +kernel) rfl rfl rfl (by decide +kernel)
set_option maxRecDepth 65536 in
theorem w_c49 : (Jvm.Cond.code ({ cls := "java/lang/StringBuilder", name := "append", desc := "(Ljava/lang/String;)Ljava/lang/StringBuilder;" } : Jvm.MethodName) jdk_67_method_7_code (2 : Nat) (Option.some (Jvm.ClassFile.FieldType.object "java/lang/StringBuilder"))).before args0 about1 = true := code_word (m := ⟨15, 1⟩) (meth := k15m1) (c := k15c1) (by decide +kernel) rfl rfl rfl (by decide +kernel)
set_option maxRecDepth 65536 in
theorem w_c50 : (Jvm.Cond.code ({ cls := "java/lang/AbstractStringBuilder", name := "append", desc := "(Ljava/lang/String;)Ljava/lang/AbstractStringBuilder;" } : Jvm.MethodName) jdk_68_method_22_code (3 : Nat) (Option.some (Jvm.ClassFile.FieldType.object "java/lang/AbstractStringBuilder"))).before args0 about1 = true := code_word (m := ⟨14, 6⟩) (meth := k14m6) (c := k14c6) (by decide +kernel) rfl rfl rfl (by decide +kernel)
set_option maxRecDepth 65536 in
theorem w_c51 : (Jvm.Cond.code ({ cls := "java/lang/AbstractStringBuilder", name := "ensureCapacityInternal", desc := "(I)V" } : Jvm.MethodName) jdk_68_method_9_code (3 : Nat) (Option.none : Option Jvm.ClassFile.FieldType)).before args0 about1 = true := code_word (m := ⟨14, 3⟩) (meth := k14m3) (c := k14c3) (by decide +kernel) rfl rfl rfl (by decide +kernel)
set_option maxRecDepth 65536 in
theorem w_c52 : (Jvm.Cond.code ({ cls := "java/lang/AbstractStringBuilder", name := "newCapacity", desc := "(I)I" } : Jvm.MethodName) jdk_68_method_10_code (6 : Nat) (Option.some Jvm.ClassFile.FieldType.int)).before args0 about1 = true := code_word (m := ⟨14, 4⟩) (meth := k14m4) (c := k14c4) (by decide +kernel) rfl rfl rfl (by decide +kernel)
set_option maxRecDepth 65536 in
theorem w_c53 : (Jvm.Cond.code ({ cls := "jdk/internal/util/ArraysSupport", name := "newLength", desc := "(III)I" } : Jvm.MethodName) jdk_48_method_27_code (4 : Nat) (Option.some Jvm.ClassFile.FieldType.int)).before args0 about1 = true := code_word (m := ⟨19, 1⟩) (meth := k19m1) (c := k19c1) (by decide +kernel) rfl rfl rfl (by decide +kernel)
set_option maxRecDepth 65536 in
theorem w_c54 : (Jvm.Cond.code ({ cls := "java/lang/Math", name := "max", desc := "(II)I" } : Jvm.MethodName) jdk_29_method_65_code (2 : Nat) (Option.some Jvm.ClassFile.FieldType.int)).before args0 about1 = true := code_word (m := ⟨17, 1⟩) (meth := k17m1) (c := k17c1) (by decide +kernel) rfl rfl rfl (by decide +kernel)
set_option maxRecDepth 65536 in
theorem w_c55 : (Jvm.Cond.code ({ cls := "java/util/Arrays", name := "copyOf", desc := "([BI)[B" } : Jvm.MethodName) jdk_65_method_121_code (3 : Nat) (Option.some (Jvm.ClassFile.FieldType.array Jvm.ClassFile.FieldType.byte))).before args0 about1 = true := code_word (m := ⟨16, 1⟩) (meth := k16m1) (c := k16c1) (by decide +kernel) rfl rfl rfl (by decide +kernel)
set_option maxRecDepth 65536 in
theorem w_c56 : (Jvm.Cond.code ({ cls := "java/lang/AbstractStringBuilder", name := "putStringAt", desc := "(ILjava/lang/String;)V" } : Jvm.MethodName) jdk_68_method_73_code (3 : Nat) (Option.none : Option Jvm.ClassFile.FieldType)).before args0 about1 = true := code_word (m := ⟨14, 11⟩) (meth := k14m11) (c := k14c11) (by decide +kernel) rfl rfl rfl (by decide +kernel)
set_option maxRecDepth 65536 in
theorem w_c57 : (Jvm.Cond.code ({ cls := "java/lang/AbstractStringBuilder", name := "inflateIfNeededFor", desc := "(Ljava/lang/String;)V" } : Jvm.MethodName) jdk_68_method_71_code (2 : Nat) (Option.none : Option Jvm.ClassFile.FieldType)).before args0 about1 = true := code_word (m := ⟨14, 10⟩) (meth := k14m10) (c := k14c10) (by decide +kernel) rfl rfl rfl (by decide +kernel)
set_option maxRecDepth 65536 in
theorem w_c58 : (Jvm.Cond.code ({ cls := "java/lang/AbstractStringBuilder", name := "inflate", desc := "()V" } : Jvm.MethodName) jdk_68_method_11_code (2 : Nat) (Option.none : Option Jvm.ClassFile.FieldType)).before args0 about1 = true := code_word (m := ⟨14, 5⟩) (meth := k14m5) (c := k14c5) (by decide +kernel) rfl rfl rfl (by decide +kernel)
set_option maxRecDepth 65536 in
theorem w_c59 : (Jvm.Cond.code ({ cls := "java/lang/AbstractStringBuilder", name := "isLatin1", desc := "()Z" } : Jvm.MethodName) jdk_68_method_68_code (1 : Nat) (Option.some Jvm.ClassFile.FieldType.boolean)).before args0 about1 = true := code_word (m := ⟨14, 9⟩) (meth := k14m9) (c := k14c9) (by decide +kernel) rfl rfl rfl (by decide +kernel)
set_option maxRecDepth 65536 in
theorem w_c60 : (Jvm.Cond.code ({ cls := "java/lang/StringLatin1", name := "inflate", desc := "([BI[BII)V" } : Jvm.MethodName) jdk_43_method_50_code (5 : Nat) (Option.none : Option Jvm.ClassFile.FieldType)).before args0 about1 = true := code_word (m := ⟨20, 4⟩) (meth := k20m4) (c := k20c4) (by decide +kernel) rfl rfl rfl (by decide +kernel)
set_option maxRecDepth 65536 in
theorem w_c61 : (Jvm.Cond.code ({ cls := "java/lang/StringUTF16", name := "inflate", desc := "([BI[BII)V" } : Jvm.MethodName) jdk_52_method_86_code (6 : Nat) (Option.none : Option Jvm.ClassFile.FieldType)).before args0 about1 = true := code_word (m := ⟨8, 17⟩) (meth := k8m17) (c := k8c17) (by decide +kernel) rfl rfl rfl (by decide +kernel)
set_option maxRecDepth 65536 in
theorem w_c62 : (Jvm.Cond.code ({ cls := "java/lang/String", name := "getBytes", desc := "([BIB)V" } : Jvm.MethodName) jdk_42_method_147_code (4 : Nat) (Option.none : Option Jvm.ClassFile.FieldType)).before args0 about1 = true := code_word (m := ⟨7, 9⟩) (meth := k7m9) (c := k7c9) (by decide +kernel) rfl rfl rfl (by decide +kernel)
set_option maxRecDepth 65536 in
theorem w_c63 : (Jvm.Cond.code ({ cls := "java/lang/StringBuilder", name := "append", desc := "(I)Ljava/lang/StringBuilder;" } : Jvm.MethodName) jdk_67_method_15_code (2 : Nat) (Option.some (Jvm.ClassFile.FieldType.object "java/lang/StringBuilder"))).before args0 about1 = true := code_word (m := ⟨15, 2⟩) (meth := k15m2) (c := k15c2) (by decide +kernel) rfl rfl rfl (by decide +kernel)
set_option maxRecDepth 65536 in
theorem w_c64 : (Jvm.Cond.code ({ cls := "java/lang/AbstractStringBuilder", name := "append", desc := "(I)Ljava/lang/AbstractStringBuilder;" } : Jvm.MethodName) jdk_68_method_32_code (4 : Nat) (Option.some (Jvm.ClassFile.FieldType.object "java/lang/AbstractStringBuilder"))).before args0 about1 = true := code_word (m := ⟨14, 7⟩) (meth := k14m7) (c := k14c7) (by decide +kernel) rfl rfl rfl (by decide +kernel)
set_option maxRecDepth 65536 in
theorem w_c65 : (Jvm.Cond.code ({ cls := "java/lang/Integer", name := "stringSize", desc := "(I)I" } : Jvm.MethodName) jdk_33_method_13_code (4 : Nat) (Option.some Jvm.ClassFile.FieldType.int)).before args0 about1 = true := code_word (m := ⟨22, 1⟩) (meth := k22m1) (c := k22c1) (by decide +kernel) rfl rfl rfl (by decide +kernel)
set_option maxRecDepth 65536 in
theorem w_c66 : (Jvm.Cond.code ({ cls := "java/lang/StringUTF16", name := "getChars", desc := "(III[B)I" } : Jvm.MethodName) jdk_52_method_77_code (5 : Nat) (Option.some Jvm.ClassFile.FieldType.int)).before args0 about1 = true := code_word (m := ⟨8, 15⟩) (meth := k8m15) (c := k8c15) (by decide +kernel) rfl rfl rfl (by decide +kernel)
set_option maxRecDepth 65536 in
theorem w_c67 : (Jvm.Cond.code ({ cls := "java/lang/StringUTF16", name := "checkBoundsBeginEnd", desc := "(II[B)V" } : Jvm.MethodName) jdk_52_method_93_code (3 : Nat) (Option.none : Option Jvm.ClassFile.FieldType)).before args0 about1 = true := code_word (m := ⟨8, 20⟩) (meth := k8m20) (c := k8c20) (by decide +kernel) rfl rfl rfl (by decide +kernel)
set_option maxRecDepth 65536 in
theorem w_c68 : (Jvm.Cond.code ({ cls := "java/lang/StringUTF16", name := "getChars", desc := "(II[B)I" } : Jvm.MethodName) jdk_52_method_89_code (7 : Nat) (Option.some Jvm.ClassFile.FieldType.int)).before args0 about1 = true := code_word (m := ⟨8, 18⟩) (meth := k8m18) (c := k8c18) (by decide +kernel) rfl rfl rfl (by decide +kernel)
set_option maxRecDepth 65536 in
theorem w_c69 : (Jvm.Cond.code ({ cls := "java/lang/StringBuilder", name := "toString", desc := "()Ljava/lang/String;" } : Jvm.MethodName) jdk_67_method_42_code (1 : Nat) (Option.some (Jvm.ClassFile.FieldType.object "java/lang/String"))).before args0 about1 = true := code_word (m := ⟨15, 3⟩) (meth := k15m3) (c := k15c3) (by decide +kernel) rfl rfl rfl (by decide +kernel)
set_option maxRecDepth 65536 in
theorem w_c70 : (Jvm.Cond.code ({ cls := "java/lang/String", name := "<init>", desc := "(Ljava/lang/StringBuilder;)V" } : Jvm.MethodName) jdk_42_method_53_code (2 : Nat) (Option.none : Option Jvm.ClassFile.FieldType)).before args0 about1 = true := code_word (m := ⟨7, 2⟩) (meth := k7m2) (c := k7c2) (by decide +kernel) rfl rfl rfl (by decide +kernel)
set_option maxRecDepth 65536 in
theorem w_c71 : (Jvm.Cond.code ({ cls := "java/lang/String", name := "<init>", desc := "(Ljava/lang/AbstractStringBuilder;Ljava/lang/Void;)V" } : Jvm.MethodName) jdk_42_method_150_code (5 : Nat) (Option.none : Option Jvm.ClassFile.FieldType)).before args0 about1 = true := code_word (m := ⟨7, 11⟩) (meth := k7m11) (c := k7c11) (by decide +kernel) rfl rfl rfl (by decide +kernel)
set_option maxRecDepth 65536 in
theorem w_c72 : (Jvm.Cond.code ({ cls := "java/lang/AbstractStringBuilder", name := "getValue", desc := "()[B" } : Jvm.MethodName) jdk_68_method_64_code (1 : Nat) (Option.some (Jvm.ClassFile.FieldType.array Jvm.ClassFile.FieldType.byte))).before args0 about1 = true := code_word (m := ⟨14, 8⟩) (meth := k14m8) (c := k14c8) (by decide +kernel) rfl rfl rfl (by decide +kernel)
set_option maxRecDepth 65536 in
theorem w_c73 : (Jvm.Cond.code ({ cls := "java/lang/StringBuilder", name := "length", desc := "()I" } : Jvm.MethodName) jdk_67_method_93_code (1 : Nat) (Option.some Jvm.ClassFile.FieldType.int)).before args0 about1 = true := code_word (m := ⟨15, 4⟩) (meth := k15m4) (c := k15c4) (by decide +kernel) rfl rfl rfl (by decide +kernel)
set_option maxRecDepth 65536 in
theorem w_c74 : (Jvm.Cond.code ({ cls := "java/lang/AbstractStringBuilder", name := "length", desc := "()I" } : Jvm.MethodName) jdk_68_method_6_code (1 : Nat) (Option.some Jvm.ClassFile.FieldType.int)).before args0 about1 = true := code_word (m := ⟨14, 2⟩) (meth := k14m2) (c := k14c2) (by decide +kernel) rfl rfl rfl (by decide +kernel)
set_option maxRecDepth 65536 in
theorem w_c75 : (Jvm.Cond.code ({ cls := "com/example/gearline/gearline/data/ValuesShownPinLaw", name := "suffix", desc := "([CIII)V" } : Jvm.MethodName) method_5_code (5 : Nat) (Option.none : Option Jvm.ClassFile.FieldType)).before args0 about1 = true := code_word (m := ⟨1, 4⟩) (meth := k1m4) (c := k1c4) (by decide +kernel) rfl rfl rfl (by decide +kernel)
set_option maxRecDepth 65536 in
theorem w_c76 : (Jvm.Cond.code ({ cls := "java/lang/StringLatin1", name := "equals", desc := "([B[B)Z" } : Jvm.MethodName) jdk_43_method_13_code (3 : Nat) (Option.some Jvm.ClassFile.FieldType.boolean)).before args0 about1 = true := code_word (m := ⟨20, 2⟩) (meth := k20m2) (c := k20c2) (by decide +kernel) rfl rfl rfl (by decide +kernel)
set_option maxRecDepth 65536 in
theorem w_c77 : (Jvm.Cond.code ({ cls := "java/lang/StringLatin1", name := "charAt", desc := "([BI)C" } : Jvm.MethodName) jdk_43_method_2_code (2 : Nat) (Option.some Jvm.ClassFile.FieldType.char)).before args0 about1 = true := code_word (m := ⟨20, 1⟩) (meth := k20m1) (c := k20c1) (by decide +kernel) rfl rfl rfl (by decide +kernel)
set_option maxRecDepth 65536 in
theorem w_c78 : (Jvm.Cond.code ({ cls := "java/lang/StringLatin1", name := "newString", desc := "([BII)Ljava/lang/String;" } : Jvm.MethodName) jdk_43_method_47_code (3 : Nat) (Option.some (Jvm.ClassFile.FieldType.object "java/lang/String"))).before args0 about1 = true := code_word (m := ⟨20, 3⟩) (meth := k20m3) (c := k20c3) (by decide +kernel) rfl rfl rfl (by decide +kernel)
set_option maxRecDepth 65536 in
theorem w_c79 : (Jvm.Cond.code ({ cls := "java/lang/Integer", name := "getChars", desc := "(II[B)I" } : Jvm.MethodName) jdk_33_method_12_code (7 : Nat) (Option.some Jvm.ClassFile.FieldType.int)).before args0 about1 = true := code_word (m := ⟨22, 0⟩) (meth := k22m0) (c := k22c0) (by decide +kernel) rfl rfl rfl (by decide +kernel)
def codes1 : List Jvm.Cond := [Jvm.Cond.code x code maxLocals ret, Jvm.Cond.code ({ cls := "com/example/gearline/gearline/data/ValuesShownPinLaw", name := "fill", desc := "([CIIIZICC)V" } : Jvm.MethodName) method_4_code (8 : Nat) (Option.none : Option Jvm.ClassFile.FieldType), Jvm.Cond.code ({ cls := "com/example/gearline/gearline/data/ValuesShownPinLaw", name := "put", desc := "([CIIC)V" } : Jvm.MethodName) method_3_code (4 : Nat) (Option.none : Option Jvm.ClassFile.FieldType), Jvm.Cond.code ({ cls := "java/lang/String", name := "<init>", desc := "([C)V" } : Jvm.MethodName) jdk_42_method_3_code (2 : Nat) (Option.none : Option Jvm.ClassFile.FieldType), Jvm.Cond.code ({ cls := "java/lang/String", name := "<init>", desc := "([CIILjava/lang/Void;)V" } : Jvm.MethodName) jdk_42_method_149_code (6 : Nat) (Option.none : Option Jvm.ClassFile.FieldType), Jvm.Cond.code ({ cls := "java/lang/Object", name := "<init>", desc := "()V" } : Jvm.MethodName) object_method_1_code (1 : Nat) (Option.none : Option Jvm.ClassFile.FieldType), Jvm.Cond.code ({ cls := "java/lang/StringUTF16", name := "compress", desc := "([CII)[B" } : Jvm.MethodName) jdk_52_method_16_code (6 : Nat) (Option.some (Jvm.ClassFile.FieldType.array Jvm.ClassFile.FieldType.byte)), Jvm.Cond.code ({ cls := "java/lang/StringUTF16", name := "compress", desc := "([CI[BII)I" } : Jvm.MethodName) jdk_52_method_21_code (7 : Nat) (Option.some Jvm.ClassFile.FieldType.int), Jvm.Cond.code ({ cls := "java/lang/StringUTF16", name := "coderFromArrayLen", desc := "([BI)B" } : Jvm.MethodName) jdk_52_method_15_code (2 : Nat) (Option.some Jvm.ClassFile.FieldType.byte), Jvm.Cond.code ({ cls := "com/example/gearline/gearline/data/Values", name := "shown", desc := "(Ljava/lang/String;)Ljava/lang/String;" } : Jvm.MethodName) prog_32_method_2_code (2 : Nat) (Option.some (Jvm.ClassFile.FieldType.object "java/lang/String")), Jvm.Cond.code ({ cls := "java/lang/String", name := "length", desc := "()I" } : Jvm.MethodName) jdk_42_method_54_code (1 : Nat) (Option.some Jvm.ClassFile.FieldType.int), Jvm.Cond.code ({ cls := "java/lang/String", name := "coder", desc := "()B" } : Jvm.MethodName) jdk_42_method_152_code (1 : Nat) (Option.some Jvm.ClassFile.FieldType.byte), Jvm.Cond.code ({ cls := "java/lang/String", name := "codePointCount", desc := "(II)I" } : Jvm.MethodName) jdk_42_method_59_code (3 : Nat) (Option.some Jvm.ClassFile.FieldType.int), Jvm.Cond.code ({ cls := "java/util/Objects", name := "checkFromToIndex", desc := "(III)I" } : Jvm.MethodName) jdk_31_method_18_code (3 : Nat) (Option.some Jvm.ClassFile.FieldType.int), Jvm.Cond.code ({ cls := "jdk/internal/util/Preconditions", name := "checkFromToIndex", desc := "(IIILjava/util/function/BiFunction;)I" } : Jvm.MethodName) jdk_41_method_12_code (4 : Nat) (Option.some Jvm.ClassFile.FieldType.int), Jvm.Cond.code ({ cls := "java/lang/String", name := "isLatin1", desc := "()Z" } : Jvm.MethodName) jdk_42_method_154_code (1 : Nat) (Option.some Jvm.ClassFile.FieldType.boolean), Jvm.Cond.code ({ cls := "java/lang/String", name := "equals", desc := "(Ljava/lang/Object;)Z" } : Jvm.MethodName) jdk_42_method_66_code (3 : Nat) (Option.some Jvm.ClassFile.FieldType.boolean), Jvm.Cond.code ({ cls := "java/lang/StringUTF16", name := "toBytes", desc := "([CII)[B" } : Jvm.MethodName) jdk_52_method_14_code (5 : Nat) (Option.some (Jvm.ClassFile.FieldType.array Jvm.ClassFile.FieldType.byte)), Jvm.Cond.code ({ cls := "java/lang/StringUTF16", name := "newBytesFor", desc := "(I)[B" } : Jvm.MethodName) jdk_52_method_2_code (1 : Nat) (Option.some (Jvm.ClassFile.FieldType.array Jvm.ClassFile.FieldType.byte)), Jvm.Cond.code ({ cls := "java/lang/StringUTF16", name := "newBytesLength", desc := "(I)I" } : Jvm.MethodName) jdk_52_method_3_code (1 : Nat) (Option.some Jvm.ClassFile.FieldType.int), Jvm.Cond.code ({ cls := "java/lang/StringUTF16", name := "putChar", desc := "([BII)V" } : Jvm.MethodName) jdk_52_method_4_code (3 : Nat) (Option.none : Option Jvm.ClassFile.FieldType), Jvm.Cond.code ({ cls := "java/lang/StringUTF16", name := "getChar", desc := "([BI)C" } : Jvm.MethodName) jdk_52_method_5_code (2 : Nat) (Option.some Jvm.ClassFile.FieldType.char), Jvm.Cond.code ({ cls := "java/lang/StringUTF16", name := "codePointCount", desc := "([BII)I" } : Jvm.MethodName) jdk_52_method_12_code (3 : Nat) (Option.some Jvm.ClassFile.FieldType.int), Jvm.Cond.code ({ cls := "java/lang/StringUTF16", name := "codePointCount", desc := "([BIIZ)I" } : Jvm.MethodName) jdk_52_method_11_code (6 : Nat) (Option.some Jvm.ClassFile.FieldType.int), Jvm.Cond.code ({ cls := "java/lang/Character", name := "isHighSurrogate", desc := "(C)Z" } : Jvm.MethodName) jdk_89_method_14_code (1 : Nat) (Option.some Jvm.ClassFile.FieldType.boolean), Jvm.Cond.code ({ cls := "java/lang/Character", name := "isLowSurrogate", desc := "(C)Z" } : Jvm.MethodName) jdk_89_method_15_code (1 : Nat) (Option.some Jvm.ClassFile.FieldType.boolean), Jvm.Cond.code ({ cls := "java/lang/StringBuilder", name := "<init>", desc := "()V" } : Jvm.MethodName) jdk_67_method_1_code (1 : Nat) (Option.none : Option Jvm.ClassFile.FieldType), Jvm.Cond.code ({ cls := "java/lang/AbstractStringBuilder", name := "<init>", desc := "(I)V" } : Jvm.MethodName) jdk_68_method_2_code (2 : Nat) (Option.none : Option Jvm.ClassFile.FieldType), Jvm.Cond.code ({ cls := "java/lang/String", name := "offsetByCodePoints", desc := "(II)I" } : Jvm.MethodName) jdk_42_method_60_code (3 : Nat) (Option.some Jvm.ClassFile.FieldType.int), Jvm.Cond.code ({ cls := "java/lang/Character", name := "offsetByCodePoints", desc := "(Ljava/lang/CharSequence;II)I" } : Jvm.MethodName) jdk_89_method_36_code (6 : Nat) (Option.some Jvm.ClassFile.FieldType.int), Jvm.Cond.code ({ cls := "java/lang/String", name := "charAt", desc := "(I)C" } : Jvm.MethodName) jdk_42_method_56_code (2 : Nat) (Option.some Jvm.ClassFile.FieldType.char), Jvm.Cond.code ({ cls := "java/lang/StringUTF16", name := "charAt", desc := "([BI)C" } : Jvm.MethodName) jdk_52_method_83_code (2 : Nat) (Option.some Jvm.ClassFile.FieldType.char), Jvm.Cond.code ({ cls := "java/lang/StringUTF16", name := "checkIndex", desc := "(I[B)V" } : Jvm.MethodName) jdk_52_method_91_code (2 : Nat) (Option.none : Option Jvm.ClassFile.FieldType), Jvm.Cond.code ({ cls := "java/lang/StringUTF16", name := "length", desc := "([B)I" } : Jvm.MethodName) jdk_52_method_6_code (1 : Nat) (Option.some Jvm.ClassFile.FieldType.int), Jvm.Cond.code ({ cls := "java/lang/String", name := "checkIndex", desc := "(II)V" } : Jvm.MethodName) jdk_42_method_155_code (2 : Nat) (Option.none : Option Jvm.ClassFile.FieldType), Jvm.Cond.code ({ cls := "jdk/internal/util/Preconditions", name := "checkIndex", desc := "(IILjava/util/function/BiFunction;)I" } : Jvm.MethodName) jdk_41_method_11_code (3 : Nat) (Option.some Jvm.ClassFile.FieldType.int), Jvm.Cond.code ({ cls := "java/lang/String", name := "substring", desc := "(II)Ljava/lang/String;" } : Jvm.MethodName) jdk_42_method_92_code (5 : Nat) (Option.some (Jvm.ClassFile.FieldType.object "java/lang/String")), Jvm.Cond.code ({ cls := "java/lang/String", name := "checkBoundsBeginEnd", desc := "(III)V" } : Jvm.MethodName) jdk_42_method_158_code (3 : Nat) (Option.none : Option Jvm.ClassFile.FieldType), Jvm.Cond.code ({ cls := "java/lang/StringUTF16", name := "newString", desc := "([BII)Ljava/lang/String;" } : Jvm.MethodName) jdk_52_method_69_code (5 : Nat) (Option.some (Jvm.ClassFile.FieldType.object "java/lang/String")), Jvm.Cond.code ({ cls := "java/lang/StringUTF16", name := "compress", desc := "([BII)[B" } : Jvm.MethodName) jdk_52_method_17_code (6 : Nat) (Option.some (Jvm.ClassFile.FieldType.array Jvm.ClassFile.FieldType.byte)), Jvm.Cond.code ({ cls := "java/lang/StringUTF16", name := "compress", desc := "([BI[BII)I" } : Jvm.MethodName) jdk_52_method_22_code (7 : Nat) (Option.some Jvm.ClassFile.FieldType.int), Jvm.Cond.code ({ cls := "java/lang/StringUTF16", name := "checkBoundsOffCount", desc := "(II[B)V" } : Jvm.MethodName) jdk_52_method_94_code (3 : Nat) (Option.none : Option Jvm.ClassFile.FieldType), Jvm.Cond.code ({ cls := "java/lang/String", name := "checkBoundsOffCount", desc := "(III)I" } : Jvm.MethodName) jdk_42_method_157_code (3 : Nat) (Option.some Jvm.ClassFile.FieldType.int), Jvm.Cond.code ({ cls := "jdk/internal/util/Preconditions", name := "checkFromIndexSize", desc := "(IIILjava/util/function/BiFunction;)I" } : Jvm.MethodName) jdk_41_method_13_code (4 : Nat) (Option.some Jvm.ClassFile.FieldType.int), Jvm.Cond.code ({ cls := "java/util/Arrays", name := "copyOfRange", desc := "([BII)[B" } : Jvm.MethodName) jdk_65_method_132_code (3 : Nat) (Option.some (Jvm.ClassFile.FieldType.array Jvm.ClassFile.FieldType.byte)), Jvm.Cond.code ({ cls := "java/util/Arrays", name := "copyOfRangeByte", desc := "([BII)[B" } : Jvm.MethodName) jdk_65_method_133_code (5 : Nat) (Option.some (Jvm.ClassFile.FieldType.array Jvm.ClassFile.FieldType.byte)), Jvm.Cond.code ({ cls := "java/util/Arrays", name := "checkLength", desc := "(II)V" } : Jvm.MethodName) jdk_65_method_131_code (2 : Nat) (Option.none : Option Jvm.ClassFile.FieldType), Jvm.Cond.code ({ cls := "java/lang/Math", name := "min", desc := "(II)I" } : Jvm.MethodName) jdk_29_method_69_code (2 : Nat) (Option.some Jvm.ClassFile.FieldType.int), Jvm.Cond.code ({ cls := "java/lang/String", name := "<init>", desc := "([BB)V" } : Jvm.MethodName) jdk_42_method_151_code (3 : Nat) (Option.none : Option Jvm.ClassFile.FieldType), Jvm.Cond.code ({ cls := "java/lang/StringBuilder", name := "append", desc := "(Ljava/lang/String;)Ljava/lang/StringBuilder;" } : Jvm.MethodName) jdk_67_method_7_code (2 : Nat) (Option.some (Jvm.ClassFile.FieldType.object "java/lang/StringBuilder")), Jvm.Cond.code ({ cls := "java/lang/AbstractStringBuilder", name := "append", desc := "(Ljava/lang/String;)Ljava/lang/AbstractStringBuilder;" } : Jvm.MethodName) jdk_68_method_22_code (3 : Nat) (Option.some (Jvm.ClassFile.FieldType.object "java/lang/AbstractStringBuilder")), Jvm.Cond.code ({ cls := "java/lang/AbstractStringBuilder", name := "ensureCapacityInternal", desc := "(I)V" } : Jvm.MethodName) jdk_68_method_9_code (3 : Nat) (Option.none : Option Jvm.ClassFile.FieldType), Jvm.Cond.code ({ cls := "java/lang/AbstractStringBuilder", name := "newCapacity", desc := "(I)I" } : Jvm.MethodName) jdk_68_method_10_code (6 : Nat) (Option.some Jvm.ClassFile.FieldType.int), Jvm.Cond.code ({ cls := "jdk/internal/util/ArraysSupport", name := "newLength", desc := "(III)I" } : Jvm.MethodName) jdk_48_method_27_code (4 : Nat) (Option.some Jvm.ClassFile.FieldType.int), Jvm.Cond.code ({ cls := "java/lang/Math", name := "max", desc := "(II)I" } : Jvm.MethodName) jdk_29_method_65_code (2 : Nat) (Option.some Jvm.ClassFile.FieldType.int), Jvm.Cond.code ({ cls := "java/util/Arrays", name := "copyOf", desc := "([BI)[B" } : Jvm.MethodName) jdk_65_method_121_code (3 : Nat) (Option.some (Jvm.ClassFile.FieldType.array Jvm.ClassFile.FieldType.byte)), Jvm.Cond.code ({ cls := "java/lang/AbstractStringBuilder", name := "putStringAt", desc := "(ILjava/lang/String;)V" } : Jvm.MethodName) jdk_68_method_73_code (3 : Nat) (Option.none : Option Jvm.ClassFile.FieldType), Jvm.Cond.code ({ cls := "java/lang/AbstractStringBuilder", name := "inflateIfNeededFor", desc := "(Ljava/lang/String;)V" } : Jvm.MethodName) jdk_68_method_71_code (2 : Nat) (Option.none : Option Jvm.ClassFile.FieldType), Jvm.Cond.code ({ cls := "java/lang/AbstractStringBuilder", name := "inflate", desc := "()V" } : Jvm.MethodName) jdk_68_method_11_code (2 : Nat) (Option.none : Option Jvm.ClassFile.FieldType), Jvm.Cond.code ({ cls := "java/lang/AbstractStringBuilder", name := "isLatin1", desc := "()Z" } : Jvm.MethodName) jdk_68_method_68_code (1 : Nat) (Option.some Jvm.ClassFile.FieldType.boolean), Jvm.Cond.code ({ cls := "java/lang/StringLatin1", name := "inflate", desc := "([BI[BII)V" } : Jvm.MethodName) jdk_43_method_50_code (5 : Nat) (Option.none : Option Jvm.ClassFile.FieldType), Jvm.Cond.code ({ cls := "java/lang/StringUTF16", name := "inflate", desc := "([BI[BII)V" } : Jvm.MethodName) jdk_52_method_86_code (6 : Nat) (Option.none : Option Jvm.ClassFile.FieldType), Jvm.Cond.code ({ cls := "java/lang/String", name := "getBytes", desc := "([BIB)V" } : Jvm.MethodName) jdk_42_method_147_code (4 : Nat) (Option.none : Option Jvm.ClassFile.FieldType), Jvm.Cond.code ({ cls := "java/lang/StringBuilder", name := "append", desc := "(I)Ljava/lang/StringBuilder;" } : Jvm.MethodName) jdk_67_method_15_code (2 : Nat) (Option.some (Jvm.ClassFile.FieldType.object "java/lang/StringBuilder")), Jvm.Cond.code ({ cls := "java/lang/AbstractStringBuilder", name := "append", desc := "(I)Ljava/lang/AbstractStringBuilder;" } : Jvm.MethodName) jdk_68_method_32_code (4 : Nat) (Option.some (Jvm.ClassFile.FieldType.object "java/lang/AbstractStringBuilder")), Jvm.Cond.code ({ cls := "java/lang/Integer", name := "stringSize", desc := "(I)I" } : Jvm.MethodName) jdk_33_method_13_code (4 : Nat) (Option.some Jvm.ClassFile.FieldType.int), Jvm.Cond.code ({ cls := "java/lang/StringUTF16", name := "getChars", desc := "(III[B)I" } : Jvm.MethodName) jdk_52_method_77_code (5 : Nat) (Option.some Jvm.ClassFile.FieldType.int), Jvm.Cond.code ({ cls := "java/lang/StringUTF16", name := "checkBoundsBeginEnd", desc := "(II[B)V" } : Jvm.MethodName) jdk_52_method_93_code (3 : Nat) (Option.none : Option Jvm.ClassFile.FieldType), Jvm.Cond.code ({ cls := "java/lang/StringUTF16", name := "getChars", desc := "(II[B)I" } : Jvm.MethodName) jdk_52_method_89_code (7 : Nat) (Option.some Jvm.ClassFile.FieldType.int), Jvm.Cond.code ({ cls := "java/lang/StringBuilder", name := "toString", desc := "()Ljava/lang/String;" } : Jvm.MethodName) jdk_67_method_42_code (1 : Nat) (Option.some (Jvm.ClassFile.FieldType.object "java/lang/String")), Jvm.Cond.code ({ cls := "java/lang/String", name := "<init>", desc := "(Ljava/lang/StringBuilder;)V" } : Jvm.MethodName) jdk_42_method_53_code (2 : Nat) (Option.none : Option Jvm.ClassFile.FieldType), Jvm.Cond.code ({ cls := "java/lang/String", name := "<init>", desc := "(Ljava/lang/AbstractStringBuilder;Ljava/lang/Void;)V" } : Jvm.MethodName) jdk_42_method_150_code (5 : Nat) (Option.none : Option Jvm.ClassFile.FieldType), Jvm.Cond.code ({ cls := "java/lang/AbstractStringBuilder", name := "getValue", desc := "()[B" } : Jvm.MethodName) jdk_68_method_64_code (1 : Nat) (Option.some (Jvm.ClassFile.FieldType.array Jvm.ClassFile.FieldType.byte)), Jvm.Cond.code ({ cls := "java/lang/StringBuilder", name := "length", desc := "()I" } : Jvm.MethodName) jdk_67_method_93_code (1 : Nat) (Option.some Jvm.ClassFile.FieldType.int), Jvm.Cond.code ({ cls := "java/lang/AbstractStringBuilder", name := "length", desc := "()I" } : Jvm.MethodName) jdk_68_method_6_code (1 : Nat) (Option.some Jvm.ClassFile.FieldType.int), Jvm.Cond.code ({ cls := "com/example/gearline/gearline/data/ValuesShownPinLaw", name := "suffix", desc := "([CIII)V" } : Jvm.MethodName) method_5_code (5 : Nat) (Option.none : Option Jvm.ClassFile.FieldType), Jvm.Cond.code ({ cls := "java/lang/StringLatin1", name := "equals", desc := "([B[B)Z" } : Jvm.MethodName) jdk_43_method_13_code (3 : Nat) (Option.some Jvm.ClassFile.FieldType.boolean), Jvm.Cond.code ({ cls := "java/lang/StringLatin1", name := "charAt", desc := "([BI)C" } : Jvm.MethodName) jdk_43_method_2_code (2 : Nat) (Option.some Jvm.ClassFile.FieldType.char), Jvm.Cond.code ({ cls := "java/lang/StringLatin1", name := "newString", desc := "([BII)Ljava/lang/String;" } : Jvm.MethodName) jdk_43_method_47_code (3 : Nat) (Option.some (Jvm.ClassFile.FieldType.object "java/lang/String")), Jvm.Cond.code ({ cls := "java/lang/Integer", name := "getChars", desc := "(II[B)I" } : Jvm.MethodName) jdk_33_method_12_code (7 : Nat) (Option.some Jvm.ClassFile.FieldType.int)]
set_option maxRecDepth 65536 in
theorem codes_eq : words1.filter isCode = codes1 := rfl
theorem w_codes : ∀ c ∈ words1.filter isCode, c.before args0 about1 = true := by
  rw [codes_eq]
  intro c hc
  simp only [codes1, List.mem_cons, List.not_mem_nil, or_false] at hc
  rcases hc with rfl | rfl | rfl | rfl | rfl | rfl | rfl | rfl | rfl | rfl | rfl | rfl | rfl | rfl | rfl | rfl | rfl | rfl | rfl | rfl | rfl | rfl | rfl | rfl | rfl | rfl | rfl | rfl | rfl | rfl | rfl | rfl | rfl | rfl | rfl | rfl | rfl | rfl | rfl | rfl | rfl | rfl | rfl | rfl | rfl | rfl | rfl | rfl | rfl | rfl | rfl | rfl | rfl | rfl | rfl | rfl | rfl | rfl | rfl | rfl | rfl | rfl | rfl | rfl | rfl | rfl | rfl | rfl | rfl | rfl | rfl | rfl | rfl | rfl | rfl | rfl | rfl | rfl | rfl | rfl
  · exact w_c0
  · exact w_c1
  · exact w_c2
  · exact w_c3
  · exact w_c4
  · exact w_c5
  · exact w_c6
  · exact w_c7
  · exact w_c8
  · exact w_c9
  · exact w_c10
  · exact w_c11
  · exact w_c12
  · exact w_c13
  · exact w_c14
  · exact w_c15
  · exact w_c16
  · exact w_c17
  · exact w_c18
  · exact w_c19
  · exact w_c20
  · exact w_c21
  · exact w_c22
  · exact w_c23
  · exact w_c24
  · exact w_c25
  · exact w_c26
  · exact w_c27
  · exact w_c28
  · exact w_c29
  · exact w_c30
  · exact w_c31
  · exact w_c32
  · exact w_c33
  · exact w_c34
  · exact w_c35
  · exact w_c36
  · exact w_c37
  · exact w_c38
  · exact w_c39
  · exact w_c40
  · exact w_c41
  · exact w_c42
  · exact w_c43
  · exact w_c44
  · exact w_c45
  · exact w_c46
  · exact w_c47
  · exact w_c48
  · exact w_c49
  · exact w_c50
  · exact w_c51
  · exact w_c52
  · exact w_c53
  · exact w_c54
  · exact w_c55
  · exact w_c56
  · exact w_c57
  · exact w_c58
  · exact w_c59
  · exact w_c60
  · exact w_c61
  · exact w_c62
  · exact w_c63
  · exact w_c64
  · exact w_c65
  · exact w_c66
  · exact w_c67
  · exact w_c68
  · exact w_c69
  · exact w_c70
  · exact w_c71
  · exact w_c72
  · exact w_c73
  · exact w_c74
  · exact w_c75
  · exact w_c76
  · exact w_c77
  · exact w_c78
  · exact w_c79
set_option maxRecDepth 65536 in
theorem w_t1 : (words1.take 24).all (fun c => isCode c || c.before args0 about1) = true := by decide +kernel
set_option maxRecDepth 65536 in
theorem w_t2 : ((words1.drop 24).take 24).all (fun c => isCode c || c.before args0 about1) = true := by decide +kernel
set_option maxRecDepth 65536 in
theorem w_t3 : (((words1.drop 24).drop 24).take 24).all (fun c => isCode c || c.before args0 about1) = true := by decide +kernel
set_option maxRecDepth 65536 in
theorem w_t4 : ((((words1.drop 24).drop 24).drop 24).take 24).all (fun c => isCode c || c.before args0 about1) = true := by decide +kernel
set_option maxRecDepth 65536 in
theorem w_t5 : (((((words1.drop 24).drop 24).drop 24).drop 24).take 24).all (fun c => isCode c || c.before args0 about1) = true := by decide +kernel
set_option maxRecDepth 65536 in
theorem w_t6 : ((((((words1.drop 24).drop 24).drop 24).drop 24).drop 24).take 24).all (fun c => isCode c || c.before args0 about1) = true := by decide +kernel
set_option maxRecDepth 65536 in
theorem w_t7 : (((((((words1.drop 24).drop 24).drop 24).drop 24).drop 24).drop 24).take 24).all (fun c => isCode c || c.before args0 about1) = true := by decide +kernel
set_option maxRecDepth 65536 in
theorem w_t8 : ((((((((words1.drop 24).drop 24).drop 24).drop 24).drop 24).drop 24).drop 24).take 24).all (fun c => isCode c || c.before args0 about1) = true := by decide +kernel
set_option maxRecDepth 65536 in
theorem w_t9 : (((((((((words1.drop 24).drop 24).drop 24).drop 24).drop 24).drop 24).drop 24).drop 24).take 24).all (fun c => isCode c || c.before args0 about1) = true := by decide +kernel
set_option maxRecDepth 65536 in
theorem w_t10 : ((((((((((words1.drop 24).drop 24).drop 24).drop 24).drop 24).drop 24).drop 24).drop 24).drop 24).take 24).all (fun c => isCode c || c.before args0 about1) = true := by decide +kernel
set_option maxRecDepth 65536 in
theorem w_t11 : (((((((((((words1.drop 24).drop 24).drop 24).drop 24).drop 24).drop 24).drop 24).drop 24).drop 24).drop 24).take 24).all (fun c => isCode c || c.before args0 about1) = true := by decide +kernel
set_option maxRecDepth 65536 in
theorem w_t12 : ((((((((((((words1.drop 24).drop 24).drop 24).drop 24).drop 24).drop 24).drop 24).drop 24).drop 24).drop 24).drop 24).take 24).all (fun c => isCode c || c.before args0 about1) = true := by decide +kernel
set_option maxRecDepth 65536 in
theorem w_t13 : (((((((((((((words1.drop 24).drop 24).drop 24).drop 24).drop 24).drop 24).drop 24).drop 24).drop 24).drop 24).drop 24).drop 24).take 24).all (fun c => isCode c || c.before args0 about1) = true := by decide +kernel
set_option maxRecDepth 65536 in
theorem w_t14 : ((((((((((((((words1.drop 24).drop 24).drop 24).drop 24).drop 24).drop 24).drop 24).drop 24).drop 24).drop 24).drop 24).drop 24).drop 24).take 24).all (fun c => isCode c || c.before args0 about1) = true := by decide +kernel
set_option maxRecDepth 65536 in
theorem w_t15 : (((((((((((((((words1.drop 24).drop 24).drop 24).drop 24).drop 24).drop 24).drop 24).drop 24).drop 24).drop 24).drop 24).drop 24).drop 24).drop 24).take 24).all (fun c => isCode c || c.before args0 about1) = true := by decide +kernel
set_option maxRecDepth 65536 in
theorem w_t16 : (((((((((((((((words1.drop 24).drop 24).drop 24).drop 24).drop 24).drop 24).drop 24).drop 24).drop 24).drop 24).drop 24).drop 24).drop 24).drop 24).drop 24).all (fun c => isCode c || c.before args0 about1) = true := by decide +kernel
theorem w_tables : (allAtoms (Jvm.Cond.code x code maxLocals ret :: tables_1)).before args0 about1 = true := by
  rw [allAtoms_all]
  show words1.all (fun c => c.before args0 about1) = true
  refine all_split ?_ w_codes
  rw [← List.take_append_drop 24 words1, List.all_append, w_t1, ← List.take_append_drop 24 (words1.drop 24), List.all_append, w_t2, ← List.take_append_drop 24 ((words1.drop 24).drop 24), List.all_append, w_t3, ← List.take_append_drop 24 (((words1.drop 24).drop 24).drop 24), List.all_append, w_t4, ← List.take_append_drop 24 ((((words1.drop 24).drop 24).drop 24).drop 24), List.all_append, w_t5, ← List.take_append_drop 24 (((((words1.drop 24).drop 24).drop 24).drop 24).drop 24), List.all_append, w_t6, ← List.take_append_drop 24 ((((((words1.drop 24).drop 24).drop 24).drop 24).drop 24).drop 24), List.all_append, w_t7, ← List.take_append_drop 24 (((((((words1.drop 24).drop 24).drop 24).drop 24).drop 24).drop 24).drop 24), List.all_append, w_t8, ← List.take_append_drop 24 ((((((((words1.drop 24).drop 24).drop 24).drop 24).drop 24).drop 24).drop 24).drop 24), List.all_append, w_t9, ← List.take_append_drop 24 (((((((((words1.drop 24).drop 24).drop 24).drop 24).drop 24).drop 24).drop 24).drop 24).drop 24), List.all_append, w_t10, ← List.take_append_drop 24 ((((((((((words1.drop 24).drop 24).drop 24).drop 24).drop 24).drop 24).drop 24).drop 24).drop 24).drop 24), List.all_append, w_t11, ← List.take_append_drop 24 (((((((((((words1.drop 24).drop 24).drop 24).drop 24).drop 24).drop 24).drop 24).drop 24).drop 24).drop 24).drop 24), List.all_append, w_t12, ← List.take_append_drop 24 ((((((((((((words1.drop 24).drop 24).drop 24).drop 24).drop 24).drop 24).drop 24).drop 24).drop 24).drop 24).drop 24).drop 24), List.all_append, w_t13, ← List.take_append_drop 24 (((((((((((((words1.drop 24).drop 24).drop 24).drop 24).drop 24).drop 24).drop 24).drop 24).drop 24).drop 24).drop 24).drop 24).drop 24), List.all_append, w_t14, ← List.take_append_drop 24 ((((((((((((((words1.drop 24).drop 24).drop 24).drop 24).drop 24).drop 24).drop 24).drop 24).drop 24).drop 24).drop 24).drop 24).drop 24).drop 24), List.all_append, w_t15, w_t16]
  rfl
set_option maxRecDepth 65536 in
theorem w_rest : rest_1_c.before args0 about1 = true := by decide +kernel
set_option maxRecDepth 65536 in
theorem w_case : (Jvm.Cond.and given_1 narrow_1).before args0 about1 = true := by decide +kernel
set_option maxRecDepth 65536 in
theorem w_consts : constsHeld consts_1 about1 := Jvm.Lit.constsHeldB_iff.mp (by decide +kernel)
theorem w_applies : (headSpec (Jvm.Cond.code x code maxLocals ret :: tables_1) room_1).applies x e0.platform about1 = true :=
  (Spec.applies_iff w_frames).mpr ⟨w_running, w_runnable, w_alone, w_named, w_hears, w_ripe, w_room, w_tables⟩
theorem atStart : AtStart classFile x code maxLocals ret World_1 tables_1 room_1 Calls_1 rest_1 Pre_1 launch0 p0 e0 about1 theMethod args0 below0 :=
  ⟨lists_1, trivial, launch0.admits_env _ _ _, launch0.least_env, fairChoices_fair.cas, fairChoices_fair.clock, w_frames, w_args, w_heap, w_applies, ⟨w_consts, trivial⟩, w_rest, w_case⟩
end start1
theorem witness_1 : WitnessClaimed_1 := ⟨start1.p0, start1.e0, start1.about1, start1.theMethod, start1.args0, start1.below0, start1.atStart⟩
end Jvm.Pilot.@@N@@
