import JvmDerived
import JvmDerived.Pilot.@@N@@Statement
import JvmDerived.Pilot.@@N@@Code
set_option linter.unusedVariables false
set_option linter.unusedSimpArgs false
namespace Jvm.Pilot.@@N@@
open Jvm Jvm.ClassFile Sem Op Lib Jvm.Free Jvm.Stand Jvm.LawKit Jvm.RoadKit Bundle Jvm.Pilot.@@N@@.Jvm.D
/-- from the state S the body comes to its end, and there G holds -/
def Go (p : Program) (e : Env) (below : List Frame) (G : Outcome → State → Prop) (S : State) : Prop := ∃ s₂ o, Steps p.tables e below S s₂ ∧ s₂.status = .running ∧ Ended s₂ below o ∧ G o s₂
theorem Go.step {p : Program} {e : Env} {below : List Frame} {G : Outcome → State → Prop} {S S' : State} (k : ∀ t, Steps p.tables e below S' t → Steps p.tables e below S t) (g : Go p e below G S') : Go p e below G S := by
  obtain ⟨s₂, o, h, r⟩ := g
  exact ⟨s₂, o, k _ h, r⟩
theorem Go.fin {p : Program} {e : Env} {below : List Frame} {G : Outcome → State → Prop} {S S' : State} {o : Outcome} (h : Steps p.tables e below S S') (h1 : S'.status = .running) (h2 : Ended S' below o) (h3 : G o S') : Go p e below G S := ⟨_, _, h, h1, h2, h3⟩
abbrev lv (x : Int64) : Slot := .val (.long x)
abbrev u_ : Slot := .unset
theorem own_w {Z : State} {a0 : Array Value} (hw : ∀ d ∈ tables_1, d.before a0 Z = true) (k : Nat) {d : Jvm.Cond} (h : tables_1[k]? = some d) : d.before a0 Z = true := hw d (List.mem_of_getElem? h)
theorem old_le {Z : State} {n0 : Nat} {h : Heap} (O : Old Z n0 h) : n0 ≤ h.size := O.1 ▸ O.2.1
theorem own_getR {p : Program} {l : Launch} {e : Env} {R : Room} {s : State} {m : MethodId} {args : Array Value} {below : List Frame} {meth : Method} {c : Code} {T : State} {locs : List Loc} {cells slots : Nat} {Z : State} {a0 : Array Value} {h : Heap}
    (X : Stand p l e R s m args below meth c T locs cells slots) (hx : p.tables.exec = Jvm.exec) (hZ : Z.Warmed39 s.vm) {own R0 n d : String} {index : Nat} (hown : s.vm.findClass own = some m.cls) (w : (Jvm.Cond.fieldRef own index R0 n d).before a0 Z = true)
    (eT : T.heap = h) {a : Addr} {v : Value} (F : Fld Z h a R0 n d v) {g : JFrame} (hg : g.method = m) {rest : List Value} (hs : g.stack = .ref a :: rest) (hd : decode c.code g.pc = .ok (.getfield index, 3)) : ∀ target, Steps p.tables e below (T.setTop { g with pc := g.pc + 3, stack := v :: rest }) target → Steps p.tables e below (T.setTop g) target := by
  obtain ⟨cell, cf, k, i, f, h1, h2, h3, h4, -, -, h7⟩ := F
  have hT : Z.Warmed39 T.vm := wtrans hZ X.warmed
  have w' := Cond.fieldRef_warmed39 hT w
  have ho : (Z.setVm T.vm).vm.findClass own = some m.cls := by show T.vm.findClass own = _; rw [X.warmed.alike.findClass]; exact hown
  obtain ⟨c1, k1, i1, f1, e1, hr⟩ := Cond.fieldRef_spec ho w'
  obtain ⟨k', hi, -⟩ := State.fieldFound?_setVm (s := Z) hT.alike h2
  cases e1.symm.trans hi
  intro target kk
  exact (X.getfieldR hx hg hr h3 hs (by rw [eT]; exact h1) h4 h7 hd (Steps.refl _)).trans kk
theorem own_selP {Z s : State} {a0 args : Array Value} {y : MethodName} {n : Nat} (hZ : Z.Warmed39 s.vm) (wi : (Jvm.Cond.instantiable y.cls n).before a0 Z = true) (wn : (Jvm.Cond.instanceMethod y).before a0 Z = true) (wp : (Jvm.Cond.privateMethod y).before a0 Z = true)
    (hy : y.cls ≠ "java/lang/invoke/MethodHandle" ∧ y.cls ≠ "java/lang/invoke/VarHandle") : (Jvm.Cond.selects y.cls y y).before args s = true := by
  have wi' : (Jvm.Cond.instantiable y.cls n).before args s = true := mv hZ wi
  obtain ⟨c, k, h1, h2, -, h4, -⟩ := Cond.instantiable_spec wi'
  exact Stand.selects_self_of_private h1 h2 (by simp only [Bool.or_eq_false_iff] at h4; exact h4.1) (Cond.privateMethod_at (args := args) (mvP hZ wp)) (mvT hZ wn) hy
theorem own_eqI {t : Term} {n : Int32} {args : Array Value} {s : State} (h : (Jvm.Cond.eq t (.int n)).value args s none s [] = some true) : t.eval args s none [] s = some (.int n) := by
  have hn : (Term.int n).eval args s none [] s = some (.int n) := rfl
  cases ht : t.eval args s none [] s with
  | none => simp [Cond.value, ht] at h
  | some v => cases v <;> simp [Cond.value, ht, hn] at h ⊢; exact h
theorem own_eqJ {t : Term} {n : Int64} {args : Array Value} {s : State} (h : (Jvm.Cond.eq t (.long n)).value args s none s [] = some true) : t.eval args s none [] s = some (.long n) := by
  have hn : (Term.long n).eval args s none [] s = some (.long n) := rfl
  cases ht : t.eval args s none [] s with
  | none => simp [Cond.value, ht] at h
  | some v => cases v <;> simp [Cond.value, ht, hn] at h ⊢; exact h
abbrev HW (a0 : Array Value) (Z : State) : Prop := ∀ d ∈ tables_1, d.before a0 Z = true
abbrev Gq (Q : Option Value → Heap → List Loc → Prop) (s : State) (rc rs : Nat) : Outcome → State → Prop := fun o U' => ∃ v L, o = .returned v ∧ Q v U'.heap L ∧ FrameEnd s o U' L rc rs
abbrev Mt (l : Launch) (Z : State) (y : MethodName) (bytes : ByteArray) (k : Nat) (rt : Option FieldType) (ws : List Jvm.Cond) (rm : Room) (A : Array Value) (h0 : Heap) (Q : Option Value → Heap → List Loc → Prop) : Prop :=
  MetFree l y (head1 (Jvm.Cond.code y bytes k rt :: ws) rm) (fun a U => a = A ∧ Z.Warmed39 U.vm ∧ U.heap = h0) (fun _ _ _ _ _ => True) (fun _ U o U' => ∃ v L, o = .returned v ∧ Q v U'.heap L ∧ FrameEnd U o U' L rm.cells rm.slots)
theorem own_met {l : Launch} {Z : State} {y : MethodName} {bytes : ByteArray} {k : Nat} {rt : Option FieldType} {ws : List Jvm.Cond} {rm : Room} {A : Array Value} {h0 : Heap} {Q : Option Value → Heap → List Loc → Prop} (own : String) (hp : plainFor y = true) (ls : Array Slot) (ef : ∀ m, entryFrame m A k = mkF m 0 ls [])
    (H : ∀ (p : Program) (e : Env) (s : State) (m : MethodId) (below : List Frame) (meth : Method) (c : Code) (s₁ : State), BodyLoose p l y (head1 (Jvm.Cond.code y bytes k rt :: ws) rm) bytes k rt e s m A below meth c s₁ → p.tables.exec = Jvm.exec → c.code = bytes → c.maxLocals = k → Z.Warmed39 s.vm → s.vm.findClass own = some m.cls → meth.name = y.name → Stand p l e rm s m A below meth c s₁ [] 0 0 → s₁.heap = h0 → Go p e below (Gq Q s rm.cells rm.slots) (s₁.setTop (mkF m 0 ls []))) (hy : y.cls = own := by rfl) : Mt l Z y bytes k rt ws rm A h0 Q := by
  refine MetFree.of_bodySF hp hisR ?_
  intro p e s m args below meth c s₁ Bd hml hP hK
  obtain ⟨rfl, hZ, hh⟩ := hP
  subst hy
  have e0 : s₁.heap = h0 := by rw [← hh, Bd.state]; rfl
  have g := H p e s m below meth c s₁ Bd Bd.exec Bd.bytes hml hZ (findClass_of_methodNamed Bd.named) (name_of_methodNamed Bd.named Bd.method).1 (Stand.of_body Bd) e0
  rw [← ef] at g
  exact g
theorem Go.cS {p : Program} {l : Launch} {e : Env} {R : Room} {s : State} {m : MethodId} {args : Array Value} {below : List Frame} {meth : Method} {c : Code} {T : State} {locs : List Loc} {cells slots : Nat} {G : Outcome → State → Prop} {Z : State} {a0 : Array Value} {h : Heap} {own : String} {index n : Nat} {y : MethodName} {bytes : ByteArray} {maxL : Nat} {rt : Option FieldType} {rm : Room} {argsL : List Value} {Q : Option Value → Heap → List Loc → Prop} (X : Stand p l e R s m args below meth c T locs cells slots) (hx : p.tables.exec = Jvm.exec) (hml : c.maxLocals = n) (hown : s.vm.findClass own = some m.cls) (hZ : Z.Warmed39 s.vm) (w1 : (Jvm.Cond.methodLink own index y).before a0 Z = true) (w2 : (Jvm.Cond.static y).before a0 Z = true) (w3 : (Jvm.Cond.initialized y.cls).before a0 Z = true) (w4 : (Jvm.Cond.code y bytes maxL rt).before a0 Z = true)
    (hM : Mt l Z y bytes maxL rt [] rm argsL.toArray h Q) (W : Nat) {pc : Nat} {Ls : Array Slot} {stk : List Value} (rest : List Value)
    {ps : List FieldType} {r : Option FieldType} (pd : parseMethodDescriptor y.desc = some ⟨ps, r⟩)
    (hd : decode c.code pc = .ok (.invokestatic index, 3)) (eT : T.heap = h)
    (K : ∀ v T' L, Stand p l e R s m args below meth c T' (locs ++ L) (cells + rm.cells) (slots + rm.slots) → Q v T'.heap L → Go p e below G (T'.setTop (mkF m (pc + 3) Ls (v.toList ++ rest))))
    (hf : rm.frames + 1 ≤ R.frames := by decide) (hl : W + (maxL + 11) + rm.locals ≤ R.locals := by decide) (hy : y.cls ≠ "java/lang/invoke/MethodHandle" ∧ y.cls ≠ "java/lang/invoke/VarHandle" := by decide) (hn : argsL.length = ps.length := by rfl) (hs : stk = argsL.reverse ++ rest := by rfl)
    (hsz : Ls.size = n := by rfl) (hW : 2 * (mkF m pc Ls stk).monitorRoom + (rest.map fun v => v.category).sum ≤ W := by exact Nat.le_of_eq rfl) (h1 : cells + rm.cells ≤ R.cells := by decide) (h2 : slots + rm.slots ≤ R.slots := by decide) : Go p e below G (T.setTop (mkF m pc Ls stk)) := by
  obtain ⟨_, _, ⟨T1, L1, k1, n1⟩, -, X1, ⟨Lc1, hQ1, l1, y1, z1⟩, st1⟩ := Jvm.LawKit.callS X hx (y := y) hown (mvT hZ w1) (mvT hZ w2) (mvT hZ w3) (mvT hZ w4) hy (backOf (W := W) hM hZ w4 w3 hf hl) (g := mkF m pc Ls stk) rfl (hsz.trans hml.symm) (argsL := argsL) (rest := rest) (lenOf pd hn) hs hW hd (fun _ _ => ⟨rfl, eT, h1, h2⟩)
  dsimp only [Pt.U, Pt.locs, Pt.cells, Pt.slots] at X1 l1 y1 z1 st1 hQ1
  subst l1 y1 z1
  exact Go.step st1 (K _ _ _ X1 hQ1)
theorem Go.cI {p : Program} {l : Launch} {e : Env} {R : Room} {s : State} {m : MethodId} {args : Array Value} {below : List Frame} {meth : Method} {c : Code} {T : State} {locs : List Loc} {cells slots : Nat} {G : Outcome → State → Prop} {Z : State} {a0 : Array Value} {h : Heap} {own : String} {index n : Nat} {y : MethodName} {bytes : ByteArray} {maxL : Nat} {rm : Room} {argsL : List Value} {Q : Option Value → Heap → List Loc → Prop} {a : Addr} (X : Stand p l e R s m args below meth c T locs cells slots) (hx : p.tables.exec = Jvm.exec) (hml : c.maxLocals = n) (hown : s.vm.findClass own = some m.cls) (hZ : Z.Warmed39 s.vm) (w1 : (Jvm.Cond.methodLink own index y).before a0 Z = true) (w2 : (Jvm.Cond.instanceMethod y).before a0 Z = true) (w3 : (Jvm.Cond.initialized y.cls).before a0 Z = true) (w4 : (Jvm.Cond.code y bytes maxL none).before a0 Z = true)
    (hM : Mt l Z y bytes maxL none [] rm (.ref a :: argsL).toArray h Q) (W : Nat) {pc : Nat} {Ls : Array Slot} {stk : List Value} (rest : List Value)
    {ps : List FieldType} {r : Option FieldType} (pd : parseMethodDescriptor y.desc = some ⟨ps, r⟩)
    (hd : decode c.code pc = .ok (.invokespecial index, 3)) (eT : T.heap = h)
    (K : ∀ v T' L, Stand p l e R s m args below meth c T' (locs ++ L) (cells + rm.cells) (slots + rm.slots) → Q v T'.heap L → Go p e below G (T'.setTop (mkF m (pc + 3) Ls (v.toList ++ rest))))
    (hf : rm.frames + 1 ≤ R.frames := by decide) (hl : W + (maxL + 11) + rm.locals ≤ R.locals := by decide) (hy : y.cls ≠ "java/lang/invoke/MethodHandle" ∧ y.cls ≠ "java/lang/invoke/VarHandle" := by decide) (hn : argsL.length = ps.length := by rfl) (hs : stk = argsL.reverse ++ .ref a :: rest := by rfl)
    (hsz : Ls.size = n := by rfl) (hW : 2 * (mkF m pc Ls stk).monitorRoom + (rest.map fun v => v.category).sum ≤ W := by exact Nat.le_of_eq rfl) (h1 : cells + rm.cells ≤ R.cells := by decide) (h2 : slots + rm.slots ≤ R.slots := by decide) (hy1 : y.name = "<init>" := by rfl) : Go p e below G (T.setTop (mkF m pc Ls stk)) := by
  obtain ⟨_, _, ⟨T1, L1, k1, n1⟩, -, X1, ⟨Lc1, hQ1, l1, y1, z1⟩, st1⟩ := X.specialBack hx (y := y) hy1 hown (mvT hZ w1) (mvT hZ w2) (mvT hZ w4) hy (backOf (W := W) hM hZ w4 w3 hf hl) (g := mkF m pc Ls stk) rfl (hsz.trans hml.symm) (Steps.refl _) (a := a) (argsL := argsL) (rest := rest) (lenOf pd hn) hs hW hd (fun _ _ => ⟨rfl, eT, h1, h2⟩)
  dsimp only [Pt.U, Pt.locs, Pt.cells, Pt.slots] at X1 l1 y1 z1 st1 hQ1
  subst l1 y1 z1
  exact Go.step (fun _ k => st1.trans k) (K _ _ _ X1 hQ1)
theorem Go.cV {p : Program} {l : Launch} {e : Env} {R : Room} {s : State} {m : MethodId} {args : Array Value} {below : List Frame} {meth : Method} {c : Code} {T : State} {locs : List Loc} {cells slots : Nat} {G : Outcome → State → Prop} {Z : State} {a0 : Array Value} {h : Heap} {own : String} {index n : Nat} {y : MethodName} {bytes : ByteArray} {maxL : Nat} {rt : Option FieldType} {rm : Room} {argsL : List Value} {Q : Option Value → Heap → List Loc → Prop} {a : Addr} {C : String} (X : Stand p l e R s m args below meth c T locs cells slots) (hx : p.tables.exec = Jvm.exec) (hml : c.maxLocals = n) (hown : s.vm.findClass own = some m.cls) (hZ : Z.Warmed39 s.vm) (w1 : (Jvm.Cond.methodLink own index y).before a0 Z = true) (w2 : (Jvm.Cond.declares y).before a0 Z = true) (w5 : (Jvm.Cond.selects C y y).before a0 Z = true) (w6 : (Jvm.Cond.instanceMethod y).before a0 Z = true) (w3 : (Jvm.Cond.initialized y.cls).before a0 Z = true) (w4 : (Jvm.Cond.code y bytes maxL rt).before a0 Z = true) (E : Exa Z h a C)
    (hM : Mt l Z y bytes maxL rt [] rm (.ref a :: argsL).toArray h Q) (W : Nat) {pc : Nat} {Ls : Array Slot} {stk : List Value} (rest : List Value)
    {ps : List FieldType} {r : Option FieldType} (pd : parseMethodDescriptor y.desc = some ⟨ps, r⟩)
    (hd : decode c.code pc = .ok (.invokevirtual index, 3)) (eT : T.heap = h)
    (K : ∀ v T' L, Stand p l e R s m args below meth c T' (locs ++ L) (cells + rm.cells) (slots + rm.slots) → Q v T'.heap L → Go p e below G (T'.setTop (mkF m (pc + 3) Ls (v.toList ++ rest))))
    (hf : rm.frames + 1 ≤ R.frames := by decide) (hl : W + (maxL + 11) + rm.locals ≤ R.locals := by decide) (hy : y.cls ≠ "java/lang/invoke/MethodHandle" ∧ y.cls ≠ "java/lang/invoke/VarHandle" := by decide) (hn : argsL.length = ps.length := by rfl) (hs : stk = argsL.reverse ++ .ref a :: rest := by rfl)
    (hsz : Ls.size = n := by rfl) (hW : 2 * (mkF m pc Ls stk).monitorRoom + (rest.map fun v => v.category).sum ≤ W := by exact Nat.le_of_eq rfl) (h1 : cells + rm.cells ≤ R.cells := by decide) (h2 : slots + rm.slots ≤ R.slots := by decide) : Go p e below G (T.setTop (mkF m pc Ls stk)) := by
  obtain ⟨cq1, kq1, q1a, q1b, q1c⟩ := isOf hZ eT E
  obtain ⟨_, _, ⟨T1, L1, k1, n1⟩, -, X1, ⟨Lc1, hQ1, l1, y1, z1⟩, st1⟩ := X.virtualBack hx (y := y) (z := y) hown (mvT hZ w1) (mvT hZ w2) (notFace_of_selects (args := #[]) (mvT hZ w5)) (mvT hZ w5) (mvT hZ w6) hy (backOf (W := W) hM hZ w4 w3 hf hl) q1a q1c (g := mkF m pc Ls stk) rfl (hsz.trans hml.symm) (Steps.refl _) (argsL := argsL) (rest := rest) (lenOf pd hn) hs hW hd (fun _ _ => ⟨rfl, eT, h1, h2⟩)
  dsimp only [Pt.U, Pt.locs, Pt.cells, Pt.slots] at X1 l1 y1 z1 st1 hQ1
  subst l1 y1 z1
  exact Go.step (fun _ k => st1.trans k) (K _ _ _ X1 hQ1)
theorem Go.rt {p : Program} {l : Launch} {e : Env} {R : Room} {s : State} {m : MethodId} {args : Array Value} {below : List Frame} {meth : Method} {c : Code} {T : State} {locs : List Loc} {cells slots : Nat} {Q : Option Value → Heap → List Loc → Prop} {y : MethodName} {S : Spec} {bytes : ByteArray} {k pc rc rs : Nat} {t : FieldType} {A : Array Value} {s₁ : State} {Ls : Array Slot} {w : Value} {rest : List Value} {i : Instr} (X : Stand p l e R s m args below meth c T locs cells slots) (hx : p.tables.exec = Jvm.exec) (Bd : BodyLoose p l y S bytes k (some t) e s m A below meth c s₁) (hn : narrow t w = w)
    (hi : (i = .ireturn ∧ (t = .int ∨ t = .boolean ∨ t = .byte ∨ t = .char ∨ t = .short) ∧ ∃ z, w = .int z) ∨ (i = .lreturn ∧ t = .long ∧ ∃ z, w = .long z) ∨ (i = .dreturn ∧ t = .double ∧ ∃ z, w = .double z) ∨ (i = .freturn ∧ t = .float ∧ ∃ z, w = .float z) ∨ (i = .areturn ∧ t.isReference = true ∧ w.isRef = true))
    (hd : decode c.code pc = .ok (i, 1)) {h : Heap} (eT : T.heap = h) (hq : Q (some w) h locs) (h1 : cells ≤ rc := by decide) (h2 : slots ≤ rs := by decide) : Go p e below (Gq Q s rc rs) (T.setTop (mkF m pc Ls (w :: rest))) := by
  subst eT
  obtain ⟨fs, hr, hrun, hended, hW, hsame⟩ := X.leave (v := some w) (fun h => by rw [Bd.returns] at h; cases h) Bd.notSynchronized
  exact Go.fin (S' := T.setFrames fs) (retOut X hx Bd.returns hn hi hd hr) hrun hended ⟨_, _, rfl, hq, ⟨_, rfl⟩, hW, hsame.mono h1 h2⟩
theorem Go.rv {p : Program} {l : Launch} {e : Env} {R : Room} {s : State} {m : MethodId} {args : Array Value} {below : List Frame} {meth : Method} {c : Code} {T : State} {locs : List Loc} {cells slots : Nat} {Q : Option Value → Heap → List Loc → Prop} {y : MethodName} {S : Spec} {bytes : ByteArray} {k pc rc rs : Nat} {A : Array Value} {s₁ : State} {Ls : Array Slot} (X : Stand p l e R s m args below meth c T locs cells slots) (hx : p.tables.exec = Jvm.exec) (Bd : BodyLoose p l y S bytes k none e s m A below meth c s₁)
    (hd : decode c.code pc = .ok (.return_, 1)) {h : Heap} (eT : T.heap = h) (hq : Q none h locs) (h1 : cells ≤ rc := by decide) (h2 : slots ≤ rs := by decide) : Go p e below (Gq Q s rc rs) (T.setTop (mkF m pc Ls [])) := by
  subst eT
  obtain ⟨fs, hr, hrun, hended, hW, hsame⟩ := X.leave (v := none) (fun _ => rfl) Bd.notSynchronized
  exact Go.fin (S' := T.setFrames fs) (X.returnOut hx Bd.returns hd hr) hrun hended ⟨_, _, rfl, hq, ⟨_, rfl⟩, hW, hsame.mono h1 h2⟩
theorem Go.gS {p : Program} {l : Launch} {e : Env} {R : Room} {s : State} {m : MethodId} {args : Array Value} {below : List Frame} {meth : Method} {c : Code} {T : State} {locs : List Loc} {cells slots : Nat} {G : Outcome → State → Prop} {Z : State} {a0 : Array Value} {h : Heap} {own R0 O n d host : String} {index pc : Nat} {Ls : Array Slot} {stk : List Value} {v : Value} (X : Stand p l e R s m args below meth c T locs cells slots) (hx : p.tables.exec = Jvm.exec) (hZ : Z.Warmed39 s.vm) (hown : s.vm.findClass own = some m.cls) (w : (Jvm.Cond.fieldLink own index R0 n d).before a0 Z = true ∨ (Jvm.Cond.fieldLinkNest own index R0 n d host).before a0 Z = true) (via : Via Z R0 O n d)
    (eT : T.heap = h) (F : Sta Z h O n d v) (hd : decode c.code pc = .ok (.getstatic index, 3)) (K : ∀ T', Stand p l e R s m args below meth c T' locs cells slots → T'.heap = h → Go p e below G (T'.setTop (mkF m (pc + 3) Ls (v :: stk)))) : Go p e below G (T.setTop (mkF m pc Ls stk)) := by
  obtain ⟨T1, X1, e1, st1⟩ := getS2 X hx hZ hown w via eT F (g := mkF m pc Ls stk) rfl hd
  exact Go.step st1 (K _ X1 e1)
theorem Go.gF {p : Program} {l : Launch} {e : Env} {R : Room} {s : State} {m : MethodId} {args : Array Value} {below : List Frame} {meth : Method} {c : Code} {T : State} {locs : List Loc} {cells slots : Nat} {G : Outcome → State → Prop} {Z : State} {a0 : Array Value} {h : Heap} {own R0 O n d host : String} {index pc : Nat} {Ls : Array Slot} {stk : List Value} {v : Value} {a : Addr} (X : Stand p l e R s m args below meth c T locs cells slots) (hx : p.tables.exec = Jvm.exec) (hZ : Z.Warmed39 s.vm) (hown : s.vm.findClass own = some m.cls) (w : (Jvm.Cond.fieldLink own index R0 n d).before a0 Z = true ∨ (Jvm.Cond.fieldLinkNest own index R0 n d host).before a0 Z = true) (via : Via Z R0 O n d)
    (eT : T.heap = h) (F : Fld Z h a O n d v) (hd : decode c.code pc = .ok (.getfield index, 3)) (K : ∀ T', Stand p l e R s m args below meth c T' locs cells slots → T'.heap = h → Go p e below G (T'.setTop (mkF m (pc + 3) Ls (v :: stk)))) : Go p e below G (T.setTop (mkF m pc Ls (.ref a :: stk))) := by
  obtain ⟨T1, X1, e1, st1⟩ := getF X hx hZ hown w via eT F (g := mkF m pc Ls (.ref a :: stk)) rfl rfl hd
  exact Go.step st1 (K _ X1 e1)
theorem Go.bal {p : Program} {l : Launch} {e : Env} {R : Room} {s : State} {m : MethodId} {args : Array Value} {below : List Frame} {meth : Method} {c : Code} {T : State} {locs : List Loc} {cells slots : Nat} {G : Outcome → State → Prop} {Z : State} {h : Heap} {pc : Nat} {Ls : Array Slot} {stk vs : List Value} {v d : Value} {a : Addr} {k : ClassId} {n j : Int32} (X : Stand p l e R s m args below meth c T locs cells slots) (hx : p.tables.exec = Jvm.exec) (hZ : Z.Warmed39 s.vm)
    (eT : T.heap = h) (F : Arv Z h a k .byte n vs d) (hd : decode c.code pc = .ok (.baload, 1)) (hv : vs.getD j.toNatClampNeg d = v) (K : Go p e below G (T.setTop (mkF m (pc + 1) Ls (v :: stk)))) (q : ¬ j < 0 ∧ j < n := by decide) : Go p e below G (T.setTop (mkF m pc Ls (.int j :: .ref a :: stk))) := by
  subst eT
  obtain ⟨cl, Ar, -, S, -, H, -⟩ := F
  exact Go.step (fun t k => X.baloadBytes hx Ar.1 (State.isArrayOf_alike hZ.alike Ar.2.1) Ar.2.2 (inb_of S q) (H.at (inb_of S q) hv) (g := mkF m pc Ls (.int j :: .ref a :: stk)) rfl rfl hd _ k) K
theorem Go.cal {p : Program} {l : Launch} {e : Env} {R : Room} {s : State} {m : MethodId} {args : Array Value} {below : List Frame} {meth : Method} {c : Code} {T : State} {locs : List Loc} {cells slots : Nat} {G : Outcome → State → Prop} {Z : State} {h : Heap} {pc : Nat} {Ls : Array Slot} {stk vs : List Value} {v d : Value} {a : Addr} {k : ClassId} {n j : Int32} (X : Stand p l e R s m args below meth c T locs cells slots) (hx : p.tables.exec = Jvm.exec) (hZ : Z.Warmed39 s.vm)
    (eT : T.heap = h) (F : Arv Z h a k .char n vs d) (hd : decode c.code pc = .ok (.caload, 1)) (hv : vs.getD j.toNatClampNeg d = v) (K : Go p e below G (T.setTop (mkF m (pc + 1) Ls (v :: stk)))) (q : ¬ j < 0 ∧ j < n := by decide) : Go p e below G (T.setTop (mkF m pc Ls (.int j :: .ref a :: stk))) := by
  subst eT
  obtain ⟨cl, Ar, -, S, -, H, -⟩ := F
  exact Go.step (fun t k => X.caload hx Ar.1 (State.isArrayOf_alike hZ.alike Ar.2.1) Ar.2.2 (inb_of S q) (H.at (inb_of S q) hv) (g := mkF m pc Ls (.int j :: .ref a :: stk)) rfl rfl hd _ k) K
theorem Go.len {p : Program} {l : Launch} {e : Env} {R : Room} {s : State} {m : MethodId} {args : Array Value} {below : List Frame} {meth : Method} {c : Code} {T : State} {locs : List Loc} {cells slots : Nat} {G : Outcome → State → Prop} {Z : State} {h : Heap} {pc : Nat} {Ls : Array Slot} {stk vs : List Value} {d : Value} {a : Addr} {k : ClassId} {ty : FieldType} {n : Int32} (X : Stand p l e R s m args below meth c T locs cells slots) (hx : p.tables.exec = Jvm.exec) (hZ : Z.Warmed39 s.vm)
    (eT : T.heap = h) (F : Arv Z h a k ty n vs d) (hd : decode c.code pc = .ok (.arraylength, 1)) (K : Go p e below G (T.setTop (mkF m (pc + 1) Ls (.int n :: stk)))) : Go p e below G (T.setTop (mkF m pc Ls (.ref a :: stk))) := by
  subst eT
  obtain ⟨cl, Ar, -, S, N, -, -⟩ := F
  rw [← len_of S N] at K
  exact Go.step (fun t k => X.arraylength hx Ar.1 (State.isArrayOf_alike hZ.alike Ar.2.1) (g := mkF m pc Ls (.ref a :: stk)) rfl rfl hd _ k) K

theorem Go.bst {p : Program} {l : Launch} {e : Env} {R : Room} {s : State} {m : MethodId} {args : Array Value} {below : List Frame} {meth : Method} {c : Code} {T : State} {locs : List Loc} {cells slots : Nat} {G : Outcome → State → Prop} {Z : State} {h : Heap} {pc : Nat} {Ls : Array Slot} {stk vs : List Value} {d : Value} {a : Addr} {k : ClassId} {n j x : Int32} (X : Stand p l e R s m args below meth c T locs cells slots) (hx : p.tables.exec = Jvm.exec) (hZ : Z.Warmed39 s.vm)
    (eT : T.heap = h) (F : Arv Z h a k .byte n vs d) (hd : decode c.code pc = .ok (.bastore, 1)) (q : ¬ j < 0 ∧ j < n) (hi : j.toNatClampNeg < vs.length) (K : ∀ T' h', Stand p l e R s m args below meth c T' (locs ++ [⟨a, j.toNatClampNeg⟩]) cells slots → T'.heap = h' → Wr h h' a j.toNatClampNeg (.int (nar .byte x)) → Arv Z h' a k .byte n (vs.set j.toNatClampNeg (.int (nar .byte x))) d → Go p e below G (T'.setTop (mkF m (pc + 1) Ls stk))) : Go p e below G (T.setTop (mkF m pc Ls (.int x :: .int j :: .ref a :: stk))) := by
  obtain ⟨cl, Ar, q1, S, N, H, Gf⟩ := F
  obtain ⟨T1, h1, X1, e1, W1, st1⟩ := stB X hx hZ eT Ar (inb_of S q) (g := mkF m pc Ls (.int x :: .int j :: .ref a :: stk)) rfl rfl hd
  exact Go.step st1 (K _ _ X1 e1 W1 (Arv.set Ar q1 S N H Gf (fits_nar_byte _) W1 _ rfl hi))

theorem Go.cst {p : Program} {l : Launch} {e : Env} {R : Room} {s : State} {m : MethodId} {args : Array Value} {below : List Frame} {meth : Method} {c : Code} {T : State} {locs : List Loc} {cells slots : Nat} {G : Outcome → State → Prop} {Z : State} {h : Heap} {pc : Nat} {Ls : Array Slot} {stk vs : List Value} {d : Value} {a : Addr} {k : ClassId} {n j x : Int32} (X : Stand p l e R s m args below meth c T locs cells slots) (hx : p.tables.exec = Jvm.exec) (hZ : Z.Warmed39 s.vm)
    (eT : T.heap = h) (F : Arv Z h a k .char n vs d) (hd : decode c.code pc = .ok (.castore, 1)) (q : ¬ j < 0 ∧ j < n) (hi : j.toNatClampNeg < vs.length) (K : ∀ T' h', Stand p l e R s m args below meth c T' (locs ++ [⟨a, j.toNatClampNeg⟩]) cells slots → T'.heap = h' → Wr h h' a j.toNatClampNeg (.int (nar .char x)) → Arv Z h' a k .char n (vs.set j.toNatClampNeg (.int (nar .char x))) d → Go p e below G (T'.setTop (mkF m (pc + 1) Ls stk))) : Go p e below G (T.setTop (mkF m pc Ls (.int x :: .int j :: .ref a :: stk))) := by
  obtain ⟨cl, Ar, q1, S, N, H, Gf⟩ := F
  obtain ⟨T1, h1, X1, e1, W1, st1⟩ := stC X hx hZ eT Ar (inb_of S q) (g := mkF m pc Ls (.int x :: .int j :: .ref a :: stk)) rfl rfl hd
  exact Go.step st1 (K _ _ X1 e1 W1 (Arv.set Ar q1 S N H Gf (fits_nar_char _) W1 _ rfl hi))

theorem Go.ist {p : Program} {l : Launch} {e : Env} {R : Room} {s : State} {m : MethodId} {args : Array Value} {below : List Frame} {meth : Method} {c : Code} {T : State} {locs : List Loc} {cells slots : Nat} {G : Outcome → State → Prop} {Z : State} {h : Heap} {pc : Nat} {Ls : Array Slot} {stk vs : List Value} {d : Value} {a : Addr} {k : ClassId} {n j x : Int32} (X : Stand p l e R s m args below meth c T locs cells slots) (hx : p.tables.exec = Jvm.exec) (hZ : Z.Warmed39 s.vm)
    (eT : T.heap = h) (F : Arv Z h a k .int n vs d) (hd : decode c.code pc = .ok (.iastore, 1)) (q : ¬ j < 0 ∧ j < n) (hi : j.toNatClampNeg < vs.length) (K : ∀ T' h', Stand p l e R s m args below meth c T' (locs ++ [⟨a, j.toNatClampNeg⟩]) cells slots → T'.heap = h' → Wr h h' a j.toNatClampNeg (.int (x)) → Arv Z h' a k .int n (vs.set j.toNatClampNeg (.int (x))) d → Go p e below G (T'.setTop (mkF m (pc + 1) Ls stk))) : Go p e below G (T.setTop (mkF m pc Ls (.int x :: .int j :: .ref a :: stk))) := by
  obtain ⟨cl, Ar, q1, S, N, H, Gf⟩ := F
  obtain ⟨T1, h1, X1, e1, W1, st1⟩ := stI X hx hZ eT Ar (inb_of S q) (g := mkF m pc Ls (.int x :: .int j :: .ref a :: stk)) rfl rfl hd
  exact Go.step st1 (K _ _ X1 e1 W1 (Arv.set Ar q1 S N H Gf rfl W1 _ rfl hi))

theorem Go.ial {p : Program} {l : Launch} {e : Env} {R : Room} {s : State} {m : MethodId} {args : Array Value} {below : List Frame} {meth : Method} {c : Code} {T : State} {locs : List Loc} {cells slots : Nat} {G : Outcome → State → Prop} {Z : State} {h : Heap} {pc : Nat} {Ls : Array Slot} {stk vs : List Value} {v d : Value} {a : Addr} {k : ClassId} {n j : Int32} (X : Stand p l e R s m args below meth c T locs cells slots) (hx : p.tables.exec = Jvm.exec) (hZ : Z.Warmed39 s.vm)
    (eT : T.heap = h) (F : Arv Z h a k .int n vs d) (hd : decode c.code pc = .ok (.iaload, 1)) (hv : vs.getD j.toNatClampNeg d = v) (K : Go p e below G (T.setTop (mkF m (pc + 1) Ls (v :: stk)))) (q : ¬ j < 0 ∧ j < n := by decide) : Go p e below G (T.setTop (mkF m pc Ls (.int j :: .ref a :: stk))) := by
  subst eT
  obtain ⟨cl, Ar, -, S, -, H, -⟩ := F
  exact Go.step (fun t k => X.iaload hx Ar.1 (State.isArrayOf_alike hZ.alike Ar.2.1) Ar.2.2 (inb_of S q) (H.at (inb_of S q) hv) (g := mkF m pc Ls (.int j :: .ref a :: stk)) rfl rfl hd _ k) K
theorem Go.cln {p : Program} {l : Launch} {e : Env} {R : Room} {s : State} {m : MethodId} {args : Array Value} {below : List Frame} {meth : Method} {c : Code} {T : State} {locs : List Loc} {cells slots : Nat} {G : Outcome → State → Prop} {Z : State} {a0 : Array Value} {h : Heap} {own ad : String} {index n pc : Nat} {Ls : Array Slot} {vs : List Value} {d : Value} {a : Addr} {k : ClassId} {ty : FieldType} {z : Int32} (X : Stand p l e R s m args below meth c T locs cells slots) (hx : p.tables.exec = Jvm.exec) (hml : c.maxLocals = n) (hown : s.vm.findClass own = some m.cls) (hZ : Z.Warmed39 s.vm)
    (w1 : (Jvm.Cond.methodLink own index ⟨ad, "clone", "()Ljava/lang/Object;"⟩).before a0 Z = true) (w2 : (Jvm.Cond.sameMethod ad "java/lang/Object" "clone" "()Ljava/lang/Object;").before a0 Z = true) (w3 : (Jvm.Cond.native ⟨"java/lang/Object", "clone", "()Ljava/lang/Object;"⟩).before a0 Z = true) (w4 : (Jvm.Cond.instanceMethod ⟨"java/lang/Object", "clone", "()Ljava/lang/Object;"⟩).before a0 Z = true) (w5 : (Jvm.Cond.selects ad ⟨ad, "clone", "()Ljava/lang/Object;"⟩ ⟨"java/lang/Object", "clone", "()Ljava/lang/Object;"⟩).before a0 Z = true) (w6 : (Jvm.Cond.castable ad "java/lang/Cloneable").before a0 Z = true)
    (eT : T.heap = h) (F : Arv Z h a k ty z vs d) (E : Exa Z h a ad) (W cap : Nat) (rest : List Value) (hd : decode c.code pc = .ok (.invokevirtual index, 3))
    (K : ∀ T' h', Stand p l e R s m args below meth c T' locs (cells + 1) (slots + cap) → T'.heap = h' → Ext h h' → Arv Z h' h.size k ty z vs d → Exa Z h' h.size ad → Go p e below G (T'.setTop (mkF m (pc + 3) Ls (.ref h.size :: rest))))
    (hf : 1 ≤ R.frames := by decide) (hl : W + 14 ≤ R.locals := by decide) (hcap : z.toNatClampNeg ≤ cap := by decide) (hc : cells + 1 ≤ R.cells := by decide) (hsl : slots + cap ≤ R.slots := by decide) (hsz : Ls.size = n := by rfl) (hW : 2 * (mkF m pc Ls (.ref a :: rest)).monitorRoom + (rest.map fun v => v.category).sum ≤ W := by exact Nat.le_of_eq rfl) : Go p e below G (T.setTop (mkF m pc Ls (.ref a :: rest))) := by
  obtain ⟨cl, A, q1, S, q3, H, Gf⟩ := F
  have FC : FitC Z cl := fitC_of A fun i hi v hv => by rw [H i hi] at hv; cases hv; exact Gf i hi
  obtain ⟨T', h', X', e', ex, A', E', st⟩ := cloneA X hx hZ hown w1 w2 w3 w4 w5 w6 eT A E FC (g := mkF m pc Ls (.ref a :: rest)) rfl (hsz.trans hml.symm) rfl hd hf hW hl (by rw [S]; exact hcap) hc hsl
  exact Go.step st (K _ _ X' e' ex ⟨cloneOf cl, A', q1, S, q3, H, Gf⟩ E')

theorem own_selQ {Z s : State} {a0 args : Array Value} {y : MethodName} {C : String} (hZ : Z.Warmed39 s.vm) (ws : (Jvm.Cond.selects C y y).before a0 Z = true) (wn : (Jvm.Cond.instanceMethod y).before a0 Z = true) (wp : (Jvm.Cond.privateMethod y).before a0 Z = true)
    (hy : y.cls ≠ "java/lang/invoke/MethodHandle" ∧ y.cls ≠ "java/lang/invoke/VarHandle") : (Jvm.Cond.selects y.cls y y).before args s = true := by
  have ws' : (Jvm.Cond.selects C y y).before args s = true := mvT hZ ws
  obtain ⟨c, r, m, -, -, h3, -, k, h4, h5⟩ := Cond.selects_spec ws'
  exact Stand.selects_self_of_private (findClass_of_methodNamed h3) h4 h5 (Cond.privateMethod_at (args := args) (mvP hZ wp)) (mvT hZ wn) hy
theorem Go.cp {p : Program} {l : Launch} {e : Env} {R : Room} {s : State} {m : MethodId} {args : Array Value} {below : List Frame} {meth : Method} {c : Code} {T : State} {locs : List Loc} {cells slots : Nat} {G : Outcome → State → Prop} {Z : State} {a0 : Array Value} {h : Heap} {own : String} {index n n0 pc : Nat} {Ls : Array Slot} {vs vd : List Value} {d dd : Value} {a b : Addr} {k k' : ClassId} {ty : FieldType} {z z' sp dp nn : Int32} (X : Stand p l e R s m args below meth c T locs cells slots) (hx : p.tables.exec = Jvm.exec) (hml : c.maxLocals = n) (hown : s.vm.findClass own = some m.cls) (hZ : Z.Warmed39 s.vm)
    (w1 : (Jvm.Cond.methodLink own index Jvm.Stand.acN).before a0 Z = true) (w2 : (Jvm.Cond.native Jvm.Stand.acN).before a0 Z = true) (w3 : (Jvm.Cond.static Jvm.Stand.acN).before a0 Z = true) (w4 : (Jvm.Cond.initialized "java/lang/System").before a0 Z = true) (eT : T.heap = h)
    (A : Arv Z h a k ty z vs d) (B : Arv Z h b k' ty z' vd dd) (hr : refKind ty = false) (h1 : ¬ sp < 0) (h2 : ¬ dp < 0) (h3 : ¬ nn < 0) (h4 : sp.toNatClampNeg + nn.toNatClampNeg ≤ z.toNatClampNeg) (h5 : dp.toNatClampNeg + nn.toNatClampNeg ≤ z'.toNatClampNeg) (hl : vd.length = z'.toNatClampNeg) (N : Fr n0 locs) (ge : n0 ≤ b) (W : Nat) (rest : List Value)
    (hd : decode c.code pc = .ok (.invokestatic index, 3))
    (K : ∀ T' h' L ve, Stand p l e R s m args below meth c T' L cells slots → T'.heap = h' → Fr n0 L → Keep h h' [b] → ve.length = z'.toNatClampNeg → Arv Z h' b k' ty z' ve dd → Go p e below G (T'.setTop (mkF m (pc + 3) Ls rest)))
    (hf : 1 ≤ R.frames := by decide) (hlo : W + (nativeFrameWords "java/lang/System" "arraycopy" 5 + 11) ≤ R.locals := by decide) (hsz : Ls.size = n := by rfl) (hW : 2 * (mkF m pc Ls (.int nn :: .int dp :: .ref b :: .int sp :: .ref a :: rest)).monitorRoom + (rest.map fun v => v.category).sum ≤ W := by exact Nat.le_of_eq rfl) : Go p e below G (T.setTop (mkF m pc Ls (.int nn :: .int dp :: .ref b :: .int sp :: .ref a :: rest))) := by
  obtain ⟨T', h', L, X', e', N', K', V', st⟩ := cpA X hx hZ hown w1 w2 w3 w4 eT A B (Or.inl ⟨rfl, hr⟩) h1 h2 h3 h4 h5 rfl (by rw [hl]; exact h5) N ge (g := mkF m pc Ls (.int nn :: .int dp :: .ref b :: .int sp :: .ref a :: rest)) rfl (hsz.trans hml.symm) rfl hd hf hW hlo
  refine Go.step st (K _ _ _ _ X' e' N' K' ?_ V')
  simp only [List.length_append, List.length_take, List.length_drop, List.length_map, List.length_range]
  omega

theorem own_nf {Z s : State} {a0 : Array Value} {y yq : MethodName} {C : String} (hZ : Z.Warmed39 s.vm) (ws : (Jvm.Cond.selects C yq yq).before a0 Z = true) (hc : yq.cls = y.cls) : NotFace s y := fun r0 h0 => by
  have ws' : (Jvm.Cond.selects C yq yq).before #[] s = true := mvT hZ ws
  obtain ⟨c2, r2, m2, q1, q2, q3, q4, kP, hkP, hkPi⟩ := Cond.selects_spec ws'
  have a := findClass_of_methodNamed q3
  rw [hc, findClass_of_methodNamed h0] at a
  rw [← Option.some.inj a] at hkP
  exact ⟨kP, hkP, hkPi⟩
theorem own_same {Z : State} {a0 : Array Value} {y yq : MethodName} {C : String} (w : (Jvm.Cond.instanceMethod y).before a0 Z = true) (ws : (Jvm.Cond.selects C yq yq).before a0 Z = true) (hc : yq.cls = y.cls) (hy : y.cls ≠ "java/lang/invoke/MethodHandle" ∧ y.cls ≠ "java/lang/invoke/VarHandle") : (Jvm.Cond.sameMethod y.cls y.cls y.name y.desc).before a0 Z = true := by
  obtain ⟨mk, methM, hnamed, hmethM, -, -⟩ := Cond.instanceMethod_spec w
  obtain ⟨c, r, m, -, -, h3, -, k, h4, h5⟩ := Cond.selects_spec ws
  have hfound : Z.methodFound? y.cls y.name y.desc = some mk := State.methodFound?_of_named hnamed hy
  have hn : Z.methodNamed? ⟨y.cls, y.name, y.desc⟩ = some mk := hnamed
  have e : m.cls = mk.cls := by
    have a := findClass_of_methodNamed h3
    rw [hc, findClass_of_methodNamed hnamed] at a
    exact (Option.some.inj a).symm
  rw [e] at h4
  simp [Cond.before, Cond.holds, Cond.value, findClass_of_methodNamed hnamed, hfound, hn, h4, h5]
theorem Go.cU {p : Program} {l : Launch} {e : Env} {R : Room} {s : State} {m : MethodId} {args : Array Value} {below : List Frame} {meth : Method} {c : Code} {T : State} {locs : List Loc} {cells slots : Nat} {G : Outcome → State → Prop} {Z : State} {a0 : Array Value} {h : Heap} {own : String} {index n : Nat} {y : MethodName} {bytes : ByteArray} {maxL : Nat} {rt : Option FieldType} {rm : Room} {argsL : List Value} {Q : Option Value → Heap → List Loc → Prop} {a : Addr} {C C' : String} {yq : MethodName} (X : Stand p l e R s m args below meth c T locs cells slots) (hx : p.tables.exec = Jvm.exec) (hml : c.maxLocals = n) (hown : s.vm.findClass own = some m.cls) (hZ : Z.Warmed39 s.vm) (w1 : (Jvm.Cond.methodLink own index y).before a0 Z = true) (w2 : (Jvm.Cond.instanceMethod y).before a0 Z = true) (wq : (Jvm.Cond.selects C' yq yq).before a0 Z = true) (w5 : (Jvm.Cond.superclass own y.cls).before a0 Z = true) (w3 : (Jvm.Cond.initialized y.cls).before a0 Z = true) (w4 : (Jvm.Cond.code y bytes maxL rt).before a0 Z = true) (E : Exa Z h a C)
    (hM : Mt l Z y bytes maxL rt [] rm (.ref a :: argsL).toArray h Q) (W : Nat) {pc : Nat} {Ls : Array Slot} {stk : List Value} (rest : List Value)
    {ps : List FieldType} {r : Option FieldType} (pd : parseMethodDescriptor y.desc = some ⟨ps, r⟩)
    (hd : decode c.code pc = .ok (.invokespecial index, 3)) (eT : T.heap = h)
    (K : ∀ v T' L, Stand p l e R s m args below meth c T' (locs ++ L) (cells + rm.cells) (slots + rm.slots) → Q v T'.heap L → Go p e below G (T'.setTop (mkF m (pc + 3) Ls (v.toList ++ rest))))
    (hf : rm.frames + 1 ≤ R.frames := by decide) (hl : W + (maxL + 11) + rm.locals ≤ R.locals := by decide) (hy : y.cls ≠ "java/lang/invoke/MethodHandle" ∧ y.cls ≠ "java/lang/invoke/VarHandle" := by decide) (hn : argsL.length = ps.length := by rfl) (hs : stk = argsL.reverse ++ .ref a :: rest := by rfl)
    (hsz : Ls.size = n := by rfl) (hW : 2 * (mkF m pc Ls stk).monitorRoom + (rest.map fun v => v.category).sum ≤ W := by exact Nat.le_of_eq rfl) (h1 : cells + rm.cells ≤ R.cells := by decide) (h2 : slots + rm.slots ≤ R.slots := by decide) (hy1 : y.name ≠ "<init>" := by decide) (hcq : yq.cls = y.cls := by rfl) : Go p e below G (T.setTop (mkF m pc Ls stk)) := by
  obtain ⟨_, _, ⟨T1, L1, k1, n1⟩, -, X1, ⟨Lc1, hQ1, l1, y1, z1⟩, st1⟩ := superBack X hx hZ hown w1 (own_same w2 wq hcq hy) w2 w5 hy1 (backOf (W := W) hM hZ w4 w3 hf hl) eT (Ins.self E) (g := mkF m pc Ls stk) rfl (hsz.trans hml.symm) w4 (argsL := argsL) (rest := rest) (lenOf pd hn) hs hW hd (fun _ _ => ⟨rfl, eT, h1, h2⟩)
  dsimp only [Pt.U, Pt.locs, Pt.cells, Pt.slots] at X1 l1 y1 z1 st1 hQ1
  subst l1 y1 z1
  exact Go.step (fun _ k => st1.trans k) (K _ _ _ X1 hQ1)
set_option maxRecDepth 65536
set_option maxHeartbeats 4000000
abbrev Sa_0 (Z : State) (v : Value) : Prop := Sta Z Z.heap "java/lang/String" "COMPACT_STRINGS" "Z" v
abbrev Sa_1 (Z : State) (v : Value) : Prop := Sta Z Z.heap "java/lang/Integer" "DigitOnes" "[B" v
abbrev Sa_2 (Z : State) (v : Value) : Prop := Sta Z Z.heap "java/lang/Integer" "DigitTens" "[B" v
abbrev Fd_3 (Z : State) (h : Heap) (a : Addr) (v : Value) : Prop := Fld Z h a "com/example/planstitch/planstitch/core/catalog/CostModel" "byteTransfer" "J" v
abbrev Fd_4 (Z : State) (h : Heap) (a : Addr) (v : Value) : Prop := Fld Z h a "java/lang/AbstractStringBuilder" "value" "[B" v
abbrev Fd_5 (Z : State) (h : Heap) (a : Addr) (v : Value) : Prop := Fld Z h a "java/lang/AbstractStringBuilder" "coder" "B" v
abbrev Fd_6 (Z : State) (h : Heap) (a : Addr) (v : Value) : Prop := Fld Z h a "java/lang/AbstractStringBuilder" "count" "I" v
abbrev Fd_7 (Z : State) (h : Heap) (a : Addr) (v : Value) : Prop := Fld Z h a "java/lang/String" "coder" "B" v
abbrev Fd_8 (Z : State) (h : Heap) (a : Addr) (v : Value) : Prop := Fld Z h a "java/lang/String" "value" "[B" v
abbrev Fd_9 (Z : State) (h : Heap) (a : Addr) (v : Value) : Prop := Fld Z h a "com/example/planstitch/planstitch/core/catalog/CostModel" "tupleAccess" "J" v
abbrev Fd_10 (Z : State) (h : Heap) (a : Addr) (v : Value) : Prop := Fld Z h a "com/example/planstitch/planstitch/core/catalog/CostModel" "tupleTransfer" "J" v
abbrev Fd_11 (Z : State) (h : Heap) (a : Addr) (v : Value) : Prop := Fld Z h a "com/example/planstitch/planstitch/core/catalog/CostModel" "message" "J" v
theorem own_wS {Z : State} {a0 : Array Value} (hw : ∀ d ∈ tables_1, d.before a0 Z = true) : ∀ a ∈ Bundle.stringAtoms, a.before a0 Z = true := by
  intro a ha
  simp only [Bundle.stringAtoms, List.mem_cons, List.not_mem_nil, or_false] at ha
  rcases ha with rfl | rfl | rfl | rfl | rfl | rfl | rfl
  · exact (own_w hw 26 rfl)
  · exact (own_w hw 27 rfl)
  · exact (own_w hw 28 rfl)
  · exact (own_w hw 29 rfl)
  · exact (own_w hw 30 rfl)
  · exact (own_w hw 31 rfl)
  · exact (own_w hw 32 rfl)
abbrev y_0 : MethodName := ⟨"com/example/planstitch/planstitch/core/catalog/CostModelPricesBytesPinLaw", "unit", "(J)J"⟩
theorem pn_com_example_planstitch_planstitch_core_catalog_CostModelPricesBytesPinLaw : plainName "com/example/planstitch/planstitch/core/catalog/CostModelPricesBytesPinLaw" = true := by first | (simp [plainName, overriddenIn]; done) | decide +kernel
theorem d1_0 : decode method_2_code 0 = .ok (.lload_n 0, 1) := by decide +kernel
theorem d1_1 : decode method_2_code 1 = .ok (.ldc2_w 9, 3) := by decide +kernel
theorem d1_4 : decode method_2_code 4 = .ok (.land, 1) := by decide +kernel
theorem d1_5 : decode method_2_code 5 = .ok (.ldc2_w 11, 3) := by decide +kernel
theorem d1_8 : decode method_2_code 8 = .ok (.lrem, 1) := by decide +kernel
theorem d1_9 : decode method_2_code 9 = .ok (.lreturn, 1) := by decide +kernel
abbrev rm_rmUn : Room := ({ frames := 0, cells := 0, slots := 0, locals := 0 } : Room)
def Q_rmUn (Z : State) (xa : Int64) (h0 : Heap) (n0 : Nat) (v : Option Value) (h : Heap) (L : List Loc) : Prop := (v = some (.long ((xa &&& (9223372036854775807 : Int64)) - ((xa &&& (9223372036854775807 : Int64)) / (1000001 : Int64)) * (1000001 : Int64)))) ∧ (Fr n0 L) ∧ (h = h0)
theorem rmUn (l : Launch) (Z : State) (a0 : Array Value) (hw : HW a0 Z) (ws : List Jvm.Cond) (xa : Int64) (h0 : Heap) (n0 : Nat) (O : Old Z n0 h0) :
    Mt l Z y_0 method_2_code 2 (some .long) ws rm_rmUn #[(.long xa)] h0 (Q_rmUn Z xa h0 n0) := by
 refine own_met "com/example/planstitch/planstitch/core/catalog/CostModelPricesBytesPinLaw" (plainFor_of_name pn_com_example_planstitch_planstitch_core_catalog_CostModelPricesBytesPinLaw) #[lv xa, .second] (fun m => rfl) (fun p e s m below meth c s₁ Bd hx hby hml hZ hown hnm X0 e0 => ?_)
 have N0 := Fr.nil n0
 refine Go.step (S' := s₁.setTop (mkF m 9 #[lv xa, .second] [(.long ((xa &&& (9223372036854775807 : Int64)) - ((xa &&& (9223372036854775807 : Int64)) / (1000001 : Int64)) * (1000001 : Int64)))])) (fun t k => ?_) ?_
 · refine XS.lloadN X0.here hx rfl (hb hby d1_0) rfl ?_
   refine X0.ldc2Long hx hown (mvT hZ (own_w hw 4 rfl)) (g := (mkF m 1 #[lv xa, .second] [(.long xa)])) rfl (hb hby d1_1) _ ?_
   refine XS.land X0.here hx rfl (hb hby d1_4) rfl ?_
   refine X0.ldc2Long hx hown (mvT hZ (own_w hw 5 rfl)) (g := (mkF m 5 #[lv xa, .second] [(.long (xa &&& (9223372036854775807 : Int64)))])) rfl (hb hby d1_5) _ ?_
   refine XS.lrem X0.here hx rfl (hb hby d1_8) rfl (by decide) ?_
   exact k
 exact Go.rt X0 hx Bd (w := (.long ((xa &&& (9223372036854775807 : Int64)) - ((xa &&& (9223372036854775807 : Int64)) / (1000001 : Int64)) * (1000001 : Int64)))) rfl (Or.inr (Or.inl ⟨rfl, rfl, _, rfl⟩)) (hb hby d1_9) e0 ⟨rfl, N0, rfl⟩
abbrev y_1 : MethodName := ⟨"com/example/planstitch/planstitch/core/catalog/CostModel", "isInRange", "(J)Z"⟩
theorem pn_com_example_planstitch_planstitch_core_catalog_CostModel : plainName "com/example/planstitch/planstitch/core/catalog/CostModel" = true := by first | (simp [plainName, overriddenIn]; done) | decide +kernel
theorem d5_0 : decode prog_57_method_4_code 0 = .ok (.lload_n 0, 1) := by decide +kernel
theorem d5_1 : decode prog_57_method_4_code 1 = .ok (.lconst 0, 1) := by decide +kernel
theorem d5_2 : decode prog_57_method_4_code 2 = .ok (.lcmp, 1) := by decide +kernel
theorem d5_3 : decode prog_57_method_4_code 3 = .ok (.ifCond .lt 15, 3) := by decide +kernel
theorem d5_6 : decode prog_57_method_4_code 6 = .ok (.lload_n 0, 1) := by decide +kernel
theorem d5_7 : decode prog_57_method_4_code 7 = .ok (.ldc2_w 62, 3) := by decide +kernel
theorem d5_10 : decode prog_57_method_4_code 10 = .ok (.lcmp, 1) := by decide +kernel
theorem d5_11 : decode prog_57_method_4_code 11 = .ok (.ifCond .gt 7, 3) := by decide +kernel
theorem d5_14 : decode prog_57_method_4_code 14 = .ok (.iconst 1, 1) := by decide +kernel
theorem d5_15 : decode prog_57_method_4_code 15 = .ok (.goto 4, 3) := by decide +kernel
theorem d5_19 : decode prog_57_method_4_code 19 = .ok (.ireturn, 1) := by decide +kernel
abbrev rm_rmIn : Room := ({ frames := 0, cells := 0, slots := 0, locals := 0 } : Room)
def Q_rmIn (Z : State) (xa : Int64) (h0 : Heap) (n0 : Nat) (v : Option Value) (h : Heap) (L : List Loc) : Prop := (v = some (.int 1)) ∧ (Fr n0 L) ∧ (h = h0)
theorem rmIn (l : Launch) (Z : State) (a0 : Array Value) (hw : HW a0 Z) (ws : List Jvm.Cond) (xa : Int64) (h0 : Heap) (n0 : Nat) (O : Old Z n0 h0) (ua : ¬ (xa < (0 : Int64))) (ub : ¬ ((1000000 : Int64) < xa)) :
    Mt l Z y_1 prog_57_method_4_code 2 (some .boolean) ws rm_rmIn #[(.long xa)] h0 (Q_rmIn Z xa h0 n0) := by
 refine own_met "com/example/planstitch/planstitch/core/catalog/CostModel" (plainFor_of_name pn_com_example_planstitch_planstitch_core_catalog_CostModel) #[lv xa, .second] (fun m => rfl) (fun p e s m below meth c s₁ Bd hx hby hml hZ hown hnm X0 e0 => ?_)
 have N0 := Fr.nil n0
 refine Go.step (S' := s₁.setTop (mkF m 19 #[lv xa, .second] [(.int 1)])) (fun t k => ?_) ?_
 · refine XS.lloadN X0.here hx rfl (hb hby d5_0) rfl ?_
   refine XS.lconst X0.here hx rfl (hb hby d5_1) ?_
   refine XS.lcmp X0.here hx rfl (hb hby d5_2) rfl ?_
   refine XS.ifNo X0.here hx rfl (hb hby d5_3) rfl ((if0 _ _).trans (flt (fun zq => absurd ((lw_lt xa (0 : Int64)).mp zq) ua)).1) ?_
   refine XS.lloadN X0.here hx rfl (hb hby d5_6) rfl ?_
   refine X0.ldc2Long hx hown (mvT hZ (own_w hw 24 rfl)) (g := (mkF m 7 #[lv xa, .second] [(.long xa)])) rfl (hb hby d5_7) _ ?_
   show Steps p.tables e below (s₁.setTop (mkF m 10 #[lv xa, .second] [(.long (1000000 : Int64)), (.long xa)])) _
   refine XS.lcmp X0.here hx rfl (hb hby d5_10) rfl ?_
   refine XS.ifNo X0.here hx rfl (hb hby d5_11) rfl ((if0 _ _).trans (flt (fun zq => absurd ((lw_gt xa (1000000 : Int64)).mp zq) ub)).2.2.1) ?_
   refine XS.iconst X0.here hx rfl (hb hby d5_14) ?_
   refine XS.goto X0.here hx rfl (pc0 := 15) (pc' := 19) rfl (hb hby d5_15) (by decide) (by decide) ?_
   exact k
 exact Go.rt X0 hx Bd (w := (.int 1)) (by decide) (Or.inl ⟨rfl, Or.inr (Or.inl rfl), _, rfl⟩) (hb hby d5_19) e0 ⟨rfl, N0, rfl⟩
abbrev y_2 : MethodName := ⟨"com/example/planstitch/planstitch/core/catalog/CostModel", "requireInRange", "(ZLjava/lang/String;Ljava/lang/String;)V"⟩
theorem d35_0 : decode prog_57_method_5_code 0 = .ok (.iload_n 0, 1) := by decide +kernel
theorem d35_1 : decode prog_57_method_5_code 1 = .ok (.ifCond .ne 45, 3) := by decide +kernel
theorem d35_46 : decode prog_57_method_5_code 46 = .ok (.return_, 1) := by decide +kernel
abbrev rm_rmRq : Room := ({ frames := 0, cells := 0, slots := 0, locals := 0 } : Room)
def Q_rmRq (Z : State) (sa : Addr) (sb : Addr) (h0 : Heap) (n0 : Nat) (v : Option Value) (h : Heap) (L : List Loc) : Prop := (v = none) ∧ (Fr n0 L) ∧ (h = h0)
theorem rmRq (l : Launch) (Z : State) (a0 : Array Value) (hw : HW a0 Z) (ws : List Jvm.Cond) (sa : Addr) (sb : Addr) (h0 : Heap) (n0 : Nat) (O : Old Z n0 h0) :
    Mt l Z y_2 prog_57_method_5_code 3 none ws rm_rmRq #[(.int 1), (.ref sa), (.ref sb)] h0 (Q_rmRq Z sa sb h0 n0) := by
 refine own_met "com/example/planstitch/planstitch/core/catalog/CostModel" (plainFor_of_name pn_com_example_planstitch_planstitch_core_catalog_CostModel) #[iv 1, rv sa, rv sb] (fun m => rfl) (fun p e s m below meth c s₁ Bd hx hby hml hZ hown hnm X0 e0 => ?_)
 have N0 := Fr.nil n0
 refine Go.step (S' := s₁.setTop (mkF m 46 #[iv 1, rv sa, rv sb] [])) (fun t k => ?_) ?_
 · refine XS.iloadN X0.here hx rfl (hb hby d35_0) rfl ?_
   refine XS.ifYes X0.here hx rfl (pc0 := 1) (pc' := 46) rfl (hb hby d35_1) rfl ((if0 _ _).trans (feq ((by decide) : ¬ ((1 : Int32) = (0 : Int32)))).2) (by decide) (by decide) ?_
   exact k
 exact Go.rv X0 hx Bd (hb hby d35_46) e0 ⟨rfl, N0, rfl⟩
abbrev y_3 : MethodName := ⟨"java/lang/Record", "<init>", "()V"⟩
theorem pn_java_lang_Record : plainName "java/lang/Record" = true := by first | (simp [plainName, overriddenIn]; done) | decide +kernel
theorem d3_0 : decode jdk_30_method_1_code 0 = .ok (.aload_n 0, 1) := by decide +kernel
theorem d3_1 : decode jdk_30_method_1_code 1 = .ok (.invokespecial 1, 3) := by decide +kernel
theorem d3_4 : decode jdk_30_method_1_code 4 = .ok (.return_, 1) := by decide +kernel
abbrev rm_rmRc : Room := ({ frames := 1, cells := 0, slots := 0, locals := 12 } : Room)
def Q_rmRc (Z : State) (oa : Addr) (h0 : Heap) (n0 : Nat) (v : Option Value) (h : Heap) (L : List Loc) : Prop := (v = none) ∧ (Fr n0 L) ∧ (h = h0)
theorem rmRc (l : Launch) (Z : State) (a0 : Array Value) (hw : HW a0 Z) (ws : List Jvm.Cond) (oa : Addr) (h0 : Heap) (n0 : Nat) (O : Old Z n0 h0) :
    Mt l Z y_3 jdk_30_method_1_code 1 none ws rm_rmRc #[(.ref oa)] h0 (Q_rmRc Z oa h0 n0) := by
 refine own_met "java/lang/Record" (plainFor_of_name pn_java_lang_Record) #[rv oa] (fun m => rfl) (fun p e s m below meth c s₁ Bd hx hby hml hZ hown hnm X0 e0 => ?_)
 have N0 := Fr.nil n0
 refine Go.step (S' := s₁.setTop (mkF m 1 #[rv oa] [(.ref oa)])) (fun t k => ?_) ?_
 · refine XS.aloadN X0.here hx rfl (hb hby d3_0) rfl rfl ?_
   exact k
 obtain ⟨T1, X1, e1, st1⟩ := initO X0 hx hZ hown (own_w hw 18 rfl) (own_w hw 19 rfl) (own_w hw 20 rfl) e0 (g := (mkF m 1 #[rv oa] [(.ref oa)])) rfl (by rw [hml]; rfl) rfl (hb hby d3_1) (by decide) (W := 0) (by show 2 * 0 + _ ≤ _; exact Nat.le_of_eq rfl) (by decide)
 refine Go.step st1 ?_
 exact Go.rv X1 hx Bd (hb hby d3_4) e1 ⟨rfl, N0, rfl⟩
abbrev y_4 : MethodName := ⟨"com/example/planstitch/planstitch/core/catalog/CostModel", "pricesBytes", "()Z"⟩
theorem d39_0 : decode prog_57_method_3_code 0 = .ok (.aload_n 0, 1) := by decide +kernel
theorem d39_1 : decode prog_57_method_3_code 1 = .ok (.getfield 56, 3) := by decide +kernel
theorem d39_4 : decode prog_57_method_3_code 4 = .ok (.lconst 0, 1) := by decide +kernel
theorem d39_5 : decode prog_57_method_3_code 5 = .ok (.lcmp, 1) := by decide +kernel
theorem d39_6 : decode prog_57_method_3_code 6 = .ok (.ifCond .eq 7, 3) := by decide +kernel
theorem d39_13 : decode prog_57_method_3_code 13 = .ok (.iconst 0, 1) := by decide +kernel
theorem d39_14 : decode prog_57_method_3_code 14 = .ok (.ireturn, 1) := by decide +kernel
abbrev rm_rmPb0 : Room := ({ frames := 0, cells := 0, slots := 0, locals := 0 } : Room)
def Q_rmPb0 (Z : State) (oa : Addr) (xb : Int64) (h0 : Heap) (n0 : Nat) (v : Option Value) (h : Heap) (L : List Loc) : Prop := (v = some (.int 0)) ∧ (Fr n0 L) ∧ (h = h0)
theorem rmPb0 (l : Launch) (Z : State) (a0 : Array Value) (hw : HW a0 Z) (ws : List Jvm.Cond) (oa : Addr) (xb : Int64) (h0 : Heap) (n0 : Nat) (O : Old Z n0 h0) (F_b : Fd_3 Z h0 oa (.long xb)) (hb0 : xb = (0 : Int64)) :
    Mt l Z y_4 prog_57_method_3_code 1 (some .boolean) ws rm_rmPb0 #[(.ref oa)] h0 (Q_rmPb0 Z oa xb h0 n0) := by
 refine own_met "com/example/planstitch/planstitch/core/catalog/CostModel" (plainFor_of_name pn_com_example_planstitch_planstitch_core_catalog_CostModel) #[rv oa] (fun m => rfl) (fun p e s m below meth c s₁ Bd hx hby hml hZ hown hnm X0 e0 => ?_)
 have N0 := Fr.nil n0
 refine Go.step (S' := s₁.setTop (mkF m 1 #[rv oa] [(.ref oa)])) (fun t k => ?_) ?_
 · refine XS.aloadN X0.here hx rfl (hb hby d39_0) rfl rfl ?_
   exact k
 refine Go.gF X0 hx hZ hown (host := "") (Or.inl (own_w hw 211 rfl)) Via.refl e0 F_b (hb hby d39_1) (fun T1 X1 e1 => ?_)
 refine Go.step (S' := T1.setTop (mkF m 14 #[rv oa] [(.int 0)])) (fun t k => ?_) ?_
 · refine XS.lconst X1.here hx rfl (hb hby d39_4) ?_
   refine XS.lcmp X1.here hx rfl (hb hby d39_5) rfl ?_
   refine XS.ifYes X1.here hx rfl (pc0 := 6) (pc' := 13) rfl (hb hby d39_6) rfl ((if0 _ _).trans (teq ((lw_eq xb (0 : Int64)).mpr hb0)).1) (by decide) (by decide) ?_
   refine XS.iconst X1.here hx rfl (hb hby d39_13) ?_
   exact k
 exact Go.rt X1 hx Bd (w := (.int 0)) (by decide) (Or.inl ⟨rfl, Or.inr (Or.inl rfl), _, rfl⟩) (hb hby d39_14) e1 ⟨rfl, N0, rfl⟩
theorem d39_9 : decode prog_57_method_3_code 9 = .ok (.iconst 1, 1) := by decide +kernel
theorem d39_10 : decode prog_57_method_3_code 10 = .ok (.goto 4, 3) := by decide +kernel
abbrev rm_rmPb1 : Room := ({ frames := 0, cells := 0, slots := 0, locals := 0 } : Room)
def Q_rmPb1 (Z : State) (oa : Addr) (xb : Int64) (h0 : Heap) (n0 : Nat) (v : Option Value) (h : Heap) (L : List Loc) : Prop := (v = some (.int 1)) ∧ (Fr n0 L) ∧ (h = h0)
theorem rmPb1 (l : Launch) (Z : State) (a0 : Array Value) (hw : HW a0 Z) (ws : List Jvm.Cond) (oa : Addr) (xb : Int64) (h0 : Heap) (n0 : Nat) (O : Old Z n0 h0) (F_b : Fd_3 Z h0 oa (.long xb)) (hb0 : ¬ (xb = (0 : Int64))) :
    Mt l Z y_4 prog_57_method_3_code 1 (some .boolean) ws rm_rmPb1 #[(.ref oa)] h0 (Q_rmPb1 Z oa xb h0 n0) := by
 refine own_met "com/example/planstitch/planstitch/core/catalog/CostModel" (plainFor_of_name pn_com_example_planstitch_planstitch_core_catalog_CostModel) #[rv oa] (fun m => rfl) (fun p e s m below meth c s₁ Bd hx hby hml hZ hown hnm X0 e0 => ?_)
 have N0 := Fr.nil n0
 refine Go.step (S' := s₁.setTop (mkF m 1 #[rv oa] [(.ref oa)])) (fun t k => ?_) ?_
 · refine XS.aloadN X0.here hx rfl (hb hby d39_0) rfl rfl ?_
   exact k
 refine Go.gF X0 hx hZ hown (host := "") (Or.inl (own_w hw 211 rfl)) Via.refl e0 F_b (hb hby d39_1) (fun T1 X1 e1 => ?_)
 refine Go.step (S' := T1.setTop (mkF m 14 #[rv oa] [(.int 1)])) (fun t k => ?_) ?_
 · refine XS.lconst X1.here hx rfl (hb hby d39_4) ?_
   refine XS.lcmp X1.here hx rfl (hb hby d39_5) rfl ?_
   refine XS.ifNo X1.here hx rfl (hb hby d39_6) rfl ((if0 _ _).trans (feq (fun zq => absurd ((lw_eq xb (0 : Int64)).mp zq) hb0)).1) ?_
   refine XS.iconst X1.here hx rfl (hb hby d39_9) ?_
   refine XS.goto X1.here hx rfl (pc0 := 10) (pc' := 14) rfl (hb hby d39_10) (by decide) (by decide) ?_
   exact k
 exact Go.rt X1 hx Bd (w := (.int 1)) (by decide) (Or.inl ⟨rfl, Or.inr (Or.inl rfl), _, rfl⟩) (hb hby d39_14) e1 ⟨rfl, N0, rfl⟩
abbrev y_5 : MethodName := ⟨"java/lang/AbstractStringBuilder", "<init>", "(I)V"⟩
theorem pn_java_lang_AbstractStringBuilder : plainName "java/lang/AbstractStringBuilder" = true := by first | (simp [plainName, overriddenIn]; done) | decide +kernel
theorem d7_0 : decode jdk_68_method_2_code 0 = .ok (.aload_n 0, 1) := by decide +kernel
theorem d7_1 : decode jdk_68_method_2_code 1 = .ok (.invokespecial 3, 3) := by decide +kernel
theorem d7_4 : decode jdk_68_method_2_code 4 = .ok (.getstatic 18, 3) := by decide +kernel
theorem d7_7 : decode jdk_68_method_2_code 7 = .ok (.ifCond .eq 18, 3) := by decide +kernel
theorem d7_10 : decode jdk_68_method_2_code 10 = .ok (.aload_n 0, 1) := by decide +kernel
theorem d7_11 : decode jdk_68_method_2_code 11 = .ok (.iload_n 1, 1) := by decide +kernel
theorem d7_12 : decode jdk_68_method_2_code 12 = .ok (.newarray .byte, 2) := by decide +kernel
theorem d7_14 : decode jdk_68_method_2_code 14 = .ok (.putfield 15, 3) := by decide +kernel
theorem d7_17 : decode jdk_68_method_2_code 17 = .ok (.aload_n 0, 1) := by decide +kernel
theorem d7_18 : decode jdk_68_method_2_code 18 = .ok (.iconst 0, 1) := by decide +kernel
theorem d7_19 : decode jdk_68_method_2_code 19 = .ok (.putfield 22, 3) := by decide +kernel
theorem d7_22 : decode jdk_68_method_2_code 22 = .ok (.goto 16, 3) := by decide +kernel
theorem d7_38 : decode jdk_68_method_2_code 38 = .ok (.return_, 1) := by decide +kernel
abbrev rm_rmAI : Room := ({ frames := 1, cells := 1, slots := 16, locals := 12 } : Room)
def Q_rmAI (Z : State) (sb : Addr) (cs : Int32) (h0 : Heap) (n0 : Nat) (v : Option Value) (h : Heap) (L : List Loc) : Prop := ∃ da : Addr, ∃ kd : ClassId, (v = none) ∧ (Fr n0 L) ∧ (Keep h0 h [sb]) ∧ (Exa Z h sb "java/lang/StringBuilder") ∧ (Fd_4 Z h sb (.ref da)) ∧ (Fd_5 Z h sb (.int 0)) ∧ (Fd_6 Z h sb (.int 0)) ∧ (Arv Z h da kd .byte (16 : Int32) (List.replicate 16 (.int 0)) (.int 0)) ∧ (Exa Z h da "[B") ∧ (n0 ≤ da) ∧ (h0.size ≤ da)
theorem rmAI (l : Launch) (Z : State) (a0 : Array Value) (hw : HW a0 Z) (ws : List Jvm.Cond) (sb : Addr) (cs : Int32) (h0 : Heap) (n0 : Nat) (O : Old Z n0 h0) (S_CS : Sa_0 Z (.int cs)) (E_sb : Exa Z h0 sb "java/lang/StringBuilder") (F_v : Fd_4 Z h0 sb .null) (F_c : Fd_5 Z h0 sb (.int 0)) (F_n : Fd_6 Z h0 sb (.int 0)) (g_sb : n0 ≤ sb) (hcs : ¬ (cs = (0 : Int32))) :
    Mt l Z y_5 jdk_68_method_2_code 2 none ws rm_rmAI #[(.ref sb), (.int 16)] h0 (Q_rmAI Z sb cs h0 n0) := by
 refine own_met "java/lang/AbstractStringBuilder" (plainFor_of_name pn_java_lang_AbstractStringBuilder) #[rv sb, iv 16] (fun m => rfl) (fun p e s m below meth c s₁ Bd hx hby hml hZ hown hnm X0 e0 => ?_)
 have N0 := Fr.nil n0
 have K := Keep.refl h0 [sb]
 refine Go.step (S' := s₁.setTop (mkF m 1 #[rv sb, iv 16] [(.ref sb)])) (fun t k => ?_) ?_
 · refine XS.aloadN X0.here hx rfl (hb hby d7_0) rfl rfl ?_
   exact k
 obtain ⟨T1, X1, e1, st1⟩ := initO X0 hx hZ hown (own_w hw 45 rfl) (own_w hw 19 rfl) (own_w hw 20 rfl) e0 (g := (mkF m 1 #[rv sb, iv 16] [(.ref sb)])) rfl (by rw [hml]; rfl) rfl (hb hby d7_1) (by decide) (W := 0) (by show 2 * 0 + _ ≤ _; exact Nat.le_of_eq rfl) (by decide)
 refine Go.step st1 ?_
 refine Go.gS X1 hx hZ hown (host := "") (Or.inl (own_w hw 46 rfl)) Via.refl e1 (S_CS.ext O.2) (hb hby d7_4) (fun T2 X2 e2 => ?_)
 refine Go.step (S' := T2.setTop (mkF m 12 #[rv sb, iv 16] [(.int 16), (.ref sb)])) (fun t k => ?_) ?_
 · refine XS.ifNo X2.here hx rfl (hb hby d7_7) rfl ((if0 _ _).trans (feq (hcs : ¬ (cs = (0 : Int32)))).1) ?_
   refine XS.aloadN X2.here hx rfl (hb hby d7_10) rfl rfl ?_
   refine XS.iloadN X2.here hx rfl (hb hby d7_11) rfl ?_
   exact k
 obtain ⟨T3, h3, k3, X3, e3, E3, A3, Q3, st3⟩ := newPE X2 hx hZ (own_w hw 28 rfl) e2 (g := (mkF m 12 #[rv sb, iv 16] [(.int 16), (.ref sb)])) rfl (hb hby d7_12) rfl (by decide) (cap := 16) (by decide) (by decide) (by decide) (by decide) (ad := "[B") rfl
 obtain ⟨b3, g3⟩ : ∃ z, z = Array.size h0 := ⟨_, rfl⟩
 have g_b3 : n0 ≤ b3 := Nat.le_trans (old_le O) (Nat.le_of_eq g3.symm)
 have sz_b3 : h0.size ≤ b3 := Nat.le_trans K.1 (Nat.le_of_eq g3.symm)
 have ne_sb_b3 : sb ≠ b3 := Nat.ne_of_lt (Nat.lt_of_lt_of_le E_sb.lt (Nat.le_of_eq g3.symm))
 rw [← g3] at A3 Q3 st3
 have O := O.ext E3
 have E_sb := E_sb.ext E3
 have F_v := F_v.ext E3
 have F_c := F_c.ext E3
 have F_n := F_n.ext E3
 have K := K.ext E3
 have V_b3 : Arv Z h3 b3 k3 .byte (16 : Int32) (List.replicate 16 (.int 0)) (.int 0) := (Arv.new A3 (by decide)).pad (pad_rep [] (.int 0) 16)
 have E_b3 := Q3
 refine Go.step st3 ?_
 obtain ⟨T4, h4, X4, e4, W4, st4⟩ := putF X3 hx hZ hown (host := "") (Or.inl (own_w hw 47 rfl)) Via.refl e3 F_v E_sb (Or.inl (own_w hw 48 rfl)) (own_w hw 34 rfl) (ty := (.array .byte)) (by decide) rfl rfl (g := (mkF m 14 #[rv sb, iv 16] [(.ref b3), (.ref sb)])) rfl rfl (hb hby d7_14)
 have O := O.wr W4 g_sb
 have E_sb := E_sb.wr W4
 have F_v := F_v.same W4
 have F_c := F_c.other W4 (Or.inr (slot_ne (Or.inl (own_w hw 50 rfl)) (Or.inl (own_w hw 48 rfl)) (by decide) (t := .byte) (t' := (.array .byte)) (by decide) (by decide)))
 have F_n := F_n.other W4 (Or.inr (slot_ne (Or.inl (own_w hw 62 rfl)) (Or.inl (own_w hw 48 rfl)) (by decide) (t := .int) (t' := (.array .byte)) (by decide) (by decide)))
 have K := K.wr W4 (Or.inl (List.mem_of_getElem? (i := 0) rfl))
 have V_b3 := V_b3.other W4 (Ne.symm ne_sb_b3)
 have E_b3 := E_b3.wr W4
 have N4 := Fr.snoc X4 N0 g_sb
 refine Go.step st4 ?_
 refine Go.step (S' := T4.setTop (mkF m 19 #[rv sb, iv 16] [(.int 0), (.ref sb)])) (fun t k => ?_) ?_
 · refine XS.aloadN X4.here hx rfl (hb hby d7_17) rfl rfl ?_
   refine XS.iconst X4.here hx rfl (hb hby d7_18) ?_
   exact k
 obtain ⟨T5, h5, X5, e5, W5, st5⟩ := putFN X4 hx hZ hown (own_w hw 49 rfl) Via.refl e4 F_c E_sb (Or.inl (own_w hw 50 rfl)) (own_w hw 34 rfl) (ty := .byte) (v' := (.int 0)) (by decide) rfl rfl (g := (mkF m 19 #[rv sb, iv 16] [(.int 0), (.ref sb)])) rfl rfl (hb hby d7_19)
 have O := O.wr W5 g_sb
 have E_sb := E_sb.wr W5
 have F_v := F_v.other W5 (Or.inr (slot_ne (Or.inl (own_w hw 48 rfl)) (Or.inl (own_w hw 50 rfl)) (by decide) (t := (.array .byte)) (t' := .byte) (by decide) (by decide)))
 have F_c := F_c.same W5
 have F_n := F_n.other W5 (Or.inr (slot_ne (Or.inl (own_w hw 62 rfl)) (Or.inl (own_w hw 50 rfl)) (by decide) (t := .int) (t' := .byte) (by decide) (by decide)))
 have K := K.wr W5 (Or.inl (List.mem_of_getElem? (i := 0) rfl))
 have V_b3 := V_b3.other W5 (Ne.symm ne_sb_b3)
 have E_b3 := E_b3.wr W5
 have N5 := Fr.snoc X5 N4 g_sb
 refine Go.step st5 ?_
 refine Go.step (S' := T5.setTop (mkF m 38 #[rv sb, iv 16] [])) (fun t k => ?_) ?_
 · refine XS.goto X5.here hx rfl (pc0 := 22) (pc' := 38) rfl (hb hby d7_22) (by decide) (by decide) ?_
   exact k
 exact Go.rv X5 hx Bd (hb hby d7_38) e5 ⟨b3, k3, rfl, N5, K, E_sb, F_v, F_c, F_n, V_b3, E_b3, g_b3, sz_b3⟩
abbrev y_6 : MethodName := ⟨"java/lang/StringBuilder", "<init>", "()V"⟩
theorem pn_java_lang_StringBuilder : plainName "java/lang/StringBuilder" = true := by first | (simp [plainName, overriddenIn]; done) | decide +kernel
theorem d6_0 : decode jdk_67_method_1_code 0 = .ok (.aload_n 0, 1) := by decide +kernel
theorem d6_1 : decode jdk_67_method_1_code 1 = .ok (.bipush 16, 2) := by decide +kernel
theorem d6_3 : decode jdk_67_method_1_code 3 = .ok (.invokespecial 1, 3) := by decide +kernel
theorem pd__28I_29V : parseMethodDescriptor "(I)V" = some ⟨[.int], none⟩ := by decide +kernel
theorem d6_6 : decode jdk_67_method_1_code 6 = .ok (.return_, 1) := by decide +kernel
abbrev rm_rmBI : Room := ({ frames := 2, cells := 1, slots := 16, locals := 25 } : Room)
def Q_rmBI (Z : State) (sb : Addr) (cs : Int32) (h0 : Heap) (n0 : Nat) (v : Option Value) (h : Heap) (L : List Loc) : Prop := ∃ da : Addr, ∃ kd : ClassId, (v = none) ∧ (Fr n0 L) ∧ (Keep h0 h [sb]) ∧ (Exa Z h sb "java/lang/StringBuilder") ∧ (Fd_4 Z h sb (.ref da)) ∧ (Fd_5 Z h sb (.int 0)) ∧ (Fd_6 Z h sb (.int 0)) ∧ (Arv Z h da kd .byte (16 : Int32) (List.replicate 16 (.int 0)) (.int 0)) ∧ (Exa Z h da "[B") ∧ (n0 ≤ da) ∧ (h0.size ≤ da)
theorem rmBI (l : Launch) (Z : State) (a0 : Array Value) (hw : HW a0 Z) (ws : List Jvm.Cond) (sb : Addr) (cs : Int32) (h0 : Heap) (n0 : Nat) (O : Old Z n0 h0) (S_CS : Sa_0 Z (.int cs)) (E_sb : Exa Z h0 sb "java/lang/StringBuilder") (F_v : Fd_4 Z h0 sb .null) (F_c : Fd_5 Z h0 sb (.int 0)) (F_n : Fd_6 Z h0 sb (.int 0)) (g_sb : n0 ≤ sb) (hcs : ¬ (cs = (0 : Int32))) :
    Mt l Z y_6 jdk_67_method_1_code 1 none ws rm_rmBI #[(.ref sb)] h0 (Q_rmBI Z sb cs h0 n0) := by
 refine own_met "java/lang/StringBuilder" (plainFor_of_name pn_java_lang_StringBuilder) #[rv sb] (fun m => rfl) (fun p e s m below meth c s₁ Bd hx hby hml hZ hown hnm X0 e0 => ?_)
 have N0 := Fr.nil n0
 have K := Keep.refl h0 [sb]
 refine Go.step (S' := s₁.setTop (mkF m 3 #[rv sb] [(.int 16), (.ref sb)])) (fun t k => ?_) ?_
 · refine XS.aloadN X0.here hx rfl (hb hby d6_0) rfl rfl ?_
   refine XS.bipush X0.here hx rfl (hb hby d6_1) ?_
   exact k
 refine Go.cI X0 hx hml hown hZ (own_w hw 39 rfl) (own_w hw 40 rfl) (own_w hw 43 rfl) (own_w hw 44 rfl) (rmAI l Z a0 hw [] sb cs h0 n0 O S_CS E_sb F_v F_c F_n (by assumption) hcs) 0 [] pd__28I_29V (hb hby d6_3) e0 (fun _ T1 L1 X1 hQ1 => ?_)
 obtain ⟨da_1, kd_1, rfl, Nq1, K1, P1_E_sb, P1_F_v, P1_F_c, P1_F_n, P1_V_da, P1_E_da, gd_1, sd_1⟩ := hQ1
 have N1 := Fr.app N0 Nq1
 have sz_da_1 : h0.size ≤ da_1 := Nat.le_trans K.1 sd_1
 have ne_sb_da_1 : sb ≠ da_1 := Nat.ne_of_lt (Nat.lt_of_lt_of_le E_sb.lt sd_1)
 have O := O.keep K1 (allS g_sb all0)
 have E_sb := E_sb.keep K1
 have K := K.trans K1 (allS (Or.inl (List.mem_of_getElem? (i := 0) rfl)) all0)
 have E_sb_1 := P1_E_sb
 have F_v_1 := P1_F_v
 have F_c_1 := P1_F_c
 have F_n_1 := P1_F_n
 have V_da_1 := P1_V_da
 have E_da_1 := P1_E_da
 have g_da_1 := gd_1
 exact Go.rv X1 hx Bd (hb hby d6_6) (Eq.refl T1.heap) ⟨da_1, kd_1, rfl, N1, K, E_sb, F_v_1, F_c_1, F_n_1, V_da_1, E_da_1, g_da_1, sz_da_1⟩
abbrev y_7 : MethodName := ⟨"java/lang/AbstractStringBuilder", "isLatin1", "()Z"⟩
theorem d12_0 : decode jdk_68_method_68_code 0 = .ok (.getstatic 18, 3) := by decide +kernel
theorem d12_3 : decode jdk_68_method_68_code 3 = .ok (.ifCond .eq 14, 3) := by decide +kernel
theorem d12_6 : decode jdk_68_method_68_code 6 = .ok (.aload_n 0, 1) := by decide +kernel
theorem d12_7 : decode jdk_68_method_68_code 7 = .ok (.getfield 22, 3) := by decide +kernel
theorem d12_10 : decode jdk_68_method_68_code 10 = .ok (.ifCond .ne 7, 3) := by decide +kernel
theorem d12_13 : decode jdk_68_method_68_code 13 = .ok (.iconst 1, 1) := by decide +kernel
theorem d12_14 : decode jdk_68_method_68_code 14 = .ok (.goto 4, 3) := by decide +kernel
theorem d12_18 : decode jdk_68_method_68_code 18 = .ok (.ireturn, 1) := by decide +kernel
abbrev rm_rmL1 : Room := ({ frames := 0, cells := 0, slots := 0, locals := 0 } : Room)
def Q_rmL1 (Z : State) (sb : Addr) (cs : Int32) (h0 : Heap) (n0 : Nat) (v : Option Value) (h : Heap) (L : List Loc) : Prop := (v = some (.int 1)) ∧ (Fr n0 L) ∧ (h = h0)
theorem rmL1 (l : Launch) (Z : State) (a0 : Array Value) (hw : HW a0 Z) (ws : List Jvm.Cond) (sb : Addr) (cs : Int32) (h0 : Heap) (n0 : Nat) (O : Old Z n0 h0) (S_CS : Sa_0 Z (.int cs)) (F_c : Fd_5 Z h0 sb (.int 0)) (hcs : ¬ (cs = (0 : Int32))) :
    Mt l Z y_7 jdk_68_method_68_code 1 (some .boolean) ws rm_rmL1 #[(.ref sb)] h0 (Q_rmL1 Z sb cs h0 n0) := by
 refine own_met "java/lang/AbstractStringBuilder" (plainFor_of_name pn_java_lang_AbstractStringBuilder) #[rv sb] (fun m => rfl) (fun p e s m below meth c s₁ Bd hx hby hml hZ hown hnm X0 e0 => ?_)
 have N0 := Fr.nil n0
 refine Go.gS X0 hx hZ hown (host := "") (Or.inl (own_w hw 46 rfl)) Via.refl e0 (S_CS.ext O.2) (hb hby d12_0) (fun T1 X1 e1 => ?_)
 refine Go.step (S' := T1.setTop (mkF m 7 #[rv sb] [(.ref sb)])) (fun t k => ?_) ?_
 · refine XS.ifNo X1.here hx rfl (hb hby d12_3) rfl ((if0 _ _).trans (feq (hcs : ¬ (cs = (0 : Int32)))).1) ?_
   refine XS.aloadN X1.here hx rfl (hb hby d12_6) rfl rfl ?_
   exact k
 refine Go.gF X1 hx hZ hown (host := "") (Or.inl (own_w hw 49 rfl)) Via.refl e1 F_c (hb hby d12_7) (fun T2 X2 e2 => ?_)
 refine Go.step (S' := T2.setTop (mkF m 18 #[rv sb] [(.int 1)])) (fun t k => ?_) ?_
 · refine XS.ifNo X2.here hx rfl (hb hby d12_10) rfl ((if0 _ _).trans (teq ((by decide) : (0 : Int32) = (0 : Int32))).2) ?_
   refine XS.iconst X2.here hx rfl (hb hby d12_13) ?_
   refine XS.goto X2.here hx rfl (pc0 := 14) (pc' := 18) rfl (hb hby d12_14) (by decide) (by decide) ?_
   exact k
 exact Go.rt X2 hx Bd (w := (.int 1)) (by decide) (Or.inl ⟨rfl, Or.inr (Or.inl rfl), _, rfl⟩) (hb hby d12_18) e2 ⟨rfl, N0, rfl⟩
abbrev y_8 : MethodName := ⟨"java/lang/AbstractStringBuilder", "length", "()I"⟩
theorem d31_0 : decode jdk_68_method_6_code 0 = .ok (.aload_n 0, 1) := by decide +kernel
theorem d31_1 : decode jdk_68_method_6_code 1 = .ok (.getfield 79, 3) := by decide +kernel
theorem d31_4 : decode jdk_68_method_6_code 4 = .ok (.ireturn, 1) := by decide +kernel
abbrev rm_rmAL : Room := ({ frames := 0, cells := 0, slots := 0, locals := 0 } : Room)
def Q_rmAL (Z : State) (sb : Addr) (cn : Int32) (h0 : Heap) (n0 : Nat) (v : Option Value) (h : Heap) (L : List Loc) : Prop := (v = some (.int cn)) ∧ (Fr n0 L) ∧ (h = h0)
theorem rmAL (l : Launch) (Z : State) (a0 : Array Value) (hw : HW a0 Z) (ws : List Jvm.Cond) (sb : Addr) (cn : Int32) (h0 : Heap) (n0 : Nat) (O : Old Z n0 h0) (F_n : Fd_6 Z h0 sb (.int cn)) :
    Mt l Z y_8 jdk_68_method_6_code 1 (some .int) ws rm_rmAL #[(.ref sb)] h0 (Q_rmAL Z sb cn h0 n0) := by
 refine own_met "java/lang/AbstractStringBuilder" (plainFor_of_name pn_java_lang_AbstractStringBuilder) #[rv sb] (fun m => rfl) (fun p e s m below meth c s₁ Bd hx hby hml hZ hown hnm X0 e0 => ?_)
 have N0 := Fr.nil n0
 refine Go.step (S' := s₁.setTop (mkF m 1 #[rv sb] [(.ref sb)])) (fun t k => ?_) ?_
 · refine XS.aloadN X0.here hx rfl (hb hby d31_0) rfl rfl ?_
   exact k
 refine Go.gF X0 hx hZ hown (host := "") (Or.inl (own_w hw 61 rfl)) Via.refl e0 F_n (hb hby d31_1) (fun T1 X1 e1 => ?_)
 exact Go.rt X1 hx Bd (w := (.int cn)) rfl (Or.inl ⟨rfl, Or.inl rfl, _, rfl⟩) (hb hby d31_4) e1 ⟨rfl, N0, rfl⟩
abbrev y_9 : MethodName := ⟨"java/lang/AbstractStringBuilder", "getValue", "()[B"⟩
theorem d29_0 : decode jdk_68_method_64_code 0 = .ok (.aload_n 0, 1) := by decide +kernel
theorem d29_1 : decode jdk_68_method_64_code 1 = .ok (.getfield 15, 3) := by decide +kernel
theorem d29_4 : decode jdk_68_method_64_code 4 = .ok (.areturn, 1) := by decide +kernel
abbrev rm_rmGV : Room := ({ frames := 0, cells := 0, slots := 0, locals := 0 } : Room)
def Q_rmGV (Z : State) (sb : Addr) (da : Addr) (h0 : Heap) (n0 : Nat) (v : Option Value) (h : Heap) (L : List Loc) : Prop := (v = some (.ref da)) ∧ (Fr n0 L) ∧ (h = h0)
theorem rmGV (l : Launch) (Z : State) (a0 : Array Value) (hw : HW a0 Z) (ws : List Jvm.Cond) (sb : Addr) (da : Addr) (h0 : Heap) (n0 : Nat) (O : Old Z n0 h0) (F_v : Fd_4 Z h0 sb (.ref da)) :
    Mt l Z y_9 jdk_68_method_64_code 1 (some (.array .byte)) ws rm_rmGV #[(.ref sb)] h0 (Q_rmGV Z sb da h0 n0) := by
 refine own_met "java/lang/AbstractStringBuilder" (plainFor_of_name pn_java_lang_AbstractStringBuilder) #[rv sb] (fun m => rfl) (fun p e s m below meth c s₁ Bd hx hby hml hZ hown hnm X0 e0 => ?_)
 have N0 := Fr.nil n0
 refine Go.step (S' := s₁.setTop (mkF m 1 #[rv sb] [(.ref sb)])) (fun t k => ?_) ?_
 · refine XS.aloadN X0.here hx rfl (hb hby d29_0) rfl rfl ?_
   exact k
 refine Go.gF X0 hx hZ hown (host := "") (Or.inl (own_w hw 47 rfl)) Via.refl e0 F_v (hb hby d29_1) (fun T1 X1 e1 => ?_)
 exact Go.rt X1 hx Bd (w := (.ref da)) rfl (Or.inr (Or.inr (Or.inr (Or.inr ⟨rfl, rfl, rfl⟩)))) (hb hby d29_4) e1 ⟨rfl, N0, rfl⟩
abbrev y_10 : MethodName := ⟨"java/lang/Math", "max", "(II)I"⟩
theorem d23_0 : decode jdk_29_method_65_code 0 = .ok (.iload_n 0, 1) := by decide +kernel
theorem d23_1 : decode jdk_29_method_65_code 1 = .ok (.iload_n 1, 1) := by decide +kernel
theorem d23_2 : decode jdk_29_method_65_code 2 = .ok (.if_icmp .lt 7, 3) := by decide +kernel
theorem d23_9 : decode jdk_29_method_65_code 9 = .ok (.iload_n 1, 1) := by decide +kernel
theorem d23_10 : decode jdk_29_method_65_code 10 = .ok (.ireturn, 1) := by decide +kernel
abbrev rm_rmMxB : Room := ({ frames := 0, cells := 0, slots := 0, locals := 0 } : Room)
def Q_rmMxB (Z : State) (ma : Int32) (mb : Int32) (h0 : Heap) (n0 : Nat) (v : Option Value) (h : Heap) (L : List Loc) : Prop := (v = some (.int mb)) ∧ (Fr n0 L) ∧ (h = h0)
theorem rmMxB (l : Launch) (Z : State) (a0 : Array Value) (hw : HW a0 Z) (ws : List Jvm.Cond) (ma : Int32) (mb : Int32) (h0 : Heap) (n0 : Nat) (O : Old Z n0 h0) (hq : ma < mb) :
    Mt l Z y_10 jdk_29_method_65_code 2 (some .int) ws rm_rmMxB #[(.int ma), (.int mb)] h0 (Q_rmMxB Z ma mb h0 n0) := by
 refine own_met "java/lang/Math" (Jvm.Free.JP.mathPlain rfl (by decide +kernel)) #[iv ma, iv mb] (fun m => rfl) (fun p e s m below meth c s₁ Bd hx hby hml hZ hown hnm X0 e0 => ?_)
 have N0 := Fr.nil n0
 refine Go.step (S' := s₁.setTop (mkF m 10 #[iv ma, iv mb] [(.int mb)])) (fun t k => ?_) ?_
 · refine XS.iloadN X0.here hx rfl (hb hby d23_0) rfl ?_
   refine XS.iloadN X0.here hx rfl (hb hby d23_1) rfl ?_
   refine XS.icmpYes X0.here hx rfl (pc0 := 2) (pc' := 9) rfl (hb hby d23_2) rfl (tlt (hq : ma < mb)).1 (by decide) (by decide) ?_
   refine XS.iloadN X0.here hx rfl (hb hby d23_9) rfl ?_
   exact k
 exact Go.rt X0 hx Bd (w := (.int mb)) rfl (Or.inl ⟨rfl, Or.inl rfl, _, rfl⟩) (hb hby d23_10) e0 ⟨rfl, N0, rfl⟩
abbrev y_11 : MethodName := ⟨"java/lang/Math", "min", "(II)I"⟩
theorem d25_0 : decode jdk_29_method_69_code 0 = .ok (.iload_n 0, 1) := by decide +kernel
theorem d25_1 : decode jdk_29_method_69_code 1 = .ok (.iload_n 1, 1) := by decide +kernel
theorem d25_2 : decode jdk_29_method_69_code 2 = .ok (.if_icmp .gt 7, 3) := by decide +kernel
theorem d25_9 : decode jdk_29_method_69_code 9 = .ok (.iload_n 1, 1) := by decide +kernel
theorem d25_10 : decode jdk_29_method_69_code 10 = .ok (.ireturn, 1) := by decide +kernel
abbrev rm_rmMnB : Room := ({ frames := 0, cells := 0, slots := 0, locals := 0 } : Room)
def Q_rmMnB (Z : State) (ma : Int32) (mb : Int32) (h0 : Heap) (n0 : Nat) (v : Option Value) (h : Heap) (L : List Loc) : Prop := (v = some (.int mb)) ∧ (Fr n0 L) ∧ (h = h0)
theorem rmMnB (l : Launch) (Z : State) (a0 : Array Value) (hw : HW a0 Z) (ws : List Jvm.Cond) (ma : Int32) (mb : Int32) (h0 : Heap) (n0 : Nat) (O : Old Z n0 h0) (hq : mb < ma) :
    Mt l Z y_11 jdk_29_method_69_code 2 (some .int) ws rm_rmMnB #[(.int ma), (.int mb)] h0 (Q_rmMnB Z ma mb h0 n0) := by
 refine own_met "java/lang/Math" (Jvm.Free.JP.mathPlain rfl (by decide +kernel)) #[iv ma, iv mb] (fun m => rfl) (fun p e s m below meth c s₁ Bd hx hby hml hZ hown hnm X0 e0 => ?_)
 have N0 := Fr.nil n0
 refine Go.step (S' := s₁.setTop (mkF m 10 #[iv ma, iv mb] [(.int mb)])) (fun t k => ?_) ?_
 · refine XS.iloadN X0.here hx rfl (hb hby d25_0) rfl ?_
   refine XS.iloadN X0.here hx rfl (hb hby d25_1) rfl ?_
   refine XS.icmpYes X0.here hx rfl (pc0 := 2) (pc' := 9) rfl (hb hby d25_2) rfl (tlt (hq : mb < ma)).2.2.1 (by decide) (by decide) ?_
   refine XS.iloadN X0.here hx rfl (hb hby d25_9) rfl ?_
   exact k
 exact Go.rt X0 hx Bd (w := (.int mb)) rfl (Or.inl ⟨rfl, Or.inl rfl, _, rfl⟩) (hb hby d25_10) e0 ⟨rfl, N0, rfl⟩
theorem d25_5 : decode jdk_29_method_69_code 5 = .ok (.iload_n 0, 1) := by decide +kernel
theorem d25_6 : decode jdk_29_method_69_code 6 = .ok (.goto 4, 3) := by decide +kernel
abbrev rm_rmMnA : Room := ({ frames := 0, cells := 0, slots := 0, locals := 0 } : Room)
def Q_rmMnA (Z : State) (ma : Int32) (mb : Int32) (h0 : Heap) (n0 : Nat) (v : Option Value) (h : Heap) (L : List Loc) : Prop := (v = some (.int ma)) ∧ (Fr n0 L) ∧ (h = h0)
theorem rmMnA (l : Launch) (Z : State) (a0 : Array Value) (hw : HW a0 Z) (ws : List Jvm.Cond) (ma : Int32) (mb : Int32) (h0 : Heap) (n0 : Nat) (O : Old Z n0 h0) (hq : ¬ (mb < ma)) :
    Mt l Z y_11 jdk_29_method_69_code 2 (some .int) ws rm_rmMnA #[(.int ma), (.int mb)] h0 (Q_rmMnA Z ma mb h0 n0) := by
 refine own_met "java/lang/Math" (Jvm.Free.JP.mathPlain rfl (by decide +kernel)) #[iv ma, iv mb] (fun m => rfl) (fun p e s m below meth c s₁ Bd hx hby hml hZ hown hnm X0 e0 => ?_)
 have N0 := Fr.nil n0
 refine Go.step (S' := s₁.setTop (mkF m 10 #[iv ma, iv mb] [(.int ma)])) (fun t k => ?_) ?_
 · refine XS.iloadN X0.here hx rfl (hb hby d25_0) rfl ?_
   refine XS.iloadN X0.here hx rfl (hb hby d25_1) rfl ?_
   refine XS.icmpNo X0.here hx rfl (hb hby d25_2) rfl (flt (hq : ¬ (mb < ma))).2.2.1 ?_
   refine XS.iloadN X0.here hx rfl (hb hby d25_5) rfl ?_
   refine XS.goto X0.here hx rfl (pc0 := 6) (pc' := 10) rfl (hb hby d25_6) (by decide) (by decide) ?_
   exact k
 exact Go.rt X0 hx Bd (w := (.int ma)) rfl (Or.inl ⟨rfl, Or.inl rfl, _, rfl⟩) (hb hby d25_10) e0 ⟨rfl, N0, rfl⟩
theorem own_sl0 (x : Int32) : (x <<< ((0 : Int32) &&& 31)) = x := by
  rw [← Int32.toInt_inj]
  have h := c_ishl x 0 0 (by decide)
  have r := rng32 (x <<< ((0 : Int32) &&& 31))
  have r' := rng32 x
  omega
abbrev y_12 : MethodName := ⟨"jdk/internal/util/ArraysSupport", "newLength", "(III)I"⟩
theorem pn_jdk_internal_util_ArraysSupport : plainName "jdk/internal/util/ArraysSupport" = true := by first | (simp [plainName, overriddenIn]; done) | decide +kernel
theorem d22_0 : decode jdk_48_method_27_code 0 = .ok (.iload_n 0, 1) := by decide +kernel
theorem d22_1 : decode jdk_48_method_27_code 1 = .ok (.iload_n 1, 1) := by decide +kernel
theorem d22_2 : decode jdk_48_method_27_code 2 = .ok (.iload_n 2, 1) := by decide +kernel
theorem d22_3 : decode jdk_48_method_27_code 3 = .ok (.invokestatic 194, 3) := by decide +kernel
theorem pd__28II_29I : parseMethodDescriptor "(II)I" = some ⟨[.int, .int], some .int⟩ := by decide +kernel
theorem d22_6 : decode jdk_48_method_27_code 6 = .ok (.iadd, 1) := by decide +kernel
theorem d22_7 : decode jdk_48_method_27_code 7 = .ok (.istore_n 3, 1) := by decide +kernel
theorem d22_8 : decode jdk_48_method_27_code 8 = .ok (.iconst 0, 1) := by decide +kernel
theorem d22_9 : decode jdk_48_method_27_code 9 = .ok (.iload_n 3, 1) := by decide +kernel
theorem d22_10 : decode jdk_48_method_27_code 10 = .ok (.if_icmp .ge 11, 3) := by decide +kernel
theorem d22_13 : decode jdk_48_method_27_code 13 = .ok (.iload_n 3, 1) := by decide +kernel
theorem d22_14 : decode jdk_48_method_27_code 14 = .ok (.ldc 200, 2) := by decide +kernel
theorem d22_16 : decode jdk_48_method_27_code 16 = .ok (.if_icmp .gt 5, 3) := by decide +kernel
theorem d22_19 : decode jdk_48_method_27_code 19 = .ok (.iload_n 3, 1) := by decide +kernel
theorem d22_20 : decode jdk_48_method_27_code 20 = .ok (.ireturn, 1) := by decide +kernel
abbrev rm_rmNl16 : Room := ({ frames := 1, cells := 0, slots := 0, locals := 14 } : Room)
def Q_rmNl16 (Z : State) (mg : Int32) (h0 : Heap) (n0 : Nat) (v : Option Value) (h : Heap) (L : List Loc) : Prop := (v = some (.int 34)) ∧ (Fr n0 L) ∧ (h = h0)
theorem rmNl16 (l : Launch) (Z : State) (a0 : Array Value) (hw : HW a0 Z) (ws : List Jvm.Cond) (mg : Int32) (h0 : Heap) (n0 : Nat) (O : Old Z n0 h0) (hm : mg < (18 : Int32)) :
    Mt l Z y_12 jdk_48_method_27_code 4 (some .int) ws rm_rmNl16 #[(.int 16), (.int mg), (.int 18)] h0 (Q_rmNl16 Z mg h0 n0) := by
 refine own_met "jdk/internal/util/ArraysSupport" (plainFor_of_name pn_jdk_internal_util_ArraysSupport) #[iv 16, iv mg, iv 18, u_] (fun m => rfl) (fun p e s m below meth c s₁ Bd hx hby hml hZ hown hnm X0 e0 => ?_)
 have N0 := Fr.nil n0
 refine Go.step (S' := s₁.setTop (mkF m 3 #[iv 16, iv mg, iv 18, u_] [(.int 18), (.int mg), (.int 16)])) (fun t k => ?_) ?_
 · refine XS.iloadN X0.here hx rfl (hb hby d22_0) rfl ?_
   refine XS.iloadN X0.here hx rfl (hb hby d22_1) rfl ?_
   refine XS.iloadN X0.here hx rfl (hb hby d22_2) rfl ?_
   exact k
 refine Go.cS X0 hx hml hown hZ (own_w hw 136 rfl) (own_w hw 137 rfl) (own_w hw 138 rfl) (own_w hw 139 rfl) (rmMxB l Z a0 hw [] mg (18 : Int32) h0 n0 O hm) 1 [(.int 16)] pd__28II_29I (hb hby d22_3) e0 (fun _ T1 L1 X1 hQ1 => ?_)
 obtain ⟨rfl, Nq1, e1⟩ := hQ1
 have N1 := Fr.app N0 Nq1
 refine Go.step (S' := T1.setTop (mkF m 20 #[iv 16, iv mg, iv 18, iv 34] [(.int 34)])) (fun t k => ?_) ?_
 · refine XS.iadd X1.here hx rfl (hb hby d22_6) rfl ?_
   refine XS.istoreN X1.here hx rfl (hb hby d22_7) rfl (l' := #[iv 16, iv mg, iv 18, iv 34]) rfl ?_
   refine XS.iconst X1.here hx rfl (hb hby d22_8) ?_
   refine XS.iloadN X1.here hx rfl (hb hby d22_9) rfl ?_
   refine XS.icmpNo X1.here hx rfl (hb hby d22_10) rfl (tlt ((by decide) : (0 : Int32) < (34 : Int32))).2.1 ?_
   refine XS.iloadN X1.here hx rfl (hb hby d22_13) rfl ?_
   show Steps p.tables e below (T1.setTop (mkF m 14 #[iv 16, iv mg, iv 18, iv 34] [(.int 34)])) _
   refine X1.ldcInt hx hown (mvT hZ (own_w hw 140 rfl)) (g := (mkF m 14 #[iv 16, iv mg, iv 18, iv 34] [(.int 34)])) rfl (hb hby d22_14) _ ?_
   refine XS.icmpNo X1.here hx rfl (hb hby d22_16) rfl (flt ((by decide) : ¬ ((2147483639 : Int32) < (34 : Int32)))).2.2.1 ?_
   refine XS.iloadN X1.here hx rfl (hb hby d22_19) rfl ?_
   exact k
 exact Go.rt X1 hx Bd (w := (.int 34)) rfl (Or.inl ⟨rfl, Or.inl rfl, _, rfl⟩) (hb hby d22_20) e1 ⟨rfl, N1, rfl⟩
abbrev y_13 : MethodName := ⟨"java/lang/AbstractStringBuilder", "newCapacity", "(I)I"⟩
theorem d21_0 : decode jdk_68_method_10_code 0 = .ok (.aload_n 0, 1) := by decide +kernel
theorem d21_1 : decode jdk_68_method_10_code 1 = .ok (.getfield 15, 3) := by decide +kernel
theorem d21_4 : decode jdk_68_method_10_code 4 = .ok (.arraylength, 1) := by decide +kernel
theorem d21_5 : decode jdk_68_method_10_code 5 = .ok (.istore_n 2, 1) := by decide +kernel
theorem d21_6 : decode jdk_68_method_10_code 6 = .ok (.iload_n 1, 1) := by decide +kernel
theorem d21_7 : decode jdk_68_method_10_code 7 = .ok (.aload_n 0, 1) := by decide +kernel
theorem d21_8 : decode jdk_68_method_10_code 8 = .ok (.getfield 22, 3) := by decide +kernel
theorem d21_11 : decode jdk_68_method_10_code 11 = .ok (.ishl, 1) := by decide +kernel
theorem d21_12 : decode jdk_68_method_10_code 12 = .ok (.istore_n 3, 1) := by decide +kernel
theorem d21_13 : decode jdk_68_method_10_code 13 = .ok (.iload_n 3, 1) := by decide +kernel
theorem d21_14 : decode jdk_68_method_10_code 14 = .ok (.iload_n 2, 1) := by decide +kernel
theorem d21_15 : decode jdk_68_method_10_code 15 = .ok (.isub, 1) := by decide +kernel
theorem d21_16 : decode jdk_68_method_10_code 16 = .ok (.istore 4, 2) := by decide +kernel
theorem d21_18 : decode jdk_68_method_10_code 18 = .ok (.iload_n 2, 1) := by decide +kernel
theorem d21_19 : decode jdk_68_method_10_code 19 = .ok (.iload 4, 2) := by decide +kernel
theorem d21_21 : decode jdk_68_method_10_code 21 = .ok (.iload_n 2, 1) := by decide +kernel
theorem d21_22 : decode jdk_68_method_10_code 22 = .ok (.iconst 2, 1) := by decide +kernel
theorem d21_23 : decode jdk_68_method_10_code 23 = .ok (.aload_n 0, 1) := by decide +kernel
theorem d21_24 : decode jdk_68_method_10_code 24 = .ok (.getfield 22, 3) := by decide +kernel
theorem d21_27 : decode jdk_68_method_10_code 27 = .ok (.ishl, 1) := by decide +kernel
theorem d21_28 : decode jdk_68_method_10_code 28 = .ok (.iadd, 1) := by decide +kernel
theorem d21_29 : decode jdk_68_method_10_code 29 = .ok (.invokestatic 114, 3) := by decide +kernel
theorem pd__28III_29I : parseMethodDescriptor "(III)I" = some ⟨[.int, .int, .int], some .int⟩ := by decide +kernel
theorem d21_32 : decode jdk_68_method_10_code 32 = .ok (.istore 5, 2) := by decide +kernel
theorem d21_34 : decode jdk_68_method_10_code 34 = .ok (.iload 5, 2) := by decide +kernel
theorem d21_36 : decode jdk_68_method_10_code 36 = .ok (.ldc 39, 2) := by decide +kernel
theorem d21_38 : decode jdk_68_method_10_code 38 = .ok (.if_icmp .ne 13, 3) := by decide +kernel
theorem d21_51 : decode jdk_68_method_10_code 51 = .ok (.iload 5, 2) := by decide +kernel
theorem d21_53 : decode jdk_68_method_10_code 53 = .ok (.aload_n 0, 1) := by decide +kernel
theorem d21_54 : decode jdk_68_method_10_code 54 = .ok (.getfield 22, 3) := by decide +kernel
theorem d21_57 : decode jdk_68_method_10_code 57 = .ok (.ishr, 1) := by decide +kernel
theorem d21_58 : decode jdk_68_method_10_code 58 = .ok (.ireturn, 1) := by decide +kernel
abbrev rm_rmNc16 : Room := ({ frames := 2, cells := 0, slots := 0, locals := 29 } : Room)
def Q_rmNc16 (Z : State) (sb : Addr) (mc : Int32) (da : Addr) (kd : ClassId) (vs : List Value) (h0 : Heap) (n0 : Nat) (v : Option Value) (h : Heap) (L : List Loc) : Prop := (v = some (.int 34)) ∧ (Fr n0 L) ∧ (h = h0)
theorem rmNc16 (l : Launch) (Z : State) (a0 : Array Value) (hw : HW a0 Z) (ws : List Jvm.Cond) (sb : Addr) (mc : Int32) (da : Addr) (kd : ClassId) (vs : List Value) (h0 : Heap) (n0 : Nat) (O : Old Z n0 h0) (F_v : Fd_4 Z h0 sb (.ref da)) (F_c : Fd_5 Z h0 sb (.int 0)) (V_da : Arv Z h0 da kd .byte (16 : Int32) vs (.int 0)) (hm : (mc - (16 : Int32)) < (18 : Int32)) :
    Mt l Z y_13 jdk_68_method_10_code 6 (some .int) ws rm_rmNc16 #[(.ref sb), (.int mc)] h0 (Q_rmNc16 Z sb mc da kd vs h0 n0) := by
 refine own_met "java/lang/AbstractStringBuilder" (plainFor_of_name pn_java_lang_AbstractStringBuilder) #[rv sb, iv mc, u_, u_, u_, u_] (fun m => rfl) (fun p e s m below meth c s₁ Bd hx hby hml hZ hown hnm X0 e0 => ?_)
 have N0 := Fr.nil n0
 refine Go.step (S' := s₁.setTop (mkF m 1 #[rv sb, iv mc, u_, u_, u_, u_] [(.ref sb)])) (fun t k => ?_) ?_
 · refine XS.aloadN X0.here hx rfl (hb hby d21_0) rfl rfl ?_
   exact k
 refine Go.gF X0 hx hZ hown (host := "") (Or.inl (own_w hw 47 rfl)) Via.refl e0 F_v (hb hby d21_1) (fun T1 X1 e1 => ?_)
 refine Go.len X1 hx hZ e1 V_da (hb hby d21_4) ?_
 refine Go.step (S' := T1.setTop (mkF m 8 #[rv sb, iv mc, iv 16, u_, u_, u_] [(.ref sb), (.int mc)])) (fun t k => ?_) ?_
 · refine XS.istoreN X1.here hx rfl (hb hby d21_5) rfl (l' := #[rv sb, iv mc, iv 16, u_, u_, u_]) rfl ?_
   refine XS.iloadN X1.here hx rfl (hb hby d21_6) rfl ?_
   refine XS.aloadN X1.here hx rfl (hb hby d21_7) rfl rfl ?_
   exact k
 refine Go.gF X1 hx hZ hown (host := "") (Or.inl (own_w hw 49 rfl)) Via.refl e1 F_c (hb hby d21_8) (fun T2 X2 e2 => ?_)
 refine Go.step (S' := T2.setTop (mkF m 12 #[rv sb, iv mc, iv 16, u_, u_, u_] [(.int (mc <<< ((0 : Int32) &&& 31)))])) (fun t k => ?_) ?_
 · refine XS.ishl X2.here hx rfl (hb hby d21_11) rfl ?_
   exact k
 rw [(own_sl0 mc : (mc <<< ((0 : Int32) &&& 31)) = mc)]
 show Go p e below _ (T2.setTop (mkF m 12 #[rv sb, iv mc, iv 16, u_, u_, u_] [(.int mc)]))
 refine Go.step (S' := T2.setTop (mkF m 24 #[rv sb, iv mc, iv 16, iv mc, iv (mc - (16 : Int32)), u_] [(.ref sb), (.int 2), (.int 16), (.int (mc - (16 : Int32))), (.int 16)])) (fun t k => ?_) ?_
 · refine XS.istoreN X2.here hx rfl (hb hby d21_12) rfl (l' := #[rv sb, iv mc, iv 16, iv mc, u_, u_]) rfl ?_
   refine XS.iloadN X2.here hx rfl (hb hby d21_13) rfl ?_
   refine XS.iloadN X2.here hx rfl (hb hby d21_14) rfl ?_
   refine XS.isub X2.here hx rfl (hb hby d21_15) rfl ?_
   refine XS.istore X2.here hx rfl (hb hby d21_16) rfl (l' := #[rv sb, iv mc, iv 16, iv mc, iv (mc - (16 : Int32)), u_]) rfl ?_
   refine XS.iloadN X2.here hx rfl (hb hby d21_18) rfl ?_
   show Steps p.tables e below (T2.setTop (mkF m 19 #[rv sb, iv mc, iv 16, iv mc, iv (mc - (16 : Int32)), u_] [(.int 16)])) _
   refine XS.iload X2.here hx rfl (hb hby d21_19) rfl ?_
   refine XS.iloadN X2.here hx rfl (hb hby d21_21) rfl ?_
   refine XS.iconst X2.here hx rfl (hb hby d21_22) ?_
   refine XS.aloadN X2.here hx rfl (hb hby d21_23) rfl rfl ?_
   exact k
 refine Go.gF X2 hx hZ hown (host := "") (Or.inl (own_w hw 49 rfl)) Via.refl e2 F_c (hb hby d21_24) (fun T3 X3 e3 => ?_)
 refine Go.step (S' := T3.setTop (mkF m 29 #[rv sb, iv mc, iv 16, iv mc, iv (mc - (16 : Int32)), u_] [(.int 18), (.int (mc - (16 : Int32))), (.int 16)])) (fun t k => ?_) ?_
 · refine XS.ishl X3.here hx rfl (hb hby d21_27) rfl ?_
   refine XS.iadd X3.here hx rfl (hb hby d21_28) rfl ?_
   exact k
 refine Go.cS X3 hx hml hown hZ (own_w hw 132 rfl) (own_w hw 133 rfl) (own_w hw 134 rfl) (own_w hw 135 rfl) (rmNl16 l Z a0 hw [] (mc - (16 : Int32)) h0 n0 O hm) 0 [] pd__28III_29I (hb hby d21_29) e3 (fun _ T4 L4 X4 hQ4 => ?_)
 obtain ⟨rfl, Nq4, e4⟩ := hQ4
 have N4 := Fr.app N0 Nq4
 refine Go.step (S' := T4.setTop (mkF m 54 #[rv sb, iv mc, iv 16, iv mc, iv (mc - (16 : Int32)), iv 34] [(.ref sb), (.int 34)])) (fun t k => ?_) ?_
 · refine XS.istore X4.here hx rfl (hb hby d21_32) rfl (l' := #[rv sb, iv mc, iv 16, iv mc, iv (mc - (16 : Int32)), iv 34]) rfl ?_
   refine XS.iload X4.here hx rfl (hb hby d21_34) rfl ?_
   refine X4.ldcInt hx hown (mvT hZ (own_w hw 141 rfl)) (g := (mkF m 36 #[rv sb, iv mc, iv 16, iv mc, iv (mc - (16 : Int32)), iv 34] [(.int 34)])) rfl (hb hby d21_36) _ ?_
   refine XS.icmpYes X4.here hx rfl (pc0 := 38) (pc' := 51) rfl (hb hby d21_38) rfl (feq ((by decide) : ¬ ((34 : Int32) = (2147483647 : Int32)))).2 (by decide) (by decide) ?_
   refine XS.iload X4.here hx rfl (hb hby d21_51) rfl ?_
   refine XS.aloadN X4.here hx rfl (hb hby d21_53) rfl rfl ?_
   exact k
 refine Go.gF X4 hx hZ hown (host := "") (Or.inl (own_w hw 49 rfl)) Via.refl e4 F_c (hb hby d21_54) (fun T5 X5 e5 => ?_)
 refine Go.step (S' := T5.setTop (mkF m 58 #[rv sb, iv mc, iv 16, iv mc, iv (mc - (16 : Int32)), iv 34] [(.int 34)])) (fun t k => ?_) ?_
 · refine XS.ishr X5.here hx rfl (hb hby d21_57) rfl ?_
   exact k
 exact Go.rt X5 hx Bd (w := (.int 34)) rfl (Or.inl ⟨rfl, Or.inl rfl, _, rfl⟩) (hb hby d21_58) e5 ⟨rfl, N4, rfl⟩
abbrev y_14 : MethodName := ⟨"java/util/Arrays", "copyOf", "([BI)[B"⟩
theorem pn_java_util_Arrays : plainName "java/util/Arrays" = true := by first | (simp [plainName, overriddenIn]; done) | decide +kernel
theorem d24_0 : decode jdk_65_method_121_code 0 = .ok (.iload_n 1, 1) := by decide +kernel
theorem d24_1 : decode jdk_65_method_121_code 1 = .ok (.aload_n 0, 1) := by decide +kernel
theorem d24_2 : decode jdk_65_method_121_code 2 = .ok (.arraylength, 1) := by decide +kernel
theorem d24_3 : decode jdk_65_method_121_code 3 = .ok (.if_icmp .ne 11, 3) := by decide +kernel
theorem d24_14 : decode jdk_65_method_121_code 14 = .ok (.iload_n 1, 1) := by decide +kernel
theorem d24_15 : decode jdk_65_method_121_code 15 = .ok (.newarray .byte, 2) := by decide +kernel
theorem d24_17 : decode jdk_65_method_121_code 17 = .ok (.astore_n 2, 1) := by decide +kernel
theorem d24_18 : decode jdk_65_method_121_code 18 = .ok (.aload_n 0, 1) := by decide +kernel
theorem d24_19 : decode jdk_65_method_121_code 19 = .ok (.iconst 0, 1) := by decide +kernel
theorem d24_20 : decode jdk_65_method_121_code 20 = .ok (.aload_n 2, 1) := by decide +kernel
theorem d24_21 : decode jdk_65_method_121_code 21 = .ok (.iconst 0, 1) := by decide +kernel
theorem d24_22 : decode jdk_65_method_121_code 22 = .ok (.aload_n 0, 1) := by decide +kernel
theorem d24_23 : decode jdk_65_method_121_code 23 = .ok (.arraylength, 1) := by decide +kernel
theorem d24_24 : decode jdk_65_method_121_code 24 = .ok (.iload_n 1, 1) := by decide +kernel
theorem d24_25 : decode jdk_65_method_121_code 25 = .ok (.invokestatic 304, 3) := by decide +kernel
theorem d24_28 : decode jdk_65_method_121_code 28 = .ok (.invokestatic 150, 3) := by decide +kernel
theorem d24_31 : decode jdk_65_method_121_code 31 = .ok (.aload_n 2, 1) := by decide +kernel
theorem d24_32 : decode jdk_65_method_121_code 32 = .ok (.areturn, 1) := by decide +kernel
abbrev rm_rmCp16 : Room := ({ frames := 1, cells := 1, slots := 34, locals := 18 } : Room)
def Q_rmCp16 (Z : State) (da : Addr) (kd : ClassId) (vs : List Value) (h0 : Heap) (n0 : Nat) (v : Option Value) (h : Heap) (L : List Loc) : Prop := ∃ cb : Addr, ∃ kb : ClassId, ∃ vt : List Value, (v = some (.ref cb)) ∧ (Fr n0 L) ∧ (Keep h0 h []) ∧ (Arv Z h cb kb .byte (34 : Int32) vt (.int 0)) ∧ (Exa Z h cb "[B") ∧ (vt.length = 34) ∧ (n0 ≤ cb) ∧ (h0.size ≤ cb)
theorem rmCp16 (l : Launch) (Z : State) (a0 : Array Value) (hw : HW a0 Z) (ws : List Jvm.Cond) (da : Addr) (kd : ClassId) (vs : List Value) (h0 : Heap) (n0 : Nat) (O : Old Z n0 h0) (V_da : Arv Z h0 da kd .byte (16 : Int32) vs (.int 0)) :
    Mt l Z y_14 jdk_65_method_121_code 3 (some (.array .byte)) ws rm_rmCp16 #[(.ref da), (.int 34)] h0 (Q_rmCp16 Z da kd vs h0 n0) := by
 refine own_met "java/util/Arrays" (plainFor_of_name pn_java_util_Arrays) #[rv da, iv 34, u_] (fun m => rfl) (fun p e s m below meth c s₁ Bd hx hby hml hZ hown hnm X0 e0 => ?_)
 have N0 := Fr.nil n0
 have K := Keep.refl h0 []
 refine Go.step (S' := s₁.setTop (mkF m 2 #[rv da, iv 34, u_] [(.ref da), (.int 34)])) (fun t k => ?_) ?_
 · refine XS.iloadN X0.here hx rfl (hb hby d24_0) rfl ?_
   refine XS.aloadN X0.here hx rfl (hb hby d24_1) rfl rfl ?_
   exact k
 refine Go.len X0 hx hZ e0 V_da (hb hby d24_2) ?_
 refine Go.step (S' := s₁.setTop (mkF m 15 #[rv da, iv 34, u_] [(.int 34)])) (fun t k => ?_) ?_
 · refine XS.icmpYes X0.here hx rfl (pc0 := 3) (pc' := 14) rfl (hb hby d24_3) rfl (feq ((by decide) : ¬ ((34 : Int32) = (16 : Int32)))).2 (by decide) (by decide) ?_
   refine XS.iloadN X0.here hx rfl (hb hby d24_14) rfl ?_
   exact k
 obtain ⟨T1, h1, k1, X1, e1, E1, A1, Q1, st1⟩ := newPE X0 hx hZ (own_w hw 28 rfl) e0 (g := (mkF m 15 #[rv da, iv 34, u_] [(.int 34)])) rfl (hb hby d24_15) rfl (by decide) (cap := 34) (by decide) (by decide) (by decide) (by decide) (ad := "[B") rfl
 obtain ⟨b1, g1⟩ : ∃ z, z = Array.size h0 := ⟨_, rfl⟩
 have g_b1 : n0 ≤ b1 := Nat.le_trans (old_le O) (Nat.le_of_eq g1.symm)
 have sz_b1 : h0.size ≤ b1 := Nat.le_trans K.1 (Nat.le_of_eq g1.symm)
 have ne_da_b1 : da ≠ b1 := Nat.ne_of_lt (Nat.lt_of_lt_of_le V_da.lt (Nat.le_of_eq g1.symm))
 rw [← g1] at A1 Q1 st1
 have O := O.ext E1
 have V_da := V_da.ext E1
 have K := K.ext E1
 have V_b1 : Arv Z h1 b1 k1 .byte (34 : Int32) (List.replicate 34 (.int 0)) (.int 0) := (Arv.new A1 (by decide)).pad (pad_rep [] (.int 0) 34)
 have E_b1 := Q1
 refine Go.step st1 ?_
 refine Go.step (S' := T1.setTop (mkF m 23 #[rv da, iv 34, rv b1] [(.ref da), (.int 0), (.ref b1), (.int 0), (.ref da)])) (fun t k => ?_) ?_
 · refine XS.astoreN X1.here hx rfl (hb hby d24_17) rfl rfl (l' := #[rv da, iv 34, rv b1]) rfl ?_
   refine XS.aloadN X1.here hx rfl (hb hby d24_18) rfl rfl ?_
   refine XS.iconst X1.here hx rfl (hb hby d24_19) ?_
   refine XS.aloadN X1.here hx rfl (hb hby d24_20) rfl rfl ?_
   refine XS.iconst X1.here hx rfl (hb hby d24_21) ?_
   refine XS.aloadN X1.here hx rfl (hb hby d24_22) rfl rfl ?_
   exact k
 refine Go.len X1 hx hZ e1 V_da (hb hby d24_23) ?_
 refine Go.step (S' := T1.setTop (mkF m 25 #[rv da, iv 34, rv b1] [(.int 34), (.int 16), (.int 0), (.ref b1), (.int 0), (.ref da)])) (fun t k => ?_) ?_
 · refine XS.iloadN X1.here hx rfl (hb hby d24_24) rfl ?_
   exact k
 refine Go.cS X1 hx hml hown hZ (own_w hw 146 rfl) (own_w hw 147 rfl) (own_w hw 138 rfl) (own_w hw 148 rfl) (rmMnA l Z a0 hw [] (16 : Int32) (34 : Int32) h1 n0 O (by decide)) 4 [(.int 0), (.ref b1), (.int 0), (.ref da)] pd__28II_29I (hb hby d24_25) e1 (fun _ T2 L2 X2 hQ2 => ?_)
 obtain ⟨rfl, Nq2, e2⟩ := hQ2
 have N2 := Fr.app N0 Nq2
 refine Go.cp X2 hx hml hown hZ (own_w hw 149 rfl) (own_w hw 126 rfl) (own_w hw 124 rfl) (own_w hw 125 rfl) e2 V_da V_b1 rfl (by decide) (by decide) (by decide) (by decide) (by decide) (by simp) N2 g_b1 0 [] (hb hby d24_28) (fun T4 h4 L4 ve4 X4 e4 N4 K4 hv4 V4 => ?_)
 have O := O.keep K4 (allS g_b1 all0)
 have V_da := V_da.keep K4 (ninS ne_da_b1 nin0)
 have K := K.trans K4 (allS (Or.inr sz_b1) all0)
 have E_b1 := E_b1.keep K4
 have V_b1 := V4
 refine Go.step (S' := T4.setTop (mkF m 32 #[rv da, iv 34, rv b1] [(.ref b1)])) (fun t k => ?_) ?_
 · refine XS.aloadN X4.here hx rfl (hb hby d24_31) rfl rfl ?_
   exact k
 exact Go.rt X4 hx Bd (w := (.ref b1)) rfl (Or.inr (Or.inr (Or.inr (Or.inr ⟨rfl, rfl, rfl⟩)))) (hb hby d24_32) e4 ⟨b1, k1, ve4, rfl, N4, K, V_b1, E_b1, hv4, g_b1, sz_b1⟩
abbrev rm_rmNl34 : Room := ({ frames := 1, cells := 0, slots := 0, locals := 14 } : Room)
def Q_rmNl34 (Z : State) (mg : Int32) (h0 : Heap) (n0 : Nat) (v : Option Value) (h : Heap) (L : List Loc) : Prop := (v = some (.int 70)) ∧ (Fr n0 L) ∧ (h = h0)
theorem rmNl34 (l : Launch) (Z : State) (a0 : Array Value) (hw : HW a0 Z) (ws : List Jvm.Cond) (mg : Int32) (h0 : Heap) (n0 : Nat) (O : Old Z n0 h0) (hm : mg < (36 : Int32)) :
    Mt l Z y_12 jdk_48_method_27_code 4 (some .int) ws rm_rmNl34 #[(.int 34), (.int mg), (.int 36)] h0 (Q_rmNl34 Z mg h0 n0) := by
 refine own_met "jdk/internal/util/ArraysSupport" (plainFor_of_name pn_jdk_internal_util_ArraysSupport) #[iv 34, iv mg, iv 36, u_] (fun m => rfl) (fun p e s m below meth c s₁ Bd hx hby hml hZ hown hnm X0 e0 => ?_)
 have N0 := Fr.nil n0
 refine Go.step (S' := s₁.setTop (mkF m 3 #[iv 34, iv mg, iv 36, u_] [(.int 36), (.int mg), (.int 34)])) (fun t k => ?_) ?_
 · refine XS.iloadN X0.here hx rfl (hb hby d22_0) rfl ?_
   refine XS.iloadN X0.here hx rfl (hb hby d22_1) rfl ?_
   refine XS.iloadN X0.here hx rfl (hb hby d22_2) rfl ?_
   exact k
 refine Go.cS X0 hx hml hown hZ (own_w hw 136 rfl) (own_w hw 137 rfl) (own_w hw 138 rfl) (own_w hw 139 rfl) (rmMxB l Z a0 hw [] mg (36 : Int32) h0 n0 O hm) 1 [(.int 34)] pd__28II_29I (hb hby d22_3) e0 (fun _ T1 L1 X1 hQ1 => ?_)
 obtain ⟨rfl, Nq1, e1⟩ := hQ1
 have N1 := Fr.app N0 Nq1
 refine Go.step (S' := T1.setTop (mkF m 20 #[iv 34, iv mg, iv 36, iv 70] [(.int 70)])) (fun t k => ?_) ?_
 · refine XS.iadd X1.here hx rfl (hb hby d22_6) rfl ?_
   refine XS.istoreN X1.here hx rfl (hb hby d22_7) rfl (l' := #[iv 34, iv mg, iv 36, iv 70]) rfl ?_
   refine XS.iconst X1.here hx rfl (hb hby d22_8) ?_
   refine XS.iloadN X1.here hx rfl (hb hby d22_9) rfl ?_
   refine XS.icmpNo X1.here hx rfl (hb hby d22_10) rfl (tlt ((by decide) : (0 : Int32) < (70 : Int32))).2.1 ?_
   refine XS.iloadN X1.here hx rfl (hb hby d22_13) rfl ?_
   show Steps p.tables e below (T1.setTop (mkF m 14 #[iv 34, iv mg, iv 36, iv 70] [(.int 70)])) _
   refine X1.ldcInt hx hown (mvT hZ (own_w hw 140 rfl)) (g := (mkF m 14 #[iv 34, iv mg, iv 36, iv 70] [(.int 70)])) rfl (hb hby d22_14) _ ?_
   refine XS.icmpNo X1.here hx rfl (hb hby d22_16) rfl (flt ((by decide) : ¬ ((2147483639 : Int32) < (70 : Int32)))).2.2.1 ?_
   refine XS.iloadN X1.here hx rfl (hb hby d22_19) rfl ?_
   exact k
 exact Go.rt X1 hx Bd (w := (.int 70)) rfl (Or.inl ⟨rfl, Or.inl rfl, _, rfl⟩) (hb hby d22_20) e1 ⟨rfl, N1, rfl⟩
abbrev rm_rmNc34 : Room := ({ frames := 2, cells := 0, slots := 0, locals := 29 } : Room)
def Q_rmNc34 (Z : State) (sb : Addr) (mc : Int32) (da : Addr) (kd : ClassId) (vs : List Value) (h0 : Heap) (n0 : Nat) (v : Option Value) (h : Heap) (L : List Loc) : Prop := (v = some (.int 70)) ∧ (Fr n0 L) ∧ (h = h0)
theorem rmNc34 (l : Launch) (Z : State) (a0 : Array Value) (hw : HW a0 Z) (ws : List Jvm.Cond) (sb : Addr) (mc : Int32) (da : Addr) (kd : ClassId) (vs : List Value) (h0 : Heap) (n0 : Nat) (O : Old Z n0 h0) (F_v : Fd_4 Z h0 sb (.ref da)) (F_c : Fd_5 Z h0 sb (.int 0)) (V_da : Arv Z h0 da kd .byte (34 : Int32) vs (.int 0)) (hm : (mc - (34 : Int32)) < (36 : Int32)) :
    Mt l Z y_13 jdk_68_method_10_code 6 (some .int) ws rm_rmNc34 #[(.ref sb), (.int mc)] h0 (Q_rmNc34 Z sb mc da kd vs h0 n0) := by
 refine own_met "java/lang/AbstractStringBuilder" (plainFor_of_name pn_java_lang_AbstractStringBuilder) #[rv sb, iv mc, u_, u_, u_, u_] (fun m => rfl) (fun p e s m below meth c s₁ Bd hx hby hml hZ hown hnm X0 e0 => ?_)
 have N0 := Fr.nil n0
 refine Go.step (S' := s₁.setTop (mkF m 1 #[rv sb, iv mc, u_, u_, u_, u_] [(.ref sb)])) (fun t k => ?_) ?_
 · refine XS.aloadN X0.here hx rfl (hb hby d21_0) rfl rfl ?_
   exact k
 refine Go.gF X0 hx hZ hown (host := "") (Or.inl (own_w hw 47 rfl)) Via.refl e0 F_v (hb hby d21_1) (fun T1 X1 e1 => ?_)
 refine Go.len X1 hx hZ e1 V_da (hb hby d21_4) ?_
 refine Go.step (S' := T1.setTop (mkF m 8 #[rv sb, iv mc, iv 34, u_, u_, u_] [(.ref sb), (.int mc)])) (fun t k => ?_) ?_
 · refine XS.istoreN X1.here hx rfl (hb hby d21_5) rfl (l' := #[rv sb, iv mc, iv 34, u_, u_, u_]) rfl ?_
   refine XS.iloadN X1.here hx rfl (hb hby d21_6) rfl ?_
   refine XS.aloadN X1.here hx rfl (hb hby d21_7) rfl rfl ?_
   exact k
 refine Go.gF X1 hx hZ hown (host := "") (Or.inl (own_w hw 49 rfl)) Via.refl e1 F_c (hb hby d21_8) (fun T2 X2 e2 => ?_)
 refine Go.step (S' := T2.setTop (mkF m 12 #[rv sb, iv mc, iv 34, u_, u_, u_] [(.int (mc <<< ((0 : Int32) &&& 31)))])) (fun t k => ?_) ?_
 · refine XS.ishl X2.here hx rfl (hb hby d21_11) rfl ?_
   exact k
 rw [(own_sl0 mc : (mc <<< ((0 : Int32) &&& 31)) = mc)]
 show Go p e below _ (T2.setTop (mkF m 12 #[rv sb, iv mc, iv 34, u_, u_, u_] [(.int mc)]))
 refine Go.step (S' := T2.setTop (mkF m 24 #[rv sb, iv mc, iv 34, iv mc, iv (mc - (34 : Int32)), u_] [(.ref sb), (.int 2), (.int 34), (.int (mc - (34 : Int32))), (.int 34)])) (fun t k => ?_) ?_
 · refine XS.istoreN X2.here hx rfl (hb hby d21_12) rfl (l' := #[rv sb, iv mc, iv 34, iv mc, u_, u_]) rfl ?_
   refine XS.iloadN X2.here hx rfl (hb hby d21_13) rfl ?_
   refine XS.iloadN X2.here hx rfl (hb hby d21_14) rfl ?_
   refine XS.isub X2.here hx rfl (hb hby d21_15) rfl ?_
   refine XS.istore X2.here hx rfl (hb hby d21_16) rfl (l' := #[rv sb, iv mc, iv 34, iv mc, iv (mc - (34 : Int32)), u_]) rfl ?_
   refine XS.iloadN X2.here hx rfl (hb hby d21_18) rfl ?_
   show Steps p.tables e below (T2.setTop (mkF m 19 #[rv sb, iv mc, iv 34, iv mc, iv (mc - (34 : Int32)), u_] [(.int 34)])) _
   refine XS.iload X2.here hx rfl (hb hby d21_19) rfl ?_
   refine XS.iloadN X2.here hx rfl (hb hby d21_21) rfl ?_
   refine XS.iconst X2.here hx rfl (hb hby d21_22) ?_
   refine XS.aloadN X2.here hx rfl (hb hby d21_23) rfl rfl ?_
   exact k
 refine Go.gF X2 hx hZ hown (host := "") (Or.inl (own_w hw 49 rfl)) Via.refl e2 F_c (hb hby d21_24) (fun T3 X3 e3 => ?_)
 refine Go.step (S' := T3.setTop (mkF m 29 #[rv sb, iv mc, iv 34, iv mc, iv (mc - (34 : Int32)), u_] [(.int 36), (.int (mc - (34 : Int32))), (.int 34)])) (fun t k => ?_) ?_
 · refine XS.ishl X3.here hx rfl (hb hby d21_27) rfl ?_
   refine XS.iadd X3.here hx rfl (hb hby d21_28) rfl ?_
   exact k
 refine Go.cS X3 hx hml hown hZ (own_w hw 132 rfl) (own_w hw 133 rfl) (own_w hw 134 rfl) (own_w hw 135 rfl) (rmNl34 l Z a0 hw [] (mc - (34 : Int32)) h0 n0 O hm) 0 [] pd__28III_29I (hb hby d21_29) e3 (fun _ T4 L4 X4 hQ4 => ?_)
 obtain ⟨rfl, Nq4, e4⟩ := hQ4
 have N4 := Fr.app N0 Nq4
 refine Go.step (S' := T4.setTop (mkF m 54 #[rv sb, iv mc, iv 34, iv mc, iv (mc - (34 : Int32)), iv 70] [(.ref sb), (.int 70)])) (fun t k => ?_) ?_
 · refine XS.istore X4.here hx rfl (hb hby d21_32) rfl (l' := #[rv sb, iv mc, iv 34, iv mc, iv (mc - (34 : Int32)), iv 70]) rfl ?_
   refine XS.iload X4.here hx rfl (hb hby d21_34) rfl ?_
   refine X4.ldcInt hx hown (mvT hZ (own_w hw 141 rfl)) (g := (mkF m 36 #[rv sb, iv mc, iv 34, iv mc, iv (mc - (34 : Int32)), iv 70] [(.int 70)])) rfl (hb hby d21_36) _ ?_
   refine XS.icmpYes X4.here hx rfl (pc0 := 38) (pc' := 51) rfl (hb hby d21_38) rfl (feq ((by decide) : ¬ ((70 : Int32) = (2147483647 : Int32)))).2 (by decide) (by decide) ?_
   refine XS.iload X4.here hx rfl (hb hby d21_51) rfl ?_
   refine XS.aloadN X4.here hx rfl (hb hby d21_53) rfl rfl ?_
   exact k
 refine Go.gF X4 hx hZ hown (host := "") (Or.inl (own_w hw 49 rfl)) Via.refl e4 F_c (hb hby d21_54) (fun T5 X5 e5 => ?_)
 refine Go.step (S' := T5.setTop (mkF m 58 #[rv sb, iv mc, iv 34, iv mc, iv (mc - (34 : Int32)), iv 70] [(.int 70)])) (fun t k => ?_) ?_
 · refine XS.ishr X5.here hx rfl (hb hby d21_57) rfl ?_
   exact k
 exact Go.rt X5 hx Bd (w := (.int 70)) rfl (Or.inl ⟨rfl, Or.inl rfl, _, rfl⟩) (hb hby d21_58) e5 ⟨rfl, N4, rfl⟩
abbrev rm_rmCp34 : Room := ({ frames := 1, cells := 1, slots := 70, locals := 18 } : Room)
def Q_rmCp34 (Z : State) (da : Addr) (kd : ClassId) (vs : List Value) (h0 : Heap) (n0 : Nat) (v : Option Value) (h : Heap) (L : List Loc) : Prop := ∃ cb : Addr, ∃ kb : ClassId, ∃ vt : List Value, (v = some (.ref cb)) ∧ (Fr n0 L) ∧ (Keep h0 h []) ∧ (Arv Z h cb kb .byte (70 : Int32) vt (.int 0)) ∧ (Exa Z h cb "[B") ∧ (vt.length = 70) ∧ (n0 ≤ cb) ∧ (h0.size ≤ cb)
theorem rmCp34 (l : Launch) (Z : State) (a0 : Array Value) (hw : HW a0 Z) (ws : List Jvm.Cond) (da : Addr) (kd : ClassId) (vs : List Value) (h0 : Heap) (n0 : Nat) (O : Old Z n0 h0) (V_da : Arv Z h0 da kd .byte (34 : Int32) vs (.int 0)) :
    Mt l Z y_14 jdk_65_method_121_code 3 (some (.array .byte)) ws rm_rmCp34 #[(.ref da), (.int 70)] h0 (Q_rmCp34 Z da kd vs h0 n0) := by
 refine own_met "java/util/Arrays" (plainFor_of_name pn_java_util_Arrays) #[rv da, iv 70, u_] (fun m => rfl) (fun p e s m below meth c s₁ Bd hx hby hml hZ hown hnm X0 e0 => ?_)
 have N0 := Fr.nil n0
 have K := Keep.refl h0 []
 refine Go.step (S' := s₁.setTop (mkF m 2 #[rv da, iv 70, u_] [(.ref da), (.int 70)])) (fun t k => ?_) ?_
 · refine XS.iloadN X0.here hx rfl (hb hby d24_0) rfl ?_
   refine XS.aloadN X0.here hx rfl (hb hby d24_1) rfl rfl ?_
   exact k
 refine Go.len X0 hx hZ e0 V_da (hb hby d24_2) ?_
 refine Go.step (S' := s₁.setTop (mkF m 15 #[rv da, iv 70, u_] [(.int 70)])) (fun t k => ?_) ?_
 · refine XS.icmpYes X0.here hx rfl (pc0 := 3) (pc' := 14) rfl (hb hby d24_3) rfl (feq ((by decide) : ¬ ((70 : Int32) = (34 : Int32)))).2 (by decide) (by decide) ?_
   refine XS.iloadN X0.here hx rfl (hb hby d24_14) rfl ?_
   exact k
 obtain ⟨T1, h1, k1, X1, e1, E1, A1, Q1, st1⟩ := newPE X0 hx hZ (own_w hw 28 rfl) e0 (g := (mkF m 15 #[rv da, iv 70, u_] [(.int 70)])) rfl (hb hby d24_15) rfl (by decide) (cap := 70) (by decide) (by decide) (by decide) (by decide) (ad := "[B") rfl
 obtain ⟨b1, g1⟩ : ∃ z, z = Array.size h0 := ⟨_, rfl⟩
 have g_b1 : n0 ≤ b1 := Nat.le_trans (old_le O) (Nat.le_of_eq g1.symm)
 have sz_b1 : h0.size ≤ b1 := Nat.le_trans K.1 (Nat.le_of_eq g1.symm)
 have ne_da_b1 : da ≠ b1 := Nat.ne_of_lt (Nat.lt_of_lt_of_le V_da.lt (Nat.le_of_eq g1.symm))
 rw [← g1] at A1 Q1 st1
 have O := O.ext E1
 have V_da := V_da.ext E1
 have K := K.ext E1
 have V_b1 : Arv Z h1 b1 k1 .byte (70 : Int32) (List.replicate 70 (.int 0)) (.int 0) := (Arv.new A1 (by decide)).pad (pad_rep [] (.int 0) 70)
 have E_b1 := Q1
 refine Go.step st1 ?_
 refine Go.step (S' := T1.setTop (mkF m 23 #[rv da, iv 70, rv b1] [(.ref da), (.int 0), (.ref b1), (.int 0), (.ref da)])) (fun t k => ?_) ?_
 · refine XS.astoreN X1.here hx rfl (hb hby d24_17) rfl rfl (l' := #[rv da, iv 70, rv b1]) rfl ?_
   refine XS.aloadN X1.here hx rfl (hb hby d24_18) rfl rfl ?_
   refine XS.iconst X1.here hx rfl (hb hby d24_19) ?_
   refine XS.aloadN X1.here hx rfl (hb hby d24_20) rfl rfl ?_
   refine XS.iconst X1.here hx rfl (hb hby d24_21) ?_
   refine XS.aloadN X1.here hx rfl (hb hby d24_22) rfl rfl ?_
   exact k
 refine Go.len X1 hx hZ e1 V_da (hb hby d24_23) ?_
 refine Go.step (S' := T1.setTop (mkF m 25 #[rv da, iv 70, rv b1] [(.int 70), (.int 34), (.int 0), (.ref b1), (.int 0), (.ref da)])) (fun t k => ?_) ?_
 · refine XS.iloadN X1.here hx rfl (hb hby d24_24) rfl ?_
   exact k
 refine Go.cS X1 hx hml hown hZ (own_w hw 146 rfl) (own_w hw 147 rfl) (own_w hw 138 rfl) (own_w hw 148 rfl) (rmMnA l Z a0 hw [] (34 : Int32) (70 : Int32) h1 n0 O (by decide)) 4 [(.int 0), (.ref b1), (.int 0), (.ref da)] pd__28II_29I (hb hby d24_25) e1 (fun _ T2 L2 X2 hQ2 => ?_)
 obtain ⟨rfl, Nq2, e2⟩ := hQ2
 have N2 := Fr.app N0 Nq2
 refine Go.cp X2 hx hml hown hZ (own_w hw 149 rfl) (own_w hw 126 rfl) (own_w hw 124 rfl) (own_w hw 125 rfl) e2 V_da V_b1 rfl (by decide) (by decide) (by decide) (by decide) (by decide) (by simp) N2 g_b1 0 [] (hb hby d24_28) (fun T4 h4 L4 ve4 X4 e4 N4 K4 hv4 V4 => ?_)
 have O := O.keep K4 (allS g_b1 all0)
 have V_da := V_da.keep K4 (ninS ne_da_b1 nin0)
 have K := K.trans K4 (allS (Or.inr sz_b1) all0)
 have E_b1 := E_b1.keep K4
 have V_b1 := V4
 refine Go.step (S' := T4.setTop (mkF m 32 #[rv da, iv 70, rv b1] [(.ref b1)])) (fun t k => ?_) ?_
 · refine XS.aloadN X4.here hx rfl (hb hby d24_31) rfl rfl ?_
   exact k
 exact Go.rt X4 hx Bd (w := (.ref b1)) rfl (Or.inr (Or.inr (Or.inr (Or.inr ⟨rfl, rfl, rfl⟩)))) (hb hby d24_32) e4 ⟨b1, k1, ve4, rfl, N4, K, V_b1, E_b1, hv4, g_b1, sz_b1⟩
abbrev y_15 : MethodName := ⟨"java/lang/AbstractStringBuilder", "ensureCapacityInternal", "(I)V"⟩
theorem d11_0 : decode jdk_68_method_9_code 0 = .ok (.aload_n 0, 1) := by decide +kernel
theorem d11_1 : decode jdk_68_method_9_code 1 = .ok (.getfield 15, 3) := by decide +kernel
theorem d11_4 : decode jdk_68_method_9_code 4 = .ok (.arraylength, 1) := by decide +kernel
theorem d11_5 : decode jdk_68_method_9_code 5 = .ok (.aload_n 0, 1) := by decide +kernel
theorem d11_6 : decode jdk_68_method_9_code 6 = .ok (.getfield 22, 3) := by decide +kernel
theorem d11_9 : decode jdk_68_method_9_code 9 = .ok (.ishr, 1) := by decide +kernel
theorem d11_10 : decode jdk_68_method_9_code 10 = .ok (.istore_n 2, 1) := by decide +kernel
theorem d11_11 : decode jdk_68_method_9_code 11 = .ok (.iload_n 1, 1) := by decide +kernel
theorem d11_12 : decode jdk_68_method_9_code 12 = .ok (.iload_n 2, 1) := by decide +kernel
theorem d11_13 : decode jdk_68_method_9_code 13 = .ok (.isub, 1) := by decide +kernel
theorem d11_14 : decode jdk_68_method_9_code 14 = .ok (.ifCond .le 24, 3) := by decide +kernel
theorem d11_38 : decode jdk_68_method_9_code 38 = .ok (.return_, 1) := by decide +kernel
abbrev rm_rmEk16 : Room := ({ frames := 0, cells := 0, slots := 0, locals := 0 } : Room)
def Q_rmEk16 (Z : State) (sb : Addr) (mc : Int32) (da : Addr) (kd : ClassId) (vs : List Value) (h0 : Heap) (n0 : Nat) (v : Option Value) (h : Heap) (L : List Loc) : Prop := (v = none) ∧ (Fr n0 L) ∧ (h = h0)
theorem rmEk16 (l : Launch) (Z : State) (a0 : Array Value) (hw : HW a0 Z) (ws : List Jvm.Cond) (sb : Addr) (mc : Int32) (da : Addr) (kd : ClassId) (vs : List Value) (h0 : Heap) (n0 : Nat) (O : Old Z n0 h0) (E_sb : Exa Z h0 sb "java/lang/StringBuilder") (F_v : Fd_4 Z h0 sb (.ref da)) (F_c : Fd_5 Z h0 sb (.int 0)) (V_da : Arv Z h0 da kd .byte (16 : Int32) vs (.int 0)) (hg : ¬ ((0 : Int32) < (mc - (16 : Int32)))) :
    Mt l Z y_15 jdk_68_method_9_code 3 none ws rm_rmEk16 #[(.ref sb), (.int mc)] h0 (Q_rmEk16 Z sb mc da kd vs h0 n0) := by
 refine own_met "java/lang/AbstractStringBuilder" (plainFor_of_name pn_java_lang_AbstractStringBuilder) #[rv sb, iv mc, u_] (fun m => rfl) (fun p e s m below meth c s₁ Bd hx hby hml hZ hown hnm X0 e0 => ?_)
 have N0 := Fr.nil n0
 refine Go.step (S' := s₁.setTop (mkF m 1 #[rv sb, iv mc, u_] [(.ref sb)])) (fun t k => ?_) ?_
 · refine XS.aloadN X0.here hx rfl (hb hby d11_0) rfl rfl ?_
   exact k
 refine Go.gF X0 hx hZ hown (host := "") (Or.inl (own_w hw 47 rfl)) Via.refl e0 F_v (hb hby d11_1) (fun T1 X1 e1 => ?_)
 refine Go.len X1 hx hZ e1 V_da (hb hby d11_4) ?_
 refine Go.step (S' := T1.setTop (mkF m 6 #[rv sb, iv mc, u_] [(.ref sb), (.int 16)])) (fun t k => ?_) ?_
 · refine XS.aloadN X1.here hx rfl (hb hby d11_5) rfl rfl ?_
   exact k
 refine Go.gF X1 hx hZ hown (host := "") (Or.inl (own_w hw 49 rfl)) Via.refl e1 F_c (hb hby d11_6) (fun T2 X2 e2 => ?_)
 refine Go.step (S' := T2.setTop (mkF m 38 #[rv sb, iv mc, iv 16] [])) (fun t k => ?_) ?_
 · refine XS.ishr X2.here hx rfl (hb hby d11_9) rfl ?_
   refine XS.istoreN X2.here hx rfl (hb hby d11_10) rfl (l' := #[rv sb, iv mc, iv 16]) rfl ?_
   refine XS.iloadN X2.here hx rfl (hb hby d11_11) rfl ?_
   refine XS.iloadN X2.here hx rfl (hb hby d11_12) rfl ?_
   refine XS.isub X2.here hx rfl (hb hby d11_13) rfl ?_
   refine XS.ifYes X2.here hx rfl (pc0 := 14) (pc' := 38) rfl (hb hby d11_14) rfl ((if0 _ _).trans (flt (hg : ¬ ((0 : Int32) < (mc - (16 : Int32))))).2.2.2) (by decide) (by decide) ?_
   exact k
 exact Go.rv X2 hx Bd (hb hby d11_38) e2 ⟨rfl, N0, rfl⟩
theorem d11_17 : decode jdk_68_method_9_code 17 = .ok (.aload_n 0, 1) := by decide +kernel
theorem d11_18 : decode jdk_68_method_9_code 18 = .ok (.aload_n 0, 1) := by decide +kernel
theorem d11_19 : decode jdk_68_method_9_code 19 = .ok (.getfield 15, 3) := by decide +kernel
theorem d11_22 : decode jdk_68_method_9_code 22 = .ok (.aload_n 0, 1) := by decide +kernel
theorem d11_23 : decode jdk_68_method_9_code 23 = .ok (.iload_n 1, 1) := by decide +kernel
theorem d11_24 : decode jdk_68_method_9_code 24 = .ok (.invokevirtual 104, 3) := by decide +kernel
theorem pd__28I_29I : parseMethodDescriptor "(I)I" = some ⟨[.int], some .int⟩ := by decide +kernel
theorem d11_27 : decode jdk_68_method_9_code 27 = .ok (.aload_n 0, 1) := by decide +kernel
theorem d11_28 : decode jdk_68_method_9_code 28 = .ok (.getfield 22, 3) := by decide +kernel
theorem d11_31 : decode jdk_68_method_9_code 31 = .ok (.ishl, 1) := by decide +kernel
theorem d11_32 : decode jdk_68_method_9_code 32 = .ok (.invokestatic 108, 3) := by decide +kernel
theorem pd__28_5bBI_29_5bB : parseMethodDescriptor "([BI)[B" = some ⟨[(.array .byte), .int], some (.array .byte)⟩ := by decide +kernel
theorem d11_35 : decode jdk_68_method_9_code 35 = .ok (.putfield 15, 3) := by decide +kernel
abbrev rm_rmEg16 : Room := ({ frames := 3, cells := 1, slots := 34, locals := 48 } : Room)
def Q_rmEg16 (Z : State) (sb : Addr) (mc : Int32) (da : Addr) (kd : ClassId) (vs : List Value) (cn : Int32) (h0 : Heap) (n0 : Nat) (v : Option Value) (h : Heap) (L : List Loc) : Prop := ∃ cb : Addr, ∃ kb : ClassId, ∃ vt : List Value, (v = none) ∧ (Fr n0 L) ∧ (Keep h0 h [sb]) ∧ (Exa Z h sb "java/lang/StringBuilder") ∧ (Fd_4 Z h sb (.ref cb)) ∧ (Fd_5 Z h sb (.int 0)) ∧ (Fd_6 Z h sb (.int cn)) ∧ (Arv Z h cb kb .byte (34 : Int32) vt (.int 0)) ∧ (Exa Z h cb "[B") ∧ (vt.length = 34) ∧ (n0 ≤ cb) ∧ (h0.size ≤ cb)
theorem rmEg16 (l : Launch) (Z : State) (a0 : Array Value) (hw : HW a0 Z) (ws : List Jvm.Cond) (sb : Addr) (mc : Int32) (da : Addr) (kd : ClassId) (vs : List Value) (cn : Int32) (h0 : Heap) (n0 : Nat) (O : Old Z n0 h0) (E_sb : Exa Z h0 sb "java/lang/StringBuilder") (F_v : Fd_4 Z h0 sb (.ref da)) (F_c : Fd_5 Z h0 sb (.int 0)) (V_da : Arv Z h0 da kd .byte (16 : Int32) vs (.int 0)) (F_n : Fd_6 Z h0 sb (.int cn)) (g_sb : n0 ≤ sb) (hg : (0 : Int32) < (mc - (16 : Int32))) (hm : (mc - (16 : Int32)) < (18 : Int32)) :
    Mt l Z y_15 jdk_68_method_9_code 3 none ws rm_rmEg16 #[(.ref sb), (.int mc)] h0 (Q_rmEg16 Z sb mc da kd vs cn h0 n0) := by
 refine own_met "java/lang/AbstractStringBuilder" (plainFor_of_name pn_java_lang_AbstractStringBuilder) #[rv sb, iv mc, u_] (fun m => rfl) (fun p e s m below meth c s₁ Bd hx hby hml hZ hown hnm X0 e0 => ?_)
 have N0 := Fr.nil n0
 have K := Keep.refl h0 [sb]
 refine Go.step (S' := s₁.setTop (mkF m 1 #[rv sb, iv mc, u_] [(.ref sb)])) (fun t k => ?_) ?_
 · refine XS.aloadN X0.here hx rfl (hb hby d11_0) rfl rfl ?_
   exact k
 refine Go.gF X0 hx hZ hown (host := "") (Or.inl (own_w hw 47 rfl)) Via.refl e0 F_v (hb hby d11_1) (fun T1 X1 e1 => ?_)
 refine Go.len X1 hx hZ e1 V_da (hb hby d11_4) ?_
 refine Go.step (S' := T1.setTop (mkF m 6 #[rv sb, iv mc, u_] [(.ref sb), (.int 16)])) (fun t k => ?_) ?_
 · refine XS.aloadN X1.here hx rfl (hb hby d11_5) rfl rfl ?_
   exact k
 refine Go.gF X1 hx hZ hown (host := "") (Or.inl (own_w hw 49 rfl)) Via.refl e1 F_c (hb hby d11_6) (fun T2 X2 e2 => ?_)
 refine Go.step (S' := T2.setTop (mkF m 19 #[rv sb, iv mc, iv 16] [(.ref sb), (.ref sb)])) (fun t k => ?_) ?_
 · refine XS.ishr X2.here hx rfl (hb hby d11_9) rfl ?_
   refine XS.istoreN X2.here hx rfl (hb hby d11_10) rfl (l' := #[rv sb, iv mc, iv 16]) rfl ?_
   refine XS.iloadN X2.here hx rfl (hb hby d11_11) rfl ?_
   refine XS.iloadN X2.here hx rfl (hb hby d11_12) rfl ?_
   refine XS.isub X2.here hx rfl (hb hby d11_13) rfl ?_
   refine XS.ifNo X2.here hx rfl (hb hby d11_14) rfl ((if0 _ _).trans (tlt (hg : (0 : Int32) < (mc - (16 : Int32)))).2.2.2) ?_
   show Steps p.tables e below (T2.setTop (mkF m 17 #[rv sb, iv mc, iv 16] [])) _
   refine XS.aloadN X2.here hx rfl (hb hby d11_17) rfl rfl ?_
   refine XS.aloadN X2.here hx rfl (hb hby d11_18) rfl rfl ?_
   exact k
 refine Go.gF X2 hx hZ hown (host := "") (Or.inl (own_w hw 47 rfl)) Via.refl e2 F_v (hb hby d11_19) (fun T3 X3 e3 => ?_)
 refine Go.step (S' := T3.setTop (mkF m 24 #[rv sb, iv mc, iv 16] [(.int mc), (.ref sb), (.ref da), (.ref sb)])) (fun t k => ?_) ?_
 · refine XS.aloadN X3.here hx rfl (hb hby d11_22) rfl rfl ?_
   refine XS.iloadN X3.here hx rfl (hb hby d11_23) rfl ?_
   exact k
 obtain ⟨cq4, q4, q4'⟩ := E_sb.cell
 obtain ⟨_, _, ⟨T4, L4, k4, n4⟩, -, X4, ⟨Lc4, hQ4, l4, y4, z4⟩, st4⟩ := X3.privateBack hx (y := y_13) hown (mvT hZ (own_w hw 127 rfl)) (mvT hZ (own_w hw 128 rfl)) (own_selQ hZ (own_w hw 130 rfl) (own_w hw 128 rfl) (own_w hw 129 rfl) (by decide)) (Cond.privateMethod_at (mvP hZ (own_w hw 129 rfl) (args := #[]))) (mvT hZ (own_w hw 131 rfl)) (by decide) (backOf (W := 2) (rmNc16 l Z a0 hw [] sb mc da kd vs h0 n0 O F_v F_c V_da hm) hZ (own_w hw 131 rfl) (own_w hw 43 rfl) (by decide) (by decide)) (g := (mkF m 24 #[rv sb, iv mc, iv 16] [(.int mc), (.ref sb), (.ref da), (.ref sb)])) rfl (by rw [hml]; rfl) (Steps.refl _) (a := sb) (by rw [e3]; exact q4) q4' (argsL := [(.int mc)]) (rest := [(.ref da), (.ref sb)]) (lenOf pd__28I_29I rfl) rfl (Nat.le_of_eq rfl) (hb hby d11_24) (fun _ _ => ⟨rfl, e3, (by decide : 0 + 0 ≤ _), (by decide : 0 + 0 ≤ _)⟩)
 dsimp only [Pt.U, Pt.locs, Pt.cells, Pt.slots] at X4 l4 y4 z4 st4 hQ4
 subst l4 y4 z4
 obtain ⟨rfl, Nq4, e4⟩ := hQ4
 have N4 := Fr.app N0 Nq4
 refine Go.step (fun t k => st4.trans k) ?_
 refine Go.step (S' := T4.setTop (mkF m 28 #[rv sb, iv mc, iv 16] [(.ref sb), (.int 34), (.ref da), (.ref sb)])) (fun t k => ?_) ?_
 · refine XS.aloadN X4.here hx rfl (hb hby d11_27) rfl rfl ?_
   exact k
 refine Go.gF X4 hx hZ hown (host := "") (Or.inl (own_w hw 49 rfl)) Via.refl e4 F_c (hb hby d11_28) (fun T5 X5 e5 => ?_)
 refine Go.step (S' := T5.setTop (mkF m 32 #[rv sb, iv mc, iv 16] [(.int 34), (.ref da), (.ref sb)])) (fun t k => ?_) ?_
 · refine XS.ishl X5.here hx rfl (hb hby d11_31) rfl ?_
   exact k
 refine Go.cS X5 hx hml hown hZ (own_w hw 142 rfl) (own_w hw 143 rfl) (own_w hw 144 rfl) (own_w hw 145 rfl) (rmCp16 l Z a0 hw [] da kd vs h0 n0 O V_da) 1 [(.ref sb)] pd__28_5bBI_29_5bB (hb hby d11_32) e5 (fun _ T6 L6 X6 hQ6 => ?_)
 obtain ⟨cb_6, kb_6, vt_6, rfl, Nq6, K6, P6_V, P6_E, hvt_6, gc_6, sc_6⟩ := hQ6
 have N6 := Fr.app N4 Nq6
 have sz_cb_6 : h0.size ≤ cb_6 := Nat.le_trans K.1 sc_6
 have ne_sb_cb_6 : sb ≠ cb_6 := Nat.ne_of_lt (Nat.lt_of_lt_of_le E_sb.lt sc_6)
 have ne_da_cb_6 : da ≠ cb_6 := Nat.ne_of_lt (Nat.lt_of_lt_of_le V_da.lt sc_6)
 have O := O.keep K6 all0
 have E_sb := E_sb.keep K6
 have F_v := F_v.keep K6 nin0
 have F_c := F_c.keep K6 nin0
 have V_da := V_da.keep K6 nin0
 have F_n := F_n.keep K6 nin0
 have K := K.trans K6 all0
 have V_6 := P6_V
 have E_6 := P6_E
 have g_cb_6 := gc_6
 obtain ⟨T7, h7, X7, e7, W7, st7⟩ := putF X6 hx hZ hown (host := "") (Or.inl (own_w hw 47 rfl)) Via.refl (Eq.refl T6.heap) F_v E_sb (Or.inl (own_w hw 48 rfl)) (own_w hw 34 rfl) (ty := (.array .byte)) (by decide) rfl rfl (g := (mkF m 35 #[rv sb, iv mc, iv 16] [(.ref cb_6), (.ref sb)])) rfl rfl (hb hby d11_35)
 have ne_da_sb : da ≠ sb := Ne.symm (Exa.neArv E_sb V_da (own_w hw 34 rfl))
 have O := O.wr W7 g_sb
 have E_sb := E_sb.wr W7
 have F_v := F_v.same W7
 have F_c := F_c.other W7 (Or.inr (slot_ne (Or.inl (own_w hw 50 rfl)) (Or.inl (own_w hw 48 rfl)) (by decide) (t := .byte) (t' := (.array .byte)) (by decide) (by decide)))
 have V_da := V_da.other W7 ne_da_sb
 have F_n := F_n.other W7 (Or.inr (slot_ne (Or.inl (own_w hw 62 rfl)) (Or.inl (own_w hw 48 rfl)) (by decide) (t := .int) (t' := (.array .byte)) (by decide) (by decide)))
 have K := K.wr W7 (Or.inl (List.mem_of_getElem? (i := 0) rfl))
 have V_6 := V_6.other W7 (Ne.symm ne_sb_cb_6)
 have E_6 := E_6.wr W7
 have N7 := Fr.snoc X7 N6 g_sb
 refine Go.step st7 ?_
 exact Go.rv X7 hx Bd (hb hby d11_38) e7 ⟨cb_6, kb_6, vt_6, rfl, N7, K, E_sb, F_v, F_c, F_n, V_6, E_6, (by assumption), g_cb_6, sz_cb_6⟩
abbrev rm_rmEk34 : Room := ({ frames := 0, cells := 0, slots := 0, locals := 0 } : Room)
def Q_rmEk34 (Z : State) (sb : Addr) (mc : Int32) (da : Addr) (kd : ClassId) (vs : List Value) (h0 : Heap) (n0 : Nat) (v : Option Value) (h : Heap) (L : List Loc) : Prop := (v = none) ∧ (Fr n0 L) ∧ (h = h0)
theorem rmEk34 (l : Launch) (Z : State) (a0 : Array Value) (hw : HW a0 Z) (ws : List Jvm.Cond) (sb : Addr) (mc : Int32) (da : Addr) (kd : ClassId) (vs : List Value) (h0 : Heap) (n0 : Nat) (O : Old Z n0 h0) (E_sb : Exa Z h0 sb "java/lang/StringBuilder") (F_v : Fd_4 Z h0 sb (.ref da)) (F_c : Fd_5 Z h0 sb (.int 0)) (V_da : Arv Z h0 da kd .byte (34 : Int32) vs (.int 0)) (hg : ¬ ((0 : Int32) < (mc - (34 : Int32)))) :
    Mt l Z y_15 jdk_68_method_9_code 3 none ws rm_rmEk34 #[(.ref sb), (.int mc)] h0 (Q_rmEk34 Z sb mc da kd vs h0 n0) := by
 refine own_met "java/lang/AbstractStringBuilder" (plainFor_of_name pn_java_lang_AbstractStringBuilder) #[rv sb, iv mc, u_] (fun m => rfl) (fun p e s m below meth c s₁ Bd hx hby hml hZ hown hnm X0 e0 => ?_)
 have N0 := Fr.nil n0
 refine Go.step (S' := s₁.setTop (mkF m 1 #[rv sb, iv mc, u_] [(.ref sb)])) (fun t k => ?_) ?_
 · refine XS.aloadN X0.here hx rfl (hb hby d11_0) rfl rfl ?_
   exact k
 refine Go.gF X0 hx hZ hown (host := "") (Or.inl (own_w hw 47 rfl)) Via.refl e0 F_v (hb hby d11_1) (fun T1 X1 e1 => ?_)
 refine Go.len X1 hx hZ e1 V_da (hb hby d11_4) ?_
 refine Go.step (S' := T1.setTop (mkF m 6 #[rv sb, iv mc, u_] [(.ref sb), (.int 34)])) (fun t k => ?_) ?_
 · refine XS.aloadN X1.here hx rfl (hb hby d11_5) rfl rfl ?_
   exact k
 refine Go.gF X1 hx hZ hown (host := "") (Or.inl (own_w hw 49 rfl)) Via.refl e1 F_c (hb hby d11_6) (fun T2 X2 e2 => ?_)
 refine Go.step (S' := T2.setTop (mkF m 38 #[rv sb, iv mc, iv 34] [])) (fun t k => ?_) ?_
 · refine XS.ishr X2.here hx rfl (hb hby d11_9) rfl ?_
   refine XS.istoreN X2.here hx rfl (hb hby d11_10) rfl (l' := #[rv sb, iv mc, iv 34]) rfl ?_
   refine XS.iloadN X2.here hx rfl (hb hby d11_11) rfl ?_
   refine XS.iloadN X2.here hx rfl (hb hby d11_12) rfl ?_
   refine XS.isub X2.here hx rfl (hb hby d11_13) rfl ?_
   refine XS.ifYes X2.here hx rfl (pc0 := 14) (pc' := 38) rfl (hb hby d11_14) rfl ((if0 _ _).trans (flt (hg : ¬ ((0 : Int32) < (mc - (34 : Int32))))).2.2.2) (by decide) (by decide) ?_
   exact k
 exact Go.rv X2 hx Bd (hb hby d11_38) e2 ⟨rfl, N0, rfl⟩
abbrev rm_rmEg34 : Room := ({ frames := 3, cells := 1, slots := 70, locals := 48 } : Room)
def Q_rmEg34 (Z : State) (sb : Addr) (mc : Int32) (da : Addr) (kd : ClassId) (vs : List Value) (cn : Int32) (h0 : Heap) (n0 : Nat) (v : Option Value) (h : Heap) (L : List Loc) : Prop := ∃ cb : Addr, ∃ kb : ClassId, ∃ vt : List Value, (v = none) ∧ (Fr n0 L) ∧ (Keep h0 h [sb]) ∧ (Exa Z h sb "java/lang/StringBuilder") ∧ (Fd_4 Z h sb (.ref cb)) ∧ (Fd_5 Z h sb (.int 0)) ∧ (Fd_6 Z h sb (.int cn)) ∧ (Arv Z h cb kb .byte (70 : Int32) vt (.int 0)) ∧ (Exa Z h cb "[B") ∧ (vt.length = 70) ∧ (n0 ≤ cb) ∧ (h0.size ≤ cb)
theorem rmEg34 (l : Launch) (Z : State) (a0 : Array Value) (hw : HW a0 Z) (ws : List Jvm.Cond) (sb : Addr) (mc : Int32) (da : Addr) (kd : ClassId) (vs : List Value) (cn : Int32) (h0 : Heap) (n0 : Nat) (O : Old Z n0 h0) (E_sb : Exa Z h0 sb "java/lang/StringBuilder") (F_v : Fd_4 Z h0 sb (.ref da)) (F_c : Fd_5 Z h0 sb (.int 0)) (V_da : Arv Z h0 da kd .byte (34 : Int32) vs (.int 0)) (F_n : Fd_6 Z h0 sb (.int cn)) (g_sb : n0 ≤ sb) (hg : (0 : Int32) < (mc - (34 : Int32))) (hm : (mc - (34 : Int32)) < (36 : Int32)) :
    Mt l Z y_15 jdk_68_method_9_code 3 none ws rm_rmEg34 #[(.ref sb), (.int mc)] h0 (Q_rmEg34 Z sb mc da kd vs cn h0 n0) := by
 refine own_met "java/lang/AbstractStringBuilder" (plainFor_of_name pn_java_lang_AbstractStringBuilder) #[rv sb, iv mc, u_] (fun m => rfl) (fun p e s m below meth c s₁ Bd hx hby hml hZ hown hnm X0 e0 => ?_)
 have N0 := Fr.nil n0
 have K := Keep.refl h0 [sb]
 refine Go.step (S' := s₁.setTop (mkF m 1 #[rv sb, iv mc, u_] [(.ref sb)])) (fun t k => ?_) ?_
 · refine XS.aloadN X0.here hx rfl (hb hby d11_0) rfl rfl ?_
   exact k
 refine Go.gF X0 hx hZ hown (host := "") (Or.inl (own_w hw 47 rfl)) Via.refl e0 F_v (hb hby d11_1) (fun T1 X1 e1 => ?_)
 refine Go.len X1 hx hZ e1 V_da (hb hby d11_4) ?_
 refine Go.step (S' := T1.setTop (mkF m 6 #[rv sb, iv mc, u_] [(.ref sb), (.int 34)])) (fun t k => ?_) ?_
 · refine XS.aloadN X1.here hx rfl (hb hby d11_5) rfl rfl ?_
   exact k
 refine Go.gF X1 hx hZ hown (host := "") (Or.inl (own_w hw 49 rfl)) Via.refl e1 F_c (hb hby d11_6) (fun T2 X2 e2 => ?_)
 refine Go.step (S' := T2.setTop (mkF m 19 #[rv sb, iv mc, iv 34] [(.ref sb), (.ref sb)])) (fun t k => ?_) ?_
 · refine XS.ishr X2.here hx rfl (hb hby d11_9) rfl ?_
   refine XS.istoreN X2.here hx rfl (hb hby d11_10) rfl (l' := #[rv sb, iv mc, iv 34]) rfl ?_
   refine XS.iloadN X2.here hx rfl (hb hby d11_11) rfl ?_
   refine XS.iloadN X2.here hx rfl (hb hby d11_12) rfl ?_
   refine XS.isub X2.here hx rfl (hb hby d11_13) rfl ?_
   refine XS.ifNo X2.here hx rfl (hb hby d11_14) rfl ((if0 _ _).trans (tlt (hg : (0 : Int32) < (mc - (34 : Int32)))).2.2.2) ?_
   show Steps p.tables e below (T2.setTop (mkF m 17 #[rv sb, iv mc, iv 34] [])) _
   refine XS.aloadN X2.here hx rfl (hb hby d11_17) rfl rfl ?_
   refine XS.aloadN X2.here hx rfl (hb hby d11_18) rfl rfl ?_
   exact k
 refine Go.gF X2 hx hZ hown (host := "") (Or.inl (own_w hw 47 rfl)) Via.refl e2 F_v (hb hby d11_19) (fun T3 X3 e3 => ?_)
 refine Go.step (S' := T3.setTop (mkF m 24 #[rv sb, iv mc, iv 34] [(.int mc), (.ref sb), (.ref da), (.ref sb)])) (fun t k => ?_) ?_
 · refine XS.aloadN X3.here hx rfl (hb hby d11_22) rfl rfl ?_
   refine XS.iloadN X3.here hx rfl (hb hby d11_23) rfl ?_
   exact k
 obtain ⟨cq4, q4, q4'⟩ := E_sb.cell
 obtain ⟨_, _, ⟨T4, L4, k4, n4⟩, -, X4, ⟨Lc4, hQ4, l4, y4, z4⟩, st4⟩ := X3.privateBack hx (y := y_13) hown (mvT hZ (own_w hw 127 rfl)) (mvT hZ (own_w hw 128 rfl)) (own_selQ hZ (own_w hw 130 rfl) (own_w hw 128 rfl) (own_w hw 129 rfl) (by decide)) (Cond.privateMethod_at (mvP hZ (own_w hw 129 rfl) (args := #[]))) (mvT hZ (own_w hw 131 rfl)) (by decide) (backOf (W := 2) (rmNc34 l Z a0 hw [] sb mc da kd vs h0 n0 O F_v F_c V_da hm) hZ (own_w hw 131 rfl) (own_w hw 43 rfl) (by decide) (by decide)) (g := (mkF m 24 #[rv sb, iv mc, iv 34] [(.int mc), (.ref sb), (.ref da), (.ref sb)])) rfl (by rw [hml]; rfl) (Steps.refl _) (a := sb) (by rw [e3]; exact q4) q4' (argsL := [(.int mc)]) (rest := [(.ref da), (.ref sb)]) (lenOf pd__28I_29I rfl) rfl (Nat.le_of_eq rfl) (hb hby d11_24) (fun _ _ => ⟨rfl, e3, (by decide : 0 + 0 ≤ _), (by decide : 0 + 0 ≤ _)⟩)
 dsimp only [Pt.U, Pt.locs, Pt.cells, Pt.slots] at X4 l4 y4 z4 st4 hQ4
 subst l4 y4 z4
 obtain ⟨rfl, Nq4, e4⟩ := hQ4
 have N4 := Fr.app N0 Nq4
 refine Go.step (fun t k => st4.trans k) ?_
 refine Go.step (S' := T4.setTop (mkF m 28 #[rv sb, iv mc, iv 34] [(.ref sb), (.int 70), (.ref da), (.ref sb)])) (fun t k => ?_) ?_
 · refine XS.aloadN X4.here hx rfl (hb hby d11_27) rfl rfl ?_
   exact k
 refine Go.gF X4 hx hZ hown (host := "") (Or.inl (own_w hw 49 rfl)) Via.refl e4 F_c (hb hby d11_28) (fun T5 X5 e5 => ?_)
 refine Go.step (S' := T5.setTop (mkF m 32 #[rv sb, iv mc, iv 34] [(.int 70), (.ref da), (.ref sb)])) (fun t k => ?_) ?_
 · refine XS.ishl X5.here hx rfl (hb hby d11_31) rfl ?_
   exact k
 refine Go.cS X5 hx hml hown hZ (own_w hw 142 rfl) (own_w hw 143 rfl) (own_w hw 144 rfl) (own_w hw 145 rfl) (rmCp34 l Z a0 hw [] da kd vs h0 n0 O V_da) 1 [(.ref sb)] pd__28_5bBI_29_5bB (hb hby d11_32) e5 (fun _ T6 L6 X6 hQ6 => ?_)
 obtain ⟨cb_6, kb_6, vt_6, rfl, Nq6, K6, P6_V, P6_E, hvt_6, gc_6, sc_6⟩ := hQ6
 have N6 := Fr.app N4 Nq6
 have sz_cb_6 : h0.size ≤ cb_6 := Nat.le_trans K.1 sc_6
 have ne_sb_cb_6 : sb ≠ cb_6 := Nat.ne_of_lt (Nat.lt_of_lt_of_le E_sb.lt sc_6)
 have ne_da_cb_6 : da ≠ cb_6 := Nat.ne_of_lt (Nat.lt_of_lt_of_le V_da.lt sc_6)
 have O := O.keep K6 all0
 have E_sb := E_sb.keep K6
 have F_v := F_v.keep K6 nin0
 have F_c := F_c.keep K6 nin0
 have V_da := V_da.keep K6 nin0
 have F_n := F_n.keep K6 nin0
 have K := K.trans K6 all0
 have V_6 := P6_V
 have E_6 := P6_E
 have g_cb_6 := gc_6
 obtain ⟨T7, h7, X7, e7, W7, st7⟩ := putF X6 hx hZ hown (host := "") (Or.inl (own_w hw 47 rfl)) Via.refl (Eq.refl T6.heap) F_v E_sb (Or.inl (own_w hw 48 rfl)) (own_w hw 34 rfl) (ty := (.array .byte)) (by decide) rfl rfl (g := (mkF m 35 #[rv sb, iv mc, iv 34] [(.ref cb_6), (.ref sb)])) rfl rfl (hb hby d11_35)
 have ne_da_sb : da ≠ sb := Ne.symm (Exa.neArv E_sb V_da (own_w hw 34 rfl))
 have O := O.wr W7 g_sb
 have E_sb := E_sb.wr W7
 have F_v := F_v.same W7
 have F_c := F_c.other W7 (Or.inr (slot_ne (Or.inl (own_w hw 50 rfl)) (Or.inl (own_w hw 48 rfl)) (by decide) (t := .byte) (t' := (.array .byte)) (by decide) (by decide)))
 have V_da := V_da.other W7 ne_da_sb
 have F_n := F_n.other W7 (Or.inr (slot_ne (Or.inl (own_w hw 62 rfl)) (Or.inl (own_w hw 48 rfl)) (by decide) (t := .int) (t' := (.array .byte)) (by decide) (by decide)))
 have K := K.wr W7 (Or.inl (List.mem_of_getElem? (i := 0) rfl))
 have V_6 := V_6.other W7 (Ne.symm ne_sb_cb_6)
 have E_6 := E_6.wr W7
 have N7 := Fr.snoc X7 N6 g_sb
 refine Go.step st7 ?_
 exact Go.rv X7 hx Bd (hb hby d11_38) e7 ⟨cb_6, kb_6, vt_6, rfl, N7, K, E_sb, F_v, F_c, F_n, V_6, E_6, (by assumption), g_cb_6, sz_cb_6⟩
abbrev y_16 : MethodName := ⟨"java/lang/String", "coder", "()B"⟩
theorem pn_java_lang_String : plainName "java/lang/String" = true := by first | (simp [plainName, overriddenIn]; done) | decide +kernel
theorem d17_0 : decode jdk_42_method_152_code 0 = .ok (.getstatic 38, 3) := by decide +kernel
theorem d17_3 : decode jdk_42_method_152_code 3 = .ok (.ifCond .eq 10, 3) := by decide +kernel
theorem d17_6 : decode jdk_42_method_152_code 6 = .ok (.aload_n 0, 1) := by decide +kernel
theorem d17_7 : decode jdk_42_method_152_code 7 = .ok (.getfield 15, 3) := by decide +kernel
theorem d17_10 : decode jdk_42_method_152_code 10 = .ok (.goto 4, 3) := by decide +kernel
theorem d17_14 : decode jdk_42_method_152_code 14 = .ok (.ireturn, 1) := by decide +kernel
abbrev rm_rmSc : Room := ({ frames := 0, cells := 0, slots := 0, locals := 0 } : Room)
def Q_rmSc (Z : State) (so : Addr) (cs : Int32) (h0 : Heap) (n0 : Nat) (v : Option Value) (h : Heap) (L : List Loc) : Prop := (v = some (.int 0)) ∧ (Fr n0 L) ∧ (h = h0)
theorem rmSc (l : Launch) (Z : State) (a0 : Array Value) (hw : HW a0 Z) (ws : List Jvm.Cond) (so : Addr) (cs : Int32) (h0 : Heap) (n0 : Nat) (O : Old Z n0 h0) (S_CS : Sa_0 Z (.int cs)) (F_sc : Fd_7 Z h0 so (.int 0)) (hcs : ¬ (cs = (0 : Int32))) :
    Mt l Z y_16 jdk_42_method_152_code 1 (some .byte) ws rm_rmSc #[(.ref so)] h0 (Q_rmSc Z so cs h0 n0) := by
 refine own_met "java/lang/String" (plainFor_of_name pn_java_lang_String) #[rv so] (fun m => rfl) (fun p e s m below meth c s₁ Bd hx hby hml hZ hown hnm X0 e0 => ?_)
 have N0 := Fr.nil n0
 refine Go.gS X0 hx hZ hown (host := "") (Or.inl (own_w hw 105 rfl)) Via.refl e0 (S_CS.ext O.2) (hb hby d17_0) (fun T1 X1 e1 => ?_)
 refine Go.step (S' := T1.setTop (mkF m 7 #[rv so] [(.ref so)])) (fun t k => ?_) ?_
 · refine XS.ifNo X1.here hx rfl (hb hby d17_3) rfl ((if0 _ _).trans (feq (hcs : ¬ (cs = (0 : Int32)))).1) ?_
   refine XS.aloadN X1.here hx rfl (hb hby d17_6) rfl rfl ?_
   exact k
 refine Go.gF X1 hx hZ hown (host := "") (Or.inl (own_w hw 106 rfl)) Via.refl e1 F_sc (hb hby d17_7) (fun T2 X2 e2 => ?_)
 refine Go.step (S' := T2.setTop (mkF m 14 #[rv so] [(.int 0)])) (fun t k => ?_) ?_
 · refine XS.goto X2.here hx rfl (pc0 := 10) (pc' := 14) rfl (hb hby d17_10) (by decide) (by decide) ?_
   exact k
 exact Go.rt X2 hx Bd (w := (.int 0)) (by decide) (Or.inl ⟨rfl, Or.inr (Or.inr (Or.inl rfl)), _, rfl⟩) (hb hby d17_14) e2 ⟨rfl, N0, rfl⟩
abbrev y_17 : MethodName := ⟨"java/lang/AbstractStringBuilder", "inflateIfNeededFor", "(Ljava/lang/String;)V"⟩
theorem d19_0 : decode jdk_68_method_71_code 0 = .ok (.getstatic 18, 3) := by decide +kernel
theorem d19_3 : decode jdk_68_method_71_code 3 = .ok (.ifCond .eq 18, 3) := by decide +kernel
theorem d19_6 : decode jdk_68_method_71_code 6 = .ok (.aload_n 0, 1) := by decide +kernel
theorem d19_7 : decode jdk_68_method_71_code 7 = .ok (.getfield 22, 3) := by decide +kernel
theorem d19_10 : decode jdk_68_method_71_code 10 = .ok (.aload_n 1, 1) := by decide +kernel
theorem d19_11 : decode jdk_68_method_71_code 11 = .ok (.invokevirtual 40, 3) := by decide +kernel
theorem pd__28_29B : parseMethodDescriptor "()B" = some ⟨[], some .byte⟩ := by decide +kernel
theorem d19_14 : decode jdk_68_method_71_code 14 = .ok (.if_icmp .eq 7, 3) := by decide +kernel
theorem d19_21 : decode jdk_68_method_71_code 21 = .ok (.return_, 1) := by decide +kernel
abbrev rm_rmIf : Room := ({ frames := 1, cells := 0, slots := 0, locals := 13 } : Room)
def Q_rmIf (Z : State) (sb : Addr) (so : Addr) (cs : Int32) (h0 : Heap) (n0 : Nat) (v : Option Value) (h : Heap) (L : List Loc) : Prop := (v = none) ∧ (Fr n0 L) ∧ (h = h0)
theorem rmIf (l : Launch) (Z : State) (a0 : Array Value) (hw : HW a0 Z) (ws : List Jvm.Cond) (sb : Addr) (so : Addr) (cs : Int32) (h0 : Heap) (n0 : Nat) (O : Old Z n0 h0) (S_CS : Sa_0 Z (.int cs)) (F_c : Fd_5 Z h0 sb (.int 0)) (E_so : Exa Z h0 so "java/lang/String") (F_sc : Fd_7 Z h0 so (.int 0)) (hcs : ¬ (cs = (0 : Int32))) :
    Mt l Z y_17 jdk_68_method_71_code 2 none ws rm_rmIf #[(.ref sb), (.ref so)] h0 (Q_rmIf Z sb so cs h0 n0) := by
 refine own_met "java/lang/AbstractStringBuilder" (plainFor_of_name pn_java_lang_AbstractStringBuilder) #[rv sb, rv so] (fun m => rfl) (fun p e s m below meth c s₁ Bd hx hby hml hZ hown hnm X0 e0 => ?_)
 have N0 := Fr.nil n0
 refine Go.gS X0 hx hZ hown (host := "") (Or.inl (own_w hw 46 rfl)) Via.refl e0 (S_CS.ext O.2) (hb hby d19_0) (fun T1 X1 e1 => ?_)
 refine Go.step (S' := T1.setTop (mkF m 7 #[rv sb, rv so] [(.ref sb)])) (fun t k => ?_) ?_
 · refine XS.ifNo X1.here hx rfl (hb hby d19_3) rfl ((if0 _ _).trans (feq (hcs : ¬ (cs = (0 : Int32)))).1) ?_
   refine XS.aloadN X1.here hx rfl (hb hby d19_6) rfl rfl ?_
   exact k
 refine Go.gF X1 hx hZ hown (host := "") (Or.inl (own_w hw 49 rfl)) Via.refl e1 F_c (hb hby d19_7) (fun T2 X2 e2 => ?_)
 refine Go.step (S' := T2.setTop (mkF m 11 #[rv sb, rv so] [(.ref so), (.int 0)])) (fun t k => ?_) ?_
 · refine XS.aloadN X2.here hx rfl (hb hby d19_10) rfl rfl ?_
   exact k
 refine Go.cV X2 hx hml hown hZ (own_w hw 117 rfl) (own_w hw 101 rfl) (own_w hw 103 rfl) (own_w hw 102 rfl) (own_w hw 26 rfl) (own_w hw 104 rfl) E_so (rmSc l Z a0 hw [] so cs h0 n0 O S_CS F_sc hcs) 1 [(.int 0)] pd__28_29B (hb hby d19_11) e2 (fun _ T3 L3 X3 hQ3 => ?_)
 obtain ⟨rfl, Nq3, e3⟩ := hQ3
 have N3 := Fr.app N0 Nq3
 refine Go.step (S' := T3.setTop (mkF m 21 #[rv sb, rv so] [])) (fun t k => ?_) ?_
 · refine XS.icmpYes X3.here hx rfl (pc0 := 14) (pc' := 21) rfl (hb hby d19_14) rfl (teq ((by decide) : (0 : Int32) = (0 : Int32))).1 (by decide) (by decide) ?_
   exact k
 exact Go.rv X3 hx Bd (hb hby d19_21) e3 ⟨rfl, N3, rfl⟩
abbrev y_18 : MethodName := ⟨"java/lang/String", "length", "()I"⟩
theorem d16_0 : decode jdk_42_method_54_code 0 = .ok (.aload_n 0, 1) := by decide +kernel
theorem d16_1 : decode jdk_42_method_54_code 1 = .ok (.getfield 9, 3) := by decide +kernel
theorem d16_4 : decode jdk_42_method_54_code 4 = .ok (.arraylength, 1) := by decide +kernel
theorem d16_5 : decode jdk_42_method_54_code 5 = .ok (.aload_n 0, 1) := by decide +kernel
theorem d16_6 : decode jdk_42_method_54_code 6 = .ok (.invokevirtual 335, 3) := by decide +kernel
theorem d16_9 : decode jdk_42_method_54_code 9 = .ok (.ishr, 1) := by decide +kernel
theorem d16_10 : decode jdk_42_method_54_code 10 = .ok (.ireturn, 1) := by decide +kernel
abbrev rm_rmSl15 : Room := ({ frames := 1, cells := 0, slots := 0, locals := 13 } : Room)
def Q_rmSl15 (Z : State) (so : Addr) (tb : Addr) (kt : ClassId) (vl : List Value) (cs : Int32) (h0 : Heap) (n0 : Nat) (v : Option Value) (h : Heap) (L : List Loc) : Prop := (v = some (.int 15)) ∧ (Fr n0 L) ∧ (h = h0)
theorem rmSl15 (l : Launch) (Z : State) (a0 : Array Value) (hw : HW a0 Z) (ws : List Jvm.Cond) (so : Addr) (tb : Addr) (kt : ClassId) (vl : List Value) (cs : Int32) (h0 : Heap) (n0 : Nat) (O : Old Z n0 h0) (S_CS : Sa_0 Z (.int cs)) (E_so : Exa Z h0 so "java/lang/String") (F_sv : Fd_8 Z h0 so (.ref tb)) (F_sc : Fd_7 Z h0 so (.int 0)) (V_tb : Arv Z h0 tb kt .byte (15 : Int32) vl (.int 0)) (hcs : ¬ (cs = (0 : Int32))) :
    Mt l Z y_18 jdk_42_method_54_code 1 (some .int) ws rm_rmSl15 #[(.ref so)] h0 (Q_rmSl15 Z so tb kt vl cs h0 n0) := by
 refine own_met "java/lang/String" (plainFor_of_name pn_java_lang_String) #[rv so] (fun m => rfl) (fun p e s m below meth c s₁ Bd hx hby hml hZ hown hnm X0 e0 => ?_)
 have N0 := Fr.nil n0
 refine Go.step (S' := s₁.setTop (mkF m 1 #[rv so] [(.ref so)])) (fun t k => ?_) ?_
 · refine XS.aloadN X0.here hx rfl (hb hby d16_0) rfl rfl ?_
   exact k
 refine Go.gF X0 hx hZ hown (host := "") (Or.inl (own_w hw 99 rfl)) Via.refl e0 F_sv (hb hby d16_1) (fun T1 X1 e1 => ?_)
 refine Go.len X1 hx hZ e1 V_tb (hb hby d16_4) ?_
 refine Go.step (S' := T1.setTop (mkF m 6 #[rv so] [(.ref so), (.int 15)])) (fun t k => ?_) ?_
 · refine XS.aloadN X1.here hx rfl (hb hby d16_5) rfl rfl ?_
   exact k
 refine Go.cV X1 hx hml hown hZ (own_w hw 100 rfl) (own_w hw 101 rfl) (own_w hw 103 rfl) (own_w hw 102 rfl) (own_w hw 26 rfl) (own_w hw 104 rfl) E_so (rmSc l Z a0 hw [] so cs h0 n0 O S_CS F_sc hcs) 1 [(.int 15)] pd__28_29B (hb hby d16_6) e1 (fun _ T2 L2 X2 hQ2 => ?_)
 obtain ⟨rfl, Nq2, e2⟩ := hQ2
 have N2 := Fr.app N0 Nq2
 refine Go.step (S' := T2.setTop (mkF m 10 #[rv so] [(.int 15)])) (fun t k => ?_) ?_
 · refine XS.ishr X2.here hx rfl (hb hby d16_9) rfl ?_
   exact k
 exact Go.rt X2 hx Bd (w := (.int 15)) rfl (Or.inl ⟨rfl, Or.inl rfl, _, rfl⟩) (hb hby d16_10) e2 ⟨rfl, N2, rfl⟩
abbrev y_19 : MethodName := ⟨"java/lang/String", "getBytes", "([BIB)V"⟩
theorem d20_0 : decode jdk_42_method_147_code 0 = .ok (.aload_n 0, 1) := by decide +kernel
theorem d20_1 : decode jdk_42_method_147_code 1 = .ok (.invokevirtual 335, 3) := by decide +kernel
theorem d20_4 : decode jdk_42_method_147_code 4 = .ok (.iload_n 3, 1) := by decide +kernel
theorem d20_5 : decode jdk_42_method_147_code 5 = .ok (.if_icmp .ne 23, 3) := by decide +kernel
theorem d20_8 : decode jdk_42_method_147_code 8 = .ok (.aload_n 0, 1) := by decide +kernel
theorem d20_9 : decode jdk_42_method_147_code 9 = .ok (.getfield 9, 3) := by decide +kernel
theorem d20_12 : decode jdk_42_method_147_code 12 = .ok (.iconst 0, 1) := by decide +kernel
theorem d20_13 : decode jdk_42_method_147_code 13 = .ok (.aload_n 1, 1) := by decide +kernel
theorem d20_14 : decode jdk_42_method_147_code 14 = .ok (.iload_n 2, 1) := by decide +kernel
theorem d20_15 : decode jdk_42_method_147_code 15 = .ok (.iload_n 3, 1) := by decide +kernel
theorem d20_16 : decode jdk_42_method_147_code 16 = .ok (.ishl, 1) := by decide +kernel
theorem d20_17 : decode jdk_42_method_147_code 17 = .ok (.aload_n 0, 1) := by decide +kernel
theorem d20_18 : decode jdk_42_method_147_code 18 = .ok (.getfield 9, 3) := by decide +kernel
theorem d20_21 : decode jdk_42_method_147_code 21 = .ok (.arraylength, 1) := by decide +kernel
theorem d20_22 : decode jdk_42_method_147_code 22 = .ok (.invokestatic 212, 3) := by decide +kernel
theorem d20_25 : decode jdk_42_method_147_code 25 = .ok (.goto 18, 3) := by decide +kernel
theorem d20_43 : decode jdk_42_method_147_code 43 = .ok (.return_, 1) := by decide +kernel
abbrev rm_rmGb15_16 : Room := ({ frames := 1, cells := 0, slots := 0, locals := 18 } : Room)
def Q_rmGb15_16 (Z : State) (so : Addr) (da : Addr) (cn : Int32) (tb : Addr) (kt : ClassId) (vl : List Value) (cs : Int32) (kd : ClassId) (vs : List Value) (h0 : Heap) (n0 : Nat) (v : Option Value) (h : Heap) (L : List Loc) : Prop := ∃ vt : List Value, (v = none) ∧ (Fr n0 L) ∧ (Keep h0 h [da]) ∧ (Arv Z h da kd .byte (16 : Int32) vt (.int 0)) ∧ (vt.length = 16)
theorem rmGb15_16 (l : Launch) (Z : State) (a0 : Array Value) (hw : HW a0 Z) (ws : List Jvm.Cond) (so : Addr) (da : Addr) (cn : Int32) (tb : Addr) (kt : ClassId) (vl : List Value) (cs : Int32) (kd : ClassId) (vs : List Value) (h0 : Heap) (n0 : Nat) (O : Old Z n0 h0) (S_CS : Sa_0 Z (.int cs)) (E_so : Exa Z h0 so "java/lang/String") (F_sv : Fd_8 Z h0 so (.ref tb)) (F_sc : Fd_7 Z h0 so (.int 0)) (V_tb : Arv Z h0 tb kt .byte (15 : Int32) vl (.int 0)) (V_da : Arv Z h0 da kd .byte (16 : Int32) vs (.int 0)) (hcs : ¬ (cs = (0 : Int32))) (ne_tb_da : tb ≠ da) (hvl : vs.length = 16) (ca : ¬ (cn < (0 : Int32))) (cb_ : cn.toNatClampNeg + (15 : Int32).toNatClampNeg ≤ (16 : Int32).toNatClampNeg) (g_da : n0 ≤ da) :
    Mt l Z y_19 jdk_42_method_147_code 4 none ws rm_rmGb15_16 #[(.ref so), (.ref da), (.int cn), (.int 0)] h0 (Q_rmGb15_16 Z so da cn tb kt vl cs kd vs h0 n0) := by
 refine own_met "java/lang/String" (plainFor_of_name pn_java_lang_String) #[rv so, rv da, iv cn, iv 0] (fun m => rfl) (fun p e s m below meth c s₁ Bd hx hby hml hZ hown hnm X0 e0 => ?_)
 have N0 := Fr.nil n0
 have K := Keep.refl h0 [da]
 refine Go.step (S' := s₁.setTop (mkF m 1 #[rv so, rv da, iv cn, iv 0] [(.ref so)])) (fun t k => ?_) ?_
 · refine XS.aloadN X0.here hx rfl (hb hby d20_0) rfl rfl ?_
   exact k
 refine Go.cV X0 hx hml hown hZ (own_w hw 100 rfl) (own_w hw 101 rfl) (own_w hw 103 rfl) (own_w hw 102 rfl) (own_w hw 26 rfl) (own_w hw 104 rfl) E_so (rmSc l Z a0 hw [] so cs h0 n0 O S_CS F_sc hcs) 0 [] pd__28_29B (hb hby d20_1) e0 (fun _ T1 L1 X1 hQ1 => ?_)
 obtain ⟨rfl, Nq1, e1⟩ := hQ1
 have N1 := Fr.app N0 Nq1
 refine Go.step (S' := T1.setTop (mkF m 9 #[rv so, rv da, iv cn, iv 0] [(.ref so)])) (fun t k => ?_) ?_
 · refine XS.iloadN X1.here hx rfl (hb hby d20_4) rfl ?_
   refine XS.icmpNo X1.here hx rfl (hb hby d20_5) rfl (teq ((by decide) : (0 : Int32) = (0 : Int32))).2 ?_
   refine XS.aloadN X1.here hx rfl (hb hby d20_8) rfl rfl ?_
   exact k
 refine Go.gF X1 hx hZ hown (host := "") (Or.inl (own_w hw 99 rfl)) Via.refl e1 F_sv (hb hby d20_9) (fun T2 X2 e2 => ?_)
 refine Go.step (S' := T2.setTop (mkF m 17 #[rv so, rv da, iv cn, iv 0] [(.int (cn <<< ((0 : Int32) &&& 31))), (.ref da), (.int 0), (.ref tb)])) (fun t k => ?_) ?_
 · refine XS.iconst X2.here hx rfl (hb hby d20_12) ?_
   refine XS.aloadN X2.here hx rfl (hb hby d20_13) rfl rfl ?_
   refine XS.iloadN X2.here hx rfl (hb hby d20_14) rfl ?_
   refine XS.iloadN X2.here hx rfl (hb hby d20_15) rfl ?_
   refine XS.ishl X2.here hx rfl (hb hby d20_16) rfl ?_
   exact k
 rw [(own_sl0 cn : (cn <<< ((0 : Int32) &&& 31)) = cn)]
 show Go p e below _ (T2.setTop (mkF m 17 #[rv so, rv da, iv cn, iv 0] [(.int cn), (.ref da), (.int 0), (.ref tb)]))
 refine Go.step (S' := T2.setTop (mkF m 18 #[rv so, rv da, iv cn, iv 0] [(.ref so), (.int cn), (.ref da), (.int 0), (.ref tb)])) (fun t k => ?_) ?_
 · refine XS.aloadN X2.here hx rfl (hb hby d20_17) rfl rfl ?_
   exact k
 refine Go.gF X2 hx hZ hown (host := "") (Or.inl (own_w hw 99 rfl)) Via.refl e2 F_sv (hb hby d20_18) (fun T3 X3 e3 => ?_)
 refine Go.len X3 hx hZ e3 V_tb (hb hby d20_21) ?_
 refine Go.cp X3 hx hml hown hZ (own_w hw 123 rfl) (own_w hw 126 rfl) (own_w hw 124 rfl) (own_w hw 125 rfl) e3 V_tb V_da rfl (by decide) ca (by decide) (by decide) cb_ hvl N1 g_da 0 [] (hb hby d20_22) (fun T5 h5 L5 ve5 X5 e5 N5 K5 hv5 V5 => ?_)
 have ne_so_da : so ≠ da := Exa.neArv E_so V_da (own_w hw 27 rfl)
 have O := O.keep K5 (allS g_da all0)
 have E_so := E_so.keep K5
 have F_sv := F_sv.keep K5 (ninS ne_so_da nin0)
 have F_sc := F_sc.keep K5 (ninS ne_so_da nin0)
 have V_tb := V_tb.keep K5 (ninS ne_tb_da nin0)
 have K := K.trans K5 (allS (Or.inl (List.mem_of_getElem? (i := 0) rfl)) all0)
 have V_da := V5
 refine Go.step (S' := T5.setTop (mkF m 43 #[rv so, rv da, iv cn, iv 0] [])) (fun t k => ?_) ?_
 · refine XS.goto X5.here hx rfl (pc0 := 25) (pc' := 43) rfl (hb hby d20_25) (by decide) (by decide) ?_
   exact k
 exact Go.rv X5 hx Bd (hb hby d20_43) e5 ⟨ve5, rfl, N5, K, V_da, hv5⟩
abbrev rm_rmGb15_34 : Room := ({ frames := 1, cells := 0, slots := 0, locals := 18 } : Room)
def Q_rmGb15_34 (Z : State) (so : Addr) (da : Addr) (cn : Int32) (tb : Addr) (kt : ClassId) (vl : List Value) (cs : Int32) (kd : ClassId) (vs : List Value) (h0 : Heap) (n0 : Nat) (v : Option Value) (h : Heap) (L : List Loc) : Prop := ∃ vt : List Value, (v = none) ∧ (Fr n0 L) ∧ (Keep h0 h [da]) ∧ (Arv Z h da kd .byte (34 : Int32) vt (.int 0)) ∧ (vt.length = 34)
theorem rmGb15_34 (l : Launch) (Z : State) (a0 : Array Value) (hw : HW a0 Z) (ws : List Jvm.Cond) (so : Addr) (da : Addr) (cn : Int32) (tb : Addr) (kt : ClassId) (vl : List Value) (cs : Int32) (kd : ClassId) (vs : List Value) (h0 : Heap) (n0 : Nat) (O : Old Z n0 h0) (S_CS : Sa_0 Z (.int cs)) (E_so : Exa Z h0 so "java/lang/String") (F_sv : Fd_8 Z h0 so (.ref tb)) (F_sc : Fd_7 Z h0 so (.int 0)) (V_tb : Arv Z h0 tb kt .byte (15 : Int32) vl (.int 0)) (V_da : Arv Z h0 da kd .byte (34 : Int32) vs (.int 0)) (hcs : ¬ (cs = (0 : Int32))) (ne_tb_da : tb ≠ da) (hvl : vs.length = 34) (ca : ¬ (cn < (0 : Int32))) (cb_ : cn.toNatClampNeg + (15 : Int32).toNatClampNeg ≤ (34 : Int32).toNatClampNeg) (g_da : n0 ≤ da) :
    Mt l Z y_19 jdk_42_method_147_code 4 none ws rm_rmGb15_34 #[(.ref so), (.ref da), (.int cn), (.int 0)] h0 (Q_rmGb15_34 Z so da cn tb kt vl cs kd vs h0 n0) := by
 refine own_met "java/lang/String" (plainFor_of_name pn_java_lang_String) #[rv so, rv da, iv cn, iv 0] (fun m => rfl) (fun p e s m below meth c s₁ Bd hx hby hml hZ hown hnm X0 e0 => ?_)
 have N0 := Fr.nil n0
 have K := Keep.refl h0 [da]
 refine Go.step (S' := s₁.setTop (mkF m 1 #[rv so, rv da, iv cn, iv 0] [(.ref so)])) (fun t k => ?_) ?_
 · refine XS.aloadN X0.here hx rfl (hb hby d20_0) rfl rfl ?_
   exact k
 refine Go.cV X0 hx hml hown hZ (own_w hw 100 rfl) (own_w hw 101 rfl) (own_w hw 103 rfl) (own_w hw 102 rfl) (own_w hw 26 rfl) (own_w hw 104 rfl) E_so (rmSc l Z a0 hw [] so cs h0 n0 O S_CS F_sc hcs) 0 [] pd__28_29B (hb hby d20_1) e0 (fun _ T1 L1 X1 hQ1 => ?_)
 obtain ⟨rfl, Nq1, e1⟩ := hQ1
 have N1 := Fr.app N0 Nq1
 refine Go.step (S' := T1.setTop (mkF m 9 #[rv so, rv da, iv cn, iv 0] [(.ref so)])) (fun t k => ?_) ?_
 · refine XS.iloadN X1.here hx rfl (hb hby d20_4) rfl ?_
   refine XS.icmpNo X1.here hx rfl (hb hby d20_5) rfl (teq ((by decide) : (0 : Int32) = (0 : Int32))).2 ?_
   refine XS.aloadN X1.here hx rfl (hb hby d20_8) rfl rfl ?_
   exact k
 refine Go.gF X1 hx hZ hown (host := "") (Or.inl (own_w hw 99 rfl)) Via.refl e1 F_sv (hb hby d20_9) (fun T2 X2 e2 => ?_)
 refine Go.step (S' := T2.setTop (mkF m 17 #[rv so, rv da, iv cn, iv 0] [(.int (cn <<< ((0 : Int32) &&& 31))), (.ref da), (.int 0), (.ref tb)])) (fun t k => ?_) ?_
 · refine XS.iconst X2.here hx rfl (hb hby d20_12) ?_
   refine XS.aloadN X2.here hx rfl (hb hby d20_13) rfl rfl ?_
   refine XS.iloadN X2.here hx rfl (hb hby d20_14) rfl ?_
   refine XS.iloadN X2.here hx rfl (hb hby d20_15) rfl ?_
   refine XS.ishl X2.here hx rfl (hb hby d20_16) rfl ?_
   exact k
 rw [(own_sl0 cn : (cn <<< ((0 : Int32) &&& 31)) = cn)]
 show Go p e below _ (T2.setTop (mkF m 17 #[rv so, rv da, iv cn, iv 0] [(.int cn), (.ref da), (.int 0), (.ref tb)]))
 refine Go.step (S' := T2.setTop (mkF m 18 #[rv so, rv da, iv cn, iv 0] [(.ref so), (.int cn), (.ref da), (.int 0), (.ref tb)])) (fun t k => ?_) ?_
 · refine XS.aloadN X2.here hx rfl (hb hby d20_17) rfl rfl ?_
   exact k
 refine Go.gF X2 hx hZ hown (host := "") (Or.inl (own_w hw 99 rfl)) Via.refl e2 F_sv (hb hby d20_18) (fun T3 X3 e3 => ?_)
 refine Go.len X3 hx hZ e3 V_tb (hb hby d20_21) ?_
 refine Go.cp X3 hx hml hown hZ (own_w hw 123 rfl) (own_w hw 126 rfl) (own_w hw 124 rfl) (own_w hw 125 rfl) e3 V_tb V_da rfl (by decide) ca (by decide) (by decide) cb_ hvl N1 g_da 0 [] (hb hby d20_22) (fun T5 h5 L5 ve5 X5 e5 N5 K5 hv5 V5 => ?_)
 have ne_so_da : so ≠ da := Exa.neArv E_so V_da (own_w hw 27 rfl)
 have O := O.keep K5 (allS g_da all0)
 have E_so := E_so.keep K5
 have F_sv := F_sv.keep K5 (ninS ne_so_da nin0)
 have F_sc := F_sc.keep K5 (ninS ne_so_da nin0)
 have V_tb := V_tb.keep K5 (ninS ne_tb_da nin0)
 have K := K.trans K5 (allS (Or.inl (List.mem_of_getElem? (i := 0) rfl)) all0)
 have V_da := V5
 refine Go.step (S' := T5.setTop (mkF m 43 #[rv so, rv da, iv cn, iv 0] [])) (fun t k => ?_) ?_
 · refine XS.goto X5.here hx rfl (pc0 := 25) (pc' := 43) rfl (hb hby d20_25) (by decide) (by decide) ?_
   exact k
 exact Go.rv X5 hx Bd (hb hby d20_43) e5 ⟨ve5, rfl, N5, K, V_da, hv5⟩
abbrev rm_rmSl8 : Room := ({ frames := 1, cells := 0, slots := 0, locals := 13 } : Room)
def Q_rmSl8 (Z : State) (so : Addr) (tb : Addr) (kt : ClassId) (vl : List Value) (cs : Int32) (h0 : Heap) (n0 : Nat) (v : Option Value) (h : Heap) (L : List Loc) : Prop := (v = some (.int 8)) ∧ (Fr n0 L) ∧ (h = h0)
theorem rmSl8 (l : Launch) (Z : State) (a0 : Array Value) (hw : HW a0 Z) (ws : List Jvm.Cond) (so : Addr) (tb : Addr) (kt : ClassId) (vl : List Value) (cs : Int32) (h0 : Heap) (n0 : Nat) (O : Old Z n0 h0) (S_CS : Sa_0 Z (.int cs)) (E_so : Exa Z h0 so "java/lang/String") (F_sv : Fd_8 Z h0 so (.ref tb)) (F_sc : Fd_7 Z h0 so (.int 0)) (V_tb : Arv Z h0 tb kt .byte (8 : Int32) vl (.int 0)) (hcs : ¬ (cs = (0 : Int32))) :
    Mt l Z y_18 jdk_42_method_54_code 1 (some .int) ws rm_rmSl8 #[(.ref so)] h0 (Q_rmSl8 Z so tb kt vl cs h0 n0) := by
 refine own_met "java/lang/String" (plainFor_of_name pn_java_lang_String) #[rv so] (fun m => rfl) (fun p e s m below meth c s₁ Bd hx hby hml hZ hown hnm X0 e0 => ?_)
 have N0 := Fr.nil n0
 refine Go.step (S' := s₁.setTop (mkF m 1 #[rv so] [(.ref so)])) (fun t k => ?_) ?_
 · refine XS.aloadN X0.here hx rfl (hb hby d16_0) rfl rfl ?_
   exact k
 refine Go.gF X0 hx hZ hown (host := "") (Or.inl (own_w hw 99 rfl)) Via.refl e0 F_sv (hb hby d16_1) (fun T1 X1 e1 => ?_)
 refine Go.len X1 hx hZ e1 V_tb (hb hby d16_4) ?_
 refine Go.step (S' := T1.setTop (mkF m 6 #[rv so] [(.ref so), (.int 8)])) (fun t k => ?_) ?_
 · refine XS.aloadN X1.here hx rfl (hb hby d16_5) rfl rfl ?_
   exact k
 refine Go.cV X1 hx hml hown hZ (own_w hw 100 rfl) (own_w hw 101 rfl) (own_w hw 103 rfl) (own_w hw 102 rfl) (own_w hw 26 rfl) (own_w hw 104 rfl) E_so (rmSc l Z a0 hw [] so cs h0 n0 O S_CS F_sc hcs) 1 [(.int 8)] pd__28_29B (hb hby d16_6) e1 (fun _ T2 L2 X2 hQ2 => ?_)
 obtain ⟨rfl, Nq2, e2⟩ := hQ2
 have N2 := Fr.app N0 Nq2
 refine Go.step (S' := T2.setTop (mkF m 10 #[rv so] [(.int 8)])) (fun t k => ?_) ?_
 · refine XS.ishr X2.here hx rfl (hb hby d16_9) rfl ?_
   exact k
 exact Go.rt X2 hx Bd (w := (.int 8)) rfl (Or.inl ⟨rfl, Or.inl rfl, _, rfl⟩) (hb hby d16_10) e2 ⟨rfl, N2, rfl⟩
abbrev rm_rmGb8_34 : Room := ({ frames := 1, cells := 0, slots := 0, locals := 18 } : Room)
def Q_rmGb8_34 (Z : State) (so : Addr) (da : Addr) (cn : Int32) (tb : Addr) (kt : ClassId) (vl : List Value) (cs : Int32) (kd : ClassId) (vs : List Value) (h0 : Heap) (n0 : Nat) (v : Option Value) (h : Heap) (L : List Loc) : Prop := ∃ vt : List Value, (v = none) ∧ (Fr n0 L) ∧ (Keep h0 h [da]) ∧ (Arv Z h da kd .byte (34 : Int32) vt (.int 0)) ∧ (vt.length = 34)
theorem rmGb8_34 (l : Launch) (Z : State) (a0 : Array Value) (hw : HW a0 Z) (ws : List Jvm.Cond) (so : Addr) (da : Addr) (cn : Int32) (tb : Addr) (kt : ClassId) (vl : List Value) (cs : Int32) (kd : ClassId) (vs : List Value) (h0 : Heap) (n0 : Nat) (O : Old Z n0 h0) (S_CS : Sa_0 Z (.int cs)) (E_so : Exa Z h0 so "java/lang/String") (F_sv : Fd_8 Z h0 so (.ref tb)) (F_sc : Fd_7 Z h0 so (.int 0)) (V_tb : Arv Z h0 tb kt .byte (8 : Int32) vl (.int 0)) (V_da : Arv Z h0 da kd .byte (34 : Int32) vs (.int 0)) (hcs : ¬ (cs = (0 : Int32))) (ne_tb_da : tb ≠ da) (hvl : vs.length = 34) (ca : ¬ (cn < (0 : Int32))) (cb_ : cn.toNatClampNeg + (8 : Int32).toNatClampNeg ≤ (34 : Int32).toNatClampNeg) (g_da : n0 ≤ da) :
    Mt l Z y_19 jdk_42_method_147_code 4 none ws rm_rmGb8_34 #[(.ref so), (.ref da), (.int cn), (.int 0)] h0 (Q_rmGb8_34 Z so da cn tb kt vl cs kd vs h0 n0) := by
 refine own_met "java/lang/String" (plainFor_of_name pn_java_lang_String) #[rv so, rv da, iv cn, iv 0] (fun m => rfl) (fun p e s m below meth c s₁ Bd hx hby hml hZ hown hnm X0 e0 => ?_)
 have N0 := Fr.nil n0
 have K := Keep.refl h0 [da]
 refine Go.step (S' := s₁.setTop (mkF m 1 #[rv so, rv da, iv cn, iv 0] [(.ref so)])) (fun t k => ?_) ?_
 · refine XS.aloadN X0.here hx rfl (hb hby d20_0) rfl rfl ?_
   exact k
 refine Go.cV X0 hx hml hown hZ (own_w hw 100 rfl) (own_w hw 101 rfl) (own_w hw 103 rfl) (own_w hw 102 rfl) (own_w hw 26 rfl) (own_w hw 104 rfl) E_so (rmSc l Z a0 hw [] so cs h0 n0 O S_CS F_sc hcs) 0 [] pd__28_29B (hb hby d20_1) e0 (fun _ T1 L1 X1 hQ1 => ?_)
 obtain ⟨rfl, Nq1, e1⟩ := hQ1
 have N1 := Fr.app N0 Nq1
 refine Go.step (S' := T1.setTop (mkF m 9 #[rv so, rv da, iv cn, iv 0] [(.ref so)])) (fun t k => ?_) ?_
 · refine XS.iloadN X1.here hx rfl (hb hby d20_4) rfl ?_
   refine XS.icmpNo X1.here hx rfl (hb hby d20_5) rfl (teq ((by decide) : (0 : Int32) = (0 : Int32))).2 ?_
   refine XS.aloadN X1.here hx rfl (hb hby d20_8) rfl rfl ?_
   exact k
 refine Go.gF X1 hx hZ hown (host := "") (Or.inl (own_w hw 99 rfl)) Via.refl e1 F_sv (hb hby d20_9) (fun T2 X2 e2 => ?_)
 refine Go.step (S' := T2.setTop (mkF m 17 #[rv so, rv da, iv cn, iv 0] [(.int (cn <<< ((0 : Int32) &&& 31))), (.ref da), (.int 0), (.ref tb)])) (fun t k => ?_) ?_
 · refine XS.iconst X2.here hx rfl (hb hby d20_12) ?_
   refine XS.aloadN X2.here hx rfl (hb hby d20_13) rfl rfl ?_
   refine XS.iloadN X2.here hx rfl (hb hby d20_14) rfl ?_
   refine XS.iloadN X2.here hx rfl (hb hby d20_15) rfl ?_
   refine XS.ishl X2.here hx rfl (hb hby d20_16) rfl ?_
   exact k
 rw [(own_sl0 cn : (cn <<< ((0 : Int32) &&& 31)) = cn)]
 show Go p e below _ (T2.setTop (mkF m 17 #[rv so, rv da, iv cn, iv 0] [(.int cn), (.ref da), (.int 0), (.ref tb)]))
 refine Go.step (S' := T2.setTop (mkF m 18 #[rv so, rv da, iv cn, iv 0] [(.ref so), (.int cn), (.ref da), (.int 0), (.ref tb)])) (fun t k => ?_) ?_
 · refine XS.aloadN X2.here hx rfl (hb hby d20_17) rfl rfl ?_
   exact k
 refine Go.gF X2 hx hZ hown (host := "") (Or.inl (own_w hw 99 rfl)) Via.refl e2 F_sv (hb hby d20_18) (fun T3 X3 e3 => ?_)
 refine Go.len X3 hx hZ e3 V_tb (hb hby d20_21) ?_
 refine Go.cp X3 hx hml hown hZ (own_w hw 123 rfl) (own_w hw 126 rfl) (own_w hw 124 rfl) (own_w hw 125 rfl) e3 V_tb V_da rfl (by decide) ca (by decide) (by decide) cb_ hvl N1 g_da 0 [] (hb hby d20_22) (fun T5 h5 L5 ve5 X5 e5 N5 K5 hv5 V5 => ?_)
 have ne_so_da : so ≠ da := Exa.neArv E_so V_da (own_w hw 27 rfl)
 have O := O.keep K5 (allS g_da all0)
 have E_so := E_so.keep K5
 have F_sv := F_sv.keep K5 (ninS ne_so_da nin0)
 have F_sc := F_sc.keep K5 (ninS ne_so_da nin0)
 have V_tb := V_tb.keep K5 (ninS ne_tb_da nin0)
 have K := K.trans K5 (allS (Or.inl (List.mem_of_getElem? (i := 0) rfl)) all0)
 have V_da := V5
 refine Go.step (S' := T5.setTop (mkF m 43 #[rv so, rv da, iv cn, iv 0] [])) (fun t k => ?_) ?_
 · refine XS.goto X5.here hx rfl (pc0 := 25) (pc' := 43) rfl (hb hby d20_25) (by decide) (by decide) ?_
   exact k
 exact Go.rv X5 hx Bd (hb hby d20_43) e5 ⟨ve5, rfl, N5, K, V_da, hv5⟩
abbrev rm_rmGb8_70 : Room := ({ frames := 1, cells := 0, slots := 0, locals := 18 } : Room)
def Q_rmGb8_70 (Z : State) (so : Addr) (da : Addr) (cn : Int32) (tb : Addr) (kt : ClassId) (vl : List Value) (cs : Int32) (kd : ClassId) (vs : List Value) (h0 : Heap) (n0 : Nat) (v : Option Value) (h : Heap) (L : List Loc) : Prop := ∃ vt : List Value, (v = none) ∧ (Fr n0 L) ∧ (Keep h0 h [da]) ∧ (Arv Z h da kd .byte (70 : Int32) vt (.int 0)) ∧ (vt.length = 70)
theorem rmGb8_70 (l : Launch) (Z : State) (a0 : Array Value) (hw : HW a0 Z) (ws : List Jvm.Cond) (so : Addr) (da : Addr) (cn : Int32) (tb : Addr) (kt : ClassId) (vl : List Value) (cs : Int32) (kd : ClassId) (vs : List Value) (h0 : Heap) (n0 : Nat) (O : Old Z n0 h0) (S_CS : Sa_0 Z (.int cs)) (E_so : Exa Z h0 so "java/lang/String") (F_sv : Fd_8 Z h0 so (.ref tb)) (F_sc : Fd_7 Z h0 so (.int 0)) (V_tb : Arv Z h0 tb kt .byte (8 : Int32) vl (.int 0)) (V_da : Arv Z h0 da kd .byte (70 : Int32) vs (.int 0)) (hcs : ¬ (cs = (0 : Int32))) (ne_tb_da : tb ≠ da) (hvl : vs.length = 70) (ca : ¬ (cn < (0 : Int32))) (cb_ : cn.toNatClampNeg + (8 : Int32).toNatClampNeg ≤ (70 : Int32).toNatClampNeg) (g_da : n0 ≤ da) :
    Mt l Z y_19 jdk_42_method_147_code 4 none ws rm_rmGb8_70 #[(.ref so), (.ref da), (.int cn), (.int 0)] h0 (Q_rmGb8_70 Z so da cn tb kt vl cs kd vs h0 n0) := by
 refine own_met "java/lang/String" (plainFor_of_name pn_java_lang_String) #[rv so, rv da, iv cn, iv 0] (fun m => rfl) (fun p e s m below meth c s₁ Bd hx hby hml hZ hown hnm X0 e0 => ?_)
 have N0 := Fr.nil n0
 have K := Keep.refl h0 [da]
 refine Go.step (S' := s₁.setTop (mkF m 1 #[rv so, rv da, iv cn, iv 0] [(.ref so)])) (fun t k => ?_) ?_
 · refine XS.aloadN X0.here hx rfl (hb hby d20_0) rfl rfl ?_
   exact k
 refine Go.cV X0 hx hml hown hZ (own_w hw 100 rfl) (own_w hw 101 rfl) (own_w hw 103 rfl) (own_w hw 102 rfl) (own_w hw 26 rfl) (own_w hw 104 rfl) E_so (rmSc l Z a0 hw [] so cs h0 n0 O S_CS F_sc hcs) 0 [] pd__28_29B (hb hby d20_1) e0 (fun _ T1 L1 X1 hQ1 => ?_)
 obtain ⟨rfl, Nq1, e1⟩ := hQ1
 have N1 := Fr.app N0 Nq1
 refine Go.step (S' := T1.setTop (mkF m 9 #[rv so, rv da, iv cn, iv 0] [(.ref so)])) (fun t k => ?_) ?_
 · refine XS.iloadN X1.here hx rfl (hb hby d20_4) rfl ?_
   refine XS.icmpNo X1.here hx rfl (hb hby d20_5) rfl (teq ((by decide) : (0 : Int32) = (0 : Int32))).2 ?_
   refine XS.aloadN X1.here hx rfl (hb hby d20_8) rfl rfl ?_
   exact k
 refine Go.gF X1 hx hZ hown (host := "") (Or.inl (own_w hw 99 rfl)) Via.refl e1 F_sv (hb hby d20_9) (fun T2 X2 e2 => ?_)
 refine Go.step (S' := T2.setTop (mkF m 17 #[rv so, rv da, iv cn, iv 0] [(.int (cn <<< ((0 : Int32) &&& 31))), (.ref da), (.int 0), (.ref tb)])) (fun t k => ?_) ?_
 · refine XS.iconst X2.here hx rfl (hb hby d20_12) ?_
   refine XS.aloadN X2.here hx rfl (hb hby d20_13) rfl rfl ?_
   refine XS.iloadN X2.here hx rfl (hb hby d20_14) rfl ?_
   refine XS.iloadN X2.here hx rfl (hb hby d20_15) rfl ?_
   refine XS.ishl X2.here hx rfl (hb hby d20_16) rfl ?_
   exact k
 rw [(own_sl0 cn : (cn <<< ((0 : Int32) &&& 31)) = cn)]
 show Go p e below _ (T2.setTop (mkF m 17 #[rv so, rv da, iv cn, iv 0] [(.int cn), (.ref da), (.int 0), (.ref tb)]))
 refine Go.step (S' := T2.setTop (mkF m 18 #[rv so, rv da, iv cn, iv 0] [(.ref so), (.int cn), (.ref da), (.int 0), (.ref tb)])) (fun t k => ?_) ?_
 · refine XS.aloadN X2.here hx rfl (hb hby d20_17) rfl rfl ?_
   exact k
 refine Go.gF X2 hx hZ hown (host := "") (Or.inl (own_w hw 99 rfl)) Via.refl e2 F_sv (hb hby d20_18) (fun T3 X3 e3 => ?_)
 refine Go.len X3 hx hZ e3 V_tb (hb hby d20_21) ?_
 refine Go.cp X3 hx hml hown hZ (own_w hw 123 rfl) (own_w hw 126 rfl) (own_w hw 124 rfl) (own_w hw 125 rfl) e3 V_tb V_da rfl (by decide) ca (by decide) (by decide) cb_ hvl N1 g_da 0 [] (hb hby d20_22) (fun T5 h5 L5 ve5 X5 e5 N5 K5 hv5 V5 => ?_)
 have ne_so_da : so ≠ da := Exa.neArv E_so V_da (own_w hw 27 rfl)
 have O := O.keep K5 (allS g_da all0)
 have E_so := E_so.keep K5
 have F_sv := F_sv.keep K5 (ninS ne_so_da nin0)
 have F_sc := F_sc.keep K5 (ninS ne_so_da nin0)
 have V_tb := V_tb.keep K5 (ninS ne_tb_da nin0)
 have K := K.trans K5 (allS (Or.inl (List.mem_of_getElem? (i := 0) rfl)) all0)
 have V_da := V5
 refine Go.step (S' := T5.setTop (mkF m 43 #[rv so, rv da, iv cn, iv 0] [])) (fun t k => ?_) ?_
 · refine XS.goto X5.here hx rfl (pc0 := 25) (pc' := 43) rfl (hb hby d20_25) (by decide) (by decide) ?_
   exact k
 exact Go.rv X5 hx Bd (hb hby d20_43) e5 ⟨ve5, rfl, N5, K, V_da, hv5⟩
abbrev y_20 : MethodName := ⟨"java/lang/AbstractStringBuilder", "putStringAt", "(ILjava/lang/String;)V"⟩
theorem d18_0 : decode jdk_68_method_73_code 0 = .ok (.aload_n 0, 1) := by decide +kernel
theorem d18_1 : decode jdk_68_method_73_code 1 = .ok (.aload_n 2, 1) := by decide +kernel
theorem d18_2 : decode jdk_68_method_73_code 2 = .ok (.invokevirtual 397, 3) := by decide +kernel
theorem pd__28Ljava_2flang_2fString_3b_29V : parseMethodDescriptor "(Ljava/lang/String;)V" = some ⟨[(.object "java/lang/String")], none⟩ := by decide +kernel
theorem d18_5 : decode jdk_68_method_73_code 5 = .ok (.aload_n 2, 1) := by decide +kernel
theorem d18_6 : decode jdk_68_method_73_code 6 = .ok (.aload_n 0, 1) := by decide +kernel
theorem d18_7 : decode jdk_68_method_73_code 7 = .ok (.getfield 15, 3) := by decide +kernel
theorem d18_10 : decode jdk_68_method_73_code 10 = .ok (.iload_n 1, 1) := by decide +kernel
theorem d18_11 : decode jdk_68_method_73_code 11 = .ok (.aload_n 0, 1) := by decide +kernel
theorem d18_12 : decode jdk_68_method_73_code 12 = .ok (.getfield 22, 3) := by decide +kernel
theorem d18_15 : decode jdk_68_method_73_code 15 = .ok (.invokevirtual 399, 3) := by decide +kernel
theorem pd__28_5bBIB_29V : parseMethodDescriptor "([BIB)V" = some ⟨[(.array .byte), .int, .byte], none⟩ := by decide +kernel
theorem d18_18 : decode jdk_68_method_73_code 18 = .ok (.return_, 1) := by decide +kernel
abbrev rm_rmPs15_16 : Room := ({ frames := 2, cells := 0, slots := 0, locals := 33 } : Room)
def Q_rmPs15_16 (Z : State) (sb : Addr) (cn : Int32) (so : Addr) (tb : Addr) (kt : ClassId) (vl : List Value) (cs : Int32) (da : Addr) (kd : ClassId) (vs : List Value) (h0 : Heap) (n0 : Nat) (v : Option Value) (h : Heap) (L : List Loc) : Prop := ∃ vt : List Value, (v = none) ∧ (Fr n0 L) ∧ (Keep h0 h [da]) ∧ (Arv Z h da kd .byte (16 : Int32) vt (.int 0)) ∧ (vt.length = 16)
theorem rmPs15_16 (l : Launch) (Z : State) (a0 : Array Value) (hw : HW a0 Z) (ws : List Jvm.Cond) (sb : Addr) (cn : Int32) (so : Addr) (tb : Addr) (kt : ClassId) (vl : List Value) (cs : Int32) (da : Addr) (kd : ClassId) (vs : List Value) (h0 : Heap) (n0 : Nat) (O : Old Z n0 h0) (S_CS : Sa_0 Z (.int cs)) (E_so : Exa Z h0 so "java/lang/String") (F_sv : Fd_8 Z h0 so (.ref tb)) (F_sc : Fd_7 Z h0 so (.int 0)) (V_tb : Arv Z h0 tb kt .byte (15 : Int32) vl (.int 0)) (E_sb : Exa Z h0 sb "java/lang/StringBuilder") (F_v : Fd_4 Z h0 sb (.ref da)) (F_c : Fd_5 Z h0 sb (.int 0)) (V_da : Arv Z h0 da kd .byte (16 : Int32) vs (.int 0)) (hcs : ¬ (cs = (0 : Int32))) (ne_tb_da : tb ≠ da) (hvl : vs.length = 16) (ca : ¬ (cn < (0 : Int32))) (cb_ : cn.toNatClampNeg + (15 : Int32).toNatClampNeg ≤ (16 : Int32).toNatClampNeg) (g_da : n0 ≤ da) :
    Mt l Z y_20 jdk_68_method_73_code 3 none ws rm_rmPs15_16 #[(.ref sb), (.int cn), (.ref so)] h0 (Q_rmPs15_16 Z sb cn so tb kt vl cs da kd vs h0 n0) := by
 refine own_met "java/lang/AbstractStringBuilder" (plainFor_of_name pn_java_lang_AbstractStringBuilder) #[rv sb, iv cn, rv so] (fun m => rfl) (fun p e s m below meth c s₁ Bd hx hby hml hZ hown hnm X0 e0 => ?_)
 have N0 := Fr.nil n0
 have K := Keep.refl h0 [da]
 refine Go.step (S' := s₁.setTop (mkF m 2 #[rv sb, iv cn, rv so] [(.ref so), (.ref sb)])) (fun t k => ?_) ?_
 · refine XS.aloadN X0.here hx rfl (hb hby d18_0) rfl rfl ?_
   refine XS.aloadN X0.here hx rfl (hb hby d18_1) rfl rfl ?_
   exact k
 obtain ⟨cq1, q1, q1'⟩ := E_sb.cell
 obtain ⟨_, _, ⟨T1, L1, k1, n1⟩, -, X1, ⟨Lc1, hQ1, l1, y1, z1⟩, st1⟩ := X0.privateBack hx (y := y_17) hown (mvT hZ (own_w hw 112 rfl)) (mvT hZ (own_w hw 113 rfl)) (own_selQ hZ (own_w hw 115 rfl) (own_w hw 113 rfl) (own_w hw 114 rfl) (by decide)) (Cond.privateMethod_at (mvP hZ (own_w hw 114 rfl) (args := #[]))) (mvT hZ (own_w hw 116 rfl)) (by decide) (backOf (W := 0) (rmIf l Z a0 hw [] sb so cs h0 n0 O S_CS F_c E_so F_sc hcs) hZ (own_w hw 116 rfl) (own_w hw 43 rfl) (by decide) (by decide)) (g := (mkF m 2 #[rv sb, iv cn, rv so] [(.ref so), (.ref sb)])) rfl (by rw [hml]; rfl) (Steps.refl _) (a := sb) (by rw [e0]; exact q1) q1' (argsL := [(.ref so)]) (rest := []) (lenOf pd__28Ljava_2flang_2fString_3b_29V rfl) rfl (Nat.le_of_eq rfl) (hb hby d18_2) (fun _ _ => ⟨rfl, e0, (by decide : 0 + 0 ≤ _), (by decide : 0 + 0 ≤ _)⟩)
 dsimp only [Pt.U, Pt.locs, Pt.cells, Pt.slots] at X1 l1 y1 z1 st1 hQ1
 subst l1 y1 z1
 obtain ⟨rfl, Nq1, e1⟩ := hQ1
 have N1 := Fr.app N0 Nq1
 refine Go.step (fun t k => st1.trans k) ?_
 refine Go.step (S' := T1.setTop (mkF m 7 #[rv sb, iv cn, rv so] [(.ref sb), (.ref so)])) (fun t k => ?_) ?_
 · refine XS.aloadN X1.here hx rfl (hb hby d18_5) rfl rfl ?_
   refine XS.aloadN X1.here hx rfl (hb hby d18_6) rfl rfl ?_
   exact k
 refine Go.gF X1 hx hZ hown (host := "") (Or.inl (own_w hw 47 rfl)) Via.refl e1 F_v (hb hby d18_7) (fun T2 X2 e2 => ?_)
 refine Go.step (S' := T2.setTop (mkF m 12 #[rv sb, iv cn, rv so] [(.ref sb), (.int cn), (.ref da), (.ref so)])) (fun t k => ?_) ?_
 · refine XS.iloadN X2.here hx rfl (hb hby d18_10) rfl ?_
   refine XS.aloadN X2.here hx rfl (hb hby d18_11) rfl rfl ?_
   exact k
 refine Go.gF X2 hx hZ hown (host := "") (Or.inl (own_w hw 49 rfl)) Via.refl e2 F_c (hb hby d18_12) (fun T3 X3 e3 => ?_)
 refine Go.cV X3 hx hml hown hZ (own_w hw 118 rfl) (own_w hw 119 rfl) (own_w hw 121 rfl) (own_w hw 120 rfl) (own_w hw 26 rfl) (own_w hw 122 rfl) E_so (rmGb15_16 l Z a0 hw [] so da cn tb kt vl cs kd vs h0 n0 O S_CS E_so F_sv F_sc V_tb V_da hcs ne_tb_da hvl ca cb_ g_da) 0 [] pd__28_5bBIB_29V (hb hby d18_15) e3 (fun _ T4 L4 X4 hQ4 => ?_)
 obtain ⟨vt_4, rfl, Nq4, K4, P4_V, hvt_4⟩ := hQ4
 have N4 := Fr.app N1 Nq4
 have ne_so_da : so ≠ da := Exa.neArv E_so V_da (own_w hw 27 rfl)
 have ne_sb_da : sb ≠ da := Exa.neArv E_sb V_da (own_w hw 34 rfl)
 have O := O.keep K4 (allS g_da all0)
 have E_so := E_so.keep K4
 have F_sv := F_sv.keep K4 (ninS ne_so_da nin0)
 have F_sc := F_sc.keep K4 (ninS ne_so_da nin0)
 have V_tb := V_tb.keep K4 (ninS ne_tb_da nin0)
 have E_sb := E_sb.keep K4
 have F_v := F_v.keep K4 (ninS ne_sb_da nin0)
 have F_c := F_c.keep K4 (ninS ne_sb_da nin0)
 have K := K.trans K4 (allS (Or.inl (List.mem_of_getElem? (i := 0) rfl)) all0)
 have V_4 := P4_V
 exact Go.rv X4 hx Bd (hb hby d18_18) (Eq.refl T4.heap) ⟨vt_4, rfl, N4, K, V_4, hvt_4⟩
abbrev rm_rmPs15_34 : Room := ({ frames := 2, cells := 0, slots := 0, locals := 33 } : Room)
def Q_rmPs15_34 (Z : State) (sb : Addr) (cn : Int32) (so : Addr) (tb : Addr) (kt : ClassId) (vl : List Value) (cs : Int32) (da : Addr) (kd : ClassId) (vs : List Value) (h0 : Heap) (n0 : Nat) (v : Option Value) (h : Heap) (L : List Loc) : Prop := ∃ vt : List Value, (v = none) ∧ (Fr n0 L) ∧ (Keep h0 h [da]) ∧ (Arv Z h da kd .byte (34 : Int32) vt (.int 0)) ∧ (vt.length = 34)
theorem rmPs15_34 (l : Launch) (Z : State) (a0 : Array Value) (hw : HW a0 Z) (ws : List Jvm.Cond) (sb : Addr) (cn : Int32) (so : Addr) (tb : Addr) (kt : ClassId) (vl : List Value) (cs : Int32) (da : Addr) (kd : ClassId) (vs : List Value) (h0 : Heap) (n0 : Nat) (O : Old Z n0 h0) (S_CS : Sa_0 Z (.int cs)) (E_so : Exa Z h0 so "java/lang/String") (F_sv : Fd_8 Z h0 so (.ref tb)) (F_sc : Fd_7 Z h0 so (.int 0)) (V_tb : Arv Z h0 tb kt .byte (15 : Int32) vl (.int 0)) (E_sb : Exa Z h0 sb "java/lang/StringBuilder") (F_v : Fd_4 Z h0 sb (.ref da)) (F_c : Fd_5 Z h0 sb (.int 0)) (V_da : Arv Z h0 da kd .byte (34 : Int32) vs (.int 0)) (hcs : ¬ (cs = (0 : Int32))) (ne_tb_da : tb ≠ da) (hvl : vs.length = 34) (ca : ¬ (cn < (0 : Int32))) (cb_ : cn.toNatClampNeg + (15 : Int32).toNatClampNeg ≤ (34 : Int32).toNatClampNeg) (g_da : n0 ≤ da) :
    Mt l Z y_20 jdk_68_method_73_code 3 none ws rm_rmPs15_34 #[(.ref sb), (.int cn), (.ref so)] h0 (Q_rmPs15_34 Z sb cn so tb kt vl cs da kd vs h0 n0) := by
 refine own_met "java/lang/AbstractStringBuilder" (plainFor_of_name pn_java_lang_AbstractStringBuilder) #[rv sb, iv cn, rv so] (fun m => rfl) (fun p e s m below meth c s₁ Bd hx hby hml hZ hown hnm X0 e0 => ?_)
 have N0 := Fr.nil n0
 have K := Keep.refl h0 [da]
 refine Go.step (S' := s₁.setTop (mkF m 2 #[rv sb, iv cn, rv so] [(.ref so), (.ref sb)])) (fun t k => ?_) ?_
 · refine XS.aloadN X0.here hx rfl (hb hby d18_0) rfl rfl ?_
   refine XS.aloadN X0.here hx rfl (hb hby d18_1) rfl rfl ?_
   exact k
 obtain ⟨cq1, q1, q1'⟩ := E_sb.cell
 obtain ⟨_, _, ⟨T1, L1, k1, n1⟩, -, X1, ⟨Lc1, hQ1, l1, y1, z1⟩, st1⟩ := X0.privateBack hx (y := y_17) hown (mvT hZ (own_w hw 112 rfl)) (mvT hZ (own_w hw 113 rfl)) (own_selQ hZ (own_w hw 115 rfl) (own_w hw 113 rfl) (own_w hw 114 rfl) (by decide)) (Cond.privateMethod_at (mvP hZ (own_w hw 114 rfl) (args := #[]))) (mvT hZ (own_w hw 116 rfl)) (by decide) (backOf (W := 0) (rmIf l Z a0 hw [] sb so cs h0 n0 O S_CS F_c E_so F_sc hcs) hZ (own_w hw 116 rfl) (own_w hw 43 rfl) (by decide) (by decide)) (g := (mkF m 2 #[rv sb, iv cn, rv so] [(.ref so), (.ref sb)])) rfl (by rw [hml]; rfl) (Steps.refl _) (a := sb) (by rw [e0]; exact q1) q1' (argsL := [(.ref so)]) (rest := []) (lenOf pd__28Ljava_2flang_2fString_3b_29V rfl) rfl (Nat.le_of_eq rfl) (hb hby d18_2) (fun _ _ => ⟨rfl, e0, (by decide : 0 + 0 ≤ _), (by decide : 0 + 0 ≤ _)⟩)
 dsimp only [Pt.U, Pt.locs, Pt.cells, Pt.slots] at X1 l1 y1 z1 st1 hQ1
 subst l1 y1 z1
 obtain ⟨rfl, Nq1, e1⟩ := hQ1
 have N1 := Fr.app N0 Nq1
 refine Go.step (fun t k => st1.trans k) ?_
 refine Go.step (S' := T1.setTop (mkF m 7 #[rv sb, iv cn, rv so] [(.ref sb), (.ref so)])) (fun t k => ?_) ?_
 · refine XS.aloadN X1.here hx rfl (hb hby d18_5) rfl rfl ?_
   refine XS.aloadN X1.here hx rfl (hb hby d18_6) rfl rfl ?_
   exact k
 refine Go.gF X1 hx hZ hown (host := "") (Or.inl (own_w hw 47 rfl)) Via.refl e1 F_v (hb hby d18_7) (fun T2 X2 e2 => ?_)
 refine Go.step (S' := T2.setTop (mkF m 12 #[rv sb, iv cn, rv so] [(.ref sb), (.int cn), (.ref da), (.ref so)])) (fun t k => ?_) ?_
 · refine XS.iloadN X2.here hx rfl (hb hby d18_10) rfl ?_
   refine XS.aloadN X2.here hx rfl (hb hby d18_11) rfl rfl ?_
   exact k
 refine Go.gF X2 hx hZ hown (host := "") (Or.inl (own_w hw 49 rfl)) Via.refl e2 F_c (hb hby d18_12) (fun T3 X3 e3 => ?_)
 refine Go.cV X3 hx hml hown hZ (own_w hw 118 rfl) (own_w hw 119 rfl) (own_w hw 121 rfl) (own_w hw 120 rfl) (own_w hw 26 rfl) (own_w hw 122 rfl) E_so (rmGb15_34 l Z a0 hw [] so da cn tb kt vl cs kd vs h0 n0 O S_CS E_so F_sv F_sc V_tb V_da hcs ne_tb_da hvl ca cb_ g_da) 0 [] pd__28_5bBIB_29V (hb hby d18_15) e3 (fun _ T4 L4 X4 hQ4 => ?_)
 obtain ⟨vt_4, rfl, Nq4, K4, P4_V, hvt_4⟩ := hQ4
 have N4 := Fr.app N1 Nq4
 have ne_so_da : so ≠ da := Exa.neArv E_so V_da (own_w hw 27 rfl)
 have ne_sb_da : sb ≠ da := Exa.neArv E_sb V_da (own_w hw 34 rfl)
 have O := O.keep K4 (allS g_da all0)
 have E_so := E_so.keep K4
 have F_sv := F_sv.keep K4 (ninS ne_so_da nin0)
 have F_sc := F_sc.keep K4 (ninS ne_so_da nin0)
 have V_tb := V_tb.keep K4 (ninS ne_tb_da nin0)
 have E_sb := E_sb.keep K4
 have F_v := F_v.keep K4 (ninS ne_sb_da nin0)
 have F_c := F_c.keep K4 (ninS ne_sb_da nin0)
 have K := K.trans K4 (allS (Or.inl (List.mem_of_getElem? (i := 0) rfl)) all0)
 have V_4 := P4_V
 exact Go.rv X4 hx Bd (hb hby d18_18) (Eq.refl T4.heap) ⟨vt_4, rfl, N4, K, V_4, hvt_4⟩
abbrev rm_rmPs8_34 : Room := ({ frames := 2, cells := 0, slots := 0, locals := 33 } : Room)
def Q_rmPs8_34 (Z : State) (sb : Addr) (cn : Int32) (so : Addr) (tb : Addr) (kt : ClassId) (vl : List Value) (cs : Int32) (da : Addr) (kd : ClassId) (vs : List Value) (h0 : Heap) (n0 : Nat) (v : Option Value) (h : Heap) (L : List Loc) : Prop := ∃ vt : List Value, (v = none) ∧ (Fr n0 L) ∧ (Keep h0 h [da]) ∧ (Arv Z h da kd .byte (34 : Int32) vt (.int 0)) ∧ (vt.length = 34)
theorem rmPs8_34 (l : Launch) (Z : State) (a0 : Array Value) (hw : HW a0 Z) (ws : List Jvm.Cond) (sb : Addr) (cn : Int32) (so : Addr) (tb : Addr) (kt : ClassId) (vl : List Value) (cs : Int32) (da : Addr) (kd : ClassId) (vs : List Value) (h0 : Heap) (n0 : Nat) (O : Old Z n0 h0) (S_CS : Sa_0 Z (.int cs)) (E_so : Exa Z h0 so "java/lang/String") (F_sv : Fd_8 Z h0 so (.ref tb)) (F_sc : Fd_7 Z h0 so (.int 0)) (V_tb : Arv Z h0 tb kt .byte (8 : Int32) vl (.int 0)) (E_sb : Exa Z h0 sb "java/lang/StringBuilder") (F_v : Fd_4 Z h0 sb (.ref da)) (F_c : Fd_5 Z h0 sb (.int 0)) (V_da : Arv Z h0 da kd .byte (34 : Int32) vs (.int 0)) (hcs : ¬ (cs = (0 : Int32))) (ne_tb_da : tb ≠ da) (hvl : vs.length = 34) (ca : ¬ (cn < (0 : Int32))) (cb_ : cn.toNatClampNeg + (8 : Int32).toNatClampNeg ≤ (34 : Int32).toNatClampNeg) (g_da : n0 ≤ da) :
    Mt l Z y_20 jdk_68_method_73_code 3 none ws rm_rmPs8_34 #[(.ref sb), (.int cn), (.ref so)] h0 (Q_rmPs8_34 Z sb cn so tb kt vl cs da kd vs h0 n0) := by
 refine own_met "java/lang/AbstractStringBuilder" (plainFor_of_name pn_java_lang_AbstractStringBuilder) #[rv sb, iv cn, rv so] (fun m => rfl) (fun p e s m below meth c s₁ Bd hx hby hml hZ hown hnm X0 e0 => ?_)
 have N0 := Fr.nil n0
 have K := Keep.refl h0 [da]
 refine Go.step (S' := s₁.setTop (mkF m 2 #[rv sb, iv cn, rv so] [(.ref so), (.ref sb)])) (fun t k => ?_) ?_
 · refine XS.aloadN X0.here hx rfl (hb hby d18_0) rfl rfl ?_
   refine XS.aloadN X0.here hx rfl (hb hby d18_1) rfl rfl ?_
   exact k
 obtain ⟨cq1, q1, q1'⟩ := E_sb.cell
 obtain ⟨_, _, ⟨T1, L1, k1, n1⟩, -, X1, ⟨Lc1, hQ1, l1, y1, z1⟩, st1⟩ := X0.privateBack hx (y := y_17) hown (mvT hZ (own_w hw 112 rfl)) (mvT hZ (own_w hw 113 rfl)) (own_selQ hZ (own_w hw 115 rfl) (own_w hw 113 rfl) (own_w hw 114 rfl) (by decide)) (Cond.privateMethod_at (mvP hZ (own_w hw 114 rfl) (args := #[]))) (mvT hZ (own_w hw 116 rfl)) (by decide) (backOf (W := 0) (rmIf l Z a0 hw [] sb so cs h0 n0 O S_CS F_c E_so F_sc hcs) hZ (own_w hw 116 rfl) (own_w hw 43 rfl) (by decide) (by decide)) (g := (mkF m 2 #[rv sb, iv cn, rv so] [(.ref so), (.ref sb)])) rfl (by rw [hml]; rfl) (Steps.refl _) (a := sb) (by rw [e0]; exact q1) q1' (argsL := [(.ref so)]) (rest := []) (lenOf pd__28Ljava_2flang_2fString_3b_29V rfl) rfl (Nat.le_of_eq rfl) (hb hby d18_2) (fun _ _ => ⟨rfl, e0, (by decide : 0 + 0 ≤ _), (by decide : 0 + 0 ≤ _)⟩)
 dsimp only [Pt.U, Pt.locs, Pt.cells, Pt.slots] at X1 l1 y1 z1 st1 hQ1
 subst l1 y1 z1
 obtain ⟨rfl, Nq1, e1⟩ := hQ1
 have N1 := Fr.app N0 Nq1
 refine Go.step (fun t k => st1.trans k) ?_
 refine Go.step (S' := T1.setTop (mkF m 7 #[rv sb, iv cn, rv so] [(.ref sb), (.ref so)])) (fun t k => ?_) ?_
 · refine XS.aloadN X1.here hx rfl (hb hby d18_5) rfl rfl ?_
   refine XS.aloadN X1.here hx rfl (hb hby d18_6) rfl rfl ?_
   exact k
 refine Go.gF X1 hx hZ hown (host := "") (Or.inl (own_w hw 47 rfl)) Via.refl e1 F_v (hb hby d18_7) (fun T2 X2 e2 => ?_)
 refine Go.step (S' := T2.setTop (mkF m 12 #[rv sb, iv cn, rv so] [(.ref sb), (.int cn), (.ref da), (.ref so)])) (fun t k => ?_) ?_
 · refine XS.iloadN X2.here hx rfl (hb hby d18_10) rfl ?_
   refine XS.aloadN X2.here hx rfl (hb hby d18_11) rfl rfl ?_
   exact k
 refine Go.gF X2 hx hZ hown (host := "") (Or.inl (own_w hw 49 rfl)) Via.refl e2 F_c (hb hby d18_12) (fun T3 X3 e3 => ?_)
 refine Go.cV X3 hx hml hown hZ (own_w hw 118 rfl) (own_w hw 119 rfl) (own_w hw 121 rfl) (own_w hw 120 rfl) (own_w hw 26 rfl) (own_w hw 122 rfl) E_so (rmGb8_34 l Z a0 hw [] so da cn tb kt vl cs kd vs h0 n0 O S_CS E_so F_sv F_sc V_tb V_da hcs ne_tb_da hvl ca cb_ g_da) 0 [] pd__28_5bBIB_29V (hb hby d18_15) e3 (fun _ T4 L4 X4 hQ4 => ?_)
 obtain ⟨vt_4, rfl, Nq4, K4, P4_V, hvt_4⟩ := hQ4
 have N4 := Fr.app N1 Nq4
 have ne_so_da : so ≠ da := Exa.neArv E_so V_da (own_w hw 27 rfl)
 have ne_sb_da : sb ≠ da := Exa.neArv E_sb V_da (own_w hw 34 rfl)
 have O := O.keep K4 (allS g_da all0)
 have E_so := E_so.keep K4
 have F_sv := F_sv.keep K4 (ninS ne_so_da nin0)
 have F_sc := F_sc.keep K4 (ninS ne_so_da nin0)
 have V_tb := V_tb.keep K4 (ninS ne_tb_da nin0)
 have E_sb := E_sb.keep K4
 have F_v := F_v.keep K4 (ninS ne_sb_da nin0)
 have F_c := F_c.keep K4 (ninS ne_sb_da nin0)
 have K := K.trans K4 (allS (Or.inl (List.mem_of_getElem? (i := 0) rfl)) all0)
 have V_4 := P4_V
 exact Go.rv X4 hx Bd (hb hby d18_18) (Eq.refl T4.heap) ⟨vt_4, rfl, N4, K, V_4, hvt_4⟩
abbrev rm_rmPs8_70 : Room := ({ frames := 2, cells := 0, slots := 0, locals := 33 } : Room)
def Q_rmPs8_70 (Z : State) (sb : Addr) (cn : Int32) (so : Addr) (tb : Addr) (kt : ClassId) (vl : List Value) (cs : Int32) (da : Addr) (kd : ClassId) (vs : List Value) (h0 : Heap) (n0 : Nat) (v : Option Value) (h : Heap) (L : List Loc) : Prop := ∃ vt : List Value, (v = none) ∧ (Fr n0 L) ∧ (Keep h0 h [da]) ∧ (Arv Z h da kd .byte (70 : Int32) vt (.int 0)) ∧ (vt.length = 70)
theorem rmPs8_70 (l : Launch) (Z : State) (a0 : Array Value) (hw : HW a0 Z) (ws : List Jvm.Cond) (sb : Addr) (cn : Int32) (so : Addr) (tb : Addr) (kt : ClassId) (vl : List Value) (cs : Int32) (da : Addr) (kd : ClassId) (vs : List Value) (h0 : Heap) (n0 : Nat) (O : Old Z n0 h0) (S_CS : Sa_0 Z (.int cs)) (E_so : Exa Z h0 so "java/lang/String") (F_sv : Fd_8 Z h0 so (.ref tb)) (F_sc : Fd_7 Z h0 so (.int 0)) (V_tb : Arv Z h0 tb kt .byte (8 : Int32) vl (.int 0)) (E_sb : Exa Z h0 sb "java/lang/StringBuilder") (F_v : Fd_4 Z h0 sb (.ref da)) (F_c : Fd_5 Z h0 sb (.int 0)) (V_da : Arv Z h0 da kd .byte (70 : Int32) vs (.int 0)) (hcs : ¬ (cs = (0 : Int32))) (ne_tb_da : tb ≠ da) (hvl : vs.length = 70) (ca : ¬ (cn < (0 : Int32))) (cb_ : cn.toNatClampNeg + (8 : Int32).toNatClampNeg ≤ (70 : Int32).toNatClampNeg) (g_da : n0 ≤ da) :
    Mt l Z y_20 jdk_68_method_73_code 3 none ws rm_rmPs8_70 #[(.ref sb), (.int cn), (.ref so)] h0 (Q_rmPs8_70 Z sb cn so tb kt vl cs da kd vs h0 n0) := by
 refine own_met "java/lang/AbstractStringBuilder" (plainFor_of_name pn_java_lang_AbstractStringBuilder) #[rv sb, iv cn, rv so] (fun m => rfl) (fun p e s m below meth c s₁ Bd hx hby hml hZ hown hnm X0 e0 => ?_)
 have N0 := Fr.nil n0
 have K := Keep.refl h0 [da]
 refine Go.step (S' := s₁.setTop (mkF m 2 #[rv sb, iv cn, rv so] [(.ref so), (.ref sb)])) (fun t k => ?_) ?_
 · refine XS.aloadN X0.here hx rfl (hb hby d18_0) rfl rfl ?_
   refine XS.aloadN X0.here hx rfl (hb hby d18_1) rfl rfl ?_
   exact k
 obtain ⟨cq1, q1, q1'⟩ := E_sb.cell
 obtain ⟨_, _, ⟨T1, L1, k1, n1⟩, -, X1, ⟨Lc1, hQ1, l1, y1, z1⟩, st1⟩ := X0.privateBack hx (y := y_17) hown (mvT hZ (own_w hw 112 rfl)) (mvT hZ (own_w hw 113 rfl)) (own_selQ hZ (own_w hw 115 rfl) (own_w hw 113 rfl) (own_w hw 114 rfl) (by decide)) (Cond.privateMethod_at (mvP hZ (own_w hw 114 rfl) (args := #[]))) (mvT hZ (own_w hw 116 rfl)) (by decide) (backOf (W := 0) (rmIf l Z a0 hw [] sb so cs h0 n0 O S_CS F_c E_so F_sc hcs) hZ (own_w hw 116 rfl) (own_w hw 43 rfl) (by decide) (by decide)) (g := (mkF m 2 #[rv sb, iv cn, rv so] [(.ref so), (.ref sb)])) rfl (by rw [hml]; rfl) (Steps.refl _) (a := sb) (by rw [e0]; exact q1) q1' (argsL := [(.ref so)]) (rest := []) (lenOf pd__28Ljava_2flang_2fString_3b_29V rfl) rfl (Nat.le_of_eq rfl) (hb hby d18_2) (fun _ _ => ⟨rfl, e0, (by decide : 0 + 0 ≤ _), (by decide : 0 + 0 ≤ _)⟩)
 dsimp only [Pt.U, Pt.locs, Pt.cells, Pt.slots] at X1 l1 y1 z1 st1 hQ1
 subst l1 y1 z1
 obtain ⟨rfl, Nq1, e1⟩ := hQ1
 have N1 := Fr.app N0 Nq1
 refine Go.step (fun t k => st1.trans k) ?_
 refine Go.step (S' := T1.setTop (mkF m 7 #[rv sb, iv cn, rv so] [(.ref sb), (.ref so)])) (fun t k => ?_) ?_
 · refine XS.aloadN X1.here hx rfl (hb hby d18_5) rfl rfl ?_
   refine XS.aloadN X1.here hx rfl (hb hby d18_6) rfl rfl ?_
   exact k
 refine Go.gF X1 hx hZ hown (host := "") (Or.inl (own_w hw 47 rfl)) Via.refl e1 F_v (hb hby d18_7) (fun T2 X2 e2 => ?_)
 refine Go.step (S' := T2.setTop (mkF m 12 #[rv sb, iv cn, rv so] [(.ref sb), (.int cn), (.ref da), (.ref so)])) (fun t k => ?_) ?_
 · refine XS.iloadN X2.here hx rfl (hb hby d18_10) rfl ?_
   refine XS.aloadN X2.here hx rfl (hb hby d18_11) rfl rfl ?_
   exact k
 refine Go.gF X2 hx hZ hown (host := "") (Or.inl (own_w hw 49 rfl)) Via.refl e2 F_c (hb hby d18_12) (fun T3 X3 e3 => ?_)
 refine Go.cV X3 hx hml hown hZ (own_w hw 118 rfl) (own_w hw 119 rfl) (own_w hw 121 rfl) (own_w hw 120 rfl) (own_w hw 26 rfl) (own_w hw 122 rfl) E_so (rmGb8_70 l Z a0 hw [] so da cn tb kt vl cs kd vs h0 n0 O S_CS E_so F_sv F_sc V_tb V_da hcs ne_tb_da hvl ca cb_ g_da) 0 [] pd__28_5bBIB_29V (hb hby d18_15) e3 (fun _ T4 L4 X4 hQ4 => ?_)
 obtain ⟨vt_4, rfl, Nq4, K4, P4_V, hvt_4⟩ := hQ4
 have N4 := Fr.app N1 Nq4
 have ne_so_da : so ≠ da := Exa.neArv E_so V_da (own_w hw 27 rfl)
 have ne_sb_da : sb ≠ da := Exa.neArv E_sb V_da (own_w hw 34 rfl)
 have O := O.keep K4 (allS g_da all0)
 have E_so := E_so.keep K4
 have F_sv := F_sv.keep K4 (ninS ne_so_da nin0)
 have F_sc := F_sc.keep K4 (ninS ne_so_da nin0)
 have V_tb := V_tb.keep K4 (ninS ne_tb_da nin0)
 have E_sb := E_sb.keep K4
 have F_v := F_v.keep K4 (ninS ne_sb_da nin0)
 have F_c := F_c.keep K4 (ninS ne_sb_da nin0)
 have K := K.trans K4 (allS (Or.inl (List.mem_of_getElem? (i := 0) rfl)) all0)
 have V_4 := P4_V
 exact Go.rv X4 hx Bd (hb hby d18_18) (Eq.refl T4.heap) ⟨vt_4, rfl, N4, K, V_4, hvt_4⟩
abbrev y_21 : MethodName := ⟨"java/lang/AbstractStringBuilder", "append", "(Ljava/lang/String;)Ljava/lang/AbstractStringBuilder;"⟩
theorem d15_0 : decode jdk_68_method_22_code 0 = .ok (.aload_n 1, 1) := by decide +kernel
theorem d15_1 : decode jdk_68_method_22_code 1 = .ok (.ifnonnull 8, 3) := by decide +kernel
theorem d15_9 : decode jdk_68_method_22_code 9 = .ok (.aload_n 1, 1) := by decide +kernel
theorem d15_10 : decode jdk_68_method_22_code 10 = .ok (.invokevirtual 32, 3) := by decide +kernel
theorem pd__28_29I : parseMethodDescriptor "()I" = some ⟨[], some .int⟩ := by decide +kernel
theorem d15_13 : decode jdk_68_method_22_code 13 = .ok (.istore_n 2, 1) := by decide +kernel
theorem d15_14 : decode jdk_68_method_22_code 14 = .ok (.aload_n 0, 1) := by decide +kernel
theorem d15_15 : decode jdk_68_method_22_code 15 = .ok (.aload_n 0, 1) := by decide +kernel
theorem d15_16 : decode jdk_68_method_22_code 16 = .ok (.getfield 79, 3) := by decide +kernel
theorem d15_19 : decode jdk_68_method_22_code 19 = .ok (.iload_n 2, 1) := by decide +kernel
theorem d15_20 : decode jdk_68_method_22_code 20 = .ok (.iadd, 1) := by decide +kernel
theorem d15_21 : decode jdk_68_method_22_code 21 = .ok (.invokevirtual 100, 3) := by decide +kernel
theorem d15_24 : decode jdk_68_method_22_code 24 = .ok (.aload_n 0, 1) := by decide +kernel
theorem d15_25 : decode jdk_68_method_22_code 25 = .ok (.aload_n 0, 1) := by decide +kernel
theorem d15_26 : decode jdk_68_method_22_code 26 = .ok (.getfield 79, 3) := by decide +kernel
theorem d15_29 : decode jdk_68_method_22_code 29 = .ok (.aload_n 1, 1) := by decide +kernel
theorem d15_30 : decode jdk_68_method_22_code 30 = .ok (.invokevirtual 208, 3) := by decide +kernel
theorem pd__28ILjava_2flang_2fString_3b_29V : parseMethodDescriptor "(ILjava/lang/String;)V" = some ⟨[.int, (.object "java/lang/String")], none⟩ := by decide +kernel
theorem d15_33 : decode jdk_68_method_22_code 33 = .ok (.aload_n 0, 1) := by decide +kernel
theorem d15_34 : decode jdk_68_method_22_code 34 = .ok (.dup, 1) := by decide +kernel
theorem d15_35 : decode jdk_68_method_22_code 35 = .ok (.getfield 79, 3) := by decide +kernel
theorem d15_38 : decode jdk_68_method_22_code 38 = .ok (.iload_n 2, 1) := by decide +kernel
theorem d15_39 : decode jdk_68_method_22_code 39 = .ok (.iadd, 1) := by decide +kernel
theorem d15_40 : decode jdk_68_method_22_code 40 = .ok (.putfield 79, 3) := by decide +kernel
theorem d15_43 : decode jdk_68_method_22_code 43 = .ok (.aload_n 0, 1) := by decide +kernel
theorem d15_44 : decode jdk_68_method_22_code 44 = .ok (.areturn, 1) := by decide +kernel
abbrev rm_rmAs15k : Room := ({ frames := 3, cells := 0, slots := 0, locals := 47 } : Room)
def Q_rmAs15k (Z : State) (sb : Addr) (so : Addr) (tb : Addr) (kt : ClassId) (vl : List Value) (cs : Int32) (da : Addr) (kd : ClassId) (vs : List Value) (cn : Int32) (h0 : Heap) (n0 : Nat) (v : Option Value) (h : Heap) (L : List Loc) : Prop := ∃ de : Addr, ∃ ke : ClassId, ∃ vf : List Value, (v = some (.ref sb)) ∧ (Fr n0 L) ∧ (Keep h0 h [sb, da]) ∧ (Exa Z h sb "java/lang/StringBuilder") ∧ (Fd_4 Z h sb (.ref de)) ∧ (Fd_5 Z h sb (.int 0)) ∧ (Fd_6 Z h sb (.int (cn + (15 : Int32)))) ∧ (Arv Z h de ke .byte (16 : Int32) vf (.int 0)) ∧ (Exa Z h de "[B") ∧ (vf.length = 16) ∧ (n0 ≤ de) ∧ (de = da ∨ h0.size ≤ de)
theorem rmAs15k (l : Launch) (Z : State) (a0 : Array Value) (hw : HW a0 Z) (ws : List Jvm.Cond) (sb : Addr) (so : Addr) (tb : Addr) (kt : ClassId) (vl : List Value) (cs : Int32) (da : Addr) (kd : ClassId) (vs : List Value) (cn : Int32) (h0 : Heap) (n0 : Nat) (O : Old Z n0 h0) (S_CS : Sa_0 Z (.int cs)) (E_so : Exa Z h0 so "java/lang/String") (F_sv : Fd_8 Z h0 so (.ref tb)) (F_sc : Fd_7 Z h0 so (.int 0)) (V_tb : Arv Z h0 tb kt .byte (15 : Int32) vl (.int 0)) (E_sb : Exa Z h0 sb "java/lang/StringBuilder") (F_v : Fd_4 Z h0 sb (.ref da)) (F_c : Fd_5 Z h0 sb (.int 0)) (F_n : Fd_6 Z h0 sb (.int cn)) (V_da : Arv Z h0 da kd .byte (16 : Int32) vs (.int 0)) (E_da : Exa Z h0 da "[B") (hcs : ¬ (cs = (0 : Int32))) (g_sb : n0 ≤ sb) (g_da : n0 ≤ da) (ne_tb_da : tb ≠ da) (hvl : vs.length = 16) (ca : ¬ (cn < (0 : Int32))) (cb_ : cn.toNatClampNeg + (15 : Int32).toNatClampNeg ≤ (16 : Int32).toNatClampNeg) (hg : ¬ ((0 : Int32) < ((cn + (15 : Int32)) - (16 : Int32)))) :
    Mt l Z y_21 jdk_68_method_22_code 3 (some (.object "java/lang/AbstractStringBuilder")) ws rm_rmAs15k #[(.ref sb), (.ref so)] h0 (Q_rmAs15k Z sb so tb kt vl cs da kd vs cn h0 n0) := by
 refine own_met "java/lang/AbstractStringBuilder" (plainFor_of_name pn_java_lang_AbstractStringBuilder) #[rv sb, rv so, u_] (fun m => rfl) (fun p e s m below meth c s₁ Bd hx hby hml hZ hown hnm X0 e0 => ?_)
 have N0 := Fr.nil n0
 have K := Keep.refl h0 [sb, da]
 refine Go.step (S' := s₁.setTop (mkF m 10 #[rv sb, rv so, u_] [(.ref so)])) (fun t k => ?_) ?_
 · refine XS.aloadN X0.here hx rfl (hb hby d15_0) rfl rfl ?_
   refine XS.ifnonnullYes X0.here hx rfl (pc0 := 1) (pc' := 9) rfl (hb hby d15_1) rfl (by decide) (by decide) ?_
   refine XS.aloadN X0.here hx rfl (hb hby d15_9) rfl rfl ?_
   exact k
 refine Go.cV X0 hx hml hown hZ (own_w hw 94 rfl) (own_w hw 95 rfl) (own_w hw 97 rfl) (own_w hw 96 rfl) (own_w hw 26 rfl) (own_w hw 98 rfl) E_so (rmSl15 l Z a0 hw [] so tb kt vl cs h0 n0 O S_CS E_so F_sv F_sc V_tb hcs) 0 [] pd__28_29I (hb hby d15_10) e0 (fun _ T1 L1 X1 hQ1 => ?_)
 obtain ⟨rfl, Nq1, e1⟩ := hQ1
 have N1 := Fr.app N0 Nq1
 refine Go.step (S' := T1.setTop (mkF m 16 #[rv sb, rv so, iv 15] [(.ref sb), (.ref sb)])) (fun t k => ?_) ?_
 · refine XS.istoreN X1.here hx rfl (hb hby d15_13) rfl (l' := #[rv sb, rv so, iv 15]) rfl ?_
   refine XS.aloadN X1.here hx rfl (hb hby d15_14) rfl rfl ?_
   refine XS.aloadN X1.here hx rfl (hb hby d15_15) rfl rfl ?_
   exact k
 refine Go.gF X1 hx hZ hown (host := "") (Or.inl (own_w hw 61 rfl)) Via.refl e1 F_n (hb hby d15_16) (fun T2 X2 e2 => ?_)
 refine Go.step (S' := T2.setTop (mkF m 21 #[rv sb, rv so, iv 15] [(.int (cn + (15 : Int32))), (.ref sb)])) (fun t k => ?_) ?_
 · refine XS.iloadN X2.here hx rfl (hb hby d15_19) rfl ?_
   refine XS.iadd X2.here hx rfl (hb hby d15_20) rfl ?_
   exact k
 obtain ⟨cq3, q3, q3'⟩ := E_sb.cell
 obtain ⟨_, _, ⟨T3, L3, k3, n3⟩, -, X3, ⟨Lc3, hQ3, l3, y3, z3⟩, st3⟩ := X2.privateBack hx (y := y_15) hown (mvT hZ (own_w hw 68 rfl)) (mvT hZ (own_w hw 69 rfl)) (own_selQ hZ (own_w hw 71 rfl) (own_w hw 69 rfl) (own_w hw 70 rfl) (by decide)) (Cond.privateMethod_at (mvP hZ (own_w hw 70 rfl) (args := #[]))) (mvT hZ (own_w hw 72 rfl)) (by decide) (backOf (W := 0) (rmEk16 l Z a0 hw [] sb (cn + (15 : Int32)) da kd vs h0 n0 O E_sb F_v F_c V_da hg) hZ (own_w hw 72 rfl) (own_w hw 43 rfl) (by decide) (by decide)) (g := (mkF m 21 #[rv sb, rv so, iv 15] [(.int (cn + (15 : Int32))), (.ref sb)])) rfl (by rw [hml]; rfl) (Steps.refl _) (a := sb) (by rw [e2]; exact q3) q3' (argsL := [(.int (cn + (15 : Int32)))]) (rest := []) (lenOf pd__28I_29V rfl) rfl (Nat.le_of_eq rfl) (hb hby d15_21) (fun _ _ => ⟨rfl, e2, (by decide : 0 + 0 ≤ _), (by decide : 0 + 0 ≤ _)⟩)
 dsimp only [Pt.U, Pt.locs, Pt.cells, Pt.slots] at X3 l3 y3 z3 st3 hQ3
 subst l3 y3 z3
 obtain ⟨rfl, Nq3, e3⟩ := hQ3
 have N3 := Fr.app N1 Nq3
 refine Go.step (fun t k => st3.trans k) ?_
 refine Go.step (S' := T3.setTop (mkF m 26 #[rv sb, rv so, iv 15] [(.ref sb), (.ref sb)])) (fun t k => ?_) ?_
 · refine XS.aloadN X3.here hx rfl (hb hby d15_24) rfl rfl ?_
   refine XS.aloadN X3.here hx rfl (hb hby d15_25) rfl rfl ?_
   exact k
 refine Go.gF X3 hx hZ hown (host := "") (Or.inl (own_w hw 61 rfl)) Via.refl e3 F_n (hb hby d15_26) (fun T4 X4 e4 => ?_)
 refine Go.step (S' := T4.setTop (mkF m 30 #[rv sb, rv so, iv 15] [(.ref so), (.int cn), (.ref sb)])) (fun t k => ?_) ?_
 · refine XS.aloadN X4.here hx rfl (hb hby d15_29) rfl rfl ?_
   exact k
 obtain ⟨cq5, q5, q5'⟩ := E_sb.cell
 obtain ⟨_, _, ⟨T5, L5, k5, n5⟩, -, X5, ⟨Lc5, hQ5, l5, y5, z5⟩, st5⟩ := X4.privateBack hx (y := y_20) hown (mvT hZ (own_w hw 107 rfl)) (mvT hZ (own_w hw 108 rfl)) (own_selQ hZ (own_w hw 110 rfl) (own_w hw 108 rfl) (own_w hw 109 rfl) (by decide)) (Cond.privateMethod_at (mvP hZ (own_w hw 109 rfl) (args := #[]))) (mvT hZ (own_w hw 111 rfl)) (by decide) (backOf (W := 0) (rmPs15_16 l Z a0 hw [] sb cn so tb kt vl cs da kd vs h0 n0 O S_CS E_so F_sv F_sc V_tb E_sb F_v F_c V_da hcs ne_tb_da hvl ca (by assumption) (by assumption)) hZ (own_w hw 111 rfl) (own_w hw 43 rfl) (by decide) (by decide)) (g := (mkF m 30 #[rv sb, rv so, iv 15] [(.ref so), (.int cn), (.ref sb)])) rfl (by rw [hml]; rfl) (Steps.refl _) (a := sb) (by rw [e4]; exact q5) q5' (argsL := [(.int cn), (.ref so)]) (rest := []) (lenOf pd__28ILjava_2flang_2fString_3b_29V rfl) rfl (Nat.le_of_eq rfl) (hb hby d15_30) (fun _ _ => ⟨rfl, e4, (by decide : 0 + 0 ≤ _), (by decide : 0 + 0 ≤ _)⟩)
 dsimp only [Pt.U, Pt.locs, Pt.cells, Pt.slots] at X5 l5 y5 z5 st5 hQ5
 subst l5 y5 z5
 obtain ⟨vt_5, rfl, Nq5, K5, P5_V, hvt_5⟩ := hQ5
 have N5 := Fr.app N3 Nq5
 have ne_so_da : so ≠ da := ne_exa E_so E_da (by decide)
 have ne_sb_da : sb ≠ da := ne_exa E_sb E_da (by decide)
 have O := O.keep K5 (allS g_da all0)
 have E_so := E_so.keep K5
 have F_sv := F_sv.keep K5 (ninS ne_so_da nin0)
 have F_sc := F_sc.keep K5 (ninS ne_so_da nin0)
 have V_tb := V_tb.keep K5 (ninS ne_tb_da nin0)
 have E_sb := E_sb.keep K5
 have F_v := F_v.keep K5 (ninS ne_sb_da nin0)
 have F_c := F_c.keep K5 (ninS ne_sb_da nin0)
 have F_n := F_n.keep K5 (ninS ne_sb_da nin0)
 have E_da := E_da.keep K5
 have K := K.trans K5 (allS (Or.inl (List.mem_of_getElem? (i := 1) rfl)) all0)
 have V_5 := P5_V
 refine Go.step (fun t k => st5.trans k) ?_
 refine Go.step (S' := T5.setTop (mkF m 35 #[rv sb, rv so, iv 15] [(.ref sb), (.ref sb)])) (fun t k => ?_) ?_
 · refine XS.aloadN X5.here hx rfl (hb hby d15_33) rfl rfl ?_
   refine XS.dup X5.here hx rfl (hb hby d15_34) rfl rfl ?_
   exact k
 refine Go.gF X5 hx hZ hown (host := "") (Or.inl (own_w hw 61 rfl)) Via.refl (Eq.refl T5.heap) F_n (hb hby d15_35) (fun T6 X6 e6 => ?_)
 refine Go.step (S' := T6.setTop (mkF m 40 #[rv sb, rv so, iv 15] [(.int (cn + (15 : Int32))), (.ref sb)])) (fun t k => ?_) ?_
 · refine XS.iloadN X6.here hx rfl (hb hby d15_38) rfl ?_
   refine XS.iadd X6.here hx rfl (hb hby d15_39) rfl ?_
   exact k
 obtain ⟨T7, h7, X7, e7, W7, st7⟩ := putF X6 hx hZ hown (host := "") (Or.inl (own_w hw 61 rfl)) Via.refl e6 F_n E_sb (Or.inl (own_w hw 62 rfl)) (own_w hw 34 rfl) (ty := .int) (by decide) rfl rfl (g := (mkF m 40 #[rv sb, rv so, iv 15] [(.int (cn + (15 : Int32))), (.ref sb)])) rfl rfl (hb hby d15_40)
 have ne_so_sb : so ≠ sb := ne_exa E_so E_sb (by decide)
 have ne_tb_sb : tb ≠ sb := Ne.symm (Exa.neArv E_sb V_tb (own_w hw 34 rfl))
 have O := O.wr W7 g_sb
 have E_so := E_so.wr W7
 have F_sv := F_sv.other W7 (Or.inl ne_so_sb)
 have F_sc := F_sc.other W7 (Or.inl ne_so_sb)
 have V_tb := V_tb.other W7 ne_tb_sb
 have E_sb := E_sb.wr W7
 have F_v := F_v.other W7 (Or.inr (slot_ne (Or.inl (own_w hw 48 rfl)) (Or.inl (own_w hw 62 rfl)) (by decide) (t := (.array .byte)) (t' := .int) (by decide) (by decide)))
 have F_c := F_c.other W7 (Or.inr (slot_ne (Or.inl (own_w hw 50 rfl)) (Or.inl (own_w hw 62 rfl)) (by decide) (t := .byte) (t' := .int) (by decide) (by decide)))
 have F_n := F_n.same W7
 have E_da := E_da.wr W7
 have K := K.wr W7 (Or.inl (List.mem_of_getElem? (i := 0) rfl))
 have V_5 := V_5.other W7 (Ne.symm ne_sb_da)
 have N7 := Fr.snoc X7 N5 g_sb
 refine Go.step st7 ?_
 refine Go.step (S' := T7.setTop (mkF m 44 #[rv sb, rv so, iv 15] [(.ref sb)])) (fun t k => ?_) ?_
 · refine XS.aloadN X7.here hx rfl (hb hby d15_43) rfl rfl ?_
   exact k
 exact Go.rt X7 hx Bd (w := (.ref sb)) rfl (Or.inr (Or.inr (Or.inr (Or.inr ⟨rfl, rfl, rfl⟩)))) (hb hby d15_44) e7 ⟨da, kd, vt_5, rfl, N7, K, E_sb, F_v, F_c, F_n, V_5, E_da, hvt_5, g_da, (Or.inl rfl)⟩
abbrev rm_rmAs15g : Room := ({ frames := 4, cells := 1, slots := 34, locals := 62 } : Room)
def Q_rmAs15g (Z : State) (sb : Addr) (so : Addr) (tb : Addr) (kt : ClassId) (vl : List Value) (cs : Int32) (da : Addr) (kd : ClassId) (vs : List Value) (cn : Int32) (h0 : Heap) (n0 : Nat) (v : Option Value) (h : Heap) (L : List Loc) : Prop := ∃ de : Addr, ∃ ke : ClassId, ∃ vf : List Value, (v = some (.ref sb)) ∧ (Fr n0 L) ∧ (Keep h0 h [sb, da]) ∧ (Exa Z h sb "java/lang/StringBuilder") ∧ (Fd_4 Z h sb (.ref de)) ∧ (Fd_5 Z h sb (.int 0)) ∧ (Fd_6 Z h sb (.int (cn + (15 : Int32)))) ∧ (Arv Z h de ke .byte (34 : Int32) vf (.int 0)) ∧ (Exa Z h de "[B") ∧ (vf.length = 34) ∧ (n0 ≤ de) ∧ (de = da ∨ h0.size ≤ de)
theorem rmAs15g (l : Launch) (Z : State) (a0 : Array Value) (hw : HW a0 Z) (ws : List Jvm.Cond) (sb : Addr) (so : Addr) (tb : Addr) (kt : ClassId) (vl : List Value) (cs : Int32) (da : Addr) (kd : ClassId) (vs : List Value) (cn : Int32) (h0 : Heap) (n0 : Nat) (O : Old Z n0 h0) (S_CS : Sa_0 Z (.int cs)) (E_so : Exa Z h0 so "java/lang/String") (F_sv : Fd_8 Z h0 so (.ref tb)) (F_sc : Fd_7 Z h0 so (.int 0)) (V_tb : Arv Z h0 tb kt .byte (15 : Int32) vl (.int 0)) (E_sb : Exa Z h0 sb "java/lang/StringBuilder") (F_v : Fd_4 Z h0 sb (.ref da)) (F_c : Fd_5 Z h0 sb (.int 0)) (F_n : Fd_6 Z h0 sb (.int cn)) (V_da : Arv Z h0 da kd .byte (16 : Int32) vs (.int 0)) (E_da : Exa Z h0 da "[B") (hcs : ¬ (cs = (0 : Int32))) (g_sb : n0 ≤ sb) (g_da : n0 ≤ da) (ne_tb_da : tb ≠ da) (hvl : vs.length = 16) (ca : ¬ (cn < (0 : Int32))) (cb_ : cn.toNatClampNeg + (15 : Int32).toNatClampNeg ≤ (34 : Int32).toNatClampNeg) (hg : (0 : Int32) < ((cn + (15 : Int32)) - (16 : Int32))) (hm : ((cn + (15 : Int32)) - (16 : Int32)) < (18 : Int32)) :
    Mt l Z y_21 jdk_68_method_22_code 3 (some (.object "java/lang/AbstractStringBuilder")) ws rm_rmAs15g #[(.ref sb), (.ref so)] h0 (Q_rmAs15g Z sb so tb kt vl cs da kd vs cn h0 n0) := by
 refine own_met "java/lang/AbstractStringBuilder" (plainFor_of_name pn_java_lang_AbstractStringBuilder) #[rv sb, rv so, u_] (fun m => rfl) (fun p e s m below meth c s₁ Bd hx hby hml hZ hown hnm X0 e0 => ?_)
 have N0 := Fr.nil n0
 have K := Keep.refl h0 [sb, da]
 refine Go.step (S' := s₁.setTop (mkF m 10 #[rv sb, rv so, u_] [(.ref so)])) (fun t k => ?_) ?_
 · refine XS.aloadN X0.here hx rfl (hb hby d15_0) rfl rfl ?_
   refine XS.ifnonnullYes X0.here hx rfl (pc0 := 1) (pc' := 9) rfl (hb hby d15_1) rfl (by decide) (by decide) ?_
   refine XS.aloadN X0.here hx rfl (hb hby d15_9) rfl rfl ?_
   exact k
 refine Go.cV X0 hx hml hown hZ (own_w hw 94 rfl) (own_w hw 95 rfl) (own_w hw 97 rfl) (own_w hw 96 rfl) (own_w hw 26 rfl) (own_w hw 98 rfl) E_so (rmSl15 l Z a0 hw [] so tb kt vl cs h0 n0 O S_CS E_so F_sv F_sc V_tb hcs) 0 [] pd__28_29I (hb hby d15_10) e0 (fun _ T1 L1 X1 hQ1 => ?_)
 obtain ⟨rfl, Nq1, e1⟩ := hQ1
 have N1 := Fr.app N0 Nq1
 refine Go.step (S' := T1.setTop (mkF m 16 #[rv sb, rv so, iv 15] [(.ref sb), (.ref sb)])) (fun t k => ?_) ?_
 · refine XS.istoreN X1.here hx rfl (hb hby d15_13) rfl (l' := #[rv sb, rv so, iv 15]) rfl ?_
   refine XS.aloadN X1.here hx rfl (hb hby d15_14) rfl rfl ?_
   refine XS.aloadN X1.here hx rfl (hb hby d15_15) rfl rfl ?_
   exact k
 refine Go.gF X1 hx hZ hown (host := "") (Or.inl (own_w hw 61 rfl)) Via.refl e1 F_n (hb hby d15_16) (fun T2 X2 e2 => ?_)
 refine Go.step (S' := T2.setTop (mkF m 21 #[rv sb, rv so, iv 15] [(.int (cn + (15 : Int32))), (.ref sb)])) (fun t k => ?_) ?_
 · refine XS.iloadN X2.here hx rfl (hb hby d15_19) rfl ?_
   refine XS.iadd X2.here hx rfl (hb hby d15_20) rfl ?_
   exact k
 obtain ⟨cq3, q3, q3'⟩ := E_sb.cell
 obtain ⟨_, _, ⟨T3, L3, k3, n3⟩, -, X3, ⟨Lc3, hQ3, l3, y3, z3⟩, st3⟩ := X2.privateBack hx (y := y_15) hown (mvT hZ (own_w hw 68 rfl)) (mvT hZ (own_w hw 69 rfl)) (own_selQ hZ (own_w hw 71 rfl) (own_w hw 69 rfl) (own_w hw 70 rfl) (by decide)) (Cond.privateMethod_at (mvP hZ (own_w hw 70 rfl) (args := #[]))) (mvT hZ (own_w hw 72 rfl)) (by decide) (backOf (W := 0) (rmEg16 l Z a0 hw [] sb (cn + (15 : Int32)) da kd vs cn h0 n0 O E_sb F_v F_c V_da F_n (by assumption) hg hm) hZ (own_w hw 72 rfl) (own_w hw 43 rfl) (by decide) (by decide)) (g := (mkF m 21 #[rv sb, rv so, iv 15] [(.int (cn + (15 : Int32))), (.ref sb)])) rfl (by rw [hml]; rfl) (Steps.refl _) (a := sb) (by rw [e2]; exact q3) q3' (argsL := [(.int (cn + (15 : Int32)))]) (rest := []) (lenOf pd__28I_29V rfl) rfl (Nat.le_of_eq rfl) (hb hby d15_21) (fun _ _ => ⟨rfl, e2, (by decide : 0 + 1 ≤ _), (by decide : 0 + 34 ≤ _)⟩)
 dsimp only [Pt.U, Pt.locs, Pt.cells, Pt.slots] at X3 l3 y3 z3 st3 hQ3
 subst l3 y3 z3
 obtain ⟨cb_3, kb_3, vt_3, rfl, Nq3, K3, P3_E_sb, P3_F_v, P3_F_c, P3_F_n, P3_V, P3_E, hvt_3, gc_3, sc_3⟩ := hQ3
 have N3 := Fr.app N1 Nq3
 have sz_cb_3 : h0.size ≤ cb_3 := Nat.le_trans K.1 sc_3
 have ne_so_cb_3 : so ≠ cb_3 := Nat.ne_of_lt (Nat.lt_of_lt_of_le E_so.lt sc_3)
 have ne_tb_cb_3 : tb ≠ cb_3 := Nat.ne_of_lt (Nat.lt_of_lt_of_le V_tb.lt sc_3)
 have ne_sb_cb_3 : sb ≠ cb_3 := Nat.ne_of_lt (Nat.lt_of_lt_of_le E_sb.lt sc_3)
 have ne_da_cb_3 : da ≠ cb_3 := Nat.ne_of_lt (Nat.lt_of_lt_of_le V_da.lt sc_3)
 have ne_so_sb : so ≠ sb := ne_exa E_so E_sb (by decide)
 have ne_tb_sb : tb ≠ sb := Ne.symm (Exa.neArv E_sb V_tb (own_w hw 34 rfl))
 have ne_da_sb : da ≠ sb := ne_exa E_da E_sb (by decide)
 have O := O.keep K3 (allS g_sb all0)
 have E_so := E_so.keep K3
 have F_sv := F_sv.keep K3 (ninS ne_so_sb nin0)
 have F_sc := F_sc.keep K3 (ninS ne_so_sb nin0)
 have V_tb := V_tb.keep K3 (ninS ne_tb_sb nin0)
 have E_sb := E_sb.keep K3
 have V_da := V_da.keep K3 (ninS ne_da_sb nin0)
 have E_da := E_da.keep K3
 have K := K.trans K3 (allS (Or.inl (List.mem_of_getElem? (i := 0) rfl)) all0)
 have E_sb_3 := P3_E_sb
 have F_v_3 := P3_F_v
 have F_c_3 := P3_F_c
 have F_n_3 := P3_F_n
 have V_3 := P3_V
 have E_3 := P3_E
 have g_cb_3 := gc_3
 refine Go.step (fun t k => st3.trans k) ?_
 refine Go.step (S' := T3.setTop (mkF m 26 #[rv sb, rv so, iv 15] [(.ref sb), (.ref sb)])) (fun t k => ?_) ?_
 · refine XS.aloadN X3.here hx rfl (hb hby d15_24) rfl rfl ?_
   refine XS.aloadN X3.here hx rfl (hb hby d15_25) rfl rfl ?_
   exact k
 refine Go.gF X3 hx hZ hown (host := "") (Or.inl (own_w hw 61 rfl)) Via.refl (Eq.refl T3.heap) F_n_3 (hb hby d15_26) (fun T4 X4 e4 => ?_)
 refine Go.step (S' := T4.setTop (mkF m 30 #[rv sb, rv so, iv 15] [(.ref so), (.int cn), (.ref sb)])) (fun t k => ?_) ?_
 · refine XS.aloadN X4.here hx rfl (hb hby d15_29) rfl rfl ?_
   exact k
 obtain ⟨cq5, q5, q5'⟩ := E_sb.cell
 obtain ⟨_, _, ⟨T5, L5, k5, n5⟩, -, X5, ⟨Lc5, hQ5, l5, y5, z5⟩, st5⟩ := X4.privateBack hx (y := y_20) hown (mvT hZ (own_w hw 107 rfl)) (mvT hZ (own_w hw 108 rfl)) (own_selQ hZ (own_w hw 110 rfl) (own_w hw 108 rfl) (own_w hw 109 rfl) (by decide)) (Cond.privateMethod_at (mvP hZ (own_w hw 109 rfl) (args := #[]))) (mvT hZ (own_w hw 111 rfl)) (by decide) (backOf (W := 0) (rmPs15_34 l Z a0 hw [] sb cn so tb kt vl cs cb_3 kb_3 vt_3 T3.heap n0 O S_CS E_so F_sv F_sc V_tb E_sb F_v_3 F_c_3 V_3 hcs ne_tb_cb_3 hvt_3 ca (by assumption) gc_3) hZ (own_w hw 111 rfl) (own_w hw 43 rfl) (by decide) (by decide)) (g := (mkF m 30 #[rv sb, rv so, iv 15] [(.ref so), (.int cn), (.ref sb)])) rfl (by rw [hml]; rfl) (Steps.refl _) (a := sb) (by rw [e4]; exact q5) q5' (argsL := [(.int cn), (.ref so)]) (rest := []) (lenOf pd__28ILjava_2flang_2fString_3b_29V rfl) rfl (Nat.le_of_eq rfl) (hb hby d15_30) (fun _ _ => ⟨rfl, e4, (by decide : 1 + 0 ≤ _), (by decide : 34 + 0 ≤ _)⟩)
 dsimp only [Pt.U, Pt.locs, Pt.cells, Pt.slots] at X5 l5 y5 z5 st5 hQ5
 subst l5 y5 z5
 obtain ⟨vt_5, rfl, Nq5, K5, P5_V, hvt_5⟩ := hQ5
 have N5 := Fr.app N3 Nq5
 have O := O.keep K5 (allS g_cb_3 all0)
 have E_so := E_so.keep K5
 have F_sv := F_sv.keep K5 (ninS ne_so_cb_3 nin0)
 have F_sc := F_sc.keep K5 (ninS ne_so_cb_3 nin0)
 have V_tb := V_tb.keep K5 (ninS ne_tb_cb_3 nin0)
 have E_sb := E_sb.keep K5
 have V_da := V_da.keep K5 (ninS ne_da_cb_3 nin0)
 have E_da := E_da.keep K5
 have K := K.trans K5 (allS (Or.inr sz_cb_3) all0)
 have E_sb_3 := E_sb_3.keep K5
 have F_v_3 := F_v_3.keep K5 (ninS ne_sb_cb_3 nin0)
 have F_c_3 := F_c_3.keep K5 (ninS ne_sb_cb_3 nin0)
 have F_n_3 := F_n_3.keep K5 (ninS ne_sb_cb_3 nin0)
 have E_3 := E_3.keep K5
 have V_5 := P5_V
 refine Go.step (fun t k => st5.trans k) ?_
 refine Go.step (S' := T5.setTop (mkF m 35 #[rv sb, rv so, iv 15] [(.ref sb), (.ref sb)])) (fun t k => ?_) ?_
 · refine XS.aloadN X5.here hx rfl (hb hby d15_33) rfl rfl ?_
   refine XS.dup X5.here hx rfl (hb hby d15_34) rfl rfl ?_
   exact k
 refine Go.gF X5 hx hZ hown (host := "") (Or.inl (own_w hw 61 rfl)) Via.refl (Eq.refl T5.heap) F_n_3 (hb hby d15_35) (fun T6 X6 e6 => ?_)
 refine Go.step (S' := T6.setTop (mkF m 40 #[rv sb, rv so, iv 15] [(.int (cn + (15 : Int32))), (.ref sb)])) (fun t k => ?_) ?_
 · refine XS.iloadN X6.here hx rfl (hb hby d15_38) rfl ?_
   refine XS.iadd X6.here hx rfl (hb hby d15_39) rfl ?_
   exact k
 obtain ⟨T7, h7, X7, e7, W7, st7⟩ := putF X6 hx hZ hown (host := "") (Or.inl (own_w hw 61 rfl)) Via.refl e6 F_n_3 E_sb (Or.inl (own_w hw 62 rfl)) (own_w hw 34 rfl) (ty := .int) (by decide) rfl rfl (g := (mkF m 40 #[rv sb, rv so, iv 15] [(.int (cn + (15 : Int32))), (.ref sb)])) rfl rfl (hb hby d15_40)
 have O := O.wr W7 g_sb
 have E_so := E_so.wr W7
 have F_sv := F_sv.other W7 (Or.inl ne_so_sb)
 have F_sc := F_sc.other W7 (Or.inl ne_so_sb)
 have V_tb := V_tb.other W7 ne_tb_sb
 have E_sb := E_sb.wr W7
 have V_da := V_da.other W7 ne_da_sb
 have E_da := E_da.wr W7
 have K := K.wr W7 (Or.inl (List.mem_of_getElem? (i := 0) rfl))
 have E_sb_3 := E_sb_3.wr W7
 have F_v_3 := F_v_3.other W7 (Or.inr (slot_ne (Or.inl (own_w hw 48 rfl)) (Or.inl (own_w hw 62 rfl)) (by decide) (t := (.array .byte)) (t' := .int) (by decide) (by decide)))
 have F_c_3 := F_c_3.other W7 (Or.inr (slot_ne (Or.inl (own_w hw 50 rfl)) (Or.inl (own_w hw 62 rfl)) (by decide) (t := .byte) (t' := .int) (by decide) (by decide)))
 have F_n_3 := F_n_3.same W7
 have E_3 := E_3.wr W7
 have V_5 := V_5.other W7 (Ne.symm ne_sb_cb_3)
 have N7 := Fr.snoc X7 N5 g_sb
 refine Go.step st7 ?_
 refine Go.step (S' := T7.setTop (mkF m 44 #[rv sb, rv so, iv 15] [(.ref sb)])) (fun t k => ?_) ?_
 · refine XS.aloadN X7.here hx rfl (hb hby d15_43) rfl rfl ?_
   exact k
 exact Go.rt X7 hx Bd (w := (.ref sb)) rfl (Or.inr (Or.inr (Or.inr (Or.inr ⟨rfl, rfl, rfl⟩)))) (hb hby d15_44) e7 ⟨cb_3, kb_3, vt_5, rfl, N7, K, E_sb, F_v_3, F_c_3, F_n_3, V_5, E_3, hvt_5, g_cb_3, (Or.inr sz_cb_3)⟩
abbrev rm_rmAs8k : Room := ({ frames := 3, cells := 0, slots := 0, locals := 47 } : Room)
def Q_rmAs8k (Z : State) (sb : Addr) (so : Addr) (tb : Addr) (kt : ClassId) (vl : List Value) (cs : Int32) (da : Addr) (kd : ClassId) (vs : List Value) (cn : Int32) (h0 : Heap) (n0 : Nat) (v : Option Value) (h : Heap) (L : List Loc) : Prop := ∃ de : Addr, ∃ ke : ClassId, ∃ vf : List Value, (v = some (.ref sb)) ∧ (Fr n0 L) ∧ (Keep h0 h [sb, da]) ∧ (Exa Z h sb "java/lang/StringBuilder") ∧ (Fd_4 Z h sb (.ref de)) ∧ (Fd_5 Z h sb (.int 0)) ∧ (Fd_6 Z h sb (.int (cn + (8 : Int32)))) ∧ (Arv Z h de ke .byte (34 : Int32) vf (.int 0)) ∧ (Exa Z h de "[B") ∧ (vf.length = 34) ∧ (n0 ≤ de) ∧ (de = da ∨ h0.size ≤ de)
theorem rmAs8k (l : Launch) (Z : State) (a0 : Array Value) (hw : HW a0 Z) (ws : List Jvm.Cond) (sb : Addr) (so : Addr) (tb : Addr) (kt : ClassId) (vl : List Value) (cs : Int32) (da : Addr) (kd : ClassId) (vs : List Value) (cn : Int32) (h0 : Heap) (n0 : Nat) (O : Old Z n0 h0) (S_CS : Sa_0 Z (.int cs)) (E_so : Exa Z h0 so "java/lang/String") (F_sv : Fd_8 Z h0 so (.ref tb)) (F_sc : Fd_7 Z h0 so (.int 0)) (V_tb : Arv Z h0 tb kt .byte (8 : Int32) vl (.int 0)) (E_sb : Exa Z h0 sb "java/lang/StringBuilder") (F_v : Fd_4 Z h0 sb (.ref da)) (F_c : Fd_5 Z h0 sb (.int 0)) (F_n : Fd_6 Z h0 sb (.int cn)) (V_da : Arv Z h0 da kd .byte (34 : Int32) vs (.int 0)) (E_da : Exa Z h0 da "[B") (hcs : ¬ (cs = (0 : Int32))) (g_sb : n0 ≤ sb) (g_da : n0 ≤ da) (ne_tb_da : tb ≠ da) (hvl : vs.length = 34) (ca : ¬ (cn < (0 : Int32))) (cb_ : cn.toNatClampNeg + (8 : Int32).toNatClampNeg ≤ (34 : Int32).toNatClampNeg) (hg : ¬ ((0 : Int32) < ((cn + (8 : Int32)) - (34 : Int32)))) :
    Mt l Z y_21 jdk_68_method_22_code 3 (some (.object "java/lang/AbstractStringBuilder")) ws rm_rmAs8k #[(.ref sb), (.ref so)] h0 (Q_rmAs8k Z sb so tb kt vl cs da kd vs cn h0 n0) := by
 refine own_met "java/lang/AbstractStringBuilder" (plainFor_of_name pn_java_lang_AbstractStringBuilder) #[rv sb, rv so, u_] (fun m => rfl) (fun p e s m below meth c s₁ Bd hx hby hml hZ hown hnm X0 e0 => ?_)
 have N0 := Fr.nil n0
 have K := Keep.refl h0 [sb, da]
 refine Go.step (S' := s₁.setTop (mkF m 10 #[rv sb, rv so, u_] [(.ref so)])) (fun t k => ?_) ?_
 · refine XS.aloadN X0.here hx rfl (hb hby d15_0) rfl rfl ?_
   refine XS.ifnonnullYes X0.here hx rfl (pc0 := 1) (pc' := 9) rfl (hb hby d15_1) rfl (by decide) (by decide) ?_
   refine XS.aloadN X0.here hx rfl (hb hby d15_9) rfl rfl ?_
   exact k
 refine Go.cV X0 hx hml hown hZ (own_w hw 94 rfl) (own_w hw 95 rfl) (own_w hw 97 rfl) (own_w hw 96 rfl) (own_w hw 26 rfl) (own_w hw 98 rfl) E_so (rmSl8 l Z a0 hw [] so tb kt vl cs h0 n0 O S_CS E_so F_sv F_sc V_tb hcs) 0 [] pd__28_29I (hb hby d15_10) e0 (fun _ T1 L1 X1 hQ1 => ?_)
 obtain ⟨rfl, Nq1, e1⟩ := hQ1
 have N1 := Fr.app N0 Nq1
 refine Go.step (S' := T1.setTop (mkF m 16 #[rv sb, rv so, iv 8] [(.ref sb), (.ref sb)])) (fun t k => ?_) ?_
 · refine XS.istoreN X1.here hx rfl (hb hby d15_13) rfl (l' := #[rv sb, rv so, iv 8]) rfl ?_
   refine XS.aloadN X1.here hx rfl (hb hby d15_14) rfl rfl ?_
   refine XS.aloadN X1.here hx rfl (hb hby d15_15) rfl rfl ?_
   exact k
 refine Go.gF X1 hx hZ hown (host := "") (Or.inl (own_w hw 61 rfl)) Via.refl e1 F_n (hb hby d15_16) (fun T2 X2 e2 => ?_)
 refine Go.step (S' := T2.setTop (mkF m 21 #[rv sb, rv so, iv 8] [(.int (cn + (8 : Int32))), (.ref sb)])) (fun t k => ?_) ?_
 · refine XS.iloadN X2.here hx rfl (hb hby d15_19) rfl ?_
   refine XS.iadd X2.here hx rfl (hb hby d15_20) rfl ?_
   exact k
 obtain ⟨cq3, q3, q3'⟩ := E_sb.cell
 obtain ⟨_, _, ⟨T3, L3, k3, n3⟩, -, X3, ⟨Lc3, hQ3, l3, y3, z3⟩, st3⟩ := X2.privateBack hx (y := y_15) hown (mvT hZ (own_w hw 68 rfl)) (mvT hZ (own_w hw 69 rfl)) (own_selQ hZ (own_w hw 71 rfl) (own_w hw 69 rfl) (own_w hw 70 rfl) (by decide)) (Cond.privateMethod_at (mvP hZ (own_w hw 70 rfl) (args := #[]))) (mvT hZ (own_w hw 72 rfl)) (by decide) (backOf (W := 0) (rmEk34 l Z a0 hw [] sb (cn + (8 : Int32)) da kd vs h0 n0 O E_sb F_v F_c V_da hg) hZ (own_w hw 72 rfl) (own_w hw 43 rfl) (by decide) (by decide)) (g := (mkF m 21 #[rv sb, rv so, iv 8] [(.int (cn + (8 : Int32))), (.ref sb)])) rfl (by rw [hml]; rfl) (Steps.refl _) (a := sb) (by rw [e2]; exact q3) q3' (argsL := [(.int (cn + (8 : Int32)))]) (rest := []) (lenOf pd__28I_29V rfl) rfl (Nat.le_of_eq rfl) (hb hby d15_21) (fun _ _ => ⟨rfl, e2, (by decide : 0 + 0 ≤ _), (by decide : 0 + 0 ≤ _)⟩)
 dsimp only [Pt.U, Pt.locs, Pt.cells, Pt.slots] at X3 l3 y3 z3 st3 hQ3
 subst l3 y3 z3
 obtain ⟨rfl, Nq3, e3⟩ := hQ3
 have N3 := Fr.app N1 Nq3
 refine Go.step (fun t k => st3.trans k) ?_
 refine Go.step (S' := T3.setTop (mkF m 26 #[rv sb, rv so, iv 8] [(.ref sb), (.ref sb)])) (fun t k => ?_) ?_
 · refine XS.aloadN X3.here hx rfl (hb hby d15_24) rfl rfl ?_
   refine XS.aloadN X3.here hx rfl (hb hby d15_25) rfl rfl ?_
   exact k
 refine Go.gF X3 hx hZ hown (host := "") (Or.inl (own_w hw 61 rfl)) Via.refl e3 F_n (hb hby d15_26) (fun T4 X4 e4 => ?_)
 refine Go.step (S' := T4.setTop (mkF m 30 #[rv sb, rv so, iv 8] [(.ref so), (.int cn), (.ref sb)])) (fun t k => ?_) ?_
 · refine XS.aloadN X4.here hx rfl (hb hby d15_29) rfl rfl ?_
   exact k
 obtain ⟨cq5, q5, q5'⟩ := E_sb.cell
 obtain ⟨_, _, ⟨T5, L5, k5, n5⟩, -, X5, ⟨Lc5, hQ5, l5, y5, z5⟩, st5⟩ := X4.privateBack hx (y := y_20) hown (mvT hZ (own_w hw 107 rfl)) (mvT hZ (own_w hw 108 rfl)) (own_selQ hZ (own_w hw 110 rfl) (own_w hw 108 rfl) (own_w hw 109 rfl) (by decide)) (Cond.privateMethod_at (mvP hZ (own_w hw 109 rfl) (args := #[]))) (mvT hZ (own_w hw 111 rfl)) (by decide) (backOf (W := 0) (rmPs8_34 l Z a0 hw [] sb cn so tb kt vl cs da kd vs h0 n0 O S_CS E_so F_sv F_sc V_tb E_sb F_v F_c V_da hcs ne_tb_da hvl ca (by assumption) (by assumption)) hZ (own_w hw 111 rfl) (own_w hw 43 rfl) (by decide) (by decide)) (g := (mkF m 30 #[rv sb, rv so, iv 8] [(.ref so), (.int cn), (.ref sb)])) rfl (by rw [hml]; rfl) (Steps.refl _) (a := sb) (by rw [e4]; exact q5) q5' (argsL := [(.int cn), (.ref so)]) (rest := []) (lenOf pd__28ILjava_2flang_2fString_3b_29V rfl) rfl (Nat.le_of_eq rfl) (hb hby d15_30) (fun _ _ => ⟨rfl, e4, (by decide : 0 + 0 ≤ _), (by decide : 0 + 0 ≤ _)⟩)
 dsimp only [Pt.U, Pt.locs, Pt.cells, Pt.slots] at X5 l5 y5 z5 st5 hQ5
 subst l5 y5 z5
 obtain ⟨vt_5, rfl, Nq5, K5, P5_V, hvt_5⟩ := hQ5
 have N5 := Fr.app N3 Nq5
 have ne_so_da : so ≠ da := ne_exa E_so E_da (by decide)
 have ne_sb_da : sb ≠ da := ne_exa E_sb E_da (by decide)
 have O := O.keep K5 (allS g_da all0)
 have E_so := E_so.keep K5
 have F_sv := F_sv.keep K5 (ninS ne_so_da nin0)
 have F_sc := F_sc.keep K5 (ninS ne_so_da nin0)
 have V_tb := V_tb.keep K5 (ninS ne_tb_da nin0)
 have E_sb := E_sb.keep K5
 have F_v := F_v.keep K5 (ninS ne_sb_da nin0)
 have F_c := F_c.keep K5 (ninS ne_sb_da nin0)
 have F_n := F_n.keep K5 (ninS ne_sb_da nin0)
 have E_da := E_da.keep K5
 have K := K.trans K5 (allS (Or.inl (List.mem_of_getElem? (i := 1) rfl)) all0)
 have V_5 := P5_V
 refine Go.step (fun t k => st5.trans k) ?_
 refine Go.step (S' := T5.setTop (mkF m 35 #[rv sb, rv so, iv 8] [(.ref sb), (.ref sb)])) (fun t k => ?_) ?_
 · refine XS.aloadN X5.here hx rfl (hb hby d15_33) rfl rfl ?_
   refine XS.dup X5.here hx rfl (hb hby d15_34) rfl rfl ?_
   exact k
 refine Go.gF X5 hx hZ hown (host := "") (Or.inl (own_w hw 61 rfl)) Via.refl (Eq.refl T5.heap) F_n (hb hby d15_35) (fun T6 X6 e6 => ?_)
 refine Go.step (S' := T6.setTop (mkF m 40 #[rv sb, rv so, iv 8] [(.int (cn + (8 : Int32))), (.ref sb)])) (fun t k => ?_) ?_
 · refine XS.iloadN X6.here hx rfl (hb hby d15_38) rfl ?_
   refine XS.iadd X6.here hx rfl (hb hby d15_39) rfl ?_
   exact k
 obtain ⟨T7, h7, X7, e7, W7, st7⟩ := putF X6 hx hZ hown (host := "") (Or.inl (own_w hw 61 rfl)) Via.refl e6 F_n E_sb (Or.inl (own_w hw 62 rfl)) (own_w hw 34 rfl) (ty := .int) (by decide) rfl rfl (g := (mkF m 40 #[rv sb, rv so, iv 8] [(.int (cn + (8 : Int32))), (.ref sb)])) rfl rfl (hb hby d15_40)
 have ne_so_sb : so ≠ sb := ne_exa E_so E_sb (by decide)
 have ne_tb_sb : tb ≠ sb := Ne.symm (Exa.neArv E_sb V_tb (own_w hw 34 rfl))
 have O := O.wr W7 g_sb
 have E_so := E_so.wr W7
 have F_sv := F_sv.other W7 (Or.inl ne_so_sb)
 have F_sc := F_sc.other W7 (Or.inl ne_so_sb)
 have V_tb := V_tb.other W7 ne_tb_sb
 have E_sb := E_sb.wr W7
 have F_v := F_v.other W7 (Or.inr (slot_ne (Or.inl (own_w hw 48 rfl)) (Or.inl (own_w hw 62 rfl)) (by decide) (t := (.array .byte)) (t' := .int) (by decide) (by decide)))
 have F_c := F_c.other W7 (Or.inr (slot_ne (Or.inl (own_w hw 50 rfl)) (Or.inl (own_w hw 62 rfl)) (by decide) (t := .byte) (t' := .int) (by decide) (by decide)))
 have F_n := F_n.same W7
 have E_da := E_da.wr W7
 have K := K.wr W7 (Or.inl (List.mem_of_getElem? (i := 0) rfl))
 have V_5 := V_5.other W7 (Ne.symm ne_sb_da)
 have N7 := Fr.snoc X7 N5 g_sb
 refine Go.step st7 ?_
 refine Go.step (S' := T7.setTop (mkF m 44 #[rv sb, rv so, iv 8] [(.ref sb)])) (fun t k => ?_) ?_
 · refine XS.aloadN X7.here hx rfl (hb hby d15_43) rfl rfl ?_
   exact k
 exact Go.rt X7 hx Bd (w := (.ref sb)) rfl (Or.inr (Or.inr (Or.inr (Or.inr ⟨rfl, rfl, rfl⟩)))) (hb hby d15_44) e7 ⟨da, kd, vt_5, rfl, N7, K, E_sb, F_v, F_c, F_n, V_5, E_da, hvt_5, g_da, (Or.inl rfl)⟩
abbrev rm_rmAs8g : Room := ({ frames := 4, cells := 1, slots := 70, locals := 62 } : Room)
def Q_rmAs8g (Z : State) (sb : Addr) (so : Addr) (tb : Addr) (kt : ClassId) (vl : List Value) (cs : Int32) (da : Addr) (kd : ClassId) (vs : List Value) (cn : Int32) (h0 : Heap) (n0 : Nat) (v : Option Value) (h : Heap) (L : List Loc) : Prop := ∃ de : Addr, ∃ ke : ClassId, ∃ vf : List Value, (v = some (.ref sb)) ∧ (Fr n0 L) ∧ (Keep h0 h [sb, da]) ∧ (Exa Z h sb "java/lang/StringBuilder") ∧ (Fd_4 Z h sb (.ref de)) ∧ (Fd_5 Z h sb (.int 0)) ∧ (Fd_6 Z h sb (.int (cn + (8 : Int32)))) ∧ (Arv Z h de ke .byte (70 : Int32) vf (.int 0)) ∧ (Exa Z h de "[B") ∧ (vf.length = 70) ∧ (n0 ≤ de) ∧ (de = da ∨ h0.size ≤ de)
theorem rmAs8g (l : Launch) (Z : State) (a0 : Array Value) (hw : HW a0 Z) (ws : List Jvm.Cond) (sb : Addr) (so : Addr) (tb : Addr) (kt : ClassId) (vl : List Value) (cs : Int32) (da : Addr) (kd : ClassId) (vs : List Value) (cn : Int32) (h0 : Heap) (n0 : Nat) (O : Old Z n0 h0) (S_CS : Sa_0 Z (.int cs)) (E_so : Exa Z h0 so "java/lang/String") (F_sv : Fd_8 Z h0 so (.ref tb)) (F_sc : Fd_7 Z h0 so (.int 0)) (V_tb : Arv Z h0 tb kt .byte (8 : Int32) vl (.int 0)) (E_sb : Exa Z h0 sb "java/lang/StringBuilder") (F_v : Fd_4 Z h0 sb (.ref da)) (F_c : Fd_5 Z h0 sb (.int 0)) (F_n : Fd_6 Z h0 sb (.int cn)) (V_da : Arv Z h0 da kd .byte (34 : Int32) vs (.int 0)) (E_da : Exa Z h0 da "[B") (hcs : ¬ (cs = (0 : Int32))) (g_sb : n0 ≤ sb) (g_da : n0 ≤ da) (ne_tb_da : tb ≠ da) (hvl : vs.length = 34) (ca : ¬ (cn < (0 : Int32))) (cb_ : cn.toNatClampNeg + (8 : Int32).toNatClampNeg ≤ (70 : Int32).toNatClampNeg) (hg : (0 : Int32) < ((cn + (8 : Int32)) - (34 : Int32))) (hm : ((cn + (8 : Int32)) - (34 : Int32)) < (36 : Int32)) :
    Mt l Z y_21 jdk_68_method_22_code 3 (some (.object "java/lang/AbstractStringBuilder")) ws rm_rmAs8g #[(.ref sb), (.ref so)] h0 (Q_rmAs8g Z sb so tb kt vl cs da kd vs cn h0 n0) := by
 refine own_met "java/lang/AbstractStringBuilder" (plainFor_of_name pn_java_lang_AbstractStringBuilder) #[rv sb, rv so, u_] (fun m => rfl) (fun p e s m below meth c s₁ Bd hx hby hml hZ hown hnm X0 e0 => ?_)
 have N0 := Fr.nil n0
 have K := Keep.refl h0 [sb, da]
 refine Go.step (S' := s₁.setTop (mkF m 10 #[rv sb, rv so, u_] [(.ref so)])) (fun t k => ?_) ?_
 · refine XS.aloadN X0.here hx rfl (hb hby d15_0) rfl rfl ?_
   refine XS.ifnonnullYes X0.here hx rfl (pc0 := 1) (pc' := 9) rfl (hb hby d15_1) rfl (by decide) (by decide) ?_
   refine XS.aloadN X0.here hx rfl (hb hby d15_9) rfl rfl ?_
   exact k
 refine Go.cV X0 hx hml hown hZ (own_w hw 94 rfl) (own_w hw 95 rfl) (own_w hw 97 rfl) (own_w hw 96 rfl) (own_w hw 26 rfl) (own_w hw 98 rfl) E_so (rmSl8 l Z a0 hw [] so tb kt vl cs h0 n0 O S_CS E_so F_sv F_sc V_tb hcs) 0 [] pd__28_29I (hb hby d15_10) e0 (fun _ T1 L1 X1 hQ1 => ?_)
 obtain ⟨rfl, Nq1, e1⟩ := hQ1
 have N1 := Fr.app N0 Nq1
 refine Go.step (S' := T1.setTop (mkF m 16 #[rv sb, rv so, iv 8] [(.ref sb), (.ref sb)])) (fun t k => ?_) ?_
 · refine XS.istoreN X1.here hx rfl (hb hby d15_13) rfl (l' := #[rv sb, rv so, iv 8]) rfl ?_
   refine XS.aloadN X1.here hx rfl (hb hby d15_14) rfl rfl ?_
   refine XS.aloadN X1.here hx rfl (hb hby d15_15) rfl rfl ?_
   exact k
 refine Go.gF X1 hx hZ hown (host := "") (Or.inl (own_w hw 61 rfl)) Via.refl e1 F_n (hb hby d15_16) (fun T2 X2 e2 => ?_)
 refine Go.step (S' := T2.setTop (mkF m 21 #[rv sb, rv so, iv 8] [(.int (cn + (8 : Int32))), (.ref sb)])) (fun t k => ?_) ?_
 · refine XS.iloadN X2.here hx rfl (hb hby d15_19) rfl ?_
   refine XS.iadd X2.here hx rfl (hb hby d15_20) rfl ?_
   exact k
 obtain ⟨cq3, q3, q3'⟩ := E_sb.cell
 obtain ⟨_, _, ⟨T3, L3, k3, n3⟩, -, X3, ⟨Lc3, hQ3, l3, y3, z3⟩, st3⟩ := X2.privateBack hx (y := y_15) hown (mvT hZ (own_w hw 68 rfl)) (mvT hZ (own_w hw 69 rfl)) (own_selQ hZ (own_w hw 71 rfl) (own_w hw 69 rfl) (own_w hw 70 rfl) (by decide)) (Cond.privateMethod_at (mvP hZ (own_w hw 70 rfl) (args := #[]))) (mvT hZ (own_w hw 72 rfl)) (by decide) (backOf (W := 0) (rmEg34 l Z a0 hw [] sb (cn + (8 : Int32)) da kd vs cn h0 n0 O E_sb F_v F_c V_da F_n (by assumption) hg hm) hZ (own_w hw 72 rfl) (own_w hw 43 rfl) (by decide) (by decide)) (g := (mkF m 21 #[rv sb, rv so, iv 8] [(.int (cn + (8 : Int32))), (.ref sb)])) rfl (by rw [hml]; rfl) (Steps.refl _) (a := sb) (by rw [e2]; exact q3) q3' (argsL := [(.int (cn + (8 : Int32)))]) (rest := []) (lenOf pd__28I_29V rfl) rfl (Nat.le_of_eq rfl) (hb hby d15_21) (fun _ _ => ⟨rfl, e2, (by decide : 0 + 1 ≤ _), (by decide : 0 + 70 ≤ _)⟩)
 dsimp only [Pt.U, Pt.locs, Pt.cells, Pt.slots] at X3 l3 y3 z3 st3 hQ3
 subst l3 y3 z3
 obtain ⟨cb_3, kb_3, vt_3, rfl, Nq3, K3, P3_E_sb, P3_F_v, P3_F_c, P3_F_n, P3_V, P3_E, hvt_3, gc_3, sc_3⟩ := hQ3
 have N3 := Fr.app N1 Nq3
 have sz_cb_3 : h0.size ≤ cb_3 := Nat.le_trans K.1 sc_3
 have ne_so_cb_3 : so ≠ cb_3 := Nat.ne_of_lt (Nat.lt_of_lt_of_le E_so.lt sc_3)
 have ne_tb_cb_3 : tb ≠ cb_3 := Nat.ne_of_lt (Nat.lt_of_lt_of_le V_tb.lt sc_3)
 have ne_sb_cb_3 : sb ≠ cb_3 := Nat.ne_of_lt (Nat.lt_of_lt_of_le E_sb.lt sc_3)
 have ne_da_cb_3 : da ≠ cb_3 := Nat.ne_of_lt (Nat.lt_of_lt_of_le V_da.lt sc_3)
 have ne_so_sb : so ≠ sb := ne_exa E_so E_sb (by decide)
 have ne_tb_sb : tb ≠ sb := Ne.symm (Exa.neArv E_sb V_tb (own_w hw 34 rfl))
 have ne_da_sb : da ≠ sb := ne_exa E_da E_sb (by decide)
 have O := O.keep K3 (allS g_sb all0)
 have E_so := E_so.keep K3
 have F_sv := F_sv.keep K3 (ninS ne_so_sb nin0)
 have F_sc := F_sc.keep K3 (ninS ne_so_sb nin0)
 have V_tb := V_tb.keep K3 (ninS ne_tb_sb nin0)
 have E_sb := E_sb.keep K3
 have V_da := V_da.keep K3 (ninS ne_da_sb nin0)
 have E_da := E_da.keep K3
 have K := K.trans K3 (allS (Or.inl (List.mem_of_getElem? (i := 0) rfl)) all0)
 have E_sb_3 := P3_E_sb
 have F_v_3 := P3_F_v
 have F_c_3 := P3_F_c
 have F_n_3 := P3_F_n
 have V_3 := P3_V
 have E_3 := P3_E
 have g_cb_3 := gc_3
 refine Go.step (fun t k => st3.trans k) ?_
 refine Go.step (S' := T3.setTop (mkF m 26 #[rv sb, rv so, iv 8] [(.ref sb), (.ref sb)])) (fun t k => ?_) ?_
 · refine XS.aloadN X3.here hx rfl (hb hby d15_24) rfl rfl ?_
   refine XS.aloadN X3.here hx rfl (hb hby d15_25) rfl rfl ?_
   exact k
 refine Go.gF X3 hx hZ hown (host := "") (Or.inl (own_w hw 61 rfl)) Via.refl (Eq.refl T3.heap) F_n_3 (hb hby d15_26) (fun T4 X4 e4 => ?_)
 refine Go.step (S' := T4.setTop (mkF m 30 #[rv sb, rv so, iv 8] [(.ref so), (.int cn), (.ref sb)])) (fun t k => ?_) ?_
 · refine XS.aloadN X4.here hx rfl (hb hby d15_29) rfl rfl ?_
   exact k
 obtain ⟨cq5, q5, q5'⟩ := E_sb.cell
 obtain ⟨_, _, ⟨T5, L5, k5, n5⟩, -, X5, ⟨Lc5, hQ5, l5, y5, z5⟩, st5⟩ := X4.privateBack hx (y := y_20) hown (mvT hZ (own_w hw 107 rfl)) (mvT hZ (own_w hw 108 rfl)) (own_selQ hZ (own_w hw 110 rfl) (own_w hw 108 rfl) (own_w hw 109 rfl) (by decide)) (Cond.privateMethod_at (mvP hZ (own_w hw 109 rfl) (args := #[]))) (mvT hZ (own_w hw 111 rfl)) (by decide) (backOf (W := 0) (rmPs8_70 l Z a0 hw [] sb cn so tb kt vl cs cb_3 kb_3 vt_3 T3.heap n0 O S_CS E_so F_sv F_sc V_tb E_sb F_v_3 F_c_3 V_3 hcs ne_tb_cb_3 hvt_3 ca (by assumption) gc_3) hZ (own_w hw 111 rfl) (own_w hw 43 rfl) (by decide) (by decide)) (g := (mkF m 30 #[rv sb, rv so, iv 8] [(.ref so), (.int cn), (.ref sb)])) rfl (by rw [hml]; rfl) (Steps.refl _) (a := sb) (by rw [e4]; exact q5) q5' (argsL := [(.int cn), (.ref so)]) (rest := []) (lenOf pd__28ILjava_2flang_2fString_3b_29V rfl) rfl (Nat.le_of_eq rfl) (hb hby d15_30) (fun _ _ => ⟨rfl, e4, (by decide : 1 + 0 ≤ _), (by decide : 70 + 0 ≤ _)⟩)
 dsimp only [Pt.U, Pt.locs, Pt.cells, Pt.slots] at X5 l5 y5 z5 st5 hQ5
 subst l5 y5 z5
 obtain ⟨vt_5, rfl, Nq5, K5, P5_V, hvt_5⟩ := hQ5
 have N5 := Fr.app N3 Nq5
 have O := O.keep K5 (allS g_cb_3 all0)
 have E_so := E_so.keep K5
 have F_sv := F_sv.keep K5 (ninS ne_so_cb_3 nin0)
 have F_sc := F_sc.keep K5 (ninS ne_so_cb_3 nin0)
 have V_tb := V_tb.keep K5 (ninS ne_tb_cb_3 nin0)
 have E_sb := E_sb.keep K5
 have V_da := V_da.keep K5 (ninS ne_da_cb_3 nin0)
 have E_da := E_da.keep K5
 have K := K.trans K5 (allS (Or.inr sz_cb_3) all0)
 have E_sb_3 := E_sb_3.keep K5
 have F_v_3 := F_v_3.keep K5 (ninS ne_sb_cb_3 nin0)
 have F_c_3 := F_c_3.keep K5 (ninS ne_sb_cb_3 nin0)
 have F_n_3 := F_n_3.keep K5 (ninS ne_sb_cb_3 nin0)
 have E_3 := E_3.keep K5
 have V_5 := P5_V
 refine Go.step (fun t k => st5.trans k) ?_
 refine Go.step (S' := T5.setTop (mkF m 35 #[rv sb, rv so, iv 8] [(.ref sb), (.ref sb)])) (fun t k => ?_) ?_
 · refine XS.aloadN X5.here hx rfl (hb hby d15_33) rfl rfl ?_
   refine XS.dup X5.here hx rfl (hb hby d15_34) rfl rfl ?_
   exact k
 refine Go.gF X5 hx hZ hown (host := "") (Or.inl (own_w hw 61 rfl)) Via.refl (Eq.refl T5.heap) F_n_3 (hb hby d15_35) (fun T6 X6 e6 => ?_)
 refine Go.step (S' := T6.setTop (mkF m 40 #[rv sb, rv so, iv 8] [(.int (cn + (8 : Int32))), (.ref sb)])) (fun t k => ?_) ?_
 · refine XS.iloadN X6.here hx rfl (hb hby d15_38) rfl ?_
   refine XS.iadd X6.here hx rfl (hb hby d15_39) rfl ?_
   exact k
 obtain ⟨T7, h7, X7, e7, W7, st7⟩ := putF X6 hx hZ hown (host := "") (Or.inl (own_w hw 61 rfl)) Via.refl e6 F_n_3 E_sb (Or.inl (own_w hw 62 rfl)) (own_w hw 34 rfl) (ty := .int) (by decide) rfl rfl (g := (mkF m 40 #[rv sb, rv so, iv 8] [(.int (cn + (8 : Int32))), (.ref sb)])) rfl rfl (hb hby d15_40)
 have O := O.wr W7 g_sb
 have E_so := E_so.wr W7
 have F_sv := F_sv.other W7 (Or.inl ne_so_sb)
 have F_sc := F_sc.other W7 (Or.inl ne_so_sb)
 have V_tb := V_tb.other W7 ne_tb_sb
 have E_sb := E_sb.wr W7
 have V_da := V_da.other W7 ne_da_sb
 have E_da := E_da.wr W7
 have K := K.wr W7 (Or.inl (List.mem_of_getElem? (i := 0) rfl))
 have E_sb_3 := E_sb_3.wr W7
 have F_v_3 := F_v_3.other W7 (Or.inr (slot_ne (Or.inl (own_w hw 48 rfl)) (Or.inl (own_w hw 62 rfl)) (by decide) (t := (.array .byte)) (t' := .int) (by decide) (by decide)))
 have F_c_3 := F_c_3.other W7 (Or.inr (slot_ne (Or.inl (own_w hw 50 rfl)) (Or.inl (own_w hw 62 rfl)) (by decide) (t := .byte) (t' := .int) (by decide) (by decide)))
 have F_n_3 := F_n_3.same W7
 have E_3 := E_3.wr W7
 have V_5 := V_5.other W7 (Ne.symm ne_sb_cb_3)
 have N7 := Fr.snoc X7 N5 g_sb
 refine Go.step st7 ?_
 refine Go.step (S' := T7.setTop (mkF m 44 #[rv sb, rv so, iv 8] [(.ref sb)])) (fun t k => ?_) ?_
 · refine XS.aloadN X7.here hx rfl (hb hby d15_43) rfl rfl ?_
   exact k
 exact Go.rt X7 hx Bd (w := (.ref sb)) rfl (Or.inr (Or.inr (Or.inr (Or.inr ⟨rfl, rfl, rfl⟩)))) (hb hby d15_44) e7 ⟨cb_3, kb_3, vt_5, rfl, N7, K, E_sb, F_v_3, F_c_3, F_n_3, V_5, E_3, hvt_5, g_cb_3, (Or.inr sz_cb_3)⟩
theorem own_clampI {x : Int32} (h : 0 ≤ x.toInt) : (x.toNatClampNeg : Int) = x.toInt := by
  simp only [Int32.toNatClampNeg]
  omega
theorem own_nl0 {x : Int32} (h : 0 ≤ x.toInt) : ¬ (x < (0 : Int32)) := by
  simp only [Int32.lt_iff_toInt_lt, show (0 : Int32).toInt = 0 from rfl]
  omega
theorem own_sum {a b x : Int32} (hx : a + b = x) (h0 : 0 ≤ a.toInt) (h1 : a.toInt ≤ 100) (h2 : 0 ≤ b.toInt) (h3 : b.toInt ≤ 100) : x.toInt = a.toInt + b.toInt := by
  subst hx
  have := c_iadd a b
  have := rng32 (a + b)
  omega
theorem own_dif {a b : Int32} {n : Int} (hb : b.toInt = n) (h0 : 0 ≤ a.toInt) (h1 : a.toInt ≤ 200) (h2 : 0 ≤ n) (h3 : n ≤ 200) : (a - b).toInt = a.toInt - n := by
  have := c_isub a b
  have := rng32 (a - b)
  omega
theorem own_gk {a b : Int32} {n : Int} (hb : b.toInt = n) (h0 : 0 ≤ a.toInt) (h3 : n ≤ 200) (h : a.toInt ≤ n) : ¬ ((0 : Int32) < (a - b)) := by
  rw [Int32.lt_iff_toInt_lt, own_dif hb h0 (by omega) (by omega) h3, show (0 : Int32).toInt = 0 from rfl]
  omega
theorem own_gg {a b : Int32} {n : Int} (hb : b.toInt = n) (h1 : a.toInt ≤ 200) (h2 : 0 ≤ n) (h3 : n ≤ 200) (h : n < a.toInt) : (0 : Int32) < (a - b) := by
  rw [Int32.lt_iff_toInt_lt, own_dif hb (by omega) h1 h2 h3, show (0 : Int32).toInt = 0 from rfl]
  omega
theorem own_gm {a b d : Int32} {n q : Int} (hb : b.toInt = n) (hd : d.toInt = q) (h0 : 0 ≤ a.toInt) (h1 : a.toInt ≤ 200) (h2 : 0 ≤ n) (h3 : n ≤ 200) (h : a.toInt - n < q) : (a - b) < d := by
  rw [Int32.lt_iff_toInt_lt, own_dif hb h0 h1 h2 h3, hd]
  omega
theorem own_cb {a b d : Int32} {n q : Int} (hb : b.toInt = n) (hd : d.toInt = q) (h0 : 0 ≤ a.toInt) (h2 : 0 ≤ n) (h : a.toInt + n ≤ q) : a.toNatClampNeg + b.toNatClampNeg ≤ d.toNatClampNeg := by
  have e1 := own_clampI h0
  have e2 := own_clampI (x := b) (by omega)
  have e3 := own_clampI (x := d) (by omega)
  omega
theorem own_sfo {Z : State} {EL : List (String × Nat)} {vm : Vm} {h : Heap} {x y : Addr} (q : y = x ∨ h.size ≤ y) (S : Safe Z EL vm h x) : Safe Z EL vm h y := by
  rcases q with rfl | q
  · exact S
  · exact Safe.new q
theorem own_szo {a b : Nat} {x y : Addr} (q : y = x ∨ a ≤ y) (hx : b ≤ x) (hk : b ≤ a) : b ≤ y := by
  rcases q with rfl | q
  · exact hx
  · exact Nat.le_trans hk q
abbrev y_22 : MethodName := ⟨"java/lang/StringBuilder", "append", "(Ljava/lang/String;)Ljava/lang/StringBuilder;"⟩
theorem d14_0 : decode jdk_67_method_7_code 0 = .ok (.aload_n 0, 1) := by decide +kernel
theorem d14_1 : decode jdk_67_method_7_code 1 = .ok (.aload_n 1, 1) := by decide +kernel
theorem d14_2 : decode jdk_67_method_7_code 2 = .ok (.invokespecial 29, 3) := by decide +kernel
theorem pd__28Ljava_2flang_2fString_3b_29Ljava_2flang_2fAbstractStringBuilder_3b : parseMethodDescriptor "(Ljava/lang/String;)Ljava/lang/AbstractStringBuilder;" = some ⟨[(.object "java/lang/String")], some (.object "java/lang/AbstractStringBuilder")⟩ := by decide +kernel
theorem d14_5 : decode jdk_67_method_7_code 5 = .ok (.pop, 1) := by decide +kernel
theorem d14_6 : decode jdk_67_method_7_code 6 = .ok (.aload_n 0, 1) := by decide +kernel
theorem d14_7 : decode jdk_67_method_7_code 7 = .ok (.areturn, 1) := by decide +kernel
abbrev rm_rmBs15 : Room := ({ frames := 5, cells := 1, slots := 34, locals := 76 } : Room)
def Q_rmBs15 (Z : State) (sb : Addr) (so : Addr) (tb : Addr) (kt : ClassId) (vl : List Value) (cs : Int32) (da : Addr) (kd : ClassId) (vs : List Value) (cn : Int32) (h0 : Heap) (n0 : Nat) (v : Option Value) (h : Heap) (L : List Loc) : Prop := ∃ de : Addr, ∃ ke : ClassId, ∃ vf : List Value, ∃ ce : Int32, ∃ nn : Int32, (v = some (.ref sb)) ∧ (Fr n0 L) ∧ (Keep h0 h [sb, da]) ∧ (Exa Z h sb "java/lang/StringBuilder") ∧ (Fd_4 Z h sb (.ref de)) ∧ (Fd_5 Z h sb (.int 0)) ∧ (Fd_6 Z h sb (.int ce)) ∧ (Arv Z h de ke .byte nn vf (.int 0)) ∧ (Exa Z h de "[B") ∧ (vf.length = nn.toNatClampNeg) ∧ (n0 ≤ de) ∧ (de = da ∨ h0.size ≤ de) ∧ ((nn = (16 : Int32) ∧ ce.toInt = 16) ∨ (nn = (34 : Int32) ∧ 17 ≤ ce.toInt ∧ ce.toInt ≤ 22))
theorem rmBs15 (l : Launch) (Z : State) (a0 : Array Value) (hw : HW a0 Z) (ws : List Jvm.Cond) (sb : Addr) (so : Addr) (tb : Addr) (kt : ClassId) (vl : List Value) (cs : Int32) (da : Addr) (kd : ClassId) (vs : List Value) (cn : Int32) (h0 : Heap) (n0 : Nat) (O : Old Z n0 h0) (S_CS : Sa_0 Z (.int cs)) (E_so : Exa Z h0 so "java/lang/String") (F_sv : Fd_8 Z h0 so (.ref tb)) (F_sc : Fd_7 Z h0 so (.int 0)) (V_tb : Arv Z h0 tb kt .byte (15 : Int32) vl (.int 0)) (E_sb : Exa Z h0 sb "java/lang/StringBuilder") (F_v : Fd_4 Z h0 sb (.ref da)) (F_c : Fd_5 Z h0 sb (.int 0)) (F_n : Fd_6 Z h0 sb (.int cn)) (V_da : Arv Z h0 da kd .byte (16 : Int32) vs (.int 0)) (E_da : Exa Z h0 da "[B") (hcs : ¬ (cs = (0 : Int32))) (g_sb : n0 ≤ sb) (g_da : n0 ≤ da) (ne_tb_da : tb ≠ da) (hvl : vs.length = 16) (hq : 1 ≤ cn.toInt ∧ cn.toInt ≤ 7) :
    Mt l Z y_22 jdk_67_method_7_code 2 (some (.object "java/lang/StringBuilder")) ws rm_rmBs15 #[(.ref sb), (.ref so)] h0 (Q_rmBs15 Z sb so tb kt vl cs da kd vs cn h0 n0) := by
 refine own_met "java/lang/StringBuilder" (plainFor_of_name pn_java_lang_StringBuilder) #[rv sb, rv so] (fun m => rfl) (fun p e s m below meth c s₁ Bd hx hby hml hZ hown hnm X0 e0 => ?_)
 have N0 := Fr.nil n0
 have K := Keep.refl h0 [sb, da]
 by_cases hk : cn.toInt + 15 ≤ 16
 ·skip
  have hs : (cn + (15 : Int32)).toInt = cn.toInt + 15 := own_sum rfl (by omega) (by omega) (by decide) (by decide)
  refine Go.step (S' := s₁.setTop (mkF m 2 #[rv sb, rv so] [(.ref so), (.ref sb)])) (fun t k => ?_) ?_
  · refine XS.aloadN X0.here hx rfl (hb hby d14_0) rfl rfl ?_
    refine XS.aloadN X0.here hx rfl (hb hby d14_1) rfl rfl ?_
    exact k
  refine Go.cU X0 hx hml hown hZ (own_w hw 90 rfl) (own_w hw 91 rfl) (own_w hw 71 rfl) (own_w hw 58 rfl) (own_w hw 43 rfl) (own_w hw 93 rfl) E_sb (rmAs15k l Z a0 hw [] sb so tb kt vl cs da kd vs cn h0 n0 O S_CS E_so F_sv F_sc V_tb E_sb F_v F_c F_n V_da E_da hcs (by assumption) (by assumption) ne_tb_da hvl (own_nl0 (by omega)) (own_cb (n := 15) (q := 16) rfl rfl (by omega) (by decide) (by omega)) (own_gk (n := 16) rfl (by omega) (by decide) (by omega))) 0 [] pd__28Ljava_2flang_2fString_3b_29Ljava_2flang_2fAbstractStringBuilder_3b (hb hby d14_2) e0 (fun _ T1 L1 X1 hQ1 => ?_)
  obtain ⟨de_1, ke_1, vf_1, rfl, Nq1, K1, P1_E_sb, P1_F_v, P1_F_c, P1_F_n, P1_V, P1_E, hvf_1, ge_1, se_1⟩ := hQ1
  have N1 := Fr.app N0 Nq1
  have ne_so_sb : so ≠ sb := ne_exa E_so E_sb (by decide)
  have ne_so_da : so ≠ da := ne_exa E_so E_da (by decide)
  have ne_tb_sb : tb ≠ sb := Ne.symm (Exa.neArv E_sb V_tb (own_w hw 34 rfl))
  have ne_sb_da : sb ≠ da := ne_exa E_sb E_da (by decide)
  have O := O.keep K1 (allS g_sb (allS g_da all0))
  have E_so := E_so.keep K1
  have F_sv := F_sv.keep K1 (ninS ne_so_sb (ninS ne_so_da nin0))
  have F_sc := F_sc.keep K1 (ninS ne_so_sb (ninS ne_so_da nin0))
  have V_tb := V_tb.keep K1 (ninS ne_tb_sb (ninS ne_tb_da nin0))
  have E_sb := E_sb.keep K1
  have E_da := E_da.keep K1
  have K := K.trans K1 (allS (Or.inl (List.mem_of_getElem? (i := 0) rfl)) (allS (Or.inl (List.mem_of_getElem? (i := 1) rfl)) all0))
  have E_sb_1 := P1_E_sb
  have F_v_1 := P1_F_v
  have F_c_1 := P1_F_c
  have F_n_1 := P1_F_n
  have V_1 := P1_V
  have E_1 := P1_E
  have g_de_1 := ge_1
  refine Go.step (S' := T1.setTop (mkF m 7 #[rv sb, rv so] [(.ref sb)])) (fun t k => ?_) ?_
  · refine XS.pop X1.here hx rfl (hb hby d14_5) rfl rfl ?_
    refine XS.aloadN X1.here hx rfl (hb hby d14_6) rfl rfl ?_
    exact k
  exact Go.rt X1 hx Bd (w := (.ref sb)) rfl (Or.inr (Or.inr (Or.inr (Or.inr ⟨rfl, rfl, rfl⟩)))) (hb hby d14_7) (Eq.refl T1.heap) ⟨de_1, ke_1, vf_1, (cn + (15 : Int32)), (16 : Int32), rfl, N1, K, E_sb, F_v_1, F_c_1, F_n_1, V_1, E_1, hvf_1, g_de_1, se_1, (Or.inl ⟨rfl, by omega⟩)⟩
 ·skip
  have hs : (cn + (15 : Int32)).toInt = cn.toInt + 15 := own_sum rfl (by omega) (by omega) (by decide) (by decide)
  refine Go.step (S' := s₁.setTop (mkF m 2 #[rv sb, rv so] [(.ref so), (.ref sb)])) (fun t k => ?_) ?_
  · refine XS.aloadN X0.here hx rfl (hb hby d14_0) rfl rfl ?_
    refine XS.aloadN X0.here hx rfl (hb hby d14_1) rfl rfl ?_
    exact k
  refine Go.cU X0 hx hml hown hZ (own_w hw 90 rfl) (own_w hw 91 rfl) (own_w hw 71 rfl) (own_w hw 58 rfl) (own_w hw 43 rfl) (own_w hw 93 rfl) E_sb (rmAs15g l Z a0 hw [] sb so tb kt vl cs da kd vs cn h0 n0 O S_CS E_so F_sv F_sc V_tb E_sb F_v F_c F_n V_da E_da hcs (by assumption) (by assumption) ne_tb_da hvl (own_nl0 (by omega)) (own_cb (n := 15) (q := 34) rfl rfl (by omega) (by decide) (by omega)) (own_gg (n := 16) rfl (by omega) (by decide) (by decide) (by omega)) (own_gm (n := 16) (q := 18) rfl rfl (by omega) (by omega) (by decide) (by decide) (by omega))) 0 [] pd__28Ljava_2flang_2fString_3b_29Ljava_2flang_2fAbstractStringBuilder_3b (hb hby d14_2) e0 (fun _ T2 L2 X2 hQ2 => ?_)
  obtain ⟨de_2, ke_2, vf_2, rfl, Nq2, K2, P2_E_sb, P2_F_v, P2_F_c, P2_F_n, P2_V, P2_E, hvf_2, ge_2, se_2⟩ := hQ2
  have N2 := Fr.app N0 Nq2
  have ne_so_sb : so ≠ sb := ne_exa E_so E_sb (by decide)
  have ne_so_da : so ≠ da := ne_exa E_so E_da (by decide)
  have ne_tb_sb : tb ≠ sb := Ne.symm (Exa.neArv E_sb V_tb (own_w hw 34 rfl))
  have ne_sb_da : sb ≠ da := ne_exa E_sb E_da (by decide)
  have O := O.keep K2 (allS g_sb (allS g_da all0))
  have E_so := E_so.keep K2
  have F_sv := F_sv.keep K2 (ninS ne_so_sb (ninS ne_so_da nin0))
  have F_sc := F_sc.keep K2 (ninS ne_so_sb (ninS ne_so_da nin0))
  have V_tb := V_tb.keep K2 (ninS ne_tb_sb (ninS ne_tb_da nin0))
  have E_sb := E_sb.keep K2
  have E_da := E_da.keep K2
  have K := K.trans K2 (allS (Or.inl (List.mem_of_getElem? (i := 0) rfl)) (allS (Or.inl (List.mem_of_getElem? (i := 1) rfl)) all0))
  have E_sb_2 := P2_E_sb
  have F_v_2 := P2_F_v
  have F_c_2 := P2_F_c
  have F_n_2 := P2_F_n
  have V_2 := P2_V
  have E_2 := P2_E
  have g_de_2 := ge_2
  refine Go.step (S' := T2.setTop (mkF m 7 #[rv sb, rv so] [(.ref sb)])) (fun t k => ?_) ?_
  · refine XS.pop X2.here hx rfl (hb hby d14_5) rfl rfl ?_
    refine XS.aloadN X2.here hx rfl (hb hby d14_6) rfl rfl ?_
    exact k
  exact Go.rt X2 hx Bd (w := (.ref sb)) rfl (Or.inr (Or.inr (Or.inr (Or.inr ⟨rfl, rfl, rfl⟩)))) (hb hby d14_7) (Eq.refl T2.heap) ⟨de_2, ke_2, vf_2, (cn + (15 : Int32)), (34 : Int32), rfl, N2, K, E_sb, F_v_2, F_c_2, F_n_2, V_2, E_2, hvf_2, g_de_2, se_2, (Or.inr ⟨rfl, by omega, by omega⟩)⟩
abbrev rm_rmBs8 : Room := ({ frames := 5, cells := 1, slots := 70, locals := 76 } : Room)
def Q_rmBs8 (Z : State) (sb : Addr) (so : Addr) (tb : Addr) (kt : ClassId) (vl : List Value) (cs : Int32) (da : Addr) (kd : ClassId) (vs : List Value) (cn : Int32) (h0 : Heap) (n0 : Nat) (v : Option Value) (h : Heap) (L : List Loc) : Prop := ∃ de : Addr, ∃ ke : ClassId, ∃ vf : List Value, ∃ ce : Int32, ∃ nn : Int32, (v = some (.ref sb)) ∧ (Fr n0 L) ∧ (Keep h0 h [sb, da]) ∧ (Exa Z h sb "java/lang/StringBuilder") ∧ (Fd_4 Z h sb (.ref de)) ∧ (Fd_5 Z h sb (.int 0)) ∧ (Fd_6 Z h sb (.int ce)) ∧ (Arv Z h de ke .byte nn vf (.int 0)) ∧ (Exa Z h de "[B") ∧ (vf.length = nn.toNatClampNeg) ∧ (n0 ≤ de) ∧ (de = da ∨ h0.size ≤ de) ∧ (0 ≤ ce.toInt ∧ ce.toInt ≤ nn.toInt ∧ nn.toInt ≤ 70)
theorem rmBs8 (l : Launch) (Z : State) (a0 : Array Value) (hw : HW a0 Z) (ws : List Jvm.Cond) (sb : Addr) (so : Addr) (tb : Addr) (kt : ClassId) (vl : List Value) (cs : Int32) (da : Addr) (kd : ClassId) (vs : List Value) (cn : Int32) (h0 : Heap) (n0 : Nat) (O : Old Z n0 h0) (S_CS : Sa_0 Z (.int cs)) (E_so : Exa Z h0 so "java/lang/String") (F_sv : Fd_8 Z h0 so (.ref tb)) (F_sc : Fd_7 Z h0 so (.int 0)) (V_tb : Arv Z h0 tb kt .byte (8 : Int32) vl (.int 0)) (E_sb : Exa Z h0 sb "java/lang/StringBuilder") (F_v : Fd_4 Z h0 sb (.ref da)) (F_c : Fd_5 Z h0 sb (.int 0)) (F_n : Fd_6 Z h0 sb (.int cn)) (V_da : Arv Z h0 da kd .byte (34 : Int32) vs (.int 0)) (E_da : Exa Z h0 da "[B") (hcs : ¬ (cs = (0 : Int32))) (g_sb : n0 ≤ sb) (g_da : n0 ≤ da) (ne_tb_da : tb ≠ da) (hvl : vs.length = 34) (hq : 17 ≤ cn.toInt ∧ cn.toInt ≤ 29) :
    Mt l Z y_22 jdk_67_method_7_code 2 (some (.object "java/lang/StringBuilder")) ws rm_rmBs8 #[(.ref sb), (.ref so)] h0 (Q_rmBs8 Z sb so tb kt vl cs da kd vs cn h0 n0) := by
 refine own_met "java/lang/StringBuilder" (plainFor_of_name pn_java_lang_StringBuilder) #[rv sb, rv so] (fun m => rfl) (fun p e s m below meth c s₁ Bd hx hby hml hZ hown hnm X0 e0 => ?_)
 have N0 := Fr.nil n0
 have K := Keep.refl h0 [sb, da]
 by_cases hk : cn.toInt + 8 ≤ 34
 ·skip
  have hs : (cn + (8 : Int32)).toInt = cn.toInt + 8 := own_sum rfl (by omega) (by omega) (by decide) (by decide)
  refine Go.step (S' := s₁.setTop (mkF m 2 #[rv sb, rv so] [(.ref so), (.ref sb)])) (fun t k => ?_) ?_
  · refine XS.aloadN X0.here hx rfl (hb hby d14_0) rfl rfl ?_
    refine XS.aloadN X0.here hx rfl (hb hby d14_1) rfl rfl ?_
    exact k
  refine Go.cU X0 hx hml hown hZ (own_w hw 90 rfl) (own_w hw 91 rfl) (own_w hw 71 rfl) (own_w hw 58 rfl) (own_w hw 43 rfl) (own_w hw 93 rfl) E_sb (rmAs8k l Z a0 hw [] sb so tb kt vl cs da kd vs cn h0 n0 O S_CS E_so F_sv F_sc V_tb E_sb F_v F_c F_n V_da E_da hcs (by assumption) (by assumption) ne_tb_da hvl (own_nl0 (by omega)) (own_cb (n := 8) (q := 34) rfl rfl (by omega) (by decide) (by omega)) (own_gk (n := 34) rfl (by omega) (by decide) (by omega))) 0 [] pd__28Ljava_2flang_2fString_3b_29Ljava_2flang_2fAbstractStringBuilder_3b (hb hby d14_2) e0 (fun _ T1 L1 X1 hQ1 => ?_)
  obtain ⟨de_1, ke_1, vf_1, rfl, Nq1, K1, P1_E_sb, P1_F_v, P1_F_c, P1_F_n, P1_V, P1_E, hvf_1, ge_1, se_1⟩ := hQ1
  have N1 := Fr.app N0 Nq1
  have ne_so_sb : so ≠ sb := ne_exa E_so E_sb (by decide)
  have ne_so_da : so ≠ da := ne_exa E_so E_da (by decide)
  have ne_tb_sb : tb ≠ sb := Ne.symm (Exa.neArv E_sb V_tb (own_w hw 34 rfl))
  have ne_sb_da : sb ≠ da := ne_exa E_sb E_da (by decide)
  have O := O.keep K1 (allS g_sb (allS g_da all0))
  have E_so := E_so.keep K1
  have F_sv := F_sv.keep K1 (ninS ne_so_sb (ninS ne_so_da nin0))
  have F_sc := F_sc.keep K1 (ninS ne_so_sb (ninS ne_so_da nin0))
  have V_tb := V_tb.keep K1 (ninS ne_tb_sb (ninS ne_tb_da nin0))
  have E_sb := E_sb.keep K1
  have E_da := E_da.keep K1
  have K := K.trans K1 (allS (Or.inl (List.mem_of_getElem? (i := 0) rfl)) (allS (Or.inl (List.mem_of_getElem? (i := 1) rfl)) all0))
  have E_sb_1 := P1_E_sb
  have F_v_1 := P1_F_v
  have F_c_1 := P1_F_c
  have F_n_1 := P1_F_n
  have V_1 := P1_V
  have E_1 := P1_E
  have g_de_1 := ge_1
  refine Go.step (S' := T1.setTop (mkF m 7 #[rv sb, rv so] [(.ref sb)])) (fun t k => ?_) ?_
  · refine XS.pop X1.here hx rfl (hb hby d14_5) rfl rfl ?_
    refine XS.aloadN X1.here hx rfl (hb hby d14_6) rfl rfl ?_
    exact k
  exact Go.rt X1 hx Bd (w := (.ref sb)) rfl (Or.inr (Or.inr (Or.inr (Or.inr ⟨rfl, rfl, rfl⟩)))) (hb hby d14_7) (Eq.refl T1.heap) ⟨de_1, ke_1, vf_1, (cn + (8 : Int32)), (34 : Int32), rfl, N1, K, E_sb, F_v_1, F_c_1, F_n_1, V_1, E_1, hvf_1, g_de_1, se_1, ⟨by omega, by show _ ≤ (34 : Int); omega, by decide⟩⟩
 ·skip
  have hs : (cn + (8 : Int32)).toInt = cn.toInt + 8 := own_sum rfl (by omega) (by omega) (by decide) (by decide)
  refine Go.step (S' := s₁.setTop (mkF m 2 #[rv sb, rv so] [(.ref so), (.ref sb)])) (fun t k => ?_) ?_
  · refine XS.aloadN X0.here hx rfl (hb hby d14_0) rfl rfl ?_
    refine XS.aloadN X0.here hx rfl (hb hby d14_1) rfl rfl ?_
    exact k
  refine Go.cU X0 hx hml hown hZ (own_w hw 90 rfl) (own_w hw 91 rfl) (own_w hw 71 rfl) (own_w hw 58 rfl) (own_w hw 43 rfl) (own_w hw 93 rfl) E_sb (rmAs8g l Z a0 hw [] sb so tb kt vl cs da kd vs cn h0 n0 O S_CS E_so F_sv F_sc V_tb E_sb F_v F_c F_n V_da E_da hcs (by assumption) (by assumption) ne_tb_da hvl (own_nl0 (by omega)) (own_cb (n := 8) (q := 70) rfl rfl (by omega) (by decide) (by omega)) (own_gg (n := 34) rfl (by omega) (by decide) (by decide) (by omega)) (own_gm (n := 34) (q := 36) rfl rfl (by omega) (by omega) (by decide) (by decide) (by omega))) 0 [] pd__28Ljava_2flang_2fString_3b_29Ljava_2flang_2fAbstractStringBuilder_3b (hb hby d14_2) e0 (fun _ T2 L2 X2 hQ2 => ?_)
  obtain ⟨de_2, ke_2, vf_2, rfl, Nq2, K2, P2_E_sb, P2_F_v, P2_F_c, P2_F_n, P2_V, P2_E, hvf_2, ge_2, se_2⟩ := hQ2
  have N2 := Fr.app N0 Nq2
  have ne_so_sb : so ≠ sb := ne_exa E_so E_sb (by decide)
  have ne_so_da : so ≠ da := ne_exa E_so E_da (by decide)
  have ne_tb_sb : tb ≠ sb := Ne.symm (Exa.neArv E_sb V_tb (own_w hw 34 rfl))
  have ne_sb_da : sb ≠ da := ne_exa E_sb E_da (by decide)
  have O := O.keep K2 (allS g_sb (allS g_da all0))
  have E_so := E_so.keep K2
  have F_sv := F_sv.keep K2 (ninS ne_so_sb (ninS ne_so_da nin0))
  have F_sc := F_sc.keep K2 (ninS ne_so_sb (ninS ne_so_da nin0))
  have V_tb := V_tb.keep K2 (ninS ne_tb_sb (ninS ne_tb_da nin0))
  have E_sb := E_sb.keep K2
  have E_da := E_da.keep K2
  have K := K.trans K2 (allS (Or.inl (List.mem_of_getElem? (i := 0) rfl)) (allS (Or.inl (List.mem_of_getElem? (i := 1) rfl)) all0))
  have E_sb_2 := P2_E_sb
  have F_v_2 := P2_F_v
  have F_c_2 := P2_F_c
  have F_n_2 := P2_F_n
  have V_2 := P2_V
  have E_2 := P2_E
  have g_de_2 := ge_2
  refine Go.step (S' := T2.setTop (mkF m 7 #[rv sb, rv so] [(.ref sb)])) (fun t k => ?_) ?_
  · refine XS.pop X2.here hx rfl (hb hby d14_5) rfl rfl ?_
    refine XS.aloadN X2.here hx rfl (hb hby d14_6) rfl rfl ?_
    exact k
  exact Go.rt X2 hx Bd (w := (.ref sb)) rfl (Or.inr (Or.inr (Or.inr (Or.inr ⟨rfl, rfl, rfl⟩)))) (hb hby d14_7) (Eq.refl T2.heap) ⟨de_2, ke_2, vf_2, (cn + (8 : Int32)), (70 : Int32), rfl, N2, K, E_sb, F_v_2, F_c_2, F_n_2, V_2, E_2, hvf_2, g_de_2, se_2, ⟨by omega, by show _ ≤ (70 : Int); omega, by decide⟩⟩
def own_dz (x : Int64) (r : Int32) : Prop := 1 ≤ r.toInt ∧ r.toInt ≤ 7 ∧ (x.toInt < 10 ∨ 2 ≤ r.toInt) ∧ (x.toInt < 100 ∨ 3 ≤ r.toInt) ∧ (x.toInt < 1000 ∨ 4 ≤ r.toInt) ∧ (x.toInt < 10000 ∨ 5 ≤ r.toInt) ∧ (x.toInt < 100000 ∨ 6 ≤ r.toInt) ∧ (x.toInt < 1000000 ∨ 7 ≤ r.toInt)
theorem own_ngx {x : Int64} (h0 : ¬ x < (0 : Int64)) (h1 : ¬ (1000000 : Int64) < x) : 0 ≤ x.toInt ∧ x.toInt ≤ 1000000 ∧ (-x).toInt = -x.toInt := by
  simp only [Int64.lt_iff_toInt_lt, show (0 : Int64).toInt = 0 from rfl, show (1000000 : Int64).toInt = 1000000 from rfl] at h0 h1
  have := c_lneg x
  have := rng64 (-x)
  omega
theorem own_dzq {x q : Int64} {n : Int} (h0 : ¬ x < (0 : Int64)) (h1 : ¬ (1000000 : Int64) < x) (hn : q.toInt = -n) (hq : q < -x) : 0 ≤ x.toInt ∧ x.toInt ≤ 1000000 ∧ x.toInt < n := by
  obtain ⟨a, b, d⟩ := own_ngx h0 h1
  rw [Int64.lt_iff_toInt_lt, hn, d] at hq
  omega
theorem own_gtl {x q : Int64} {n : Int} (h0 : ¬ x < (0 : Int64)) (h1 : ¬ (1000000 : Int64) < x) (hn : q.toInt = -n) (hq : 1000000 < n) : q < -x := by
  obtain ⟨a, b, d⟩ := own_ngx h0 h1
  rw [Int64.lt_iff_toInt_lt, hn, d]
  omega
theorem own_dz1 {x : Int64} (h0 : ¬ x < (0 : Int64)) (h1 : ¬ (1000000 : Int64) < x) (hq : (-10 : Int64) < -x) : own_dz x (1 : Int32) := by
  obtain ⟨a, b, d⟩ := own_dzq (n := 10) h0 h1 (by decide) hq
  unfold own_dz
  simp only [show (1 : Int32).toInt = 1 from rfl]
  omega
theorem own_dz2 {x : Int64} (h0 : ¬ x < (0 : Int64)) (h1 : ¬ (1000000 : Int64) < x) (hq : (-100 : Int64) < -x) : own_dz x (2 : Int32) := by
  obtain ⟨a, b, d⟩ := own_dzq (n := 100) h0 h1 (by decide) hq
  unfold own_dz
  simp only [show (2 : Int32).toInt = 2 from rfl]
  omega
theorem own_dz3 {x : Int64} (h0 : ¬ x < (0 : Int64)) (h1 : ¬ (1000000 : Int64) < x) (hq : (-1000 : Int64) < -x) : own_dz x (3 : Int32) := by
  obtain ⟨a, b, d⟩ := own_dzq (n := 1000) h0 h1 (by decide) hq
  unfold own_dz
  simp only [show (3 : Int32).toInt = 3 from rfl]
  omega
theorem own_dz4 {x : Int64} (h0 : ¬ x < (0 : Int64)) (h1 : ¬ (1000000 : Int64) < x) (hq : (-10000 : Int64) < -x) : own_dz x (4 : Int32) := by
  obtain ⟨a, b, d⟩ := own_dzq (n := 10000) h0 h1 (by decide) hq
  unfold own_dz
  simp only [show (4 : Int32).toInt = 4 from rfl]
  omega
theorem own_dz5 {x : Int64} (h0 : ¬ x < (0 : Int64)) (h1 : ¬ (1000000 : Int64) < x) (hq : (-100000 : Int64) < -x) : own_dz x (5 : Int32) := by
  obtain ⟨a, b, d⟩ := own_dzq (n := 100000) h0 h1 (by decide) hq
  unfold own_dz
  simp only [show (5 : Int32).toInt = 5 from rfl]
  omega
theorem own_dz6 {x : Int64} (h0 : ¬ x < (0 : Int64)) (h1 : ¬ (1000000 : Int64) < x) (hq : (-1000000 : Int64) < -x) : own_dz x (6 : Int32) := by
  obtain ⟨a, b, d⟩ := own_dzq (n := 1000000) h0 h1 (by decide) hq
  unfold own_dz
  simp only [show (6 : Int32).toInt = 6 from rfl]
  omega
theorem own_dz7 {x : Int64} (h0 : ¬ x < (0 : Int64)) (h1 : ¬ (1000000 : Int64) < x) (hq : (-10000000 : Int64) < -x) : own_dz x (7 : Int32) := by
  obtain ⟨a, b, d⟩ := own_dzq (n := 10000000) h0 h1 (by decide) hq
  unfold own_dz
  simp only [show (7 : Int32).toInt = 7 from rfl]
  omega
theorem own_dzk1 {x : Int64} {r : Int32} (h : own_dz x r) (hx : (0 : Int) = 0) : 1 ≤ r.toInt := by
  obtain ⟨a, -, b, d, e, f, g, i⟩ := h
  exact a
theorem own_dzk2 {x : Int64} {r : Int32} (h : own_dz x r) (hx : 10 ≤ x.toInt) : 2 ≤ r.toInt := by
  obtain ⟨a, -, b, d, e, f, g, i⟩ := h
  exact b.resolve_left (by omega)
theorem own_dzk3 {x : Int64} {r : Int32} (h : own_dz x r) (hx : 100 ≤ x.toInt) : 3 ≤ r.toInt := by
  obtain ⟨a, -, b, d, e, f, g, i⟩ := h
  exact d.resolve_left (by omega)
theorem own_dzk4 {x : Int64} {r : Int32} (h : own_dz x r) (hx : 1000 ≤ x.toInt) : 4 ≤ r.toInt := by
  obtain ⟨a, -, b, d, e, f, g, i⟩ := h
  exact e.resolve_left (by omega)
theorem own_dzk5 {x : Int64} {r : Int32} (h : own_dz x r) (hx : 10000 ≤ x.toInt) : 5 ≤ r.toInt := by
  obtain ⟨a, -, b, d, e, f, g, i⟩ := h
  exact f.resolve_left (by omega)
theorem own_dzk6 {x : Int64} {r : Int32} (h : own_dz x r) (hx : 100000 ≤ x.toInt) : 6 ≤ r.toInt := by
  obtain ⟨a, -, b, d, e, f, g, i⟩ := h
  exact g.resolve_left (by omega)
theorem own_dzk7 {x : Int64} {r : Int32} (h : own_dz x r) (hx : 1000000 ≤ x.toInt) : 7 ≤ r.toInt := by
  obtain ⟨a, -, b, d, e, f, g, i⟩ := h
  exact i.resolve_left (by omega)
abbrev y_23 : MethodName := ⟨"java/lang/Long", "stringSize", "(J)I"⟩
theorem pn_java_lang_Long : plainName "java/lang/Long" = true := by first | (simp [plainName, overriddenIn]; done) | decide +kernel
theorem d10_0 : decode jdk_35_method_15_code 0 = .ok (.iconst 1, 1) := by decide +kernel
theorem d10_1 : decode jdk_35_method_15_code 1 = .ok (.istore_n 2, 1) := by decide +kernel
theorem d10_2 : decode jdk_35_method_15_code 2 = .ok (.lload_n 0, 1) := by decide +kernel
theorem d10_3 : decode jdk_35_method_15_code 3 = .ok (.lconst 0, 1) := by decide +kernel
theorem d10_4 : decode jdk_35_method_15_code 4 = .ok (.lcmp, 1) := by decide +kernel
theorem d10_5 : decode jdk_35_method_15_code 5 = .ok (.ifCond .lt 8, 3) := by decide +kernel
theorem d10_8 : decode jdk_35_method_15_code 8 = .ok (.iconst 0, 1) := by decide +kernel
theorem d10_9 : decode jdk_35_method_15_code 9 = .ok (.istore_n 2, 1) := by decide +kernel
theorem d10_10 : decode jdk_35_method_15_code 10 = .ok (.lload_n 0, 1) := by decide +kernel
theorem d10_11 : decode jdk_35_method_15_code 11 = .ok (.lneg, 1) := by decide +kernel
theorem d10_12 : decode jdk_35_method_15_code 12 = .ok (.lstore_n 0, 1) := by decide +kernel
theorem d10_13 : decode jdk_35_method_15_code 13 = .ok (.ldc2_w 140, 3) := by decide +kernel
theorem d10_16 : decode jdk_35_method_15_code 16 = .ok (.lstore_n 3, 1) := by decide +kernel
theorem d10_17 : decode jdk_35_method_15_code 17 = .ok (.iconst 1, 1) := by decide +kernel
theorem d10_18 : decode jdk_35_method_15_code 18 = .ok (.istore 5, 2) := by decide +kernel
theorem d10_20 : decode jdk_35_method_15_code 20 = .ok (.iload 5, 2) := by decide +kernel
theorem d10_22 : decode jdk_35_method_15_code 22 = .ok (.bipush 19, 2) := by decide +kernel
theorem d10_24 : decode jdk_35_method_15_code 24 = .ok (.if_icmp .ge 26, 3) := by decide +kernel
theorem d10_27 : decode jdk_35_method_15_code 27 = .ok (.lload_n 0, 1) := by decide +kernel
theorem d10_28 : decode jdk_35_method_15_code 28 = .ok (.lload_n 3, 1) := by decide +kernel
theorem d10_29 : decode jdk_35_method_15_code 29 = .ok (.lcmp, 1) := by decide +kernel
theorem d10_30 : decode jdk_35_method_15_code 30 = .ok (.ifCond .le 8, 3) := by decide +kernel
theorem d10_33 : decode jdk_35_method_15_code 33 = .ok (.iload 5, 2) := by decide +kernel
theorem d10_35 : decode jdk_35_method_15_code 35 = .ok (.iload_n 2, 1) := by decide +kernel
theorem d10_36 : decode jdk_35_method_15_code 36 = .ok (.iadd, 1) := by decide +kernel
theorem d10_37 : decode jdk_35_method_15_code 37 = .ok (.ireturn, 1) := by decide +kernel
theorem d10_38 : decode jdk_35_method_15_code 38 = .ok (.ldc2_w 53, 3) := by decide +kernel
theorem d10_41 : decode jdk_35_method_15_code 41 = .ok (.lload_n 3, 1) := by decide +kernel
theorem d10_42 : decode jdk_35_method_15_code 42 = .ok (.lmul, 1) := by decide +kernel
theorem d10_43 : decode jdk_35_method_15_code 43 = .ok (.lstore_n 3, 1) := by decide +kernel
theorem d10_44 : decode jdk_35_method_15_code 44 = .ok (.iinc 5 1, 3) := by decide +kernel
theorem d10_47 : decode jdk_35_method_15_code 47 = .ok (.goto (-27), 3) := by decide +kernel
abbrev rm_rmSz : Room := ({ frames := 0, cells := 0, slots := 0, locals := 0 } : Room)
def Q_rmSz (Z : State) (xa : Int64) (h0 : Heap) (n0 : Nat) (v : Option Value) (h : Heap) (L : List Loc) : Prop := ∃ sr : Int32, (v = some (.int sr)) ∧ (Fr n0 L) ∧ (h = h0) ∧ (own_dz xa sr)
theorem rmSz (l : Launch) (Z : State) (a0 : Array Value) (hw : HW a0 Z) (ws : List Jvm.Cond) (xa : Int64) (h0 : Heap) (n0 : Nat) (O : Old Z n0 h0) (ua : ¬ (xa < (0 : Int64))) (ub : ¬ ((1000000 : Int64) < xa)) :
    Mt l Z y_23 jdk_35_method_15_code 6 (some .int) ws rm_rmSz #[(.long xa)] h0 (Q_rmSz Z xa h0 n0) := by
 refine own_met "java/lang/Long" (plainFor_of_name pn_java_lang_Long) #[lv xa, .second, u_, u_, u_, u_] (fun m => rfl) (fun p e s m below meth c s₁ Bd hx hby hml hZ hown hnm X0 e0 => ?_)
 have N0 := Fr.nil n0
 refine Go.step (S' := s₁.setTop (mkF m 30 #[lv (-xa), .second, iv 0, lv (-10 : Int64), .second, iv 1] [(.int (lcmpW (-xa) (-10 : Int64)))])) (fun t k => ?_) ?_
 · refine XS.iconst X0.here hx rfl (hb hby d10_0) ?_
   refine XS.istoreN X0.here hx rfl (hb hby d10_1) rfl (l' := #[lv xa, .second, iv 1, u_, u_, u_]) rfl ?_
   refine XS.lloadN X0.here hx rfl (hb hby d10_2) rfl ?_
   refine XS.lconst X0.here hx rfl (hb hby d10_3) ?_
   refine XS.lcmp X0.here hx rfl (hb hby d10_4) rfl ?_
   refine XS.ifNo X0.here hx rfl (hb hby d10_5) rfl ((if0 _ _).trans (flt (fun zq => absurd ((lw_lt xa (0 : Int64)).mp zq) ua)).1) ?_
   show Steps p.tables e below (s₁.setTop (mkF m 8 #[lv xa, .second, iv 1, u_, u_, u_] [])) _
   refine XS.iconst X0.here hx rfl (hb hby d10_8) ?_
   refine XS.istoreN X0.here hx rfl (hb hby d10_9) rfl (l' := #[lv xa, .second, iv 0, u_, u_, u_]) rfl ?_
   refine XS.lloadN X0.here hx rfl (hb hby d10_10) rfl ?_
   refine XS.lneg X0.here hx rfl (hb hby d10_11) rfl ?_
   refine XS.lstoreN X0.here hx rfl (hb hby d10_12) rfl (l' := #[lv (-xa), .second, iv 0, u_, u_, u_]) rfl ?_
   refine X0.ldc2Long hx hown (mvT hZ (own_w hw 67 rfl)) (g := (mkF m 13 #[lv (-xa), .second, iv 0, u_, u_, u_] [])) rfl (hb hby d10_13) _ ?_
   show Steps p.tables e below (s₁.setTop (mkF m 16 #[lv (-xa), .second, iv 0, u_, u_, u_] [(.long (-10 : Int64))])) _
   refine XS.lstoreN X0.here hx rfl (hb hby d10_16) rfl (l' := #[lv (-xa), .second, iv 0, lv (-10 : Int64), .second, u_]) rfl ?_
   refine XS.iconst X0.here hx rfl (hb hby d10_17) ?_
   refine XS.istore X0.here hx rfl (hb hby d10_18) rfl (l' := #[lv (-xa), .second, iv 0, lv (-10 : Int64), .second, iv 1]) rfl ?_
   refine XS.iload X0.here hx rfl (hb hby d10_20) rfl ?_
   refine XS.bipush X0.here hx rfl (hb hby d10_22) ?_
   refine XS.icmpNo X0.here hx rfl (hb hby d10_24) rfl (tlt ((by decide) : (1 : Int32) < (19 : Int32))).2.1 ?_
   show Steps p.tables e below (s₁.setTop (mkF m 27 #[lv (-xa), .second, iv 0, lv (-10 : Int64), .second, iv 1] [])) _
   refine XS.lloadN X0.here hx rfl (hb hby d10_27) rfl ?_
   refine XS.lloadN X0.here hx rfl (hb hby d10_28) rfl ?_
   refine XS.lcmp X0.here hx rfl (hb hby d10_29) rfl ?_
   exact k
 by_cases hc30 : (-10 : Int64) < (-xa)
 ·skip
  refine Go.step (S' := s₁.setTop (mkF m 37 #[lv (-xa), .second, iv 0, lv (-10 : Int64), .second, iv 1] [(.int 1)])) (fun t k => ?_) ?_
  · refine XS.ifNo X0.here hx rfl (hb hby d10_30) rfl ((if0 _ _).trans (tlt ((lw_gt (-xa) (-10 : Int64)).mpr hc30)).2.2.2) ?_
    refine XS.iload X0.here hx rfl (hb hby d10_33) rfl ?_
    refine XS.iloadN X0.here hx rfl (hb hby d10_35) rfl ?_
    refine XS.iadd X0.here hx rfl (hb hby d10_36) rfl ?_
    exact k
  exact Go.rt X0 hx Bd (w := (.int 1)) rfl (Or.inl ⟨rfl, Or.inl rfl, _, rfl⟩) (hb hby d10_37) e0 ⟨(1 : Int32), rfl, N0, rfl, (own_dz1 ua ub hc30)⟩
 ·skip
  refine Go.step (S' := s₁.setTop (mkF m 30 #[lv (-xa), .second, iv 0, lv (-100 : Int64), .second, iv 2] [(.int (lcmpW (-xa) (-100 : Int64)))])) (fun t k => ?_) ?_
  · refine XS.ifYes X0.here hx rfl (pc0 := 30) (pc' := 38) rfl (hb hby d10_30) rfl ((if0 _ _).trans (flt (fun zq => absurd ((lw_gt (-xa) (-10 : Int64)).mp zq) hc30)).2.2.2) (by decide) (by decide) ?_
    refine X0.ldc2Long hx hown (mvT hZ (own_w hw 196 rfl)) (g := (mkF m 38 #[lv (-xa), .second, iv 0, lv (-10 : Int64), .second, iv 1] [])) rfl (hb hby d10_38) _ ?_
    refine XS.lloadN X0.here hx rfl (hb hby d10_41) rfl ?_
    refine XS.lmul X0.here hx rfl (hb hby d10_42) rfl ?_
    refine XS.lstoreN X0.here hx rfl (hb hby d10_43) rfl (l' := #[lv (-xa), .second, iv 0, lv (-100 : Int64), .second, iv 1]) rfl ?_
    refine XS.iinc X0.here hx rfl (hb hby d10_44) rfl (l' := #[lv (-xa), .second, iv 0, lv (-100 : Int64), .second, iv 2]) rfl ?_
    show Steps p.tables e below (s₁.setTop (mkF m 47 #[lv (-xa), .second, iv 0, lv (-100 : Int64), .second, iv 2] [])) _
    refine XS.goto X0.here hx rfl (pc0 := 47) (pc' := 20) rfl (hb hby d10_47) (by decide) (by decide) ?_
    refine XS.iload X0.here hx rfl (hb hby d10_20) rfl ?_
    refine XS.bipush X0.here hx rfl (hb hby d10_22) ?_
    refine XS.icmpNo X0.here hx rfl (hb hby d10_24) rfl (tlt ((by decide) : (2 : Int32) < (19 : Int32))).2.1 ?_
    refine XS.lloadN X0.here hx rfl (hb hby d10_27) rfl ?_
    refine XS.lloadN X0.here hx rfl (hb hby d10_28) rfl ?_
    show Steps p.tables e below (s₁.setTop (mkF m 29 #[lv (-xa), .second, iv 0, lv (-100 : Int64), .second, iv 2] [(.long (-100 : Int64)), (.long (-xa))])) _
    refine XS.lcmp X0.here hx rfl (hb hby d10_29) rfl ?_
    exact k
  by_cases hc30_1 : (-100 : Int64) < (-xa)
  ·skip
   refine Go.step (S' := s₁.setTop (mkF m 37 #[lv (-xa), .second, iv 0, lv (-100 : Int64), .second, iv 2] [(.int 2)])) (fun t k => ?_) ?_
   · refine XS.ifNo X0.here hx rfl (hb hby d10_30) rfl ((if0 _ _).trans (tlt ((lw_gt (-xa) (-100 : Int64)).mpr hc30_1)).2.2.2) ?_
     refine XS.iload X0.here hx rfl (hb hby d10_33) rfl ?_
     refine XS.iloadN X0.here hx rfl (hb hby d10_35) rfl ?_
     refine XS.iadd X0.here hx rfl (hb hby d10_36) rfl ?_
     exact k
   exact Go.rt X0 hx Bd (w := (.int 2)) rfl (Or.inl ⟨rfl, Or.inl rfl, _, rfl⟩) (hb hby d10_37) e0 ⟨(2 : Int32), rfl, N0, rfl, (own_dz2 ua ub hc30_1)⟩
  ·skip
   refine Go.step (S' := s₁.setTop (mkF m 30 #[lv (-xa), .second, iv 0, lv (-1000 : Int64), .second, iv 3] [(.int (lcmpW (-xa) (-1000 : Int64)))])) (fun t k => ?_) ?_
   · refine XS.ifYes X0.here hx rfl (pc0 := 30) (pc' := 38) rfl (hb hby d10_30) rfl ((if0 _ _).trans (flt (fun zq => absurd ((lw_gt (-xa) (-100 : Int64)).mp zq) hc30_1)).2.2.2) (by decide) (by decide) ?_
     refine X0.ldc2Long hx hown (mvT hZ (own_w hw 196 rfl)) (g := (mkF m 38 #[lv (-xa), .second, iv 0, lv (-100 : Int64), .second, iv 2] [])) rfl (hb hby d10_38) _ ?_
     refine XS.lloadN X0.here hx rfl (hb hby d10_41) rfl ?_
     refine XS.lmul X0.here hx rfl (hb hby d10_42) rfl ?_
     refine XS.lstoreN X0.here hx rfl (hb hby d10_43) rfl (l' := #[lv (-xa), .second, iv 0, lv (-1000 : Int64), .second, iv 2]) rfl ?_
     refine XS.iinc X0.here hx rfl (hb hby d10_44) rfl (l' := #[lv (-xa), .second, iv 0, lv (-1000 : Int64), .second, iv 3]) rfl ?_
     show Steps p.tables e below (s₁.setTop (mkF m 47 #[lv (-xa), .second, iv 0, lv (-1000 : Int64), .second, iv 3] [])) _
     refine XS.goto X0.here hx rfl (pc0 := 47) (pc' := 20) rfl (hb hby d10_47) (by decide) (by decide) ?_
     refine XS.iload X0.here hx rfl (hb hby d10_20) rfl ?_
     refine XS.bipush X0.here hx rfl (hb hby d10_22) ?_
     refine XS.icmpNo X0.here hx rfl (hb hby d10_24) rfl (tlt ((by decide) : (3 : Int32) < (19 : Int32))).2.1 ?_
     refine XS.lloadN X0.here hx rfl (hb hby d10_27) rfl ?_
     refine XS.lloadN X0.here hx rfl (hb hby d10_28) rfl ?_
     show Steps p.tables e below (s₁.setTop (mkF m 29 #[lv (-xa), .second, iv 0, lv (-1000 : Int64), .second, iv 3] [(.long (-1000 : Int64)), (.long (-xa))])) _
     refine XS.lcmp X0.here hx rfl (hb hby d10_29) rfl ?_
     exact k
   by_cases hc30_2 : (-1000 : Int64) < (-xa)
   ·skip
    refine Go.step (S' := s₁.setTop (mkF m 37 #[lv (-xa), .second, iv 0, lv (-1000 : Int64), .second, iv 3] [(.int 3)])) (fun t k => ?_) ?_
    · refine XS.ifNo X0.here hx rfl (hb hby d10_30) rfl ((if0 _ _).trans (tlt ((lw_gt (-xa) (-1000 : Int64)).mpr hc30_2)).2.2.2) ?_
      refine XS.iload X0.here hx rfl (hb hby d10_33) rfl ?_
      refine XS.iloadN X0.here hx rfl (hb hby d10_35) rfl ?_
      refine XS.iadd X0.here hx rfl (hb hby d10_36) rfl ?_
      exact k
    exact Go.rt X0 hx Bd (w := (.int 3)) rfl (Or.inl ⟨rfl, Or.inl rfl, _, rfl⟩) (hb hby d10_37) e0 ⟨(3 : Int32), rfl, N0, rfl, (own_dz3 ua ub hc30_2)⟩
   ·skip
    refine Go.step (S' := s₁.setTop (mkF m 30 #[lv (-xa), .second, iv 0, lv (-10000 : Int64), .second, iv 4] [(.int (lcmpW (-xa) (-10000 : Int64)))])) (fun t k => ?_) ?_
    · refine XS.ifYes X0.here hx rfl (pc0 := 30) (pc' := 38) rfl (hb hby d10_30) rfl ((if0 _ _).trans (flt (fun zq => absurd ((lw_gt (-xa) (-1000 : Int64)).mp zq) hc30_2)).2.2.2) (by decide) (by decide) ?_
      refine X0.ldc2Long hx hown (mvT hZ (own_w hw 196 rfl)) (g := (mkF m 38 #[lv (-xa), .second, iv 0, lv (-1000 : Int64), .second, iv 3] [])) rfl (hb hby d10_38) _ ?_
      refine XS.lloadN X0.here hx rfl (hb hby d10_41) rfl ?_
      refine XS.lmul X0.here hx rfl (hb hby d10_42) rfl ?_
      refine XS.lstoreN X0.here hx rfl (hb hby d10_43) rfl (l' := #[lv (-xa), .second, iv 0, lv (-10000 : Int64), .second, iv 3]) rfl ?_
      refine XS.iinc X0.here hx rfl (hb hby d10_44) rfl (l' := #[lv (-xa), .second, iv 0, lv (-10000 : Int64), .second, iv 4]) rfl ?_
      show Steps p.tables e below (s₁.setTop (mkF m 47 #[lv (-xa), .second, iv 0, lv (-10000 : Int64), .second, iv 4] [])) _
      refine XS.goto X0.here hx rfl (pc0 := 47) (pc' := 20) rfl (hb hby d10_47) (by decide) (by decide) ?_
      refine XS.iload X0.here hx rfl (hb hby d10_20) rfl ?_
      refine XS.bipush X0.here hx rfl (hb hby d10_22) ?_
      refine XS.icmpNo X0.here hx rfl (hb hby d10_24) rfl (tlt ((by decide) : (4 : Int32) < (19 : Int32))).2.1 ?_
      refine XS.lloadN X0.here hx rfl (hb hby d10_27) rfl ?_
      refine XS.lloadN X0.here hx rfl (hb hby d10_28) rfl ?_
      show Steps p.tables e below (s₁.setTop (mkF m 29 #[lv (-xa), .second, iv 0, lv (-10000 : Int64), .second, iv 4] [(.long (-10000 : Int64)), (.long (-xa))])) _
      refine XS.lcmp X0.here hx rfl (hb hby d10_29) rfl ?_
      exact k
    by_cases hc30_3 : (-10000 : Int64) < (-xa)
    ·skip
     refine Go.step (S' := s₁.setTop (mkF m 37 #[lv (-xa), .second, iv 0, lv (-10000 : Int64), .second, iv 4] [(.int 4)])) (fun t k => ?_) ?_
     · refine XS.ifNo X0.here hx rfl (hb hby d10_30) rfl ((if0 _ _).trans (tlt ((lw_gt (-xa) (-10000 : Int64)).mpr hc30_3)).2.2.2) ?_
       refine XS.iload X0.here hx rfl (hb hby d10_33) rfl ?_
       refine XS.iloadN X0.here hx rfl (hb hby d10_35) rfl ?_
       refine XS.iadd X0.here hx rfl (hb hby d10_36) rfl ?_
       exact k
     exact Go.rt X0 hx Bd (w := (.int 4)) rfl (Or.inl ⟨rfl, Or.inl rfl, _, rfl⟩) (hb hby d10_37) e0 ⟨(4 : Int32), rfl, N0, rfl, (own_dz4 ua ub hc30_3)⟩
    ·skip
     refine Go.step (S' := s₁.setTop (mkF m 30 #[lv (-xa), .second, iv 0, lv (-100000 : Int64), .second, iv 5] [(.int (lcmpW (-xa) (-100000 : Int64)))])) (fun t k => ?_) ?_
     · refine XS.ifYes X0.here hx rfl (pc0 := 30) (pc' := 38) rfl (hb hby d10_30) rfl ((if0 _ _).trans (flt (fun zq => absurd ((lw_gt (-xa) (-10000 : Int64)).mp zq) hc30_3)).2.2.2) (by decide) (by decide) ?_
       refine X0.ldc2Long hx hown (mvT hZ (own_w hw 196 rfl)) (g := (mkF m 38 #[lv (-xa), .second, iv 0, lv (-10000 : Int64), .second, iv 4] [])) rfl (hb hby d10_38) _ ?_
       refine XS.lloadN X0.here hx rfl (hb hby d10_41) rfl ?_
       refine XS.lmul X0.here hx rfl (hb hby d10_42) rfl ?_
       refine XS.lstoreN X0.here hx rfl (hb hby d10_43) rfl (l' := #[lv (-xa), .second, iv 0, lv (-100000 : Int64), .second, iv 4]) rfl ?_
       refine XS.iinc X0.here hx rfl (hb hby d10_44) rfl (l' := #[lv (-xa), .second, iv 0, lv (-100000 : Int64), .second, iv 5]) rfl ?_
       show Steps p.tables e below (s₁.setTop (mkF m 47 #[lv (-xa), .second, iv 0, lv (-100000 : Int64), .second, iv 5] [])) _
       refine XS.goto X0.here hx rfl (pc0 := 47) (pc' := 20) rfl (hb hby d10_47) (by decide) (by decide) ?_
       refine XS.iload X0.here hx rfl (hb hby d10_20) rfl ?_
       refine XS.bipush X0.here hx rfl (hb hby d10_22) ?_
       refine XS.icmpNo X0.here hx rfl (hb hby d10_24) rfl (tlt ((by decide) : (5 : Int32) < (19 : Int32))).2.1 ?_
       refine XS.lloadN X0.here hx rfl (hb hby d10_27) rfl ?_
       refine XS.lloadN X0.here hx rfl (hb hby d10_28) rfl ?_
       show Steps p.tables e below (s₁.setTop (mkF m 29 #[lv (-xa), .second, iv 0, lv (-100000 : Int64), .second, iv 5] [(.long (-100000 : Int64)), (.long (-xa))])) _
       refine XS.lcmp X0.here hx rfl (hb hby d10_29) rfl ?_
       exact k
     by_cases hc30_4 : (-100000 : Int64) < (-xa)
     ·skip
      refine Go.step (S' := s₁.setTop (mkF m 37 #[lv (-xa), .second, iv 0, lv (-100000 : Int64), .second, iv 5] [(.int 5)])) (fun t k => ?_) ?_
      · refine XS.ifNo X0.here hx rfl (hb hby d10_30) rfl ((if0 _ _).trans (tlt ((lw_gt (-xa) (-100000 : Int64)).mpr hc30_4)).2.2.2) ?_
        refine XS.iload X0.here hx rfl (hb hby d10_33) rfl ?_
        refine XS.iloadN X0.here hx rfl (hb hby d10_35) rfl ?_
        refine XS.iadd X0.here hx rfl (hb hby d10_36) rfl ?_
        exact k
      exact Go.rt X0 hx Bd (w := (.int 5)) rfl (Or.inl ⟨rfl, Or.inl rfl, _, rfl⟩) (hb hby d10_37) e0 ⟨(5 : Int32), rfl, N0, rfl, (own_dz5 ua ub hc30_4)⟩
     ·skip
      refine Go.step (S' := s₁.setTop (mkF m 30 #[lv (-xa), .second, iv 0, lv (-1000000 : Int64), .second, iv 6] [(.int (lcmpW (-xa) (-1000000 : Int64)))])) (fun t k => ?_) ?_
      · refine XS.ifYes X0.here hx rfl (pc0 := 30) (pc' := 38) rfl (hb hby d10_30) rfl ((if0 _ _).trans (flt (fun zq => absurd ((lw_gt (-xa) (-100000 : Int64)).mp zq) hc30_4)).2.2.2) (by decide) (by decide) ?_
        refine X0.ldc2Long hx hown (mvT hZ (own_w hw 196 rfl)) (g := (mkF m 38 #[lv (-xa), .second, iv 0, lv (-100000 : Int64), .second, iv 5] [])) rfl (hb hby d10_38) _ ?_
        refine XS.lloadN X0.here hx rfl (hb hby d10_41) rfl ?_
        refine XS.lmul X0.here hx rfl (hb hby d10_42) rfl ?_
        refine XS.lstoreN X0.here hx rfl (hb hby d10_43) rfl (l' := #[lv (-xa), .second, iv 0, lv (-1000000 : Int64), .second, iv 5]) rfl ?_
        refine XS.iinc X0.here hx rfl (hb hby d10_44) rfl (l' := #[lv (-xa), .second, iv 0, lv (-1000000 : Int64), .second, iv 6]) rfl ?_
        show Steps p.tables e below (s₁.setTop (mkF m 47 #[lv (-xa), .second, iv 0, lv (-1000000 : Int64), .second, iv 6] [])) _
        refine XS.goto X0.here hx rfl (pc0 := 47) (pc' := 20) rfl (hb hby d10_47) (by decide) (by decide) ?_
        refine XS.iload X0.here hx rfl (hb hby d10_20) rfl ?_
        refine XS.bipush X0.here hx rfl (hb hby d10_22) ?_
        refine XS.icmpNo X0.here hx rfl (hb hby d10_24) rfl (tlt ((by decide) : (6 : Int32) < (19 : Int32))).2.1 ?_
        refine XS.lloadN X0.here hx rfl (hb hby d10_27) rfl ?_
        refine XS.lloadN X0.here hx rfl (hb hby d10_28) rfl ?_
        show Steps p.tables e below (s₁.setTop (mkF m 29 #[lv (-xa), .second, iv 0, lv (-1000000 : Int64), .second, iv 6] [(.long (-1000000 : Int64)), (.long (-xa))])) _
        refine XS.lcmp X0.here hx rfl (hb hby d10_29) rfl ?_
        exact k
      by_cases hc30_5 : (-1000000 : Int64) < (-xa)
      ·skip
       refine Go.step (S' := s₁.setTop (mkF m 37 #[lv (-xa), .second, iv 0, lv (-1000000 : Int64), .second, iv 6] [(.int 6)])) (fun t k => ?_) ?_
       · refine XS.ifNo X0.here hx rfl (hb hby d10_30) rfl ((if0 _ _).trans (tlt ((lw_gt (-xa) (-1000000 : Int64)).mpr hc30_5)).2.2.2) ?_
         refine XS.iload X0.here hx rfl (hb hby d10_33) rfl ?_
         refine XS.iloadN X0.here hx rfl (hb hby d10_35) rfl ?_
         refine XS.iadd X0.here hx rfl (hb hby d10_36) rfl ?_
         exact k
       exact Go.rt X0 hx Bd (w := (.int 6)) rfl (Or.inl ⟨rfl, Or.inl rfl, _, rfl⟩) (hb hby d10_37) e0 ⟨(6 : Int32), rfl, N0, rfl, (own_dz6 ua ub hc30_5)⟩
      ·skip
       refine Go.step (S' := s₁.setTop (mkF m 30 #[lv (-xa), .second, iv 0, lv (-10000000 : Int64), .second, iv 7] [(.int (lcmpW (-xa) (-10000000 : Int64)))])) (fun t k => ?_) ?_
       · refine XS.ifYes X0.here hx rfl (pc0 := 30) (pc' := 38) rfl (hb hby d10_30) rfl ((if0 _ _).trans (flt (fun zq => absurd ((lw_gt (-xa) (-1000000 : Int64)).mp zq) hc30_5)).2.2.2) (by decide) (by decide) ?_
         refine X0.ldc2Long hx hown (mvT hZ (own_w hw 196 rfl)) (g := (mkF m 38 #[lv (-xa), .second, iv 0, lv (-1000000 : Int64), .second, iv 6] [])) rfl (hb hby d10_38) _ ?_
         refine XS.lloadN X0.here hx rfl (hb hby d10_41) rfl ?_
         refine XS.lmul X0.here hx rfl (hb hby d10_42) rfl ?_
         refine XS.lstoreN X0.here hx rfl (hb hby d10_43) rfl (l' := #[lv (-xa), .second, iv 0, lv (-10000000 : Int64), .second, iv 6]) rfl ?_
         refine XS.iinc X0.here hx rfl (hb hby d10_44) rfl (l' := #[lv (-xa), .second, iv 0, lv (-10000000 : Int64), .second, iv 7]) rfl ?_
         show Steps p.tables e below (s₁.setTop (mkF m 47 #[lv (-xa), .second, iv 0, lv (-10000000 : Int64), .second, iv 7] [])) _
         refine XS.goto X0.here hx rfl (pc0 := 47) (pc' := 20) rfl (hb hby d10_47) (by decide) (by decide) ?_
         refine XS.iload X0.here hx rfl (hb hby d10_20) rfl ?_
         refine XS.bipush X0.here hx rfl (hb hby d10_22) ?_
         refine XS.icmpNo X0.here hx rfl (hb hby d10_24) rfl (tlt ((by decide) : (7 : Int32) < (19 : Int32))).2.1 ?_
         refine XS.lloadN X0.here hx rfl (hb hby d10_27) rfl ?_
         refine XS.lloadN X0.here hx rfl (hb hby d10_28) rfl ?_
         show Steps p.tables e below (s₁.setTop (mkF m 29 #[lv (-xa), .second, iv 0, lv (-10000000 : Int64), .second, iv 7] [(.long (-10000000 : Int64)), (.long (-xa))])) _
         refine XS.lcmp X0.here hx rfl (hb hby d10_29) rfl ?_
         exact k
       by_cases hc30_6 : (-10000000 : Int64) < (-xa)
       ·skip
        refine Go.step (S' := s₁.setTop (mkF m 37 #[lv (-xa), .second, iv 0, lv (-10000000 : Int64), .second, iv 7] [(.int 7)])) (fun t k => ?_) ?_
        · refine XS.ifNo X0.here hx rfl (hb hby d10_30) rfl ((if0 _ _).trans (tlt ((lw_gt (-xa) (-10000000 : Int64)).mpr hc30_6)).2.2.2) ?_
          refine XS.iload X0.here hx rfl (hb hby d10_33) rfl ?_
          refine XS.iloadN X0.here hx rfl (hb hby d10_35) rfl ?_
          refine XS.iadd X0.here hx rfl (hb hby d10_36) rfl ?_
          exact k
        exact Go.rt X0 hx Bd (w := (.int 7)) rfl (Or.inl ⟨rfl, Or.inl rfl, _, rfl⟩) (hb hby d10_37) e0 ⟨(7 : Int32), rfl, N0, rfl, (own_dz7 ua ub hc30_6)⟩
       ·skip
        exact absurd (own_gtl (n := 10000000) ua ub (by decide) (by decide)) hc30_6
theorem own_ia {x : Int64} {i : Int32} (h0 : ¬ x < (0 : Int64)) (h1 : ¬ (1000000 : Int64) < x) (hi : (-x).toInt32 = i) : 0 ≤ x.toInt ∧ x.toInt ≤ 1000000 ∧ i.toInt = -x.toInt := by
  obtain ⟨a, b, d⟩ := own_ngx h0 h1
  subst hi
  have := c_l2i (-x)
  have := rng32 (-x).toInt32
  omega
theorem own_qr {i q r : Int32} (h0 : -1000000 ≤ i.toInt) (h1 : i.toInt ≤ 0) (hq : i / (100 : Int32) = q) (hr : q * (100 : Int32) - i = r) : q.toInt ≤ 0 ∧ -10000 ≤ q.toInt ∧ i.toInt = 100 * q.toInt - r.toInt ∧ 0 ≤ r.toInt ∧ r.toInt < 100 := by
  have a := c_idiv i (100 : Int32) 100 (by decide) (by decide)
  rw [hq] at a
  have b := c_imul q (100 : Int32)
  have b' := rng32 (q * (100 : Int32))
  have d := c_isub (q * (100 : Int32)) i
  rw [hr] at d
  have d' := rng32 r
  simp only [show (100 : Int32).toInt = 100 from rfl] at b
  by_cases z : i.toInt < 0
  · have a2 := a.2 z
    have e1 : (q * (100 : Int32)).toInt = q.toInt * 100 := by omega
    omega
  · have a1 := a.1 (by omega)
    have e1 : (q * (100 : Int32)).toInt = q.toInt * 100 := by omega
    omega
theorem own_le {i : Int32} (h : ¬ (-100 : Int32) < i) : i.toInt ≤ -100 := by
  simp only [Int32.lt_iff_toInt_lt, show (-100 : Int32).toInt = -100 from rfl] at h
  omega
theorem own_gt {i : Int32} (h : (-100 : Int32) < i) : -100 < i.toInt := by
  simp only [Int32.lt_iff_toInt_lt, show (-100 : Int32).toInt = -100 from rfl] at h
  omega
theorem own_l9 {i : Int32} (h : i < (-9 : Int32)) : i.toInt ≤ -10 := by
  simp only [Int32.lt_iff_toInt_lt, show (-9 : Int32).toInt = -9 from rfl] at h
  omega
def own_in (j : Int32) : Prop := 0 ≤ j.toInt ∧ j.toInt < 100
theorem own_i1 {j : Int32} (h : own_in j) : j.toNatClampNeg < 100 := by
  obtain ⟨h1, h2⟩ := h
  have := own_clampI h1
  omega
theorem own_i2 {j : Int32} (h : own_in j) : ¬ j < 0 ∧ j < (100 : Int32) := by
  obtain ⟨h1, h2⟩ := h
  simp only [Int32.lt_iff_toInt_lt, show (0 : Int32).toInt = 0 from rfl, show (100 : Int32).toInt = 100 from rfl]
  omega
theorem own_ng {i : Int32} (h0 : -100 < i.toInt) (h1 : i.toInt ≤ 0) : own_in (-i) := by
  have := c_ineg i
  have := rng32 (-i)
  unfold own_in
  omega
theorem own_pj {x y : Int32} (h : x + (-1 : Int32) = y) (h0 : 1 ≤ x.toInt) : y.toInt = x.toInt - 1 := by
  obtain ⟨k, hk⟩ : ∃ k : Int32, (-1 : Int32) = k := ⟨_, rfl⟩
  have hk1 : k.toInt = -1 := by rw [← hk]; decide
  rw [hk] at h
  subst h
  have := c_iadd x k
  have := rng32 (x + k)
  have := rng32 x
  omega
theorem own_pk (x k : Int32) {n : Int} (hk : k.toInt = n) (h0 : 0 ≤ x.toInt + n) (h1 : n ≤ 0) : (x + k).toInt = x.toInt + n := by
  have := c_iadd x k
  have := rng32 (x + k)
  have := rng32 x
  omega
theorem own_rg {j n : Int32} (h0 : 0 ≤ j.toInt) (h1 : j.toInt < n.toInt) : ¬ j < 0 ∧ j < n := by
  simp only [Int32.lt_iff_toInt_lt, show (0 : Int32).toInt = 0 from rfl]
  omega
theorem own_rl {j n : Int32} {vs : List Value} (h0 : 0 ≤ j.toInt) (h1 : j.toInt < n.toInt) (hl : vs.length = n.toNatClampNeg) : j.toNatClampNeg < vs.length := by
  have := own_clampI h0
  have := own_clampI (x := n) (by omega)
  omega
theorem own_pm {x a b d : Int32} (h : a + b = d) : (x + a) + b = x + d := by rw [Int32.add_assoc, h]
abbrev y_24 : MethodName := ⟨"java/lang/Long", "getChars", "(JI[B)I"⟩
theorem d13_0 : decode jdk_35_method_14_code 0 = .ok (.iload_n 2, 1) := by decide +kernel
theorem d13_1 : decode jdk_35_method_14_code 1 = .ok (.istore 7, 2) := by decide +kernel
theorem d13_3 : decode jdk_35_method_14_code 3 = .ok (.lload_n 0, 1) := by decide +kernel
theorem d13_4 : decode jdk_35_method_14_code 4 = .ok (.lconst 0, 1) := by decide +kernel
theorem d13_5 : decode jdk_35_method_14_code 5 = .ok (.lcmp, 1) := by decide +kernel
theorem d13_6 : decode jdk_35_method_14_code 6 = .ok (.ifCond .ge 7, 3) := by decide +kernel
theorem d13_13 : decode jdk_35_method_14_code 13 = .ok (.iconst 0, 1) := by decide +kernel
theorem d13_14 : decode jdk_35_method_14_code 14 = .ok (.istore 8, 2) := by decide +kernel
theorem d13_16 : decode jdk_35_method_14_code 16 = .ok (.iload 8, 2) := by decide +kernel
theorem d13_18 : decode jdk_35_method_14_code 18 = .ok (.ifCond .ne 6, 3) := by decide +kernel
theorem d13_21 : decode jdk_35_method_14_code 21 = .ok (.lload_n 0, 1) := by decide +kernel
theorem d13_22 : decode jdk_35_method_14_code 22 = .ok (.lneg, 1) := by decide +kernel
theorem d13_23 : decode jdk_35_method_14_code 23 = .ok (.lstore_n 0, 1) := by decide +kernel
theorem d13_24 : decode jdk_35_method_14_code 24 = .ok (.lload_n 0, 1) := by decide +kernel
theorem d13_25 : decode jdk_35_method_14_code 25 = .ok (.ldc2_w 129, 3) := by decide +kernel
theorem d13_28 : decode jdk_35_method_14_code 28 = .ok (.lcmp, 1) := by decide +kernel
theorem d13_29 : decode jdk_35_method_14_code 29 = .ok (.ifCond .gt 53, 3) := by decide +kernel
theorem d13_82 : decode jdk_35_method_14_code 82 = .ok (.lload_n 0, 1) := by decide +kernel
theorem d13_83 : decode jdk_35_method_14_code 83 = .ok (.l2i, 1) := by decide +kernel
theorem d13_84 : decode jdk_35_method_14_code 84 = .ok (.istore 10, 2) := by decide +kernel
theorem d13_86 : decode jdk_35_method_14_code 86 = .ok (.iload 10, 2) := by decide +kernel
theorem d13_88 : decode jdk_35_method_14_code 88 = .ok (.bipush (-100), 2) := by decide +kernel
theorem d13_90 : decode jdk_35_method_14_code 90 = .ok (.if_icmp .gt 53, 3) := by decide +kernel
theorem d13_143 : decode jdk_35_method_14_code 143 = .ok (.aload_n 3, 1) := by decide +kernel
theorem d13_144 : decode jdk_35_method_14_code 144 = .ok (.iinc 7 (-1), 3) := by decide +kernel
theorem d13_147 : decode jdk_35_method_14_code 147 = .ok (.iload 7, 2) := by decide +kernel
theorem d13_149 : decode jdk_35_method_14_code 149 = .ok (.getstatic 133, 3) := by decide +kernel
theorem d13_152 : decode jdk_35_method_14_code 152 = .ok (.iload 10, 2) := by decide +kernel
theorem d13_154 : decode jdk_35_method_14_code 154 = .ok (.ineg, 1) := by decide +kernel
theorem d13_155 : decode jdk_35_method_14_code 155 = .ok (.baload, 1) := by decide +kernel
theorem d13_156 : decode jdk_35_method_14_code 156 = .ok (.bastore, 1) := by decide +kernel
theorem d13_157 : decode jdk_35_method_14_code 157 = .ok (.iload 10, 2) := by decide +kernel
theorem d13_159 : decode jdk_35_method_14_code 159 = .ok (.bipush (-9), 2) := by decide +kernel
theorem d13_161 : decode jdk_35_method_14_code 161 = .ok (.if_icmp .ge 17, 3) := by decide +kernel
theorem d13_164 : decode jdk_35_method_14_code 164 = .ok (.aload_n 3, 1) := by decide +kernel
theorem d13_165 : decode jdk_35_method_14_code 165 = .ok (.iinc 7 (-1), 3) := by decide +kernel
theorem d13_168 : decode jdk_35_method_14_code 168 = .ok (.iload 7, 2) := by decide +kernel
theorem d13_170 : decode jdk_35_method_14_code 170 = .ok (.getstatic 137, 3) := by decide +kernel
theorem d13_173 : decode jdk_35_method_14_code 173 = .ok (.iload 10, 2) := by decide +kernel
theorem d13_175 : decode jdk_35_method_14_code 175 = .ok (.ineg, 1) := by decide +kernel
theorem d13_176 : decode jdk_35_method_14_code 176 = .ok (.baload, 1) := by decide +kernel
theorem d13_177 : decode jdk_35_method_14_code 177 = .ok (.bastore, 1) := by decide +kernel
theorem d13_178 : decode jdk_35_method_14_code 178 = .ok (.iload 8, 2) := by decide +kernel
theorem d13_180 : decode jdk_35_method_14_code 180 = .ok (.ifCond .eq 12, 3) := by decide +kernel
theorem d13_192 : decode jdk_35_method_14_code 192 = .ok (.iload 7, 2) := by decide +kernel
theorem d13_194 : decode jdk_35_method_14_code 194 = .ok (.ireturn, 1) := by decide +kernel
theorem d13_93 : decode jdk_35_method_14_code 93 = .ok (.iload 10, 2) := by decide +kernel
theorem d13_95 : decode jdk_35_method_14_code 95 = .ok (.bipush 100, 2) := by decide +kernel
theorem d13_97 : decode jdk_35_method_14_code 97 = .ok (.idiv, 1) := by decide +kernel
theorem d13_98 : decode jdk_35_method_14_code 98 = .ok (.istore 9, 2) := by decide +kernel
theorem d13_100 : decode jdk_35_method_14_code 100 = .ok (.iload 9, 2) := by decide +kernel
theorem d13_102 : decode jdk_35_method_14_code 102 = .ok (.bipush 100, 2) := by decide +kernel
theorem d13_104 : decode jdk_35_method_14_code 104 = .ok (.imul, 1) := by decide +kernel
theorem d13_105 : decode jdk_35_method_14_code 105 = .ok (.iload 10, 2) := by decide +kernel
theorem d13_107 : decode jdk_35_method_14_code 107 = .ok (.isub, 1) := by decide +kernel
theorem d13_108 : decode jdk_35_method_14_code 108 = .ok (.istore 6, 2) := by decide +kernel
theorem d13_110 : decode jdk_35_method_14_code 110 = .ok (.iload 9, 2) := by decide +kernel
theorem d13_112 : decode jdk_35_method_14_code 112 = .ok (.istore 10, 2) := by decide +kernel
theorem d13_114 : decode jdk_35_method_14_code 114 = .ok (.aload_n 3, 1) := by decide +kernel
theorem d13_115 : decode jdk_35_method_14_code 115 = .ok (.iinc 7 (-1), 3) := by decide +kernel
theorem d13_118 : decode jdk_35_method_14_code 118 = .ok (.iload 7, 2) := by decide +kernel
theorem d13_120 : decode jdk_35_method_14_code 120 = .ok (.getstatic 133, 3) := by decide +kernel
theorem d13_123 : decode jdk_35_method_14_code 123 = .ok (.iload 6, 2) := by decide +kernel
theorem d13_125 : decode jdk_35_method_14_code 125 = .ok (.baload, 1) := by decide +kernel
theorem d13_126 : decode jdk_35_method_14_code 126 = .ok (.bastore, 1) := by decide +kernel
theorem d13_127 : decode jdk_35_method_14_code 127 = .ok (.aload_n 3, 1) := by decide +kernel
theorem d13_128 : decode jdk_35_method_14_code 128 = .ok (.iinc 7 (-1), 3) := by decide +kernel
theorem d13_131 : decode jdk_35_method_14_code 131 = .ok (.iload 7, 2) := by decide +kernel
theorem d13_133 : decode jdk_35_method_14_code 133 = .ok (.getstatic 137, 3) := by decide +kernel
theorem d13_136 : decode jdk_35_method_14_code 136 = .ok (.iload 6, 2) := by decide +kernel
theorem d13_138 : decode jdk_35_method_14_code 138 = .ok (.baload, 1) := by decide +kernel
theorem d13_139 : decode jdk_35_method_14_code 139 = .ok (.bastore, 1) := by decide +kernel
theorem d13_140 : decode jdk_35_method_14_code 140 = .ok (.goto (-54), 3) := by decide +kernel
abbrev rm_rmGc : Room := ({ frames := 0, cells := 0, slots := 0, locals := 0 } : Room)
def Q_rmGc (Z : State) (xa : Int64) (ix : Int32) (da : Addr) (dO : Addr) (kO : ClassId) (vO : List Value) (fO : Nat → Int32) (dT : Addr) (kT : ClassId) (vT : List Value) (fT : Nat → Int32) (kd : ClassId) (nz : Int32) (vs : List Value) (sr : Int32) (h0 : Heap) (n0 : Nat) (v : Option Value) (h : Heap) (L : List Loc) : Prop := ∃ rr : Int32, ∃ vt : List Value, (v = some (.int rr)) ∧ (Fr n0 L) ∧ (Keep h0 h [da]) ∧ (Arv Z h da kd .byte nz vt (.int 0)) ∧ (vt.length = nz.toNatClampNeg)
theorem rmGc (l : Launch) (Z : State) (a0 : Array Value) (hw : HW a0 Z) (ws : List Jvm.Cond) (xa : Int64) (ix : Int32) (da : Addr) (dO : Addr) (kO : ClassId) (vO : List Value) (fO : Nat → Int32) (dT : Addr) (kT : ClassId) (vT : List Value) (fT : Nat → Int32) (kd : ClassId) (nz : Int32) (vs : List Value) (sr : Int32) (h0 : Heap) (n0 : Nat) (O : Old Z n0 h0) (S_DO : Sa_1 Z (.ref dO)) (V_dO : Arv Z Z.heap dO kO .byte (100 : Int32) vO (.int 0)) (S_DT : Sa_2 Z (.ref dT)) (V_dT : Arv Z Z.heap dT kT .byte (100 : Int32) vT (.int 0)) (V_da : Arv Z h0 da kd .byte nz vs (.int 0)) (hvO : ∀ zj : Nat, zj < 100 → vO.getD zj (.int 0) = .int (fO zj)) (hvT : ∀ zj : Nat, zj < 100 → vT.getD zj (.int 0) = .int (fT zj)) (ua : ¬ (xa < (0 : Int64))) (ub : ¬ ((1000000 : Int64) < xa)) (dz : own_dz xa sr) (hix : sr.toInt ≤ ix.toInt ∧ ix.toInt ≤ nz.toInt) (hvl : vs.length = nz.toNatClampNeg) (g_da : n0 ≤ da) :
    Mt l Z y_24 jdk_35_method_14_code 11 (some .int) ws rm_rmGc #[(.long xa), (.int ix), (.ref da)] h0 (Q_rmGc Z xa ix da dO kO vO fO dT kT vT fT kd nz vs sr h0 n0) := by
 refine own_met "java/lang/Long" (plainFor_of_name pn_java_lang_Long) #[lv xa, .second, iv ix, rv da, u_, u_, u_, u_, u_, u_, u_] (fun m => rfl) (fun p e s m below meth c s₁ Bd hx hby hml hZ hown hnm X0 e0 => ?_)
 have N0 := Fr.nil n0
 have K := Keep.refl h0 [da]
 have hsr_0 := own_dzk1 dz (by decide)
 obtain ⟨hix1, hix2⟩ := id hix
 refine Go.step (S' := s₁.setTop (mkF m 86 #[lv (-xa), .second, iv ix, rv da, u_, u_, u_, iv ix, iv 0, u_, iv ((-xa).toInt32)] [])) (fun t k => ?_) ?_
 · refine XS.iloadN X0.here hx rfl (hb hby d13_0) rfl ?_
   refine XS.istore X0.here hx rfl (hb hby d13_1) rfl (l' := #[lv xa, .second, iv ix, rv da, u_, u_, u_, iv ix, u_, u_, u_]) rfl ?_
   refine XS.lloadN X0.here hx rfl (hb hby d13_3) rfl ?_
   refine XS.lconst X0.here hx rfl (hb hby d13_4) ?_
   refine XS.lcmp X0.here hx rfl (hb hby d13_5) rfl ?_
   refine XS.ifYes X0.here hx rfl (pc0 := 6) (pc' := 13) rfl (hb hby d13_6) rfl ((if0 _ _).trans (flt (fun zq => absurd ((lw_lt xa (0 : Int64)).mp zq) ua)).2.1) (by decide) (by decide) ?_
   show Steps p.tables e below (s₁.setTop (mkF m 13 #[lv xa, .second, iv ix, rv da, u_, u_, u_, iv ix, u_, u_, u_] [])) _
   refine XS.iconst X0.here hx rfl (hb hby d13_13) ?_
   refine XS.istore X0.here hx rfl (hb hby d13_14) rfl (l' := #[lv xa, .second, iv ix, rv da, u_, u_, u_, iv ix, iv 0, u_, u_]) rfl ?_
   refine XS.iload X0.here hx rfl (hb hby d13_16) rfl ?_
   refine XS.ifNo X0.here hx rfl (hb hby d13_18) rfl ((if0 _ _).trans (teq ((by decide) : (0 : Int32) = (0 : Int32))).2) ?_
   refine XS.lloadN X0.here hx rfl (hb hby d13_21) rfl ?_
   refine XS.lneg X0.here hx rfl (hb hby d13_22) rfl ?_
   show Steps p.tables e below (s₁.setTop (mkF m 23 #[lv xa, .second, iv ix, rv da, u_, u_, u_, iv ix, iv 0, u_, u_] [(.long (-xa))])) _
   refine XS.lstoreN X0.here hx rfl (hb hby d13_23) rfl (l' := #[lv (-xa), .second, iv ix, rv da, u_, u_, u_, iv ix, iv 0, u_, u_]) rfl ?_
   refine XS.lloadN X0.here hx rfl (hb hby d13_24) rfl ?_
   refine X0.ldc2Long hx hown (mvT hZ (own_w hw 81 rfl)) (g := (mkF m 25 #[lv (-xa), .second, iv ix, rv da, u_, u_, u_, iv ix, iv 0, u_, u_] [(.long (-xa))])) rfl (hb hby d13_25) _ ?_
   refine XS.lcmp X0.here hx rfl (hb hby d13_28) rfl ?_
   refine XS.ifYes X0.here hx rfl (pc0 := 29) (pc' := 82) rfl (hb hby d13_29) rfl ((if0 _ _).trans (tlt ((lw_gt (-xa) (-2147483648 : Int64)).mpr (own_gtl (n := 2147483648) ua ub (by decide) (by decide)))).2.2.1) (by decide) (by decide) ?_
   refine XS.lloadN X0.here hx rfl (hb hby d13_82) rfl ?_
   show Steps p.tables e below (s₁.setTop (mkF m 83 #[lv (-xa), .second, iv ix, rv da, u_, u_, u_, iv ix, iv 0, u_, u_] [(.long (-xa))])) _
   refine XS.l2i X0.here hx rfl (hb hby d13_83) rfl ?_
   refine XS.istore X0.here hx rfl (hb hby d13_84) rfl (l' := #[lv (-xa), .second, iv ix, rv da, u_, u_, u_, iv ix, iv 0, u_, iv ((-xa).toInt32)]) rfl ?_
   exact k
 obtain ⟨ia, hd_ia⟩ : ∃ z : Int32, ((-xa).toInt32) = z := ⟨_, rfl⟩
 rw [hd_ia]
 show Go p e below _ (s₁.setTop (mkF m 86 #[lv (-xa), .second, iv ix, rv da, u_, u_, u_, iv ix, iv 0, u_, iv ia] []))
 obtain ⟨hx0, hx1, hi0⟩ := own_ia ua ub hd_ia
 refine Go.step (S' := s₁.setTop (mkF m 90 #[lv (-xa), .second, iv ix, rv da, u_, u_, u_, iv ix, iv 0, u_, iv ia] [(.int (-100)), (.int ia)])) (fun t k => ?_) ?_
 · refine XS.iload X0.here hx rfl (hb hby d13_86) rfl ?_
   refine XS.bipush X0.here hx rfl (hb hby d13_88) ?_
   exact k
 by_cases hc90 : (-100 : Int32) < ia
 ·skip
  refine Go.step (S' := s₁.setTop (mkF m 143 #[lv (-xa), .second, iv ix, rv da, u_, u_, u_, iv ix, iv 0, u_, iv ia] [])) (fun t k => ?_) ?_
  · refine XS.icmpYes X0.here hx rfl (pc0 := 90) (pc' := 143) rfl (hb hby d13_90) rfl (tlt (hc90 : (-100 : Int32) < ia)).2.2.1 (by decide) (by decide) ?_
    exact k
  have hgx := own_gt hc90
  have hz_n := own_ng (i := ia) (by omega) (by omega)
  refine Go.step (S' := s₁.setTop (mkF m 147 #[lv (-xa), .second, iv ix, rv da, u_, u_, u_, iv (ix + (-1 : Int32)), iv 0, u_, iv ia] [(.ref da)])) (fun t k => ?_) ?_
  · refine XS.aloadN X0.here hx rfl (hb hby d13_143) rfl rfl ?_
    refine XS.iinc X0.here hx rfl (hb hby d13_144) rfl (l' := #[lv (-xa), .second, iv ix, rv da, u_, u_, u_, iv (ix + (-1 : Int32)), iv 0, u_, iv ia]) rfl ?_
    exact k
  obtain ⟨j1_, hd_j1_⟩ : ∃ z : Int32, (ix + (-1 : Int32)) = z := ⟨_, rfl⟩
  rw [hd_j1_]
  show Go p e below _ (s₁.setTop (mkF m 147 #[lv (-xa), .second, iv ix, rv da, u_, u_, u_, iv j1_, iv 0, u_, iv ia] [(.ref da)]))
  have hj_1 := own_pj hd_j1_ (by omega)
  refine Go.step (S' := s₁.setTop (mkF m 149 #[lv (-xa), .second, iv ix, rv da, u_, u_, u_, iv j1_, iv 0, u_, iv ia] [(.int j1_), (.ref da)])) (fun t k => ?_) ?_
  · refine XS.iload X0.here hx rfl (hb hby d13_147) rfl ?_
    exact k
  refine Go.gS X0 hx hZ hown (host := "") (Or.inl (own_w hw 82 rfl)) Via.refl e0 (S_DO.ext O.2) (hb hby d13_149) (fun T1 X1 e1 => ?_)
  refine Go.step (S' := T1.setTop (mkF m 155 #[lv (-xa), .second, iv ix, rv da, u_, u_, u_, iv j1_, iv 0, u_, iv ia] [(.int (-ia)), (.ref dO), (.int j1_), (.ref da)])) (fun t k => ?_) ?_
  · refine XS.iload X1.here hx rfl (hb hby d13_152) rfl ?_
    refine XS.ineg X1.here hx rfl (hb hby d13_154) rfl ?_
    exact k
  refine Go.bal X1 hx hZ e1 (V_dO.ext O.2) (hb hby d13_155) (v := (.int (fO (-ia).toNatClampNeg))) (hvO _ (own_i1 hz_n)) ?_ (own_i2 hz_n)
  refine Go.bst X1 hx hZ e1 V_da (hb hby d13_156) (own_rg (by omega) (by omega)) (own_rl (n := nz) (by omega) (by omega) (by simp [hvl])) (fun T3 h3 X3 e3 W3 V3 => ?_)
  have O := O.wr W3 g_da
  have K := K.wr W3 (Or.inl (List.mem_of_getElem? (i := 0) rfl))
  have V_da : Arv Z h3 da kd .byte nz (vs.set j1_.toNatClampNeg (.int (nar .byte (fO (-ia).toNatClampNeg)))) (.int 0) := id V3
  have N3 := Fr.snoc X3 N0 g_da
  refine Go.step (S' := T3.setTop (mkF m 161 #[lv (-xa), .second, iv ix, rv da, u_, u_, u_, iv j1_, iv 0, u_, iv ia] [(.int (-9)), (.int ia)])) (fun t k => ?_) ?_
  · refine XS.iload X3.here hx rfl (hb hby d13_157) rfl ?_
    refine XS.bipush X3.here hx rfl (hb hby d13_159) ?_
    exact k
  by_cases hc161 : ia < (-9 : Int32)
  ·skip
   refine Go.step (S' := T3.setTop (mkF m 164 #[lv (-xa), .second, iv ix, rv da, u_, u_, u_, iv j1_, iv 0, u_, iv ia] [])) (fun t k => ?_) ?_
   · refine XS.icmpNo X3.here hx rfl (hb hby d13_161) rfl (tlt (hc161 : ia < (-9 : Int32))).2.1 ?_
     exact k
   have hgy := own_l9 hc161
   have hsry := own_dzk2 dz (by omega)
   refine Go.step (S' := T3.setTop (mkF m 168 #[lv (-xa), .second, iv ix, rv da, u_, u_, u_, iv (j1_ + (-1 : Int32)), iv 0, u_, iv ia] [(.ref da)])) (fun t k => ?_) ?_
   · refine XS.aloadN X3.here hx rfl (hb hby d13_164) rfl rfl ?_
     refine XS.iinc X3.here hx rfl (hb hby d13_165) rfl (l' := #[lv (-xa), .second, iv ix, rv da, u_, u_, u_, iv (j1_ + (-1 : Int32)), iv 0, u_, iv ia]) rfl ?_
     exact k
   obtain ⟨j2_, hd_j2_⟩ : ∃ z : Int32, (j1_ + (-1 : Int32)) = z := ⟨_, rfl⟩
   rw [hd_j2_]
   show Go p e below _ (T3.setTop (mkF m 168 #[lv (-xa), .second, iv ix, rv da, u_, u_, u_, iv j2_, iv 0, u_, iv ia] [(.ref da)]))
   have hj_2 := own_pj hd_j2_ (by omega)
   refine Go.step (S' := T3.setTop (mkF m 170 #[lv (-xa), .second, iv ix, rv da, u_, u_, u_, iv j2_, iv 0, u_, iv ia] [(.int j2_), (.ref da)])) (fun t k => ?_) ?_
   · refine XS.iload X3.here hx rfl (hb hby d13_168) rfl ?_
     exact k
   refine Go.gS X3 hx hZ hown (host := "") (Or.inl (own_w hw 199 rfl)) Via.refl e3 (S_DT.ext O.2) (hb hby d13_170) (fun T4 X4 e4 => ?_)
   refine Go.step (S' := T4.setTop (mkF m 176 #[lv (-xa), .second, iv ix, rv da, u_, u_, u_, iv j2_, iv 0, u_, iv ia] [(.int (-ia)), (.ref dT), (.int j2_), (.ref da)])) (fun t k => ?_) ?_
   · refine XS.iload X4.here hx rfl (hb hby d13_173) rfl ?_
     refine XS.ineg X4.here hx rfl (hb hby d13_175) rfl ?_
     exact k
   refine Go.bal X4 hx hZ e4 (V_dT.ext O.2) (hb hby d13_176) (v := (.int (fT (-ia).toNatClampNeg))) (hvT _ (own_i1 hz_n)) ?_ (own_i2 hz_n)
   refine Go.bst X4 hx hZ e4 V_da (hb hby d13_177) (own_rg (by omega) (by omega)) (own_rl (n := nz) (by omega) (by omega) (by simp [hvl])) (fun T6 h6 X6 e6 W6 V6 => ?_)
   have O := O.wr W6 g_da
   have K := K.wr W6 (Or.inl (List.mem_of_getElem? (i := 0) rfl))
   have V_da : Arv Z h6 da kd .byte nz ((vs.set j1_.toNatClampNeg (.int (nar .byte (fO (-ia).toNatClampNeg)))).set j2_.toNatClampNeg (.int (nar .byte (fT (-ia).toNatClampNeg)))) (.int 0) := id V6
   have N6 := Fr.snoc X6 N3 g_da
   refine Go.step (S' := T6.setTop (mkF m 194 #[lv (-xa), .second, iv ix, rv da, u_, u_, u_, iv j2_, iv 0, u_, iv ia] [(.int j2_)])) (fun t k => ?_) ?_
   · refine XS.iload X6.here hx rfl (hb hby d13_178) rfl ?_
     refine XS.ifYes X6.here hx rfl (pc0 := 180) (pc' := 192) rfl (hb hby d13_180) rfl ((if0 _ _).trans (teq ((by decide) : (0 : Int32) = (0 : Int32))).1) (by decide) (by decide) ?_
     refine XS.iload X6.here hx rfl (hb hby d13_192) rfl ?_
     exact k
   exact Go.rt X6 hx Bd (w := (.int j2_)) rfl (Or.inl ⟨rfl, Or.inl rfl, _, rfl⟩) (hb hby d13_194) e6 ⟨j2_, ((vs.set j1_.toNatClampNeg (.int (nar .byte (fO (-ia).toNatClampNeg)))).set j2_.toNatClampNeg (.int (nar .byte (fT (-ia).toNatClampNeg)))), rfl, N6, K, V_da, (by simp [hvl])⟩
  ·skip
   refine Go.step (S' := T3.setTop (mkF m 194 #[lv (-xa), .second, iv ix, rv da, u_, u_, u_, iv j1_, iv 0, u_, iv ia] [(.int j1_)])) (fun t k => ?_) ?_
   · refine XS.icmpYes X3.here hx rfl (pc0 := 161) (pc' := 178) rfl (hb hby d13_161) rfl (flt (hc161 : ¬ (ia < (-9 : Int32)))).2.1 (by decide) (by decide) ?_
     refine XS.iload X3.here hx rfl (hb hby d13_178) rfl ?_
     refine XS.ifYes X3.here hx rfl (pc0 := 180) (pc' := 192) rfl (hb hby d13_180) rfl ((if0 _ _).trans (teq ((by decide) : (0 : Int32) = (0 : Int32))).1) (by decide) (by decide) ?_
     refine XS.iload X3.here hx rfl (hb hby d13_192) rfl ?_
     exact k
   exact Go.rt X3 hx Bd (w := (.int j1_)) rfl (Or.inl ⟨rfl, Or.inl rfl, _, rfl⟩) (hb hby d13_194) e3 ⟨j1_, (vs.set j1_.toNatClampNeg (.int (nar .byte (fO (-ia).toNatClampNeg)))), rfl, N3, K, V_da, (by simp [hvl])⟩
 ·skip
  refine Go.step (S' := s₁.setTop (mkF m 100 #[lv (-xa), .second, iv ix, rv da, u_, u_, u_, iv ix, iv 0, iv (ia / (100 : Int32)), iv ia] [])) (fun t k => ?_) ?_
  · refine XS.icmpNo X0.here hx rfl (hb hby d13_90) rfl (flt (hc90 : ¬ ((-100 : Int32) < ia))).2.2.1 ?_
    refine XS.iload X0.here hx rfl (hb hby d13_93) rfl ?_
    refine XS.bipush X0.here hx rfl (hb hby d13_95) ?_
    refine XS.idiv X0.here hx rfl (hb hby d13_97) rfl (by decide) ?_
    refine XS.istore X0.here hx rfl (hb hby d13_98) rfl (l' := #[lv (-xa), .second, iv ix, rv da, u_, u_, u_, iv ix, iv 0, iv (ia / (100 : Int32)), iv ia]) rfl ?_
    exact k
  have hl_1 := own_le hc90
  show Go p e below _ (s₁.setTop (mkF m 100 #[lv (-xa), .second, iv ix, rv da, u_, u_, u_, iv ix, iv 0, iv (ia / (100 : Int32)), iv ia] []))
  obtain ⟨q1_, hd_q1_⟩ : ∃ z : Int32, (ia / (100 : Int32)) = z := ⟨_, rfl⟩
  rw [hd_q1_]
  show Go p e below _ (s₁.setTop (mkF m 100 #[lv (-xa), .second, iv ix, rv da, u_, u_, u_, iv ix, iv 0, iv q1_, iv ia] []))
  refine Go.step (S' := s₁.setTop (mkF m 110 #[lv (-xa), .second, iv ix, rv da, u_, u_, iv ((q1_ * (100 : Int32)) - ia), iv ix, iv 0, iv q1_, iv ia] [])) (fun t k => ?_) ?_
  · refine XS.iload X0.here hx rfl (hb hby d13_100) rfl ?_
    refine XS.bipush X0.here hx rfl (hb hby d13_102) ?_
    refine XS.imul X0.here hx rfl (hb hby d13_104) rfl ?_
    refine XS.iload X0.here hx rfl (hb hby d13_105) rfl ?_
    refine XS.isub X0.here hx rfl (hb hby d13_107) rfl ?_
    refine XS.istore X0.here hx rfl (hb hby d13_108) rfl (l' := #[lv (-xa), .second, iv ix, rv da, u_, u_, iv ((q1_ * (100 : Int32)) - ia), iv ix, iv 0, iv q1_, iv ia]) rfl ?_
    exact k
  obtain ⟨r1_, hd_r1_⟩ : ∃ z : Int32, ((q1_ * (100 : Int32)) - ia) = z := ⟨_, rfl⟩
  rw [hd_r1_]
  show Go p e below _ (s₁.setTop (mkF m 110 #[lv (-xa), .second, iv ix, rv da, u_, u_, iv r1_, iv ix, iv 0, iv q1_, iv ia] []))
  obtain ⟨hqa_1, hqb_1, hqc_1, hqd_1, hqe_1⟩ := own_qr (by omega) (by omega) hd_q1_ hd_r1_
  have hz_r1_ : own_in r1_ := And.intro hqd_1 hqe_1
  have hsr_1 := own_dzk3 dz (by omega)
  refine Go.step (S' := s₁.setTop (mkF m 118 #[lv (-xa), .second, iv ix, rv da, u_, u_, iv r1_, iv (ix + (-1 : Int32)), iv 0, iv q1_, iv q1_] [(.ref da)])) (fun t k => ?_) ?_
  · refine XS.iload X0.here hx rfl (hb hby d13_110) rfl ?_
    refine XS.istore X0.here hx rfl (hb hby d13_112) rfl (l' := #[lv (-xa), .second, iv ix, rv da, u_, u_, iv r1_, iv ix, iv 0, iv q1_, iv q1_]) rfl ?_
    refine XS.aloadN X0.here hx rfl (hb hby d13_114) rfl rfl ?_
    refine XS.iinc X0.here hx rfl (hb hby d13_115) rfl (l' := #[lv (-xa), .second, iv ix, rv da, u_, u_, iv r1_, iv (ix + (-1 : Int32)), iv 0, iv q1_, iv q1_]) rfl ?_
    exact k
  obtain ⟨j1_, hd_j1_⟩ : ∃ z : Int32, (ix + (-1 : Int32)) = z := ⟨_, rfl⟩
  rw [hd_j1_]
  show Go p e below _ (s₁.setTop (mkF m 118 #[lv (-xa), .second, iv ix, rv da, u_, u_, iv r1_, iv j1_, iv 0, iv q1_, iv q1_] [(.ref da)]))
  have hj_1 := own_pj hd_j1_ (by omega)
  refine Go.step (S' := s₁.setTop (mkF m 120 #[lv (-xa), .second, iv ix, rv da, u_, u_, iv r1_, iv j1_, iv 0, iv q1_, iv q1_] [(.int j1_), (.ref da)])) (fun t k => ?_) ?_
  · refine XS.iload X0.here hx rfl (hb hby d13_118) rfl ?_
    exact k
  refine Go.gS X0 hx hZ hown (host := "") (Or.inl (own_w hw 82 rfl)) Via.refl e0 (S_DO.ext O.2) (hb hby d13_120) (fun T7 X7 e7 => ?_)
  refine Go.step (S' := T7.setTop (mkF m 125 #[lv (-xa), .second, iv ix, rv da, u_, u_, iv r1_, iv j1_, iv 0, iv q1_, iv q1_] [(.int r1_), (.ref dO), (.int j1_), (.ref da)])) (fun t k => ?_) ?_
  · refine XS.iload X7.here hx rfl (hb hby d13_123) rfl ?_
    exact k
  refine Go.bal X7 hx hZ e7 (V_dO.ext O.2) (hb hby d13_125) (v := (.int (fO r1_.toNatClampNeg))) (hvO _ (own_i1 hz_r1_)) ?_ (own_i2 hz_r1_)
  refine Go.bst X7 hx hZ e7 V_da (hb hby d13_126) (own_rg (by omega) (by omega)) (own_rl (n := nz) (by omega) (by omega) (by simp [hvl])) (fun T9 h9 X9 e9 W9 V9 => ?_)
  have O := O.wr W9 g_da
  have K := K.wr W9 (Or.inl (List.mem_of_getElem? (i := 0) rfl))
  have V_da : Arv Z h9 da kd .byte nz (vs.set j1_.toNatClampNeg (.int (nar .byte (fO r1_.toNatClampNeg)))) (.int 0) := id V9
  have N9 := Fr.snoc X9 N0 g_da
  refine Go.step (S' := T9.setTop (mkF m 131 #[lv (-xa), .second, iv ix, rv da, u_, u_, iv r1_, iv (j1_ + (-1 : Int32)), iv 0, iv q1_, iv q1_] [(.ref da)])) (fun t k => ?_) ?_
  · refine XS.aloadN X9.here hx rfl (hb hby d13_127) rfl rfl ?_
    refine XS.iinc X9.here hx rfl (hb hby d13_128) rfl (l' := #[lv (-xa), .second, iv ix, rv da, u_, u_, iv r1_, iv (j1_ + (-1 : Int32)), iv 0, iv q1_, iv q1_]) rfl ?_
    exact k
  obtain ⟨j2_, hd_j2_⟩ : ∃ z : Int32, (j1_ + (-1 : Int32)) = z := ⟨_, rfl⟩
  rw [hd_j2_]
  show Go p e below _ (T9.setTop (mkF m 131 #[lv (-xa), .second, iv ix, rv da, u_, u_, iv r1_, iv j2_, iv 0, iv q1_, iv q1_] [(.ref da)]))
  have hj_2 := own_pj hd_j2_ (by omega)
  refine Go.step (S' := T9.setTop (mkF m 133 #[lv (-xa), .second, iv ix, rv da, u_, u_, iv r1_, iv j2_, iv 0, iv q1_, iv q1_] [(.int j2_), (.ref da)])) (fun t k => ?_) ?_
  · refine XS.iload X9.here hx rfl (hb hby d13_131) rfl ?_
    exact k
  refine Go.gS X9 hx hZ hown (host := "") (Or.inl (own_w hw 199 rfl)) Via.refl e9 (S_DT.ext O.2) (hb hby d13_133) (fun T10 X10 e10 => ?_)
  refine Go.step (S' := T10.setTop (mkF m 138 #[lv (-xa), .second, iv ix, rv da, u_, u_, iv r1_, iv j2_, iv 0, iv q1_, iv q1_] [(.int r1_), (.ref dT), (.int j2_), (.ref da)])) (fun t k => ?_) ?_
  · refine XS.iload X10.here hx rfl (hb hby d13_136) rfl ?_
    exact k
  refine Go.bal X10 hx hZ e10 (V_dT.ext O.2) (hb hby d13_138) (v := (.int (fT r1_.toNatClampNeg))) (hvT _ (own_i1 hz_r1_)) ?_ (own_i2 hz_r1_)
  refine Go.bst X10 hx hZ e10 V_da (hb hby d13_139) (own_rg (by omega) (by omega)) (own_rl (n := nz) (by omega) (by omega) (by simp [hvl])) (fun T12 h12 X12 e12 W12 V12 => ?_)
  have O := O.wr W12 g_da
  have K := K.wr W12 (Or.inl (List.mem_of_getElem? (i := 0) rfl))
  have V_da : Arv Z h12 da kd .byte nz ((vs.set j1_.toNatClampNeg (.int (nar .byte (fO r1_.toNatClampNeg)))).set j2_.toNatClampNeg (.int (nar .byte (fT r1_.toNatClampNeg)))) (.int 0) := id V12
  have N12 := Fr.snoc X12 N9 g_da
  refine Go.step (S' := T12.setTop (mkF m 90 #[lv (-xa), .second, iv ix, rv da, u_, u_, iv r1_, iv j2_, iv 0, iv q1_, iv q1_] [(.int (-100)), (.int q1_)])) (fun t k => ?_) ?_
  · refine XS.goto X12.here hx rfl (pc0 := 140) (pc' := 86) rfl (hb hby d13_140) (by decide) (by decide) ?_
    refine XS.iload X12.here hx rfl (hb hby d13_86) rfl ?_
    refine XS.bipush X12.here hx rfl (hb hby d13_88) ?_
    exact k
  by_cases hc90_1 : (-100 : Int32) < q1_
  ·skip
   refine Go.step (S' := T12.setTop (mkF m 143 #[lv (-xa), .second, iv ix, rv da, u_, u_, iv r1_, iv j2_, iv 0, iv q1_, iv q1_] [])) (fun t k => ?_) ?_
   · refine XS.icmpYes X12.here hx rfl (pc0 := 90) (pc' := 143) rfl (hb hby d13_90) rfl (tlt (hc90_1 : (-100 : Int32) < q1_)).2.2.1 (by decide) (by decide) ?_
     exact k
   have hgx := own_gt hc90_1
   have hz_n := own_ng (i := q1_) (by omega) (by omega)
   refine Go.step (S' := T12.setTop (mkF m 147 #[lv (-xa), .second, iv ix, rv da, u_, u_, iv r1_, iv (j2_ + (-1 : Int32)), iv 0, iv q1_, iv q1_] [(.ref da)])) (fun t k => ?_) ?_
   · refine XS.aloadN X12.here hx rfl (hb hby d13_143) rfl rfl ?_
     refine XS.iinc X12.here hx rfl (hb hby d13_144) rfl (l' := #[lv (-xa), .second, iv ix, rv da, u_, u_, iv r1_, iv (j2_ + (-1 : Int32)), iv 0, iv q1_, iv q1_]) rfl ?_
     exact k
   obtain ⟨j3_, hd_j3_⟩ : ∃ z : Int32, (j2_ + (-1 : Int32)) = z := ⟨_, rfl⟩
   rw [hd_j3_]
   show Go p e below _ (T12.setTop (mkF m 147 #[lv (-xa), .second, iv ix, rv da, u_, u_, iv r1_, iv j3_, iv 0, iv q1_, iv q1_] [(.ref da)]))
   have hj_3 := own_pj hd_j3_ (by omega)
   refine Go.step (S' := T12.setTop (mkF m 149 #[lv (-xa), .second, iv ix, rv da, u_, u_, iv r1_, iv j3_, iv 0, iv q1_, iv q1_] [(.int j3_), (.ref da)])) (fun t k => ?_) ?_
   · refine XS.iload X12.here hx rfl (hb hby d13_147) rfl ?_
     exact k
   refine Go.gS X12 hx hZ hown (host := "") (Or.inl (own_w hw 82 rfl)) Via.refl e12 (S_DO.ext O.2) (hb hby d13_149) (fun T13 X13 e13 => ?_)
   refine Go.step (S' := T13.setTop (mkF m 155 #[lv (-xa), .second, iv ix, rv da, u_, u_, iv r1_, iv j3_, iv 0, iv q1_, iv q1_] [(.int (-q1_)), (.ref dO), (.int j3_), (.ref da)])) (fun t k => ?_) ?_
   · refine XS.iload X13.here hx rfl (hb hby d13_152) rfl ?_
     refine XS.ineg X13.here hx rfl (hb hby d13_154) rfl ?_
     exact k
   refine Go.bal X13 hx hZ e13 (V_dO.ext O.2) (hb hby d13_155) (v := (.int (fO (-q1_).toNatClampNeg))) (hvO _ (own_i1 hz_n)) ?_ (own_i2 hz_n)
   refine Go.bst X13 hx hZ e13 V_da (hb hby d13_156) (own_rg (by omega) (by omega)) (own_rl (n := nz) (by omega) (by omega) (by simp [hvl])) (fun T15 h15 X15 e15 W15 V15 => ?_)
   have O := O.wr W15 g_da
   have K := K.wr W15 (Or.inl (List.mem_of_getElem? (i := 0) rfl))
   have V_da : Arv Z h15 da kd .byte nz (((vs.set j1_.toNatClampNeg (.int (nar .byte (fO r1_.toNatClampNeg)))).set j2_.toNatClampNeg (.int (nar .byte (fT r1_.toNatClampNeg)))).set j3_.toNatClampNeg (.int (nar .byte (fO (-q1_).toNatClampNeg)))) (.int 0) := id V15
   have N15 := Fr.snoc X15 N12 g_da
   refine Go.step (S' := T15.setTop (mkF m 161 #[lv (-xa), .second, iv ix, rv da, u_, u_, iv r1_, iv j3_, iv 0, iv q1_, iv q1_] [(.int (-9)), (.int q1_)])) (fun t k => ?_) ?_
   · refine XS.iload X15.here hx rfl (hb hby d13_157) rfl ?_
     refine XS.bipush X15.here hx rfl (hb hby d13_159) ?_
     exact k
   by_cases hc161 : q1_ < (-9 : Int32)
   ·skip
    refine Go.step (S' := T15.setTop (mkF m 164 #[lv (-xa), .second, iv ix, rv da, u_, u_, iv r1_, iv j3_, iv 0, iv q1_, iv q1_] [])) (fun t k => ?_) ?_
    · refine XS.icmpNo X15.here hx rfl (hb hby d13_161) rfl (tlt (hc161 : q1_ < (-9 : Int32))).2.1 ?_
      exact k
    have hgy := own_l9 hc161
    have hsry := own_dzk4 dz (by omega)
    refine Go.step (S' := T15.setTop (mkF m 168 #[lv (-xa), .second, iv ix, rv da, u_, u_, iv r1_, iv (j3_ + (-1 : Int32)), iv 0, iv q1_, iv q1_] [(.ref da)])) (fun t k => ?_) ?_
    · refine XS.aloadN X15.here hx rfl (hb hby d13_164) rfl rfl ?_
      refine XS.iinc X15.here hx rfl (hb hby d13_165) rfl (l' := #[lv (-xa), .second, iv ix, rv da, u_, u_, iv r1_, iv (j3_ + (-1 : Int32)), iv 0, iv q1_, iv q1_]) rfl ?_
      exact k
    obtain ⟨j4_, hd_j4_⟩ : ∃ z : Int32, (j3_ + (-1 : Int32)) = z := ⟨_, rfl⟩
    rw [hd_j4_]
    show Go p e below _ (T15.setTop (mkF m 168 #[lv (-xa), .second, iv ix, rv da, u_, u_, iv r1_, iv j4_, iv 0, iv q1_, iv q1_] [(.ref da)]))
    have hj_4 := own_pj hd_j4_ (by omega)
    refine Go.step (S' := T15.setTop (mkF m 170 #[lv (-xa), .second, iv ix, rv da, u_, u_, iv r1_, iv j4_, iv 0, iv q1_, iv q1_] [(.int j4_), (.ref da)])) (fun t k => ?_) ?_
    · refine XS.iload X15.here hx rfl (hb hby d13_168) rfl ?_
      exact k
    refine Go.gS X15 hx hZ hown (host := "") (Or.inl (own_w hw 199 rfl)) Via.refl e15 (S_DT.ext O.2) (hb hby d13_170) (fun T16 X16 e16 => ?_)
    refine Go.step (S' := T16.setTop (mkF m 176 #[lv (-xa), .second, iv ix, rv da, u_, u_, iv r1_, iv j4_, iv 0, iv q1_, iv q1_] [(.int (-q1_)), (.ref dT), (.int j4_), (.ref da)])) (fun t k => ?_) ?_
    · refine XS.iload X16.here hx rfl (hb hby d13_173) rfl ?_
      refine XS.ineg X16.here hx rfl (hb hby d13_175) rfl ?_
      exact k
    refine Go.bal X16 hx hZ e16 (V_dT.ext O.2) (hb hby d13_176) (v := (.int (fT (-q1_).toNatClampNeg))) (hvT _ (own_i1 hz_n)) ?_ (own_i2 hz_n)
    refine Go.bst X16 hx hZ e16 V_da (hb hby d13_177) (own_rg (by omega) (by omega)) (own_rl (n := nz) (by omega) (by omega) (by simp [hvl])) (fun T18 h18 X18 e18 W18 V18 => ?_)
    have O := O.wr W18 g_da
    have K := K.wr W18 (Or.inl (List.mem_of_getElem? (i := 0) rfl))
    have V_da : Arv Z h18 da kd .byte nz ((((vs.set j1_.toNatClampNeg (.int (nar .byte (fO r1_.toNatClampNeg)))).set j2_.toNatClampNeg (.int (nar .byte (fT r1_.toNatClampNeg)))).set j3_.toNatClampNeg (.int (nar .byte (fO (-q1_).toNatClampNeg)))).set j4_.toNatClampNeg (.int (nar .byte (fT (-q1_).toNatClampNeg)))) (.int 0) := id V18
    have N18 := Fr.snoc X18 N15 g_da
    refine Go.step (S' := T18.setTop (mkF m 194 #[lv (-xa), .second, iv ix, rv da, u_, u_, iv r1_, iv j4_, iv 0, iv q1_, iv q1_] [(.int j4_)])) (fun t k => ?_) ?_
    · refine XS.iload X18.here hx rfl (hb hby d13_178) rfl ?_
      refine XS.ifYes X18.here hx rfl (pc0 := 180) (pc' := 192) rfl (hb hby d13_180) rfl ((if0 _ _).trans (teq ((by decide) : (0 : Int32) = (0 : Int32))).1) (by decide) (by decide) ?_
      refine XS.iload X18.here hx rfl (hb hby d13_192) rfl ?_
      exact k
    exact Go.rt X18 hx Bd (w := (.int j4_)) rfl (Or.inl ⟨rfl, Or.inl rfl, _, rfl⟩) (hb hby d13_194) e18 ⟨j4_, ((((vs.set j1_.toNatClampNeg (.int (nar .byte (fO r1_.toNatClampNeg)))).set j2_.toNatClampNeg (.int (nar .byte (fT r1_.toNatClampNeg)))).set j3_.toNatClampNeg (.int (nar .byte (fO (-q1_).toNatClampNeg)))).set j4_.toNatClampNeg (.int (nar .byte (fT (-q1_).toNatClampNeg)))), rfl, N18, K, V_da, (by simp [hvl])⟩
   ·skip
    refine Go.step (S' := T15.setTop (mkF m 194 #[lv (-xa), .second, iv ix, rv da, u_, u_, iv r1_, iv j3_, iv 0, iv q1_, iv q1_] [(.int j3_)])) (fun t k => ?_) ?_
    · refine XS.icmpYes X15.here hx rfl (pc0 := 161) (pc' := 178) rfl (hb hby d13_161) rfl (flt (hc161 : ¬ (q1_ < (-9 : Int32)))).2.1 (by decide) (by decide) ?_
      refine XS.iload X15.here hx rfl (hb hby d13_178) rfl ?_
      refine XS.ifYes X15.here hx rfl (pc0 := 180) (pc' := 192) rfl (hb hby d13_180) rfl ((if0 _ _).trans (teq ((by decide) : (0 : Int32) = (0 : Int32))).1) (by decide) (by decide) ?_
      refine XS.iload X15.here hx rfl (hb hby d13_192) rfl ?_
      exact k
    exact Go.rt X15 hx Bd (w := (.int j3_)) rfl (Or.inl ⟨rfl, Or.inl rfl, _, rfl⟩) (hb hby d13_194) e15 ⟨j3_, (((vs.set j1_.toNatClampNeg (.int (nar .byte (fO r1_.toNatClampNeg)))).set j2_.toNatClampNeg (.int (nar .byte (fT r1_.toNatClampNeg)))).set j3_.toNatClampNeg (.int (nar .byte (fO (-q1_).toNatClampNeg)))), rfl, N15, K, V_da, (by simp [hvl])⟩
  ·skip
   refine Go.step (S' := T12.setTop (mkF m 100 #[lv (-xa), .second, iv ix, rv da, u_, u_, iv r1_, iv j2_, iv 0, iv (q1_ / (100 : Int32)), iv q1_] [])) (fun t k => ?_) ?_
   · refine XS.icmpNo X12.here hx rfl (hb hby d13_90) rfl (flt (hc90_1 : ¬ ((-100 : Int32) < q1_))).2.2.1 ?_
     refine XS.iload X12.here hx rfl (hb hby d13_93) rfl ?_
     refine XS.bipush X12.here hx rfl (hb hby d13_95) ?_
     refine XS.idiv X12.here hx rfl (hb hby d13_97) rfl (by decide) ?_
     refine XS.istore X12.here hx rfl (hb hby d13_98) rfl (l' := #[lv (-xa), .second, iv ix, rv da, u_, u_, iv r1_, iv j2_, iv 0, iv (q1_ / (100 : Int32)), iv q1_]) rfl ?_
     exact k
   have hl_2 := own_le hc90_1
   show Go p e below _ (T12.setTop (mkF m 100 #[lv (-xa), .second, iv ix, rv da, u_, u_, iv r1_, iv j2_, iv 0, iv (q1_ / (100 : Int32)), iv q1_] []))
   obtain ⟨q2_, hd_q2_⟩ : ∃ z : Int32, (q1_ / (100 : Int32)) = z := ⟨_, rfl⟩
   rw [hd_q2_]
   show Go p e below _ (T12.setTop (mkF m 100 #[lv (-xa), .second, iv ix, rv da, u_, u_, iv r1_, iv j2_, iv 0, iv q2_, iv q1_] []))
   refine Go.step (S' := T12.setTop (mkF m 110 #[lv (-xa), .second, iv ix, rv da, u_, u_, iv ((q2_ * (100 : Int32)) - q1_), iv j2_, iv 0, iv q2_, iv q1_] [])) (fun t k => ?_) ?_
   · refine XS.iload X12.here hx rfl (hb hby d13_100) rfl ?_
     refine XS.bipush X12.here hx rfl (hb hby d13_102) ?_
     refine XS.imul X12.here hx rfl (hb hby d13_104) rfl ?_
     refine XS.iload X12.here hx rfl (hb hby d13_105) rfl ?_
     refine XS.isub X12.here hx rfl (hb hby d13_107) rfl ?_
     refine XS.istore X12.here hx rfl (hb hby d13_108) rfl (l' := #[lv (-xa), .second, iv ix, rv da, u_, u_, iv ((q2_ * (100 : Int32)) - q1_), iv j2_, iv 0, iv q2_, iv q1_]) rfl ?_
     exact k
   obtain ⟨r2_, hd_r2_⟩ : ∃ z : Int32, ((q2_ * (100 : Int32)) - q1_) = z := ⟨_, rfl⟩
   rw [hd_r2_]
   show Go p e below _ (T12.setTop (mkF m 110 #[lv (-xa), .second, iv ix, rv da, u_, u_, iv r2_, iv j2_, iv 0, iv q2_, iv q1_] []))
   obtain ⟨hqa_2, hqb_2, hqc_2, hqd_2, hqe_2⟩ := own_qr (by omega) (by omega) hd_q2_ hd_r2_
   have hz_r2_ : own_in r2_ := And.intro hqd_2 hqe_2
   have hsr_2 := own_dzk5 dz (by omega)
   refine Go.step (S' := T12.setTop (mkF m 118 #[lv (-xa), .second, iv ix, rv da, u_, u_, iv r2_, iv (j2_ + (-1 : Int32)), iv 0, iv q2_, iv q2_] [(.ref da)])) (fun t k => ?_) ?_
   · refine XS.iload X12.here hx rfl (hb hby d13_110) rfl ?_
     refine XS.istore X12.here hx rfl (hb hby d13_112) rfl (l' := #[lv (-xa), .second, iv ix, rv da, u_, u_, iv r2_, iv j2_, iv 0, iv q2_, iv q2_]) rfl ?_
     refine XS.aloadN X12.here hx rfl (hb hby d13_114) rfl rfl ?_
     refine XS.iinc X12.here hx rfl (hb hby d13_115) rfl (l' := #[lv (-xa), .second, iv ix, rv da, u_, u_, iv r2_, iv (j2_ + (-1 : Int32)), iv 0, iv q2_, iv q2_]) rfl ?_
     exact k
   obtain ⟨j3_, hd_j3_⟩ : ∃ z : Int32, (j2_ + (-1 : Int32)) = z := ⟨_, rfl⟩
   rw [hd_j3_]
   show Go p e below _ (T12.setTop (mkF m 118 #[lv (-xa), .second, iv ix, rv da, u_, u_, iv r2_, iv j3_, iv 0, iv q2_, iv q2_] [(.ref da)]))
   have hj_3 := own_pj hd_j3_ (by omega)
   refine Go.step (S' := T12.setTop (mkF m 120 #[lv (-xa), .second, iv ix, rv da, u_, u_, iv r2_, iv j3_, iv 0, iv q2_, iv q2_] [(.int j3_), (.ref da)])) (fun t k => ?_) ?_
   · refine XS.iload X12.here hx rfl (hb hby d13_118) rfl ?_
     exact k
   refine Go.gS X12 hx hZ hown (host := "") (Or.inl (own_w hw 82 rfl)) Via.refl e12 (S_DO.ext O.2) (hb hby d13_120) (fun T19 X19 e19 => ?_)
   refine Go.step (S' := T19.setTop (mkF m 125 #[lv (-xa), .second, iv ix, rv da, u_, u_, iv r2_, iv j3_, iv 0, iv q2_, iv q2_] [(.int r2_), (.ref dO), (.int j3_), (.ref da)])) (fun t k => ?_) ?_
   · refine XS.iload X19.here hx rfl (hb hby d13_123) rfl ?_
     exact k
   refine Go.bal X19 hx hZ e19 (V_dO.ext O.2) (hb hby d13_125) (v := (.int (fO r2_.toNatClampNeg))) (hvO _ (own_i1 hz_r2_)) ?_ (own_i2 hz_r2_)
   refine Go.bst X19 hx hZ e19 V_da (hb hby d13_126) (own_rg (by omega) (by omega)) (own_rl (n := nz) (by omega) (by omega) (by simp [hvl])) (fun T21 h21 X21 e21 W21 V21 => ?_)
   have O := O.wr W21 g_da
   have K := K.wr W21 (Or.inl (List.mem_of_getElem? (i := 0) rfl))
   have V_da : Arv Z h21 da kd .byte nz (((vs.set j1_.toNatClampNeg (.int (nar .byte (fO r1_.toNatClampNeg)))).set j2_.toNatClampNeg (.int (nar .byte (fT r1_.toNatClampNeg)))).set j3_.toNatClampNeg (.int (nar .byte (fO r2_.toNatClampNeg)))) (.int 0) := id V21
   have N21 := Fr.snoc X21 N12 g_da
   refine Go.step (S' := T21.setTop (mkF m 131 #[lv (-xa), .second, iv ix, rv da, u_, u_, iv r2_, iv (j3_ + (-1 : Int32)), iv 0, iv q2_, iv q2_] [(.ref da)])) (fun t k => ?_) ?_
   · refine XS.aloadN X21.here hx rfl (hb hby d13_127) rfl rfl ?_
     refine XS.iinc X21.here hx rfl (hb hby d13_128) rfl (l' := #[lv (-xa), .second, iv ix, rv da, u_, u_, iv r2_, iv (j3_ + (-1 : Int32)), iv 0, iv q2_, iv q2_]) rfl ?_
     exact k
   obtain ⟨j4_, hd_j4_⟩ : ∃ z : Int32, (j3_ + (-1 : Int32)) = z := ⟨_, rfl⟩
   rw [hd_j4_]
   show Go p e below _ (T21.setTop (mkF m 131 #[lv (-xa), .second, iv ix, rv da, u_, u_, iv r2_, iv j4_, iv 0, iv q2_, iv q2_] [(.ref da)]))
   have hj_4 := own_pj hd_j4_ (by omega)
   refine Go.step (S' := T21.setTop (mkF m 133 #[lv (-xa), .second, iv ix, rv da, u_, u_, iv r2_, iv j4_, iv 0, iv q2_, iv q2_] [(.int j4_), (.ref da)])) (fun t k => ?_) ?_
   · refine XS.iload X21.here hx rfl (hb hby d13_131) rfl ?_
     exact k
   refine Go.gS X21 hx hZ hown (host := "") (Or.inl (own_w hw 199 rfl)) Via.refl e21 (S_DT.ext O.2) (hb hby d13_133) (fun T22 X22 e22 => ?_)
   refine Go.step (S' := T22.setTop (mkF m 138 #[lv (-xa), .second, iv ix, rv da, u_, u_, iv r2_, iv j4_, iv 0, iv q2_, iv q2_] [(.int r2_), (.ref dT), (.int j4_), (.ref da)])) (fun t k => ?_) ?_
   · refine XS.iload X22.here hx rfl (hb hby d13_136) rfl ?_
     exact k
   refine Go.bal X22 hx hZ e22 (V_dT.ext O.2) (hb hby d13_138) (v := (.int (fT r2_.toNatClampNeg))) (hvT _ (own_i1 hz_r2_)) ?_ (own_i2 hz_r2_)
   refine Go.bst X22 hx hZ e22 V_da (hb hby d13_139) (own_rg (by omega) (by omega)) (own_rl (n := nz) (by omega) (by omega) (by simp [hvl])) (fun T24 h24 X24 e24 W24 V24 => ?_)
   have O := O.wr W24 g_da
   have K := K.wr W24 (Or.inl (List.mem_of_getElem? (i := 0) rfl))
   have V_da : Arv Z h24 da kd .byte nz ((((vs.set j1_.toNatClampNeg (.int (nar .byte (fO r1_.toNatClampNeg)))).set j2_.toNatClampNeg (.int (nar .byte (fT r1_.toNatClampNeg)))).set j3_.toNatClampNeg (.int (nar .byte (fO r2_.toNatClampNeg)))).set j4_.toNatClampNeg (.int (nar .byte (fT r2_.toNatClampNeg)))) (.int 0) := id V24
   have N24 := Fr.snoc X24 N21 g_da
   refine Go.step (S' := T24.setTop (mkF m 90 #[lv (-xa), .second, iv ix, rv da, u_, u_, iv r2_, iv j4_, iv 0, iv q2_, iv q2_] [(.int (-100)), (.int q2_)])) (fun t k => ?_) ?_
   · refine XS.goto X24.here hx rfl (pc0 := 140) (pc' := 86) rfl (hb hby d13_140) (by decide) (by decide) ?_
     refine XS.iload X24.here hx rfl (hb hby d13_86) rfl ?_
     refine XS.bipush X24.here hx rfl (hb hby d13_88) ?_
     exact k
   by_cases hc90_2 : (-100 : Int32) < q2_
   ·skip
    refine Go.step (S' := T24.setTop (mkF m 143 #[lv (-xa), .second, iv ix, rv da, u_, u_, iv r2_, iv j4_, iv 0, iv q2_, iv q2_] [])) (fun t k => ?_) ?_
    · refine XS.icmpYes X24.here hx rfl (pc0 := 90) (pc' := 143) rfl (hb hby d13_90) rfl (tlt (hc90_2 : (-100 : Int32) < q2_)).2.2.1 (by decide) (by decide) ?_
      exact k
    have hgx := own_gt hc90_2
    have hz_n := own_ng (i := q2_) (by omega) (by omega)
    refine Go.step (S' := T24.setTop (mkF m 147 #[lv (-xa), .second, iv ix, rv da, u_, u_, iv r2_, iv (j4_ + (-1 : Int32)), iv 0, iv q2_, iv q2_] [(.ref da)])) (fun t k => ?_) ?_
    · refine XS.aloadN X24.here hx rfl (hb hby d13_143) rfl rfl ?_
      refine XS.iinc X24.here hx rfl (hb hby d13_144) rfl (l' := #[lv (-xa), .second, iv ix, rv da, u_, u_, iv r2_, iv (j4_ + (-1 : Int32)), iv 0, iv q2_, iv q2_]) rfl ?_
      exact k
    obtain ⟨j5_, hd_j5_⟩ : ∃ z : Int32, (j4_ + (-1 : Int32)) = z := ⟨_, rfl⟩
    rw [hd_j5_]
    show Go p e below _ (T24.setTop (mkF m 147 #[lv (-xa), .second, iv ix, rv da, u_, u_, iv r2_, iv j5_, iv 0, iv q2_, iv q2_] [(.ref da)]))
    have hj_5 := own_pj hd_j5_ (by omega)
    refine Go.step (S' := T24.setTop (mkF m 149 #[lv (-xa), .second, iv ix, rv da, u_, u_, iv r2_, iv j5_, iv 0, iv q2_, iv q2_] [(.int j5_), (.ref da)])) (fun t k => ?_) ?_
    · refine XS.iload X24.here hx rfl (hb hby d13_147) rfl ?_
      exact k
    refine Go.gS X24 hx hZ hown (host := "") (Or.inl (own_w hw 82 rfl)) Via.refl e24 (S_DO.ext O.2) (hb hby d13_149) (fun T25 X25 e25 => ?_)
    refine Go.step (S' := T25.setTop (mkF m 155 #[lv (-xa), .second, iv ix, rv da, u_, u_, iv r2_, iv j5_, iv 0, iv q2_, iv q2_] [(.int (-q2_)), (.ref dO), (.int j5_), (.ref da)])) (fun t k => ?_) ?_
    · refine XS.iload X25.here hx rfl (hb hby d13_152) rfl ?_
      refine XS.ineg X25.here hx rfl (hb hby d13_154) rfl ?_
      exact k
    refine Go.bal X25 hx hZ e25 (V_dO.ext O.2) (hb hby d13_155) (v := (.int (fO (-q2_).toNatClampNeg))) (hvO _ (own_i1 hz_n)) ?_ (own_i2 hz_n)
    refine Go.bst X25 hx hZ e25 V_da (hb hby d13_156) (own_rg (by omega) (by omega)) (own_rl (n := nz) (by omega) (by omega) (by simp [hvl])) (fun T27 h27 X27 e27 W27 V27 => ?_)
    have O := O.wr W27 g_da
    have K := K.wr W27 (Or.inl (List.mem_of_getElem? (i := 0) rfl))
    have V_da : Arv Z h27 da kd .byte nz (((((vs.set j1_.toNatClampNeg (.int (nar .byte (fO r1_.toNatClampNeg)))).set j2_.toNatClampNeg (.int (nar .byte (fT r1_.toNatClampNeg)))).set j3_.toNatClampNeg (.int (nar .byte (fO r2_.toNatClampNeg)))).set j4_.toNatClampNeg (.int (nar .byte (fT r2_.toNatClampNeg)))).set j5_.toNatClampNeg (.int (nar .byte (fO (-q2_).toNatClampNeg)))) (.int 0) := id V27
    have N27 := Fr.snoc X27 N24 g_da
    refine Go.step (S' := T27.setTop (mkF m 161 #[lv (-xa), .second, iv ix, rv da, u_, u_, iv r2_, iv j5_, iv 0, iv q2_, iv q2_] [(.int (-9)), (.int q2_)])) (fun t k => ?_) ?_
    · refine XS.iload X27.here hx rfl (hb hby d13_157) rfl ?_
      refine XS.bipush X27.here hx rfl (hb hby d13_159) ?_
      exact k
    by_cases hc161 : q2_ < (-9 : Int32)
    ·skip
     refine Go.step (S' := T27.setTop (mkF m 164 #[lv (-xa), .second, iv ix, rv da, u_, u_, iv r2_, iv j5_, iv 0, iv q2_, iv q2_] [])) (fun t k => ?_) ?_
     · refine XS.icmpNo X27.here hx rfl (hb hby d13_161) rfl (tlt (hc161 : q2_ < (-9 : Int32))).2.1 ?_
       exact k
     have hgy := own_l9 hc161
     have hsry := own_dzk6 dz (by omega)
     refine Go.step (S' := T27.setTop (mkF m 168 #[lv (-xa), .second, iv ix, rv da, u_, u_, iv r2_, iv (j5_ + (-1 : Int32)), iv 0, iv q2_, iv q2_] [(.ref da)])) (fun t k => ?_) ?_
     · refine XS.aloadN X27.here hx rfl (hb hby d13_164) rfl rfl ?_
       refine XS.iinc X27.here hx rfl (hb hby d13_165) rfl (l' := #[lv (-xa), .second, iv ix, rv da, u_, u_, iv r2_, iv (j5_ + (-1 : Int32)), iv 0, iv q2_, iv q2_]) rfl ?_
       exact k
     obtain ⟨j6_, hd_j6_⟩ : ∃ z : Int32, (j5_ + (-1 : Int32)) = z := ⟨_, rfl⟩
     rw [hd_j6_]
     show Go p e below _ (T27.setTop (mkF m 168 #[lv (-xa), .second, iv ix, rv da, u_, u_, iv r2_, iv j6_, iv 0, iv q2_, iv q2_] [(.ref da)]))
     have hj_6 := own_pj hd_j6_ (by omega)
     refine Go.step (S' := T27.setTop (mkF m 170 #[lv (-xa), .second, iv ix, rv da, u_, u_, iv r2_, iv j6_, iv 0, iv q2_, iv q2_] [(.int j6_), (.ref da)])) (fun t k => ?_) ?_
     · refine XS.iload X27.here hx rfl (hb hby d13_168) rfl ?_
       exact k
     refine Go.gS X27 hx hZ hown (host := "") (Or.inl (own_w hw 199 rfl)) Via.refl e27 (S_DT.ext O.2) (hb hby d13_170) (fun T28 X28 e28 => ?_)
     refine Go.step (S' := T28.setTop (mkF m 176 #[lv (-xa), .second, iv ix, rv da, u_, u_, iv r2_, iv j6_, iv 0, iv q2_, iv q2_] [(.int (-q2_)), (.ref dT), (.int j6_), (.ref da)])) (fun t k => ?_) ?_
     · refine XS.iload X28.here hx rfl (hb hby d13_173) rfl ?_
       refine XS.ineg X28.here hx rfl (hb hby d13_175) rfl ?_
       exact k
     refine Go.bal X28 hx hZ e28 (V_dT.ext O.2) (hb hby d13_176) (v := (.int (fT (-q2_).toNatClampNeg))) (hvT _ (own_i1 hz_n)) ?_ (own_i2 hz_n)
     refine Go.bst X28 hx hZ e28 V_da (hb hby d13_177) (own_rg (by omega) (by omega)) (own_rl (n := nz) (by omega) (by omega) (by simp [hvl])) (fun T30 h30 X30 e30 W30 V30 => ?_)
     have O := O.wr W30 g_da
     have K := K.wr W30 (Or.inl (List.mem_of_getElem? (i := 0) rfl))
     have V_da : Arv Z h30 da kd .byte nz ((((((vs.set j1_.toNatClampNeg (.int (nar .byte (fO r1_.toNatClampNeg)))).set j2_.toNatClampNeg (.int (nar .byte (fT r1_.toNatClampNeg)))).set j3_.toNatClampNeg (.int (nar .byte (fO r2_.toNatClampNeg)))).set j4_.toNatClampNeg (.int (nar .byte (fT r2_.toNatClampNeg)))).set j5_.toNatClampNeg (.int (nar .byte (fO (-q2_).toNatClampNeg)))).set j6_.toNatClampNeg (.int (nar .byte (fT (-q2_).toNatClampNeg)))) (.int 0) := id V30
     have N30 := Fr.snoc X30 N27 g_da
     refine Go.step (S' := T30.setTop (mkF m 194 #[lv (-xa), .second, iv ix, rv da, u_, u_, iv r2_, iv j6_, iv 0, iv q2_, iv q2_] [(.int j6_)])) (fun t k => ?_) ?_
     · refine XS.iload X30.here hx rfl (hb hby d13_178) rfl ?_
       refine XS.ifYes X30.here hx rfl (pc0 := 180) (pc' := 192) rfl (hb hby d13_180) rfl ((if0 _ _).trans (teq ((by decide) : (0 : Int32) = (0 : Int32))).1) (by decide) (by decide) ?_
       refine XS.iload X30.here hx rfl (hb hby d13_192) rfl ?_
       exact k
     exact Go.rt X30 hx Bd (w := (.int j6_)) rfl (Or.inl ⟨rfl, Or.inl rfl, _, rfl⟩) (hb hby d13_194) e30 ⟨j6_, ((((((vs.set j1_.toNatClampNeg (.int (nar .byte (fO r1_.toNatClampNeg)))).set j2_.toNatClampNeg (.int (nar .byte (fT r1_.toNatClampNeg)))).set j3_.toNatClampNeg (.int (nar .byte (fO r2_.toNatClampNeg)))).set j4_.toNatClampNeg (.int (nar .byte (fT r2_.toNatClampNeg)))).set j5_.toNatClampNeg (.int (nar .byte (fO (-q2_).toNatClampNeg)))).set j6_.toNatClampNeg (.int (nar .byte (fT (-q2_).toNatClampNeg)))), rfl, N30, K, V_da, (by simp [hvl])⟩
    ·skip
     refine Go.step (S' := T27.setTop (mkF m 194 #[lv (-xa), .second, iv ix, rv da, u_, u_, iv r2_, iv j5_, iv 0, iv q2_, iv q2_] [(.int j5_)])) (fun t k => ?_) ?_
     · refine XS.icmpYes X27.here hx rfl (pc0 := 161) (pc' := 178) rfl (hb hby d13_161) rfl (flt (hc161 : ¬ (q2_ < (-9 : Int32)))).2.1 (by decide) (by decide) ?_
       refine XS.iload X27.here hx rfl (hb hby d13_178) rfl ?_
       refine XS.ifYes X27.here hx rfl (pc0 := 180) (pc' := 192) rfl (hb hby d13_180) rfl ((if0 _ _).trans (teq ((by decide) : (0 : Int32) = (0 : Int32))).1) (by decide) (by decide) ?_
       refine XS.iload X27.here hx rfl (hb hby d13_192) rfl ?_
       exact k
     exact Go.rt X27 hx Bd (w := (.int j5_)) rfl (Or.inl ⟨rfl, Or.inl rfl, _, rfl⟩) (hb hby d13_194) e27 ⟨j5_, (((((vs.set j1_.toNatClampNeg (.int (nar .byte (fO r1_.toNatClampNeg)))).set j2_.toNatClampNeg (.int (nar .byte (fT r1_.toNatClampNeg)))).set j3_.toNatClampNeg (.int (nar .byte (fO r2_.toNatClampNeg)))).set j4_.toNatClampNeg (.int (nar .byte (fT r2_.toNatClampNeg)))).set j5_.toNatClampNeg (.int (nar .byte (fO (-q2_).toNatClampNeg)))), rfl, N27, K, V_da, (by simp [hvl])⟩
   ·skip
    refine Go.step (S' := T24.setTop (mkF m 100 #[lv (-xa), .second, iv ix, rv da, u_, u_, iv r2_, iv j4_, iv 0, iv (q2_ / (100 : Int32)), iv q2_] [])) (fun t k => ?_) ?_
    · refine XS.icmpNo X24.here hx rfl (hb hby d13_90) rfl (flt (hc90_2 : ¬ ((-100 : Int32) < q2_))).2.2.1 ?_
      refine XS.iload X24.here hx rfl (hb hby d13_93) rfl ?_
      refine XS.bipush X24.here hx rfl (hb hby d13_95) ?_
      refine XS.idiv X24.here hx rfl (hb hby d13_97) rfl (by decide) ?_
      refine XS.istore X24.here hx rfl (hb hby d13_98) rfl (l' := #[lv (-xa), .second, iv ix, rv da, u_, u_, iv r2_, iv j4_, iv 0, iv (q2_ / (100 : Int32)), iv q2_]) rfl ?_
      exact k
    have hl_3 := own_le hc90_2
    show Go p e below _ (T24.setTop (mkF m 100 #[lv (-xa), .second, iv ix, rv da, u_, u_, iv r2_, iv j4_, iv 0, iv (q2_ / (100 : Int32)), iv q2_] []))
    obtain ⟨q3_, hd_q3_⟩ : ∃ z : Int32, (q2_ / (100 : Int32)) = z := ⟨_, rfl⟩
    rw [hd_q3_]
    show Go p e below _ (T24.setTop (mkF m 100 #[lv (-xa), .second, iv ix, rv da, u_, u_, iv r2_, iv j4_, iv 0, iv q3_, iv q2_] []))
    refine Go.step (S' := T24.setTop (mkF m 110 #[lv (-xa), .second, iv ix, rv da, u_, u_, iv ((q3_ * (100 : Int32)) - q2_), iv j4_, iv 0, iv q3_, iv q2_] [])) (fun t k => ?_) ?_
    · refine XS.iload X24.here hx rfl (hb hby d13_100) rfl ?_
      refine XS.bipush X24.here hx rfl (hb hby d13_102) ?_
      refine XS.imul X24.here hx rfl (hb hby d13_104) rfl ?_
      refine XS.iload X24.here hx rfl (hb hby d13_105) rfl ?_
      refine XS.isub X24.here hx rfl (hb hby d13_107) rfl ?_
      refine XS.istore X24.here hx rfl (hb hby d13_108) rfl (l' := #[lv (-xa), .second, iv ix, rv da, u_, u_, iv ((q3_ * (100 : Int32)) - q2_), iv j4_, iv 0, iv q3_, iv q2_]) rfl ?_
      exact k
    obtain ⟨r3_, hd_r3_⟩ : ∃ z : Int32, ((q3_ * (100 : Int32)) - q2_) = z := ⟨_, rfl⟩
    rw [hd_r3_]
    show Go p e below _ (T24.setTop (mkF m 110 #[lv (-xa), .second, iv ix, rv da, u_, u_, iv r3_, iv j4_, iv 0, iv q3_, iv q2_] []))
    obtain ⟨hqa_3, hqb_3, hqc_3, hqd_3, hqe_3⟩ := own_qr (by omega) (by omega) hd_q3_ hd_r3_
    have hz_r3_ : own_in r3_ := And.intro hqd_3 hqe_3
    have hsr_3 := own_dzk7 dz (by omega)
    refine Go.step (S' := T24.setTop (mkF m 118 #[lv (-xa), .second, iv ix, rv da, u_, u_, iv r3_, iv (j4_ + (-1 : Int32)), iv 0, iv q3_, iv q3_] [(.ref da)])) (fun t k => ?_) ?_
    · refine XS.iload X24.here hx rfl (hb hby d13_110) rfl ?_
      refine XS.istore X24.here hx rfl (hb hby d13_112) rfl (l' := #[lv (-xa), .second, iv ix, rv da, u_, u_, iv r3_, iv j4_, iv 0, iv q3_, iv q3_]) rfl ?_
      refine XS.aloadN X24.here hx rfl (hb hby d13_114) rfl rfl ?_
      refine XS.iinc X24.here hx rfl (hb hby d13_115) rfl (l' := #[lv (-xa), .second, iv ix, rv da, u_, u_, iv r3_, iv (j4_ + (-1 : Int32)), iv 0, iv q3_, iv q3_]) rfl ?_
      exact k
    obtain ⟨j5_, hd_j5_⟩ : ∃ z : Int32, (j4_ + (-1 : Int32)) = z := ⟨_, rfl⟩
    rw [hd_j5_]
    show Go p e below _ (T24.setTop (mkF m 118 #[lv (-xa), .second, iv ix, rv da, u_, u_, iv r3_, iv j5_, iv 0, iv q3_, iv q3_] [(.ref da)]))
    have hj_5 := own_pj hd_j5_ (by omega)
    refine Go.step (S' := T24.setTop (mkF m 120 #[lv (-xa), .second, iv ix, rv da, u_, u_, iv r3_, iv j5_, iv 0, iv q3_, iv q3_] [(.int j5_), (.ref da)])) (fun t k => ?_) ?_
    · refine XS.iload X24.here hx rfl (hb hby d13_118) rfl ?_
      exact k
    refine Go.gS X24 hx hZ hown (host := "") (Or.inl (own_w hw 82 rfl)) Via.refl e24 (S_DO.ext O.2) (hb hby d13_120) (fun T31 X31 e31 => ?_)
    refine Go.step (S' := T31.setTop (mkF m 125 #[lv (-xa), .second, iv ix, rv da, u_, u_, iv r3_, iv j5_, iv 0, iv q3_, iv q3_] [(.int r3_), (.ref dO), (.int j5_), (.ref da)])) (fun t k => ?_) ?_
    · refine XS.iload X31.here hx rfl (hb hby d13_123) rfl ?_
      exact k
    refine Go.bal X31 hx hZ e31 (V_dO.ext O.2) (hb hby d13_125) (v := (.int (fO r3_.toNatClampNeg))) (hvO _ (own_i1 hz_r3_)) ?_ (own_i2 hz_r3_)
    refine Go.bst X31 hx hZ e31 V_da (hb hby d13_126) (own_rg (by omega) (by omega)) (own_rl (n := nz) (by omega) (by omega) (by simp [hvl])) (fun T33 h33 X33 e33 W33 V33 => ?_)
    have O := O.wr W33 g_da
    have K := K.wr W33 (Or.inl (List.mem_of_getElem? (i := 0) rfl))
    have V_da : Arv Z h33 da kd .byte nz (((((vs.set j1_.toNatClampNeg (.int (nar .byte (fO r1_.toNatClampNeg)))).set j2_.toNatClampNeg (.int (nar .byte (fT r1_.toNatClampNeg)))).set j3_.toNatClampNeg (.int (nar .byte (fO r2_.toNatClampNeg)))).set j4_.toNatClampNeg (.int (nar .byte (fT r2_.toNatClampNeg)))).set j5_.toNatClampNeg (.int (nar .byte (fO r3_.toNatClampNeg)))) (.int 0) := id V33
    have N33 := Fr.snoc X33 N24 g_da
    refine Go.step (S' := T33.setTop (mkF m 131 #[lv (-xa), .second, iv ix, rv da, u_, u_, iv r3_, iv (j5_ + (-1 : Int32)), iv 0, iv q3_, iv q3_] [(.ref da)])) (fun t k => ?_) ?_
    · refine XS.aloadN X33.here hx rfl (hb hby d13_127) rfl rfl ?_
      refine XS.iinc X33.here hx rfl (hb hby d13_128) rfl (l' := #[lv (-xa), .second, iv ix, rv da, u_, u_, iv r3_, iv (j5_ + (-1 : Int32)), iv 0, iv q3_, iv q3_]) rfl ?_
      exact k
    obtain ⟨j6_, hd_j6_⟩ : ∃ z : Int32, (j5_ + (-1 : Int32)) = z := ⟨_, rfl⟩
    rw [hd_j6_]
    show Go p e below _ (T33.setTop (mkF m 131 #[lv (-xa), .second, iv ix, rv da, u_, u_, iv r3_, iv j6_, iv 0, iv q3_, iv q3_] [(.ref da)]))
    have hj_6 := own_pj hd_j6_ (by omega)
    refine Go.step (S' := T33.setTop (mkF m 133 #[lv (-xa), .second, iv ix, rv da, u_, u_, iv r3_, iv j6_, iv 0, iv q3_, iv q3_] [(.int j6_), (.ref da)])) (fun t k => ?_) ?_
    · refine XS.iload X33.here hx rfl (hb hby d13_131) rfl ?_
      exact k
    refine Go.gS X33 hx hZ hown (host := "") (Or.inl (own_w hw 199 rfl)) Via.refl e33 (S_DT.ext O.2) (hb hby d13_133) (fun T34 X34 e34 => ?_)
    refine Go.step (S' := T34.setTop (mkF m 138 #[lv (-xa), .second, iv ix, rv da, u_, u_, iv r3_, iv j6_, iv 0, iv q3_, iv q3_] [(.int r3_), (.ref dT), (.int j6_), (.ref da)])) (fun t k => ?_) ?_
    · refine XS.iload X34.here hx rfl (hb hby d13_136) rfl ?_
      exact k
    refine Go.bal X34 hx hZ e34 (V_dT.ext O.2) (hb hby d13_138) (v := (.int (fT r3_.toNatClampNeg))) (hvT _ (own_i1 hz_r3_)) ?_ (own_i2 hz_r3_)
    refine Go.bst X34 hx hZ e34 V_da (hb hby d13_139) (own_rg (by omega) (by omega)) (own_rl (n := nz) (by omega) (by omega) (by simp [hvl])) (fun T36 h36 X36 e36 W36 V36 => ?_)
    have O := O.wr W36 g_da
    have K := K.wr W36 (Or.inl (List.mem_of_getElem? (i := 0) rfl))
    have V_da : Arv Z h36 da kd .byte nz ((((((vs.set j1_.toNatClampNeg (.int (nar .byte (fO r1_.toNatClampNeg)))).set j2_.toNatClampNeg (.int (nar .byte (fT r1_.toNatClampNeg)))).set j3_.toNatClampNeg (.int (nar .byte (fO r2_.toNatClampNeg)))).set j4_.toNatClampNeg (.int (nar .byte (fT r2_.toNatClampNeg)))).set j5_.toNatClampNeg (.int (nar .byte (fO r3_.toNatClampNeg)))).set j6_.toNatClampNeg (.int (nar .byte (fT r3_.toNatClampNeg)))) (.int 0) := id V36
    have N36 := Fr.snoc X36 N33 g_da
    refine Go.step (S' := T36.setTop (mkF m 90 #[lv (-xa), .second, iv ix, rv da, u_, u_, iv r3_, iv j6_, iv 0, iv q3_, iv q3_] [(.int (-100)), (.int q3_)])) (fun t k => ?_) ?_
    · refine XS.goto X36.here hx rfl (pc0 := 140) (pc' := 86) rfl (hb hby d13_140) (by decide) (by decide) ?_
      refine XS.iload X36.here hx rfl (hb hby d13_86) rfl ?_
      refine XS.bipush X36.here hx rfl (hb hby d13_88) ?_
      exact k
    by_cases hc90_3 : (-100 : Int32) < q3_
    ·skip
     refine Go.step (S' := T36.setTop (mkF m 143 #[lv (-xa), .second, iv ix, rv da, u_, u_, iv r3_, iv j6_, iv 0, iv q3_, iv q3_] [])) (fun t k => ?_) ?_
     · refine XS.icmpYes X36.here hx rfl (pc0 := 90) (pc' := 143) rfl (hb hby d13_90) rfl (tlt (hc90_3 : (-100 : Int32) < q3_)).2.2.1 (by decide) (by decide) ?_
       exact k
     have hgx := own_gt hc90_3
     have hz_n := own_ng (i := q3_) (by omega) (by omega)
     refine Go.step (S' := T36.setTop (mkF m 147 #[lv (-xa), .second, iv ix, rv da, u_, u_, iv r3_, iv (j6_ + (-1 : Int32)), iv 0, iv q3_, iv q3_] [(.ref da)])) (fun t k => ?_) ?_
     · refine XS.aloadN X36.here hx rfl (hb hby d13_143) rfl rfl ?_
       refine XS.iinc X36.here hx rfl (hb hby d13_144) rfl (l' := #[lv (-xa), .second, iv ix, rv da, u_, u_, iv r3_, iv (j6_ + (-1 : Int32)), iv 0, iv q3_, iv q3_]) rfl ?_
       exact k
     obtain ⟨j7_, hd_j7_⟩ : ∃ z : Int32, (j6_ + (-1 : Int32)) = z := ⟨_, rfl⟩
     rw [hd_j7_]
     show Go p e below _ (T36.setTop (mkF m 147 #[lv (-xa), .second, iv ix, rv da, u_, u_, iv r3_, iv j7_, iv 0, iv q3_, iv q3_] [(.ref da)]))
     have hj_7 := own_pj hd_j7_ (by omega)
     refine Go.step (S' := T36.setTop (mkF m 149 #[lv (-xa), .second, iv ix, rv da, u_, u_, iv r3_, iv j7_, iv 0, iv q3_, iv q3_] [(.int j7_), (.ref da)])) (fun t k => ?_) ?_
     · refine XS.iload X36.here hx rfl (hb hby d13_147) rfl ?_
       exact k
     refine Go.gS X36 hx hZ hown (host := "") (Or.inl (own_w hw 82 rfl)) Via.refl e36 (S_DO.ext O.2) (hb hby d13_149) (fun T37 X37 e37 => ?_)
     refine Go.step (S' := T37.setTop (mkF m 155 #[lv (-xa), .second, iv ix, rv da, u_, u_, iv r3_, iv j7_, iv 0, iv q3_, iv q3_] [(.int (-q3_)), (.ref dO), (.int j7_), (.ref da)])) (fun t k => ?_) ?_
     · refine XS.iload X37.here hx rfl (hb hby d13_152) rfl ?_
       refine XS.ineg X37.here hx rfl (hb hby d13_154) rfl ?_
       exact k
     refine Go.bal X37 hx hZ e37 (V_dO.ext O.2) (hb hby d13_155) (v := (.int (fO (-q3_).toNatClampNeg))) (hvO _ (own_i1 hz_n)) ?_ (own_i2 hz_n)
     refine Go.bst X37 hx hZ e37 V_da (hb hby d13_156) (own_rg (by omega) (by omega)) (own_rl (n := nz) (by omega) (by omega) (by simp [hvl])) (fun T39 h39 X39 e39 W39 V39 => ?_)
     have O := O.wr W39 g_da
     have K := K.wr W39 (Or.inl (List.mem_of_getElem? (i := 0) rfl))
     have V_da : Arv Z h39 da kd .byte nz (((((((vs.set j1_.toNatClampNeg (.int (nar .byte (fO r1_.toNatClampNeg)))).set j2_.toNatClampNeg (.int (nar .byte (fT r1_.toNatClampNeg)))).set j3_.toNatClampNeg (.int (nar .byte (fO r2_.toNatClampNeg)))).set j4_.toNatClampNeg (.int (nar .byte (fT r2_.toNatClampNeg)))).set j5_.toNatClampNeg (.int (nar .byte (fO r3_.toNatClampNeg)))).set j6_.toNatClampNeg (.int (nar .byte (fT r3_.toNatClampNeg)))).set j7_.toNatClampNeg (.int (nar .byte (fO (-q3_).toNatClampNeg)))) (.int 0) := id V39
     have N39 := Fr.snoc X39 N36 g_da
     refine Go.step (S' := T39.setTop (mkF m 161 #[lv (-xa), .second, iv ix, rv da, u_, u_, iv r3_, iv j7_, iv 0, iv q3_, iv q3_] [(.int (-9)), (.int q3_)])) (fun t k => ?_) ?_
     · refine XS.iload X39.here hx rfl (hb hby d13_157) rfl ?_
       refine XS.bipush X39.here hx rfl (hb hby d13_159) ?_
       exact k
     by_cases hc161 : q3_ < (-9 : Int32)
     ·skip
      exact absurd (own_l9 hc161) (by omega)
     ·skip
      refine Go.step (S' := T39.setTop (mkF m 194 #[lv (-xa), .second, iv ix, rv da, u_, u_, iv r3_, iv j7_, iv 0, iv q3_, iv q3_] [(.int j7_)])) (fun t k => ?_) ?_
      · refine XS.icmpYes X39.here hx rfl (pc0 := 161) (pc' := 178) rfl (hb hby d13_161) rfl (flt (hc161 : ¬ (q3_ < (-9 : Int32)))).2.1 (by decide) (by decide) ?_
        refine XS.iload X39.here hx rfl (hb hby d13_178) rfl ?_
        refine XS.ifYes X39.here hx rfl (pc0 := 180) (pc' := 192) rfl (hb hby d13_180) rfl ((if0 _ _).trans (teq ((by decide) : (0 : Int32) = (0 : Int32))).1) (by decide) (by decide) ?_
        refine XS.iload X39.here hx rfl (hb hby d13_192) rfl ?_
        exact k
      exact Go.rt X39 hx Bd (w := (.int j7_)) rfl (Or.inl ⟨rfl, Or.inl rfl, _, rfl⟩) (hb hby d13_194) e39 ⟨j7_, (((((((vs.set j1_.toNatClampNeg (.int (nar .byte (fO r1_.toNatClampNeg)))).set j2_.toNatClampNeg (.int (nar .byte (fT r1_.toNatClampNeg)))).set j3_.toNatClampNeg (.int (nar .byte (fO r2_.toNatClampNeg)))).set j4_.toNatClampNeg (.int (nar .byte (fT r2_.toNatClampNeg)))).set j5_.toNatClampNeg (.int (nar .byte (fO r3_.toNatClampNeg)))).set j6_.toNatClampNeg (.int (nar .byte (fT r3_.toNatClampNeg)))).set j7_.toNatClampNeg (.int (nar .byte (fO (-q3_).toNatClampNeg)))), rfl, N39, K, V_da, (by simp [hvl])⟩
    ·skip
     exact absurd (own_le hc90_3) (by omega)
abbrev y_25 : MethodName := ⟨"java/lang/AbstractStringBuilder", "append", "(J)Ljava/lang/AbstractStringBuilder;"⟩
theorem d9_0 : decode jdk_68_method_33_code 0 = .ok (.aload_n 0, 1) := by decide +kernel
theorem d9_1 : decode jdk_68_method_33_code 1 = .ok (.getfield 79, 3) := by decide +kernel
theorem d9_4 : decode jdk_68_method_33_code 4 = .ok (.istore_n 3, 1) := by decide +kernel
theorem d9_5 : decode jdk_68_method_33_code 5 = .ok (.iload_n 3, 1) := by decide +kernel
theorem d9_6 : decode jdk_68_method_33_code 6 = .ok (.lload_n 1, 1) := by decide +kernel
theorem d9_7 : decode jdk_68_method_33_code 7 = .ok (.invokestatic 254, 3) := by decide +kernel
theorem pd__28J_29I : parseMethodDescriptor "(J)I" = some ⟨[.long], some .int⟩ := by decide +kernel
theorem d9_10 : decode jdk_68_method_33_code 10 = .ok (.iadd, 1) := by decide +kernel
theorem d9_11 : decode jdk_68_method_33_code 11 = .ok (.istore 4, 2) := by decide +kernel
theorem d9_13 : decode jdk_68_method_33_code 13 = .ok (.aload_n 0, 1) := by decide +kernel
theorem d9_14 : decode jdk_68_method_33_code 14 = .ok (.iload 4, 2) := by decide +kernel
theorem d9_16 : decode jdk_68_method_33_code 16 = .ok (.invokevirtual 100, 3) := by decide +kernel
theorem d9_19 : decode jdk_68_method_33_code 19 = .ok (.aload_n 0, 1) := by decide +kernel
theorem d9_20 : decode jdk_68_method_33_code 20 = .ok (.invokevirtual 83, 3) := by decide +kernel
theorem pd__28_29Z : parseMethodDescriptor "()Z" = some ⟨[], some .boolean⟩ := by decide +kernel
theorem d9_23 : decode jdk_68_method_33_code 23 = .ok (.ifCond .eq 17, 3) := by decide +kernel
theorem d9_26 : decode jdk_68_method_33_code 26 = .ok (.lload_n 1, 1) := by decide +kernel
theorem d9_27 : decode jdk_68_method_33_code 27 = .ok (.iload 4, 2) := by decide +kernel
theorem d9_29 : decode jdk_68_method_33_code 29 = .ok (.aload_n 0, 1) := by decide +kernel
theorem d9_30 : decode jdk_68_method_33_code 30 = .ok (.getfield 15, 3) := by decide +kernel
theorem d9_33 : decode jdk_68_method_33_code 33 = .ok (.invokestatic 259, 3) := by decide +kernel
theorem pd__28JI_5bB_29I : parseMethodDescriptor "(JI[B)I" = some ⟨[.long, .int, (.array .byte)], some .int⟩ := by decide +kernel
theorem d9_36 : decode jdk_68_method_33_code 36 = .ok (.pop, 1) := by decide +kernel
theorem d9_37 : decode jdk_68_method_33_code 37 = .ok (.goto 15, 3) := by decide +kernel
theorem d9_52 : decode jdk_68_method_33_code 52 = .ok (.aload_n 0, 1) := by decide +kernel
theorem d9_53 : decode jdk_68_method_33_code 53 = .ok (.iload 4, 2) := by decide +kernel
theorem d9_55 : decode jdk_68_method_33_code 55 = .ok (.putfield 79, 3) := by decide +kernel
theorem d9_58 : decode jdk_68_method_33_code 58 = .ok (.aload_n 0, 1) := by decide +kernel
theorem d9_59 : decode jdk_68_method_33_code 59 = .ok (.areturn, 1) := by decide +kernel
abbrev rm_rmAj16k : Room := ({ frames := 1, cells := 0, slots := 0, locals := 22 } : Room)
def Q_rmAj16k (Z : State) (sb : Addr) (xa : Int64) (da : Addr) (kd : ClassId) (vs : List Value) (cn : Int32) (cs : Int32) (dO : Addr) (kO : ClassId) (vO : List Value) (fO : Nat → Int32) (dT : Addr) (kT : ClassId) (vT : List Value) (fT : Nat → Int32) (h0 : Heap) (n0 : Nat) (v : Option Value) (h : Heap) (L : List Loc) : Prop := ∃ de : Addr, ∃ ke : ClassId, ∃ vf : List Value, ∃ ce : Int32, (v = some (.ref sb)) ∧ (Fr n0 L) ∧ (Keep h0 h [sb, da]) ∧ (Exa Z h sb "java/lang/StringBuilder") ∧ (Fd_4 Z h sb (.ref de)) ∧ (Fd_5 Z h sb (.int 0)) ∧ (Fd_6 Z h sb (.int ce)) ∧ (Arv Z h de ke .byte (16 : Int32) vf (.int 0)) ∧ (Exa Z h de "[B") ∧ (vf.length = 16) ∧ (n0 ≤ de) ∧ (de = da ∨ h0.size ≤ de) ∧ (cn.toInt + 1 ≤ ce.toInt ∧ ce.toInt ≤ cn.toInt + 7)
theorem rmAj16k (l : Launch) (Z : State) (a0 : Array Value) (hw : HW a0 Z) (ws : List Jvm.Cond) (sb : Addr) (xa : Int64) (da : Addr) (kd : ClassId) (vs : List Value) (cn : Int32) (cs : Int32) (dO : Addr) (kO : ClassId) (vO : List Value) (fO : Nat → Int32) (dT : Addr) (kT : ClassId) (vT : List Value) (fT : Nat → Int32) (h0 : Heap) (n0 : Nat) (O : Old Z n0 h0) (S_CS : Sa_0 Z (.int cs)) (S_DO : Sa_1 Z (.ref dO)) (V_dO : Arv Z Z.heap dO kO .byte (100 : Int32) vO (.int 0)) (S_DT : Sa_2 Z (.ref dT)) (V_dT : Arv Z Z.heap dT kT .byte (100 : Int32) vT (.int 0)) (E_sb : Exa Z h0 sb "java/lang/StringBuilder") (F_v : Fd_4 Z h0 sb (.ref da)) (F_c : Fd_5 Z h0 sb (.int 0)) (F_n : Fd_6 Z h0 sb (.int cn)) (V_da : Arv Z h0 da kd .byte (16 : Int32) vs (.int 0)) (E_da : Exa Z h0 da "[B") (hcs : ¬ (cs = (0 : Int32))) (hvO : ∀ zj : Nat, zj < 100 → vO.getD zj (.int 0) = .int (fO zj)) (hvT : ∀ zj : Nat, zj < 100 → vT.getD zj (.int 0) = .int (fT zj)) (ua : ¬ (xa < (0 : Int64))) (ub : ¬ ((1000000 : Int64) < xa)) (g_sb : n0 ≤ sb) (g_da : n0 ≤ da) (hvl : vs.length = 16) (hq : 0 ≤ cn.toInt ∧ cn.toInt + 7 ≤ 16) :
    Mt l Z y_25 jdk_68_method_33_code 5 (some (.object "java/lang/AbstractStringBuilder")) ws rm_rmAj16k #[(.ref sb), (.long xa)] h0 (Q_rmAj16k Z sb xa da kd vs cn cs dO kO vO fO dT kT vT fT h0 n0) := by
 refine own_met "java/lang/AbstractStringBuilder" (plainFor_of_name pn_java_lang_AbstractStringBuilder) #[rv sb, lv xa, .second, u_, u_] (fun m => rfl) (fun p e s m below meth c s₁ Bd hx hby hml hZ hown hnm X0 e0 => ?_)
 have N0 := Fr.nil n0
 have K := Keep.refl h0 [sb, da]
 refine Go.step (S' := s₁.setTop (mkF m 1 #[rv sb, lv xa, .second, u_, u_] [(.ref sb)])) (fun t k => ?_) ?_
 · refine XS.aloadN X0.here hx rfl (hb hby d9_0) rfl rfl ?_
   exact k
 refine Go.gF X0 hx hZ hown (host := "") (Or.inl (own_w hw 61 rfl)) Via.refl e0 F_n (hb hby d9_1) (fun T1 X1 e1 => ?_)
 refine Go.step (S' := T1.setTop (mkF m 7 #[rv sb, lv xa, .second, iv cn, u_] [(.long xa), (.int cn)])) (fun t k => ?_) ?_
 · refine XS.istoreN X1.here hx rfl (hb hby d9_4) rfl (l' := #[rv sb, lv xa, .second, iv cn, u_]) rfl ?_
   refine XS.iloadN X1.here hx rfl (hb hby d9_5) rfl ?_
   refine XS.lloadN X1.here hx rfl (hb hby d9_6) rfl ?_
   exact k
 refine Go.cS X1 hx hml hown hZ (own_w hw 63 rfl) (own_w hw 64 rfl) (own_w hw 65 rfl) (own_w hw 66 rfl) (rmSz l Z a0 hw [] xa h0 n0 O ua ub) 1 [(.int cn)] pd__28J_29I (hb hby d9_7) e1 (fun _ T2 L2 X2 hQ2 => ?_)
 obtain ⟨sr_2, rfl, Nq2, e2, dz_2⟩ := hQ2
 have N2 := Fr.app N0 Nq2
 refine Go.step (S' := T2.setTop (mkF m 13 #[rv sb, lv xa, .second, iv cn, iv (cn + sr_2)] [])) (fun t k => ?_) ?_
 · refine XS.iadd X2.here hx rfl (hb hby d9_10) rfl ?_
   refine XS.istore X2.here hx rfl (hb hby d9_11) rfl (l' := #[rv sb, lv xa, .second, iv cn, iv (cn + sr_2)]) rfl ?_
   exact k
 obtain ⟨ix, hd_ix⟩ : ∃ z : Int32, (cn + sr_2) = z := ⟨_, rfl⟩
 rw [hd_ix]
 show Go p e below _ (T2.setTop (mkF m 13 #[rv sb, lv xa, .second, iv cn, iv ix] []))
 obtain ⟨hs1, hs7, -⟩ := id dz_2
 have hsx := own_sum hd_ix (by omega) (by omega) (by omega) (by omega)
 refine Go.step (S' := T2.setTop (mkF m 16 #[rv sb, lv xa, .second, iv cn, iv ix] [(.int ix), (.ref sb)])) (fun t k => ?_) ?_
 · refine XS.aloadN X2.here hx rfl (hb hby d9_13) rfl rfl ?_
   refine XS.iload X2.here hx rfl (hb hby d9_14) rfl ?_
   exact k
 obtain ⟨cq3, q3, q3'⟩ := E_sb.cell
 obtain ⟨_, _, ⟨T3, L3, k3, n3⟩, -, X3, ⟨Lc3, hQ3, l3, y3, z3⟩, st3⟩ := X2.privateBack hx (y := y_15) hown (mvT hZ (own_w hw 68 rfl)) (mvT hZ (own_w hw 69 rfl)) (own_selQ hZ (own_w hw 71 rfl) (own_w hw 69 rfl) (own_w hw 70 rfl) (by decide)) (Cond.privateMethod_at (mvP hZ (own_w hw 70 rfl) (args := #[]))) (mvT hZ (own_w hw 72 rfl)) (by decide) (backOf (W := 0) (rmEk16 l Z a0 hw [] sb ix da kd vs h0 n0 O E_sb F_v F_c V_da (own_gk (n := 16) rfl (by omega) (by decide) (by omega))) hZ (own_w hw 72 rfl) (own_w hw 43 rfl) (by decide) (by decide)) (g := (mkF m 16 #[rv sb, lv xa, .second, iv cn, iv ix] [(.int ix), (.ref sb)])) rfl (by rw [hml]; rfl) (Steps.refl _) (a := sb) (by rw [e2]; exact q3) q3' (argsL := [(.int ix)]) (rest := []) (lenOf pd__28I_29V rfl) rfl (Nat.le_of_eq rfl) (hb hby d9_16) (fun _ _ => ⟨rfl, e2, (by decide : 0 + 0 ≤ _), (by decide : 0 + 0 ≤ _)⟩)
 dsimp only [Pt.U, Pt.locs, Pt.cells, Pt.slots] at X3 l3 y3 z3 st3 hQ3
 subst l3 y3 z3
 obtain ⟨rfl, Nq3, e3⟩ := hQ3
 have N3 := Fr.app N2 Nq3
 refine Go.step (fun t k => st3.trans k) ?_
 refine Go.step (S' := T3.setTop (mkF m 20 #[rv sb, lv xa, .second, iv cn, iv ix] [(.ref sb)])) (fun t k => ?_) ?_
 · refine XS.aloadN X3.here hx rfl (hb hby d9_19) rfl rfl ?_
   exact k
 refine Go.cV X3 hx hml hown hZ (own_w hw 73 rfl) (own_w hw 74 rfl) (own_w hw 76 rfl) (own_w hw 75 rfl) (own_w hw 43 rfl) (own_w hw 77 rfl) E_sb (rmL1 l Z a0 hw [] sb cs h0 n0 O S_CS F_c hcs) 0 [] pd__28_29Z (hb hby d9_20) e3 (fun _ T4 L4 X4 hQ4 => ?_)
 obtain ⟨rfl, Nq4, e4⟩ := hQ4
 have N4 := Fr.app N3 Nq4
 refine Go.step (S' := T4.setTop (mkF m 30 #[rv sb, lv xa, .second, iv cn, iv ix] [(.ref sb), (.int ix), (.long xa)])) (fun t k => ?_) ?_
 · refine XS.ifNo X4.here hx rfl (hb hby d9_23) rfl ((if0 _ _).trans (feq ((by decide) : ¬ ((1 : Int32) = (0 : Int32)))).1) ?_
   refine XS.lloadN X4.here hx rfl (hb hby d9_26) rfl ?_
   refine XS.iload X4.here hx rfl (hb hby d9_27) rfl ?_
   refine XS.aloadN X4.here hx rfl (hb hby d9_29) rfl rfl ?_
   exact k
 refine Go.gF X4 hx hZ hown (host := "") (Or.inl (own_w hw 47 rfl)) Via.refl e4 F_v (hb hby d9_30) (fun T5 X5 e5 => ?_)
 refine Go.cS X5 hx hml hown hZ (own_w hw 78 rfl) (own_w hw 79 rfl) (own_w hw 65 rfl) (own_w hw 80 rfl) (rmGc l Z a0 hw [] xa ix da dO kO vO fO dT kT vT fT kd (16 : Int32) vs sr_2 h0 n0 O S_DO V_dO S_DT V_dT V_da hvO hvT ua ub dz_2 ⟨by omega, by show _ ≤ (16 : Int); omega⟩ hvl (by assumption)) 0 [] pd__28JI_5bB_29I (hb hby d9_33) e5 (fun _ T6 L6 X6 hQ6 => ?_)
 obtain ⟨rr_6, vt_6, rfl, Nq6, K6, P6_V, hvt_6⟩ := hQ6
 have N6 := Fr.app N4 Nq6
 have ne_sb_da : sb ≠ da := ne_exa E_sb E_da (by decide)
 have O := O.keep K6 (allS g_da all0)
 have E_sb := E_sb.keep K6
 have F_v := F_v.keep K6 (ninS ne_sb_da nin0)
 have F_c := F_c.keep K6 (ninS ne_sb_da nin0)
 have F_n := F_n.keep K6 (ninS ne_sb_da nin0)
 have E_da := E_da.keep K6
 have K := K.trans K6 (allS (Or.inl (List.mem_of_getElem? (i := 1) rfl)) all0)
 have V_6 := P6_V
 refine Go.step (S' := T6.setTop (mkF m 55 #[rv sb, lv xa, .second, iv cn, iv ix] [(.int ix), (.ref sb)])) (fun t k => ?_) ?_
 · refine XS.pop X6.here hx rfl (hb hby d9_36) rfl rfl ?_
   refine XS.goto X6.here hx rfl (pc0 := 37) (pc' := 52) rfl (hb hby d9_37) (by decide) (by decide) ?_
   refine XS.aloadN X6.here hx rfl (hb hby d9_52) rfl rfl ?_
   refine XS.iload X6.here hx rfl (hb hby d9_53) rfl ?_
   exact k
 obtain ⟨T7, h7, X7, e7, W7, st7⟩ := putF X6 hx hZ hown (host := "") (Or.inl (own_w hw 61 rfl)) Via.refl (Eq.refl T6.heap) F_n E_sb (Or.inl (own_w hw 62 rfl)) (own_w hw 34 rfl) (ty := .int) (by decide) rfl rfl (g := (mkF m 55 #[rv sb, lv xa, .second, iv cn, iv ix] [(.int ix), (.ref sb)])) rfl rfl (hb hby d9_55)
 have O := O.wr W7 g_sb
 have E_sb := E_sb.wr W7
 have F_v := F_v.other W7 (Or.inr (slot_ne (Or.inl (own_w hw 48 rfl)) (Or.inl (own_w hw 62 rfl)) (by decide) (t := (.array .byte)) (t' := .int) (by decide) (by decide)))
 have F_c := F_c.other W7 (Or.inr (slot_ne (Or.inl (own_w hw 50 rfl)) (Or.inl (own_w hw 62 rfl)) (by decide) (t := .byte) (t' := .int) (by decide) (by decide)))
 have F_n := F_n.same W7
 have E_da := E_da.wr W7
 have K := K.wr W7 (Or.inl (List.mem_of_getElem? (i := 0) rfl))
 have V_6 := V_6.other W7 (Ne.symm ne_sb_da)
 have N7 := Fr.snoc X7 N6 g_sb
 refine Go.step st7 ?_
 refine Go.step (S' := T7.setTop (mkF m 59 #[rv sb, lv xa, .second, iv cn, iv ix] [(.ref sb)])) (fun t k => ?_) ?_
 · refine XS.aloadN X7.here hx rfl (hb hby d9_58) rfl rfl ?_
   exact k
 exact Go.rt X7 hx Bd (w := (.ref sb)) rfl (Or.inr (Or.inr (Or.inr (Or.inr ⟨rfl, rfl, rfl⟩)))) (hb hby d9_59) e7 ⟨da, kd, vt_6, ix, rfl, N7, K, E_sb, F_v, F_c, F_n, V_6, E_da, hvt_6, g_da, (Or.inl rfl), ⟨by omega, by omega⟩⟩
abbrev rm_rmAj16g : Room := ({ frames := 4, cells := 1, slots := 34, locals := 62 } : Room)
def Q_rmAj16g (Z : State) (sb : Addr) (xa : Int64) (da : Addr) (kd : ClassId) (vs : List Value) (cn : Int32) (cs : Int32) (dO : Addr) (kO : ClassId) (vO : List Value) (fO : Nat → Int32) (dT : Addr) (kT : ClassId) (vT : List Value) (fT : Nat → Int32) (h0 : Heap) (n0 : Nat) (v : Option Value) (h : Heap) (L : List Loc) : Prop := ∃ de : Addr, ∃ ke : ClassId, ∃ vf : List Value, ∃ ce : Int32, (v = some (.ref sb)) ∧ (Fr n0 L) ∧ (Keep h0 h [sb, da]) ∧ (Exa Z h sb "java/lang/StringBuilder") ∧ (Fd_4 Z h sb (.ref de)) ∧ (Fd_5 Z h sb (.int 0)) ∧ (Fd_6 Z h sb (.int ce)) ∧ (Arv Z h de ke .byte (34 : Int32) vf (.int 0)) ∧ (Exa Z h de "[B") ∧ (vf.length = 34) ∧ (n0 ≤ de) ∧ (de = da ∨ h0.size ≤ de) ∧ (cn.toInt + 1 ≤ ce.toInt ∧ ce.toInt ≤ cn.toInt + 7)
theorem rmAj16g (l : Launch) (Z : State) (a0 : Array Value) (hw : HW a0 Z) (ws : List Jvm.Cond) (sb : Addr) (xa : Int64) (da : Addr) (kd : ClassId) (vs : List Value) (cn : Int32) (cs : Int32) (dO : Addr) (kO : ClassId) (vO : List Value) (fO : Nat → Int32) (dT : Addr) (kT : ClassId) (vT : List Value) (fT : Nat → Int32) (h0 : Heap) (n0 : Nat) (O : Old Z n0 h0) (S_CS : Sa_0 Z (.int cs)) (S_DO : Sa_1 Z (.ref dO)) (V_dO : Arv Z Z.heap dO kO .byte (100 : Int32) vO (.int 0)) (S_DT : Sa_2 Z (.ref dT)) (V_dT : Arv Z Z.heap dT kT .byte (100 : Int32) vT (.int 0)) (E_sb : Exa Z h0 sb "java/lang/StringBuilder") (F_v : Fd_4 Z h0 sb (.ref da)) (F_c : Fd_5 Z h0 sb (.int 0)) (F_n : Fd_6 Z h0 sb (.int cn)) (V_da : Arv Z h0 da kd .byte (16 : Int32) vs (.int 0)) (E_da : Exa Z h0 da "[B") (hcs : ¬ (cs = (0 : Int32))) (hvO : ∀ zj : Nat, zj < 100 → vO.getD zj (.int 0) = .int (fO zj)) (hvT : ∀ zj : Nat, zj < 100 → vT.getD zj (.int 0) = .int (fT zj)) (ua : ¬ (xa < (0 : Int64))) (ub : ¬ ((1000000 : Int64) < xa)) (g_sb : n0 ≤ sb) (g_da : n0 ≤ da) (hvl : vs.length = 16) (hq : cn.toInt = 16) :
    Mt l Z y_25 jdk_68_method_33_code 5 (some (.object "java/lang/AbstractStringBuilder")) ws rm_rmAj16g #[(.ref sb), (.long xa)] h0 (Q_rmAj16g Z sb xa da kd vs cn cs dO kO vO fO dT kT vT fT h0 n0) := by
 refine own_met "java/lang/AbstractStringBuilder" (plainFor_of_name pn_java_lang_AbstractStringBuilder) #[rv sb, lv xa, .second, u_, u_] (fun m => rfl) (fun p e s m below meth c s₁ Bd hx hby hml hZ hown hnm X0 e0 => ?_)
 have N0 := Fr.nil n0
 have K := Keep.refl h0 [sb, da]
 refine Go.step (S' := s₁.setTop (mkF m 1 #[rv sb, lv xa, .second, u_, u_] [(.ref sb)])) (fun t k => ?_) ?_
 · refine XS.aloadN X0.here hx rfl (hb hby d9_0) rfl rfl ?_
   exact k
 refine Go.gF X0 hx hZ hown (host := "") (Or.inl (own_w hw 61 rfl)) Via.refl e0 F_n (hb hby d9_1) (fun T1 X1 e1 => ?_)
 refine Go.step (S' := T1.setTop (mkF m 7 #[rv sb, lv xa, .second, iv cn, u_] [(.long xa), (.int cn)])) (fun t k => ?_) ?_
 · refine XS.istoreN X1.here hx rfl (hb hby d9_4) rfl (l' := #[rv sb, lv xa, .second, iv cn, u_]) rfl ?_
   refine XS.iloadN X1.here hx rfl (hb hby d9_5) rfl ?_
   refine XS.lloadN X1.here hx rfl (hb hby d9_6) rfl ?_
   exact k
 refine Go.cS X1 hx hml hown hZ (own_w hw 63 rfl) (own_w hw 64 rfl) (own_w hw 65 rfl) (own_w hw 66 rfl) (rmSz l Z a0 hw [] xa h0 n0 O ua ub) 1 [(.int cn)] pd__28J_29I (hb hby d9_7) e1 (fun _ T2 L2 X2 hQ2 => ?_)
 obtain ⟨sr_2, rfl, Nq2, e2, dz_2⟩ := hQ2
 have N2 := Fr.app N0 Nq2
 refine Go.step (S' := T2.setTop (mkF m 13 #[rv sb, lv xa, .second, iv cn, iv (cn + sr_2)] [])) (fun t k => ?_) ?_
 · refine XS.iadd X2.here hx rfl (hb hby d9_10) rfl ?_
   refine XS.istore X2.here hx rfl (hb hby d9_11) rfl (l' := #[rv sb, lv xa, .second, iv cn, iv (cn + sr_2)]) rfl ?_
   exact k
 obtain ⟨ix, hd_ix⟩ : ∃ z : Int32, (cn + sr_2) = z := ⟨_, rfl⟩
 rw [hd_ix]
 show Go p e below _ (T2.setTop (mkF m 13 #[rv sb, lv xa, .second, iv cn, iv ix] []))
 obtain ⟨hs1, hs7, -⟩ := id dz_2
 have hsx := own_sum hd_ix (by omega) (by omega) (by omega) (by omega)
 refine Go.step (S' := T2.setTop (mkF m 16 #[rv sb, lv xa, .second, iv cn, iv ix] [(.int ix), (.ref sb)])) (fun t k => ?_) ?_
 · refine XS.aloadN X2.here hx rfl (hb hby d9_13) rfl rfl ?_
   refine XS.iload X2.here hx rfl (hb hby d9_14) rfl ?_
   exact k
 obtain ⟨cq3, q3, q3'⟩ := E_sb.cell
 obtain ⟨_, _, ⟨T3, L3, k3, n3⟩, -, X3, ⟨Lc3, hQ3, l3, y3, z3⟩, st3⟩ := X2.privateBack hx (y := y_15) hown (mvT hZ (own_w hw 68 rfl)) (mvT hZ (own_w hw 69 rfl)) (own_selQ hZ (own_w hw 71 rfl) (own_w hw 69 rfl) (own_w hw 70 rfl) (by decide)) (Cond.privateMethod_at (mvP hZ (own_w hw 70 rfl) (args := #[]))) (mvT hZ (own_w hw 72 rfl)) (by decide) (backOf (W := 0) (rmEg16 l Z a0 hw [] sb ix da kd vs cn h0 n0 O E_sb F_v F_c V_da F_n (by assumption) (own_gg (n := 16) rfl (by omega) (by decide) (by decide) (by omega)) (own_gm (n := 16) (q := 18) rfl rfl (by omega) (by omega) (by decide) (by decide) (by omega))) hZ (own_w hw 72 rfl) (own_w hw 43 rfl) (by decide) (by decide)) (g := (mkF m 16 #[rv sb, lv xa, .second, iv cn, iv ix] [(.int ix), (.ref sb)])) rfl (by rw [hml]; rfl) (Steps.refl _) (a := sb) (by rw [e2]; exact q3) q3' (argsL := [(.int ix)]) (rest := []) (lenOf pd__28I_29V rfl) rfl (Nat.le_of_eq rfl) (hb hby d9_16) (fun _ _ => ⟨rfl, e2, (by decide : 0 + 1 ≤ _), (by decide : 0 + 34 ≤ _)⟩)
 dsimp only [Pt.U, Pt.locs, Pt.cells, Pt.slots] at X3 l3 y3 z3 st3 hQ3
 subst l3 y3 z3
 obtain ⟨cb_3, kb_3, vt_3, rfl, Nq3, K3, P3_E_sb, P3_F_v, P3_F_c, P3_F_n, P3_V, P3_E, hvt_3, gc_3, sc_3⟩ := hQ3
 have N3 := Fr.app N2 Nq3
 have sz_cb_3 : h0.size ≤ cb_3 := Nat.le_trans K.1 sc_3
 have ne_sb_cb_3 : sb ≠ cb_3 := Nat.ne_of_lt (Nat.lt_of_lt_of_le E_sb.lt sc_3)
 have ne_da_cb_3 : da ≠ cb_3 := Nat.ne_of_lt (Nat.lt_of_lt_of_le V_da.lt sc_3)
 have ne_da_sb : da ≠ sb := ne_exa E_da E_sb (by decide)
 have O := O.keep K3 (allS g_sb all0)
 have E_sb := E_sb.keep K3
 have V_da := V_da.keep K3 (ninS ne_da_sb nin0)
 have E_da := E_da.keep K3
 have K := K.trans K3 (allS (Or.inl (List.mem_of_getElem? (i := 0) rfl)) all0)
 have E_sb_3 := P3_E_sb
 have F_v_3 := P3_F_v
 have F_c_3 := P3_F_c
 have F_n_3 := P3_F_n
 have V_3 := P3_V
 have E_3 := P3_E
 have g_cb_3 := gc_3
 refine Go.step (fun t k => st3.trans k) ?_
 refine Go.step (S' := T3.setTop (mkF m 20 #[rv sb, lv xa, .second, iv cn, iv ix] [(.ref sb)])) (fun t k => ?_) ?_
 · refine XS.aloadN X3.here hx rfl (hb hby d9_19) rfl rfl ?_
   exact k
 refine Go.cV X3 hx hml hown hZ (own_w hw 73 rfl) (own_w hw 74 rfl) (own_w hw 76 rfl) (own_w hw 75 rfl) (own_w hw 43 rfl) (own_w hw 77 rfl) E_sb (rmL1 l Z a0 hw [] sb cs T3.heap n0 O S_CS F_c_3 hcs) 0 [] pd__28_29Z (hb hby d9_20) (Eq.refl T3.heap) (fun _ T4 L4 X4 hQ4 => ?_)
 obtain ⟨rfl, Nq4, e4⟩ := hQ4
 have N4 := Fr.app N3 Nq4
 refine Go.step (S' := T4.setTop (mkF m 30 #[rv sb, lv xa, .second, iv cn, iv ix] [(.ref sb), (.int ix), (.long xa)])) (fun t k => ?_) ?_
 · refine XS.ifNo X4.here hx rfl (hb hby d9_23) rfl ((if0 _ _).trans (feq ((by decide) : ¬ ((1 : Int32) = (0 : Int32)))).1) ?_
   refine XS.lloadN X4.here hx rfl (hb hby d9_26) rfl ?_
   refine XS.iload X4.here hx rfl (hb hby d9_27) rfl ?_
   refine XS.aloadN X4.here hx rfl (hb hby d9_29) rfl rfl ?_
   exact k
 refine Go.gF X4 hx hZ hown (host := "") (Or.inl (own_w hw 47 rfl)) Via.refl e4 F_v_3 (hb hby d9_30) (fun T5 X5 e5 => ?_)
 refine Go.cS X5 hx hml hown hZ (own_w hw 78 rfl) (own_w hw 79 rfl) (own_w hw 65 rfl) (own_w hw 80 rfl) (rmGc l Z a0 hw [] xa ix cb_3 dO kO vO fO dT kT vT fT kb_3 (34 : Int32) vt_3 sr_2 T3.heap n0 O S_DO V_dO S_DT V_dT V_3 hvO hvT ua ub dz_2 ⟨by omega, by show _ ≤ (34 : Int); omega⟩ hvt_3 gc_3) 0 [] pd__28JI_5bB_29I (hb hby d9_33) e5 (fun _ T6 L6 X6 hQ6 => ?_)
 obtain ⟨rr_6, vt_6, rfl, Nq6, K6, P6_V, hvt_6⟩ := hQ6
 have N6 := Fr.app N4 Nq6
 have O := O.keep K6 (allS g_cb_3 all0)
 have E_sb := E_sb.keep K6
 have V_da := V_da.keep K6 (ninS ne_da_cb_3 nin0)
 have E_da := E_da.keep K6
 have K := K.trans K6 (allS (Or.inr sz_cb_3) all0)
 have E_sb_3 := E_sb_3.keep K6
 have F_v_3 := F_v_3.keep K6 (ninS ne_sb_cb_3 nin0)
 have F_c_3 := F_c_3.keep K6 (ninS ne_sb_cb_3 nin0)
 have F_n_3 := F_n_3.keep K6 (ninS ne_sb_cb_3 nin0)
 have E_3 := E_3.keep K6
 have V_6 := P6_V
 refine Go.step (S' := T6.setTop (mkF m 55 #[rv sb, lv xa, .second, iv cn, iv ix] [(.int ix), (.ref sb)])) (fun t k => ?_) ?_
 · refine XS.pop X6.here hx rfl (hb hby d9_36) rfl rfl ?_
   refine XS.goto X6.here hx rfl (pc0 := 37) (pc' := 52) rfl (hb hby d9_37) (by decide) (by decide) ?_
   refine XS.aloadN X6.here hx rfl (hb hby d9_52) rfl rfl ?_
   refine XS.iload X6.here hx rfl (hb hby d9_53) rfl ?_
   exact k
 obtain ⟨T7, h7, X7, e7, W7, st7⟩ := putF X6 hx hZ hown (host := "") (Or.inl (own_w hw 61 rfl)) Via.refl (Eq.refl T6.heap) F_n_3 E_sb (Or.inl (own_w hw 62 rfl)) (own_w hw 34 rfl) (ty := .int) (by decide) rfl rfl (g := (mkF m 55 #[rv sb, lv xa, .second, iv cn, iv ix] [(.int ix), (.ref sb)])) rfl rfl (hb hby d9_55)
 have O := O.wr W7 g_sb
 have E_sb := E_sb.wr W7
 have V_da := V_da.other W7 ne_da_sb
 have E_da := E_da.wr W7
 have K := K.wr W7 (Or.inl (List.mem_of_getElem? (i := 0) rfl))
 have E_sb_3 := E_sb_3.wr W7
 have F_v_3 := F_v_3.other W7 (Or.inr (slot_ne (Or.inl (own_w hw 48 rfl)) (Or.inl (own_w hw 62 rfl)) (by decide) (t := (.array .byte)) (t' := .int) (by decide) (by decide)))
 have F_c_3 := F_c_3.other W7 (Or.inr (slot_ne (Or.inl (own_w hw 50 rfl)) (Or.inl (own_w hw 62 rfl)) (by decide) (t := .byte) (t' := .int) (by decide) (by decide)))
 have F_n_3 := F_n_3.same W7
 have E_3 := E_3.wr W7
 have V_6 := V_6.other W7 (Ne.symm ne_sb_cb_3)
 have N7 := Fr.snoc X7 N6 g_sb
 refine Go.step st7 ?_
 refine Go.step (S' := T7.setTop (mkF m 59 #[rv sb, lv xa, .second, iv cn, iv ix] [(.ref sb)])) (fun t k => ?_) ?_
 · refine XS.aloadN X7.here hx rfl (hb hby d9_58) rfl rfl ?_
   exact k
 exact Go.rt X7 hx Bd (w := (.ref sb)) rfl (Or.inr (Or.inr (Or.inr (Or.inr ⟨rfl, rfl, rfl⟩)))) (hb hby d9_59) e7 ⟨cb_3, kb_3, vt_6, ix, rfl, N7, K, E_sb, F_v_3, F_c_3, F_n_3, V_6, E_3, hvt_6, g_cb_3, (Or.inr sz_cb_3), ⟨by omega, by omega⟩⟩
abbrev rm_rmAj34k : Room := ({ frames := 1, cells := 0, slots := 0, locals := 22 } : Room)
def Q_rmAj34k (Z : State) (sb : Addr) (xa : Int64) (da : Addr) (kd : ClassId) (vs : List Value) (cn : Int32) (cs : Int32) (dO : Addr) (kO : ClassId) (vO : List Value) (fO : Nat → Int32) (dT : Addr) (kT : ClassId) (vT : List Value) (fT : Nat → Int32) (h0 : Heap) (n0 : Nat) (v : Option Value) (h : Heap) (L : List Loc) : Prop := ∃ de : Addr, ∃ ke : ClassId, ∃ vf : List Value, ∃ ce : Int32, (v = some (.ref sb)) ∧ (Fr n0 L) ∧ (Keep h0 h [sb, da]) ∧ (Exa Z h sb "java/lang/StringBuilder") ∧ (Fd_4 Z h sb (.ref de)) ∧ (Fd_5 Z h sb (.int 0)) ∧ (Fd_6 Z h sb (.int ce)) ∧ (Arv Z h de ke .byte (34 : Int32) vf (.int 0)) ∧ (Exa Z h de "[B") ∧ (vf.length = 34) ∧ (n0 ≤ de) ∧ (de = da ∨ h0.size ≤ de) ∧ (cn.toInt + 1 ≤ ce.toInt ∧ ce.toInt ≤ cn.toInt + 7)
theorem rmAj34k (l : Launch) (Z : State) (a0 : Array Value) (hw : HW a0 Z) (ws : List Jvm.Cond) (sb : Addr) (xa : Int64) (da : Addr) (kd : ClassId) (vs : List Value) (cn : Int32) (cs : Int32) (dO : Addr) (kO : ClassId) (vO : List Value) (fO : Nat → Int32) (dT : Addr) (kT : ClassId) (vT : List Value) (fT : Nat → Int32) (h0 : Heap) (n0 : Nat) (O : Old Z n0 h0) (S_CS : Sa_0 Z (.int cs)) (S_DO : Sa_1 Z (.ref dO)) (V_dO : Arv Z Z.heap dO kO .byte (100 : Int32) vO (.int 0)) (S_DT : Sa_2 Z (.ref dT)) (V_dT : Arv Z Z.heap dT kT .byte (100 : Int32) vT (.int 0)) (E_sb : Exa Z h0 sb "java/lang/StringBuilder") (F_v : Fd_4 Z h0 sb (.ref da)) (F_c : Fd_5 Z h0 sb (.int 0)) (F_n : Fd_6 Z h0 sb (.int cn)) (V_da : Arv Z h0 da kd .byte (34 : Int32) vs (.int 0)) (E_da : Exa Z h0 da "[B") (hcs : ¬ (cs = (0 : Int32))) (hvO : ∀ zj : Nat, zj < 100 → vO.getD zj (.int 0) = .int (fO zj)) (hvT : ∀ zj : Nat, zj < 100 → vT.getD zj (.int 0) = .int (fT zj)) (ua : ¬ (xa < (0 : Int64))) (ub : ¬ ((1000000 : Int64) < xa)) (g_sb : n0 ≤ sb) (g_da : n0 ≤ da) (hvl : vs.length = 34) (hq : 0 ≤ cn.toInt ∧ cn.toInt + 7 ≤ 34) :
    Mt l Z y_25 jdk_68_method_33_code 5 (some (.object "java/lang/AbstractStringBuilder")) ws rm_rmAj34k #[(.ref sb), (.long xa)] h0 (Q_rmAj34k Z sb xa da kd vs cn cs dO kO vO fO dT kT vT fT h0 n0) := by
 refine own_met "java/lang/AbstractStringBuilder" (plainFor_of_name pn_java_lang_AbstractStringBuilder) #[rv sb, lv xa, .second, u_, u_] (fun m => rfl) (fun p e s m below meth c s₁ Bd hx hby hml hZ hown hnm X0 e0 => ?_)
 have N0 := Fr.nil n0
 have K := Keep.refl h0 [sb, da]
 refine Go.step (S' := s₁.setTop (mkF m 1 #[rv sb, lv xa, .second, u_, u_] [(.ref sb)])) (fun t k => ?_) ?_
 · refine XS.aloadN X0.here hx rfl (hb hby d9_0) rfl rfl ?_
   exact k
 refine Go.gF X0 hx hZ hown (host := "") (Or.inl (own_w hw 61 rfl)) Via.refl e0 F_n (hb hby d9_1) (fun T1 X1 e1 => ?_)
 refine Go.step (S' := T1.setTop (mkF m 7 #[rv sb, lv xa, .second, iv cn, u_] [(.long xa), (.int cn)])) (fun t k => ?_) ?_
 · refine XS.istoreN X1.here hx rfl (hb hby d9_4) rfl (l' := #[rv sb, lv xa, .second, iv cn, u_]) rfl ?_
   refine XS.iloadN X1.here hx rfl (hb hby d9_5) rfl ?_
   refine XS.lloadN X1.here hx rfl (hb hby d9_6) rfl ?_
   exact k
 refine Go.cS X1 hx hml hown hZ (own_w hw 63 rfl) (own_w hw 64 rfl) (own_w hw 65 rfl) (own_w hw 66 rfl) (rmSz l Z a0 hw [] xa h0 n0 O ua ub) 1 [(.int cn)] pd__28J_29I (hb hby d9_7) e1 (fun _ T2 L2 X2 hQ2 => ?_)
 obtain ⟨sr_2, rfl, Nq2, e2, dz_2⟩ := hQ2
 have N2 := Fr.app N0 Nq2
 refine Go.step (S' := T2.setTop (mkF m 13 #[rv sb, lv xa, .second, iv cn, iv (cn + sr_2)] [])) (fun t k => ?_) ?_
 · refine XS.iadd X2.here hx rfl (hb hby d9_10) rfl ?_
   refine XS.istore X2.here hx rfl (hb hby d9_11) rfl (l' := #[rv sb, lv xa, .second, iv cn, iv (cn + sr_2)]) rfl ?_
   exact k
 obtain ⟨ix, hd_ix⟩ : ∃ z : Int32, (cn + sr_2) = z := ⟨_, rfl⟩
 rw [hd_ix]
 show Go p e below _ (T2.setTop (mkF m 13 #[rv sb, lv xa, .second, iv cn, iv ix] []))
 obtain ⟨hs1, hs7, -⟩ := id dz_2
 have hsx := own_sum hd_ix (by omega) (by omega) (by omega) (by omega)
 refine Go.step (S' := T2.setTop (mkF m 16 #[rv sb, lv xa, .second, iv cn, iv ix] [(.int ix), (.ref sb)])) (fun t k => ?_) ?_
 · refine XS.aloadN X2.here hx rfl (hb hby d9_13) rfl rfl ?_
   refine XS.iload X2.here hx rfl (hb hby d9_14) rfl ?_
   exact k
 obtain ⟨cq3, q3, q3'⟩ := E_sb.cell
 obtain ⟨_, _, ⟨T3, L3, k3, n3⟩, -, X3, ⟨Lc3, hQ3, l3, y3, z3⟩, st3⟩ := X2.privateBack hx (y := y_15) hown (mvT hZ (own_w hw 68 rfl)) (mvT hZ (own_w hw 69 rfl)) (own_selQ hZ (own_w hw 71 rfl) (own_w hw 69 rfl) (own_w hw 70 rfl) (by decide)) (Cond.privateMethod_at (mvP hZ (own_w hw 70 rfl) (args := #[]))) (mvT hZ (own_w hw 72 rfl)) (by decide) (backOf (W := 0) (rmEk34 l Z a0 hw [] sb ix da kd vs h0 n0 O E_sb F_v F_c V_da (own_gk (n := 34) rfl (by omega) (by decide) (by omega))) hZ (own_w hw 72 rfl) (own_w hw 43 rfl) (by decide) (by decide)) (g := (mkF m 16 #[rv sb, lv xa, .second, iv cn, iv ix] [(.int ix), (.ref sb)])) rfl (by rw [hml]; rfl) (Steps.refl _) (a := sb) (by rw [e2]; exact q3) q3' (argsL := [(.int ix)]) (rest := []) (lenOf pd__28I_29V rfl) rfl (Nat.le_of_eq rfl) (hb hby d9_16) (fun _ _ => ⟨rfl, e2, (by decide : 0 + 0 ≤ _), (by decide : 0 + 0 ≤ _)⟩)
 dsimp only [Pt.U, Pt.locs, Pt.cells, Pt.slots] at X3 l3 y3 z3 st3 hQ3
 subst l3 y3 z3
 obtain ⟨rfl, Nq3, e3⟩ := hQ3
 have N3 := Fr.app N2 Nq3
 refine Go.step (fun t k => st3.trans k) ?_
 refine Go.step (S' := T3.setTop (mkF m 20 #[rv sb, lv xa, .second, iv cn, iv ix] [(.ref sb)])) (fun t k => ?_) ?_
 · refine XS.aloadN X3.here hx rfl (hb hby d9_19) rfl rfl ?_
   exact k
 refine Go.cV X3 hx hml hown hZ (own_w hw 73 rfl) (own_w hw 74 rfl) (own_w hw 76 rfl) (own_w hw 75 rfl) (own_w hw 43 rfl) (own_w hw 77 rfl) E_sb (rmL1 l Z a0 hw [] sb cs h0 n0 O S_CS F_c hcs) 0 [] pd__28_29Z (hb hby d9_20) e3 (fun _ T4 L4 X4 hQ4 => ?_)
 obtain ⟨rfl, Nq4, e4⟩ := hQ4
 have N4 := Fr.app N3 Nq4
 refine Go.step (S' := T4.setTop (mkF m 30 #[rv sb, lv xa, .second, iv cn, iv ix] [(.ref sb), (.int ix), (.long xa)])) (fun t k => ?_) ?_
 · refine XS.ifNo X4.here hx rfl (hb hby d9_23) rfl ((if0 _ _).trans (feq ((by decide) : ¬ ((1 : Int32) = (0 : Int32)))).1) ?_
   refine XS.lloadN X4.here hx rfl (hb hby d9_26) rfl ?_
   refine XS.iload X4.here hx rfl (hb hby d9_27) rfl ?_
   refine XS.aloadN X4.here hx rfl (hb hby d9_29) rfl rfl ?_
   exact k
 refine Go.gF X4 hx hZ hown (host := "") (Or.inl (own_w hw 47 rfl)) Via.refl e4 F_v (hb hby d9_30) (fun T5 X5 e5 => ?_)
 refine Go.cS X5 hx hml hown hZ (own_w hw 78 rfl) (own_w hw 79 rfl) (own_w hw 65 rfl) (own_w hw 80 rfl) (rmGc l Z a0 hw [] xa ix da dO kO vO fO dT kT vT fT kd (34 : Int32) vs sr_2 h0 n0 O S_DO V_dO S_DT V_dT V_da hvO hvT ua ub dz_2 ⟨by omega, by show _ ≤ (34 : Int); omega⟩ hvl (by assumption)) 0 [] pd__28JI_5bB_29I (hb hby d9_33) e5 (fun _ T6 L6 X6 hQ6 => ?_)
 obtain ⟨rr_6, vt_6, rfl, Nq6, K6, P6_V, hvt_6⟩ := hQ6
 have N6 := Fr.app N4 Nq6
 have ne_sb_da : sb ≠ da := ne_exa E_sb E_da (by decide)
 have O := O.keep K6 (allS g_da all0)
 have E_sb := E_sb.keep K6
 have F_v := F_v.keep K6 (ninS ne_sb_da nin0)
 have F_c := F_c.keep K6 (ninS ne_sb_da nin0)
 have F_n := F_n.keep K6 (ninS ne_sb_da nin0)
 have E_da := E_da.keep K6
 have K := K.trans K6 (allS (Or.inl (List.mem_of_getElem? (i := 1) rfl)) all0)
 have V_6 := P6_V
 refine Go.step (S' := T6.setTop (mkF m 55 #[rv sb, lv xa, .second, iv cn, iv ix] [(.int ix), (.ref sb)])) (fun t k => ?_) ?_
 · refine XS.pop X6.here hx rfl (hb hby d9_36) rfl rfl ?_
   refine XS.goto X6.here hx rfl (pc0 := 37) (pc' := 52) rfl (hb hby d9_37) (by decide) (by decide) ?_
   refine XS.aloadN X6.here hx rfl (hb hby d9_52) rfl rfl ?_
   refine XS.iload X6.here hx rfl (hb hby d9_53) rfl ?_
   exact k
 obtain ⟨T7, h7, X7, e7, W7, st7⟩ := putF X6 hx hZ hown (host := "") (Or.inl (own_w hw 61 rfl)) Via.refl (Eq.refl T6.heap) F_n E_sb (Or.inl (own_w hw 62 rfl)) (own_w hw 34 rfl) (ty := .int) (by decide) rfl rfl (g := (mkF m 55 #[rv sb, lv xa, .second, iv cn, iv ix] [(.int ix), (.ref sb)])) rfl rfl (hb hby d9_55)
 have O := O.wr W7 g_sb
 have E_sb := E_sb.wr W7
 have F_v := F_v.other W7 (Or.inr (slot_ne (Or.inl (own_w hw 48 rfl)) (Or.inl (own_w hw 62 rfl)) (by decide) (t := (.array .byte)) (t' := .int) (by decide) (by decide)))
 have F_c := F_c.other W7 (Or.inr (slot_ne (Or.inl (own_w hw 50 rfl)) (Or.inl (own_w hw 62 rfl)) (by decide) (t := .byte) (t' := .int) (by decide) (by decide)))
 have F_n := F_n.same W7
 have E_da := E_da.wr W7
 have K := K.wr W7 (Or.inl (List.mem_of_getElem? (i := 0) rfl))
 have V_6 := V_6.other W7 (Ne.symm ne_sb_da)
 have N7 := Fr.snoc X7 N6 g_sb
 refine Go.step st7 ?_
 refine Go.step (S' := T7.setTop (mkF m 59 #[rv sb, lv xa, .second, iv cn, iv ix] [(.ref sb)])) (fun t k => ?_) ?_
 · refine XS.aloadN X7.here hx rfl (hb hby d9_58) rfl rfl ?_
   exact k
 exact Go.rt X7 hx Bd (w := (.ref sb)) rfl (Or.inr (Or.inr (Or.inr (Or.inr ⟨rfl, rfl, rfl⟩)))) (hb hby d9_59) e7 ⟨da, kd, vt_6, ix, rfl, N7, K, E_sb, F_v, F_c, F_n, V_6, E_da, hvt_6, g_da, (Or.inl rfl), ⟨by omega, by omega⟩⟩
abbrev y_26 : MethodName := ⟨"java/lang/StringBuilder", "append", "(J)Ljava/lang/StringBuilder;"⟩
theorem d8_0 : decode jdk_67_method_16_code 0 = .ok (.aload_n 0, 1) := by decide +kernel
theorem d8_1 : decode jdk_67_method_16_code 1 = .ok (.lload_n 1, 1) := by decide +kernel
theorem d8_2 : decode jdk_67_method_16_code 2 = .ok (.invokespecial 56, 3) := by decide +kernel
theorem pd__28J_29Ljava_2flang_2fAbstractStringBuilder_3b : parseMethodDescriptor "(J)Ljava/lang/AbstractStringBuilder;" = some ⟨[.long], some (.object "java/lang/AbstractStringBuilder")⟩ := by decide +kernel
theorem d8_5 : decode jdk_67_method_16_code 5 = .ok (.pop, 1) := by decide +kernel
theorem d8_6 : decode jdk_67_method_16_code 6 = .ok (.aload_n 0, 1) := by decide +kernel
theorem d8_7 : decode jdk_67_method_16_code 7 = .ok (.areturn, 1) := by decide +kernel
abbrev rm_rmBj1 : Room := ({ frames := 2, cells := 0, slots := 0, locals := 38 } : Room)
def Q_rmBj1 (Z : State) (sb : Addr) (xa : Int64) (da : Addr) (kd : ClassId) (vs : List Value) (cn : Int32) (cs : Int32) (dO : Addr) (kO : ClassId) (vO : List Value) (fO : Nat → Int32) (dT : Addr) (kT : ClassId) (vT : List Value) (fT : Nat → Int32) (h0 : Heap) (n0 : Nat) (v : Option Value) (h : Heap) (L : List Loc) : Prop := ∃ de : Addr, ∃ ke : ClassId, ∃ vf : List Value, ∃ ce : Int32, (v = some (.ref sb)) ∧ (Fr n0 L) ∧ (Keep h0 h [sb, da]) ∧ (Exa Z h sb "java/lang/StringBuilder") ∧ (Fd_4 Z h sb (.ref de)) ∧ (Fd_5 Z h sb (.int 0)) ∧ (Fd_6 Z h sb (.int ce)) ∧ (Arv Z h de ke .byte (16 : Int32) vf (.int 0)) ∧ (Exa Z h de "[B") ∧ (vf.length = 16) ∧ (n0 ≤ de) ∧ (de = da ∨ h0.size ≤ de) ∧ (1 ≤ ce.toInt ∧ ce.toInt ≤ 7)
theorem rmBj1 (l : Launch) (Z : State) (a0 : Array Value) (hw : HW a0 Z) (ws : List Jvm.Cond) (sb : Addr) (xa : Int64) (da : Addr) (kd : ClassId) (vs : List Value) (cn : Int32) (cs : Int32) (dO : Addr) (kO : ClassId) (vO : List Value) (fO : Nat → Int32) (dT : Addr) (kT : ClassId) (vT : List Value) (fT : Nat → Int32) (h0 : Heap) (n0 : Nat) (O : Old Z n0 h0) (S_CS : Sa_0 Z (.int cs)) (S_DO : Sa_1 Z (.ref dO)) (V_dO : Arv Z Z.heap dO kO .byte (100 : Int32) vO (.int 0)) (S_DT : Sa_2 Z (.ref dT)) (V_dT : Arv Z Z.heap dT kT .byte (100 : Int32) vT (.int 0)) (E_sb : Exa Z h0 sb "java/lang/StringBuilder") (F_v : Fd_4 Z h0 sb (.ref da)) (F_c : Fd_5 Z h0 sb (.int 0)) (F_n : Fd_6 Z h0 sb (.int cn)) (V_da : Arv Z h0 da kd .byte (16 : Int32) vs (.int 0)) (E_da : Exa Z h0 da "[B") (hcs : ¬ (cs = (0 : Int32))) (hvO : ∀ zj : Nat, zj < 100 → vO.getD zj (.int 0) = .int (fO zj)) (hvT : ∀ zj : Nat, zj < 100 → vT.getD zj (.int 0) = .int (fT zj)) (ua : ¬ (xa < (0 : Int64))) (ub : ¬ ((1000000 : Int64) < xa)) (g_sb : n0 ≤ sb) (g_da : n0 ≤ da) (hvl : vs.length = 16) (hq : cn.toInt = 0) :
    Mt l Z y_26 jdk_67_method_16_code 3 (some (.object "java/lang/StringBuilder")) ws rm_rmBj1 #[(.ref sb), (.long xa)] h0 (Q_rmBj1 Z sb xa da kd vs cn cs dO kO vO fO dT kT vT fT h0 n0) := by
 refine own_met "java/lang/StringBuilder" (plainFor_of_name pn_java_lang_StringBuilder) #[rv sb, lv xa, .second] (fun m => rfl) (fun p e s m below meth c s₁ Bd hx hby hml hZ hown hnm X0 e0 => ?_)
 have N0 := Fr.nil n0
 have K := Keep.refl h0 [sb, da]
 refine Go.step (S' := s₁.setTop (mkF m 2 #[rv sb, lv xa, .second] [(.long xa), (.ref sb)])) (fun t k => ?_) ?_
 · refine XS.aloadN X0.here hx rfl (hb hby d8_0) rfl rfl ?_
   refine XS.lloadN X0.here hx rfl (hb hby d8_1) rfl ?_
   exact k
 refine Go.cU X0 hx hml hown hZ (own_w hw 56 rfl) (own_w hw 57 rfl) (own_w hw 71 rfl) (own_w hw 58 rfl) (own_w hw 43 rfl) (own_w hw 60 rfl) E_sb (rmAj16k l Z a0 hw [] sb xa da kd vs cn cs dO kO vO fO dT kT vT fT h0 n0 O S_CS S_DO V_dO S_DT V_dT E_sb F_v F_c F_n V_da E_da hcs hvO hvT ua ub (by assumption) (by assumption) hvl ⟨by omega, by omega⟩) 0 [] pd__28J_29Ljava_2flang_2fAbstractStringBuilder_3b (hb hby d8_2) e0 (fun _ T1 L1 X1 hQ1 => ?_)
 obtain ⟨de_1, ke_1, vf_1, ce_1, rfl, Nq1, K1, P1_E_sb, P1_F_v, P1_F_c, P1_F_n, P1_V, P1_E, hvf_1, ge_1, se_1, hce_1⟩ := hQ1
 have N1 := Fr.app N0 Nq1
 have ne_sb_da : sb ≠ da := ne_exa E_sb E_da (by decide)
 have O := O.keep K1 (allS g_sb (allS g_da all0))
 have E_sb := E_sb.keep K1
 have E_da := E_da.keep K1
 have K := K.trans K1 (allS (Or.inl (List.mem_of_getElem? (i := 0) rfl)) (allS (Or.inl (List.mem_of_getElem? (i := 1) rfl)) all0))
 have E_sb_1 := P1_E_sb
 have F_v_1 := P1_F_v
 have F_c_1 := P1_F_c
 have F_n_1 := P1_F_n
 have V_1 := P1_V
 have E_1 := P1_E
 have g_de_1 := ge_1
 refine Go.step (S' := T1.setTop (mkF m 7 #[rv sb, lv xa, .second] [(.ref sb)])) (fun t k => ?_) ?_
 · refine XS.pop X1.here hx rfl (hb hby d8_5) rfl rfl ?_
   refine XS.aloadN X1.here hx rfl (hb hby d8_6) rfl rfl ?_
   exact k
 exact Go.rt X1 hx Bd (w := (.ref sb)) rfl (Or.inr (Or.inr (Or.inr (Or.inr ⟨rfl, rfl, rfl⟩)))) (hb hby d8_7) (Eq.refl T1.heap) ⟨de_1, ke_1, vf_1, ce_1, rfl, N1, K, E_sb, F_v_1, F_c_1, F_n_1, V_1, E_1, hvf_1, g_de_1, se_1, ⟨by omega, by omega⟩⟩
abbrev rm_rmBj2 : Room := ({ frames := 5, cells := 1, slots := 34, locals := 78 } : Room)
def Q_rmBj2 (Z : State) (sb : Addr) (xa : Int64) (da : Addr) (kd : ClassId) (vs : List Value) (cn : Int32) (cs : Int32) (dO : Addr) (kO : ClassId) (vO : List Value) (fO : Nat → Int32) (dT : Addr) (kT : ClassId) (vT : List Value) (fT : Nat → Int32) (nn : Int32) (h0 : Heap) (n0 : Nat) (v : Option Value) (h : Heap) (L : List Loc) : Prop := ∃ de : Addr, ∃ ke : ClassId, ∃ vf : List Value, ∃ ce : Int32, (v = some (.ref sb)) ∧ (Fr n0 L) ∧ (Keep h0 h [sb, da]) ∧ (Exa Z h sb "java/lang/StringBuilder") ∧ (Fd_4 Z h sb (.ref de)) ∧ (Fd_5 Z h sb (.int 0)) ∧ (Fd_6 Z h sb (.int ce)) ∧ (Arv Z h de ke .byte (34 : Int32) vf (.int 0)) ∧ (Exa Z h de "[B") ∧ (vf.length = 34) ∧ (n0 ≤ de) ∧ (de = da ∨ h0.size ≤ de) ∧ (17 ≤ ce.toInt ∧ ce.toInt ≤ 29)
theorem rmBj2 (l : Launch) (Z : State) (a0 : Array Value) (hw : HW a0 Z) (ws : List Jvm.Cond) (sb : Addr) (xa : Int64) (da : Addr) (kd : ClassId) (vs : List Value) (cn : Int32) (cs : Int32) (dO : Addr) (kO : ClassId) (vO : List Value) (fO : Nat → Int32) (dT : Addr) (kT : ClassId) (vT : List Value) (fT : Nat → Int32) (nn : Int32) (h0 : Heap) (n0 : Nat) (O : Old Z n0 h0) (S_CS : Sa_0 Z (.int cs)) (S_DO : Sa_1 Z (.ref dO)) (V_dO : Arv Z Z.heap dO kO .byte (100 : Int32) vO (.int 0)) (S_DT : Sa_2 Z (.ref dT)) (V_dT : Arv Z Z.heap dT kT .byte (100 : Int32) vT (.int 0)) (E_sb : Exa Z h0 sb "java/lang/StringBuilder") (F_v : Fd_4 Z h0 sb (.ref da)) (F_c : Fd_5 Z h0 sb (.int 0)) (F_n : Fd_6 Z h0 sb (.int cn)) (V_da : Arv Z h0 da kd .byte nn vs (.int 0)) (E_da : Exa Z h0 da "[B") (hcs : ¬ (cs = (0 : Int32))) (hvO : ∀ zj : Nat, zj < 100 → vO.getD zj (.int 0) = .int (fO zj)) (hvT : ∀ zj : Nat, zj < 100 → vT.getD zj (.int 0) = .int (fT zj)) (ua : ¬ (xa < (0 : Int64))) (ub : ¬ ((1000000 : Int64) < xa)) (g_sb : n0 ≤ sb) (g_da : n0 ≤ da) (hvl : vs.length = nn.toNatClampNeg) (hn : (nn = (16 : Int32) ∧ cn.toInt = 16) ∨ (nn = (34 : Int32) ∧ 17 ≤ cn.toInt ∧ cn.toInt ≤ 22)) :
    Mt l Z y_26 jdk_67_method_16_code 3 (some (.object "java/lang/StringBuilder")) ws rm_rmBj2 #[(.ref sb), (.long xa)] h0 (Q_rmBj2 Z sb xa da kd vs cn cs dO kO vO fO dT kT vT fT nn h0 n0) := by
 refine own_met "java/lang/StringBuilder" (plainFor_of_name pn_java_lang_StringBuilder) #[rv sb, lv xa, .second] (fun m => rfl) (fun p e s m below meth c s₁ Bd hx hby hml hZ hown hnm X0 e0 => ?_)
 have N0 := Fr.nil n0
 have K := Keep.refl h0 [sb, da]
 rcases hn with ⟨en, hq⟩ | ⟨en, hq⟩
 ·skip
  rw [en] at V_da hvl
  refine Go.step (S' := s₁.setTop (mkF m 2 #[rv sb, lv xa, .second] [(.long xa), (.ref sb)])) (fun t k => ?_) ?_
  · refine XS.aloadN X0.here hx rfl (hb hby d8_0) rfl rfl ?_
    refine XS.lloadN X0.here hx rfl (hb hby d8_1) rfl ?_
    exact k
  refine Go.cU X0 hx hml hown hZ (own_w hw 56 rfl) (own_w hw 57 rfl) (own_w hw 71 rfl) (own_w hw 58 rfl) (own_w hw 43 rfl) (own_w hw 60 rfl) E_sb (rmAj16g l Z a0 hw [] sb xa da kd vs cn cs dO kO vO fO dT kT vT fT h0 n0 O S_CS S_DO V_dO S_DT V_dT E_sb F_v F_c F_n V_da E_da hcs hvO hvT ua ub (by assumption) (by assumption) hvl hq) 0 [] pd__28J_29Ljava_2flang_2fAbstractStringBuilder_3b (hb hby d8_2) e0 (fun _ T1 L1 X1 hQ1 => ?_)
  obtain ⟨de_1, ke_1, vf_1, ce_1, rfl, Nq1, K1, P1_E_sb, P1_F_v, P1_F_c, P1_F_n, P1_V, P1_E, hvf_1, ge_1, se_1, hce_1⟩ := hQ1
  have N1 := Fr.app N0 Nq1
  have ne_sb_da : sb ≠ da := ne_exa E_sb E_da (by decide)
  have O := O.keep K1 (allS g_sb (allS g_da all0))
  have E_sb := E_sb.keep K1
  have E_da := E_da.keep K1
  have K := K.trans K1 (allS (Or.inl (List.mem_of_getElem? (i := 0) rfl)) (allS (Or.inl (List.mem_of_getElem? (i := 1) rfl)) all0))
  have E_sb_1 := P1_E_sb
  have F_v_1 := P1_F_v
  have F_c_1 := P1_F_c
  have F_n_1 := P1_F_n
  have V_1 := P1_V
  have E_1 := P1_E
  have g_de_1 := ge_1
  refine Go.step (S' := T1.setTop (mkF m 7 #[rv sb, lv xa, .second] [(.ref sb)])) (fun t k => ?_) ?_
  · refine XS.pop X1.here hx rfl (hb hby d8_5) rfl rfl ?_
    refine XS.aloadN X1.here hx rfl (hb hby d8_6) rfl rfl ?_
    exact k
  exact Go.rt X1 hx Bd (w := (.ref sb)) rfl (Or.inr (Or.inr (Or.inr (Or.inr ⟨rfl, rfl, rfl⟩)))) (hb hby d8_7) (Eq.refl T1.heap) ⟨de_1, ke_1, vf_1, ce_1, rfl, N1, K, E_sb, F_v_1, F_c_1, F_n_1, V_1, E_1, hvf_1, g_de_1, se_1, ⟨by omega, by omega⟩⟩
 ·skip
  rw [en] at V_da hvl
  refine Go.step (S' := s₁.setTop (mkF m 2 #[rv sb, lv xa, .second] [(.long xa), (.ref sb)])) (fun t k => ?_) ?_
  · refine XS.aloadN X0.here hx rfl (hb hby d8_0) rfl rfl ?_
    refine XS.lloadN X0.here hx rfl (hb hby d8_1) rfl ?_
    exact k
  refine Go.cU X0 hx hml hown hZ (own_w hw 56 rfl) (own_w hw 57 rfl) (own_w hw 71 rfl) (own_w hw 58 rfl) (own_w hw 43 rfl) (own_w hw 60 rfl) E_sb (rmAj34k l Z a0 hw [] sb xa da kd vs cn cs dO kO vO fO dT kT vT fT h0 n0 O S_CS S_DO V_dO S_DT V_dT E_sb F_v F_c F_n V_da E_da hcs hvO hvT ua ub (by assumption) (by assumption) hvl ⟨by omega, by omega⟩) 0 [] pd__28J_29Ljava_2flang_2fAbstractStringBuilder_3b (hb hby d8_2) e0 (fun _ T2 L2 X2 hQ2 => ?_)
  obtain ⟨de_2, ke_2, vf_2, ce_2, rfl, Nq2, K2, P2_E_sb, P2_F_v, P2_F_c, P2_F_n, P2_V, P2_E, hvf_2, ge_2, se_2, hce_2⟩ := hQ2
  have N2 := Fr.app N0 Nq2
  have ne_sb_da : sb ≠ da := ne_exa E_sb E_da (by decide)
  have O := O.keep K2 (allS g_sb (allS g_da all0))
  have E_sb := E_sb.keep K2
  have E_da := E_da.keep K2
  have K := K.trans K2 (allS (Or.inl (List.mem_of_getElem? (i := 0) rfl)) (allS (Or.inl (List.mem_of_getElem? (i := 1) rfl)) all0))
  have E_sb_2 := P2_E_sb
  have F_v_2 := P2_F_v
  have F_c_2 := P2_F_c
  have F_n_2 := P2_F_n
  have V_2 := P2_V
  have E_2 := P2_E
  have g_de_2 := ge_2
  refine Go.step (S' := T2.setTop (mkF m 7 #[rv sb, lv xa, .second] [(.ref sb)])) (fun t k => ?_) ?_
  · refine XS.pop X2.here hx rfl (hb hby d8_5) rfl rfl ?_
    refine XS.aloadN X2.here hx rfl (hb hby d8_6) rfl rfl ?_
    exact k
  exact Go.rt X2 hx Bd (w := (.ref sb)) rfl (Or.inr (Or.inr (Or.inr (Or.inr ⟨rfl, rfl, rfl⟩)))) (hb hby d8_7) (Eq.refl T2.heap) ⟨de_2, ke_2, vf_2, ce_2, rfl, N2, K, E_sb, F_v_2, F_c_2, F_n_2, V_2, E_2, hvf_2, g_de_2, se_2, ⟨by omega, by omega⟩⟩
abbrev y_27 : MethodName := ⟨"java/lang/StringBuilder", "length", "()I"⟩
theorem d30_0 : decode jdk_67_method_93_code 0 = .ok (.aload_n 0, 1) := by decide +kernel
theorem d30_1 : decode jdk_67_method_93_code 1 = .ok (.invokespecial 343, 3) := by decide +kernel
theorem d30_4 : decode jdk_67_method_93_code 4 = .ok (.ireturn, 1) := by decide +kernel
abbrev rm_rmBL : Room := ({ frames := 1, cells := 0, slots := 0, locals := 12 } : Room)
def Q_rmBL (Z : State) (sb : Addr) (cn : Int32) (h0 : Heap) (n0 : Nat) (v : Option Value) (h : Heap) (L : List Loc) : Prop := (v = some (.int cn)) ∧ (Fr n0 L) ∧ (h = h0)
theorem rmBL (l : Launch) (Z : State) (a0 : Array Value) (hw : HW a0 Z) (ws : List Jvm.Cond) (sb : Addr) (cn : Int32) (h0 : Heap) (n0 : Nat) (O : Old Z n0 h0) (E_sb : Exa Z h0 sb "java/lang/StringBuilder") (F_n : Fd_6 Z h0 sb (.int cn)) :
    Mt l Z y_27 jdk_67_method_93_code 1 (some .int) ws rm_rmBL #[(.ref sb)] h0 (Q_rmBL Z sb cn h0 n0) := by
 refine own_met "java/lang/StringBuilder" (plainFor_of_name pn_java_lang_StringBuilder) #[rv sb] (fun m => rfl) (fun p e s m below meth c s₁ Bd hx hby hml hZ hown hnm X0 e0 => ?_)
 have N0 := Fr.nil n0
 refine Go.step (S' := s₁.setTop (mkF m 1 #[rv sb] [(.ref sb)])) (fun t k => ?_) ?_
 · refine XS.aloadN X0.here hx rfl (hb hby d30_0) rfl rfl ?_
   exact k
 refine Go.cU X0 hx hml hown hZ (own_w hw 176 rfl) (own_w hw 172 rfl) (own_w hw 71 rfl) (own_w hw 58 rfl) (own_w hw 43 rfl) (own_w hw 177 rfl) E_sb (rmAL l Z a0 hw [] sb cn h0 n0 O F_n) 0 [] pd__28_29I (hb hby d30_1) e0 (fun _ T1 L1 X1 hQ1 => ?_)
 obtain ⟨rfl, Nq1, e1⟩ := hQ1
 have N1 := Fr.app N0 Nq1
 exact Go.rt X1 hx Bd (w := (.int cn)) rfl (Or.inl ⟨rfl, Or.inl rfl, _, rfl⟩) (hb hby d30_4) e1 ⟨rfl, N1, rfl⟩
abbrev y_28 : MethodName := ⟨"java/util/Arrays", "checkLength", "(II)V"⟩
theorem d34_0 : decode jdk_65_method_131_code 0 = .ok (.iload_n 1, 1) := by decide +kernel
theorem d34_1 : decode jdk_65_method_131_code 1 = .ok (.iload_n 0, 1) := by decide +kernel
theorem d34_2 : decode jdk_65_method_131_code 2 = .ok (.if_icmp .ge 35, 3) := by decide +kernel
theorem d34_37 : decode jdk_65_method_131_code 37 = .ok (.return_, 1) := by decide +kernel
abbrev rm_rmCk : Room := ({ frames := 0, cells := 0, slots := 0, locals := 0 } : Room)
def Q_rmCk (Z : State) (cn : Int32) (h0 : Heap) (n0 : Nat) (v : Option Value) (h : Heap) (L : List Loc) : Prop := (v = none) ∧ (Fr n0 L) ∧ (h = h0)
theorem rmCk (l : Launch) (Z : State) (a0 : Array Value) (hw : HW a0 Z) (ws : List Jvm.Cond) (cn : Int32) (h0 : Heap) (n0 : Nat) (O : Old Z n0 h0) (ca : ¬ (cn < (0 : Int32))) :
    Mt l Z y_28 jdk_65_method_131_code 2 none ws rm_rmCk #[(.int 0), (.int cn)] h0 (Q_rmCk Z cn h0 n0) := by
 refine own_met "java/util/Arrays" (plainFor_of_name pn_java_util_Arrays) #[iv 0, iv cn] (fun m => rfl) (fun p e s m below meth c s₁ Bd hx hby hml hZ hown hnm X0 e0 => ?_)
 have N0 := Fr.nil n0
 refine Go.step (S' := s₁.setTop (mkF m 37 #[iv 0, iv cn] [])) (fun t k => ?_) ?_
 · refine XS.iloadN X0.here hx rfl (hb hby d34_0) rfl ?_
   refine XS.iloadN X0.here hx rfl (hb hby d34_1) rfl ?_
   refine XS.icmpYes X0.here hx rfl (pc0 := 2) (pc' := 37) rfl (hb hby d34_2) rfl (flt (ca : ¬ (cn < (0 : Int32)))).2.1 (by decide) (by decide) ?_
   exact k
 exact Go.rv X0 hx Bd (hb hby d34_37) e0 ⟨rfl, N0, rfl⟩
theorem own_ltn {a b : Int32} (h : a.toInt ≤ b.toInt) (hn : ¬ (a = b)) : a < b := by
  rw [Int32.lt_iff_toInt_lt]
  have : a.toInt ≠ b.toInt := fun q => hn (Int32.toInt_inj.mp q)
  omega
theorem own_cle {a : Int32} {n : Nat} (h0 : 0 ≤ a.toInt) (h : a.toInt ≤ n) : a.toNatClampNeg ≤ n := by
  have := own_clampI h0
  omega
theorem own_cll {a b : Int32} (h0 : 0 ≤ a.toInt) (h : a.toInt ≤ b.toInt) : (0 : Int32).toNatClampNeg + a.toNatClampNeg ≤ b.toNatClampNeg := by
  have := own_clampI h0
  have := own_clampI (x := b) (by omega)
  have : (0 : Int32).toNatClampNeg = 0 := rfl
  omega
abbrev y_29 : MethodName := ⟨"java/util/Arrays", "copyOfRangeByte", "([BII)[B"⟩
theorem d33_0 : decode jdk_65_method_133_code 0 = .ok (.iload_n 1, 1) := by decide +kernel
theorem d33_1 : decode jdk_65_method_133_code 1 = .ok (.iload_n 2, 1) := by decide +kernel
theorem d33_2 : decode jdk_65_method_133_code 2 = .ok (.invokestatic 343, 3) := by decide +kernel
theorem pd__28II_29V : parseMethodDescriptor "(II)V" = some ⟨[.int, .int], none⟩ := by decide +kernel
theorem d33_5 : decode jdk_65_method_133_code 5 = .ok (.iload_n 2, 1) := by decide +kernel
theorem d33_6 : decode jdk_65_method_133_code 6 = .ok (.iload_n 1, 1) := by decide +kernel
theorem d33_7 : decode jdk_65_method_133_code 7 = .ok (.isub, 1) := by decide +kernel
theorem d33_8 : decode jdk_65_method_133_code 8 = .ok (.istore_n 3, 1) := by decide +kernel
theorem d33_9 : decode jdk_65_method_133_code 9 = .ok (.iload_n 3, 1) := by decide +kernel
theorem d33_10 : decode jdk_65_method_133_code 10 = .ok (.newarray .byte, 2) := by decide +kernel
theorem d33_12 : decode jdk_65_method_133_code 12 = .ok (.astore 4, 2) := by decide +kernel
theorem d33_14 : decode jdk_65_method_133_code 14 = .ok (.aload_n 0, 1) := by decide +kernel
theorem d33_15 : decode jdk_65_method_133_code 15 = .ok (.iload_n 1, 1) := by decide +kernel
theorem d33_16 : decode jdk_65_method_133_code 16 = .ok (.aload 4, 2) := by decide +kernel
theorem d33_18 : decode jdk_65_method_133_code 18 = .ok (.iconst 0, 1) := by decide +kernel
theorem d33_19 : decode jdk_65_method_133_code 19 = .ok (.aload_n 0, 1) := by decide +kernel
theorem d33_20 : decode jdk_65_method_133_code 20 = .ok (.arraylength, 1) := by decide +kernel
theorem d33_21 : decode jdk_65_method_133_code 21 = .ok (.iload_n 1, 1) := by decide +kernel
theorem d33_22 : decode jdk_65_method_133_code 22 = .ok (.isub, 1) := by decide +kernel
theorem d33_23 : decode jdk_65_method_133_code 23 = .ok (.iload_n 3, 1) := by decide +kernel
theorem d33_24 : decode jdk_65_method_133_code 24 = .ok (.invokestatic 304, 3) := by decide +kernel
theorem d33_27 : decode jdk_65_method_133_code 27 = .ok (.invokestatic 150, 3) := by decide +kernel
theorem d33_30 : decode jdk_65_method_133_code 30 = .ok (.aload 4, 2) := by decide +kernel
theorem d33_32 : decode jdk_65_method_133_code 32 = .ok (.areturn, 1) := by decide +kernel
abbrev rm_rmCB : Room := ({ frames := 1, cells := 1, slots := 70, locals := 18 } : Room)
def Q_rmCB (Z : State) (da : Addr) (cn : Int32) (kd : ClassId) (nn : Int32) (vs : List Value) (h0 : Heap) (n0 : Nat) (v : Option Value) (h : Heap) (L : List Loc) : Prop := ∃ cb : Addr, (v = some (.ref cb)) ∧ (Fr n0 L) ∧ (Keep h0 h [])
theorem rmCB (l : Launch) (Z : State) (a0 : Array Value) (hw : HW a0 Z) (ws : List Jvm.Cond) (da : Addr) (cn : Int32) (kd : ClassId) (nn : Int32) (vs : List Value) (h0 : Heap) (n0 : Nat) (O : Old Z n0 h0) (V_da : Arv Z h0 da kd .byte nn vs (.int 0)) (hr : 0 ≤ cn.toInt ∧ cn.toInt ≤ nn.toInt ∧ nn.toInt ≤ 70) (hlt : cn < nn) (ca : ¬ (cn < (0 : Int32))) :
    Mt l Z y_29 jdk_65_method_133_code 5 (some (.array .byte)) ws rm_rmCB #[(.ref da), (.int 0), (.int cn)] h0 (Q_rmCB Z da cn kd nn vs h0 n0) := by
 refine own_met "java/util/Arrays" (plainFor_of_name pn_java_util_Arrays) #[rv da, iv 0, iv cn, u_, u_] (fun m => rfl) (fun p e s m below meth c s₁ Bd hx hby hml hZ hown hnm X0 e0 => ?_)
 have N0 := Fr.nil n0
 have K := Keep.refl h0 []
 refine Go.step (S' := s₁.setTop (mkF m 2 #[rv da, iv 0, iv cn, u_, u_] [(.int cn), (.int 0)])) (fun t k => ?_) ?_
 · refine XS.iloadN X0.here hx rfl (hb hby d33_0) rfl ?_
   refine XS.iloadN X0.here hx rfl (hb hby d33_1) rfl ?_
   exact k
 refine Go.cS X0 hx hml hown hZ (own_w hw 185 rfl) (own_w hw 186 rfl) (own_w hw 144 rfl) (own_w hw 187 rfl) (rmCk l Z a0 hw [] cn h0 n0 O ca) 0 [] pd__28II_29V (hb hby d33_2) e0 (fun _ T1 L1 X1 hQ1 => ?_)
 obtain ⟨rfl, Nq1, e1⟩ := hQ1
 have N1 := Fr.app N0 Nq1
 refine Go.step (S' := T1.setTop (mkF m 8 #[rv da, iv 0, iv cn, u_, u_] [(.int (cn - (0 : Int32)))])) (fun t k => ?_) ?_
 · refine XS.iloadN X1.here hx rfl (hb hby d33_5) rfl ?_
   refine XS.iloadN X1.here hx rfl (hb hby d33_6) rfl ?_
   refine XS.isub X1.here hx rfl (hb hby d33_7) rfl ?_
   exact k
 rw [(Int32.sub_zero cn : (cn - (0 : Int32)) = cn)]
 show Go p e below _ (T1.setTop (mkF m 8 #[rv da, iv 0, iv cn, u_, u_] [(.int cn)]))
 refine Go.step (S' := T1.setTop (mkF m 10 #[rv da, iv 0, iv cn, iv cn, u_] [(.int cn)])) (fun t k => ?_) ?_
 · refine XS.istoreN X1.here hx rfl (hb hby d33_8) rfl (l' := #[rv da, iv 0, iv cn, iv cn, u_]) rfl ?_
   refine XS.iloadN X1.here hx rfl (hb hby d33_9) rfl ?_
   exact k
 obtain ⟨T2, h2, k2, X2, e2, E2, A2, Q2, st2⟩ := newPE X1 hx hZ (own_w hw 28 rfl) e1 (g := (mkF m 10 #[rv da, iv 0, iv cn, iv cn, u_] [(.int cn)])) rfl (hb hby d33_10) rfl (own_nl0 hr.1) (cap := 70) (own_cle (n := 70) hr.1 (by omega)) (by decide) (by decide) (by decide) (ad := "[B") rfl
 obtain ⟨b2, g2⟩ : ∃ z, z = Array.size h0 := ⟨_, rfl⟩
 have g_b2 : n0 ≤ b2 := Nat.le_trans (old_le O) (Nat.le_of_eq g2.symm)
 have sz_b2 : h0.size ≤ b2 := Nat.le_trans K.1 (Nat.le_of_eq g2.symm)
 have ne_da_b2 : da ≠ b2 := Nat.ne_of_lt (Nat.lt_of_lt_of_le V_da.lt (Nat.le_of_eq g2.symm))
 rw [← g2] at A2 Q2 st2
 have O := O.ext E2
 have V_da := V_da.ext E2
 have K := K.ext E2
 have V_b2 : Arv Z h2 b2 k2 .byte cn (List.replicate cn.toNatClampNeg (.int 0)) (.int 0) := (Arv.new A2 (own_nl0 hr.1)).pad (pad_rep [] (.int 0) _)
 have E_b2 := Q2
 refine Go.step st2 ?_
 refine Go.step (S' := T2.setTop (mkF m 20 #[rv da, iv 0, iv cn, iv cn, rv b2] [(.ref da), (.int 0), (.ref b2), (.int 0), (.ref da)])) (fun t k => ?_) ?_
 · refine XS.astore X2.here hx rfl (hb hby d33_12) rfl rfl (l' := #[rv da, iv 0, iv cn, iv cn, rv b2]) rfl ?_
   refine XS.aloadN X2.here hx rfl (hb hby d33_14) rfl rfl ?_
   refine XS.iloadN X2.here hx rfl (hb hby d33_15) rfl ?_
   refine XS.aload X2.here hx rfl (hb hby d33_16) rfl rfl ?_
   refine XS.iconst X2.here hx rfl (hb hby d33_18) ?_
   refine XS.aloadN X2.here hx rfl (hb hby d33_19) rfl rfl ?_
   exact k
 refine Go.len X2 hx hZ e2 V_da (hb hby d33_20) ?_
 refine Go.step (S' := T2.setTop (mkF m 23 #[rv da, iv 0, iv cn, iv cn, rv b2] [(.int (nn - (0 : Int32))), (.int 0), (.ref b2), (.int 0), (.ref da)])) (fun t k => ?_) ?_
 · refine XS.iloadN X2.here hx rfl (hb hby d33_21) rfl ?_
   refine XS.isub X2.here hx rfl (hb hby d33_22) rfl ?_
   exact k
 rw [(Int32.sub_zero nn : (nn - (0 : Int32)) = nn)]
 show Go p e below _ (T2.setTop (mkF m 23 #[rv da, iv 0, iv cn, iv cn, rv b2] [(.int nn), (.int 0), (.ref b2), (.int 0), (.ref da)]))
 refine Go.step (S' := T2.setTop (mkF m 24 #[rv da, iv 0, iv cn, iv cn, rv b2] [(.int cn), (.int nn), (.int 0), (.ref b2), (.int 0), (.ref da)])) (fun t k => ?_) ?_
 · refine XS.iloadN X2.here hx rfl (hb hby d33_23) rfl ?_
   exact k
 refine Go.cS X2 hx hml hown hZ (own_w hw 146 rfl) (own_w hw 147 rfl) (own_w hw 138 rfl) (own_w hw 148 rfl) (rmMnB l Z a0 hw [] nn cn h2 n0 O hlt) 4 [(.int 0), (.ref b2), (.int 0), (.ref da)] pd__28II_29I (hb hby d33_24) e2 (fun _ T3 L3 X3 hQ3 => ?_)
 obtain ⟨rfl, Nq3, e3⟩ := hQ3
 have N3 := Fr.app N1 Nq3
 refine Go.cp X3 hx hml hown hZ (own_w hw 149 rfl) (own_w hw 126 rfl) (own_w hw 124 rfl) (own_w hw 125 rfl) e3 V_da V_b2 rfl (by decide) (by decide) (own_nl0 hr.1) (own_cll hr.1 hr.2.1) (own_cll hr.1 (Int.le_refl _)) (by simp) N3 g_b2 0 [] (hb hby d33_27) (fun T5 h5 L5 ve5 X5 e5 N5 K5 hv5 V5 => ?_)
 have O := O.keep K5 (allS g_b2 all0)
 have V_da := V_da.keep K5 (ninS ne_da_b2 nin0)
 have K := K.trans K5 (allS (Or.inr sz_b2) all0)
 have E_b2 := E_b2.keep K5
 have V_b2 := V5
 refine Go.step (S' := T5.setTop (mkF m 32 #[rv da, iv 0, iv cn, iv cn, rv b2] [(.ref b2)])) (fun t k => ?_) ?_
 · refine XS.aload X5.here hx rfl (hb hby d33_30) rfl rfl ?_
   exact k
 exact Go.rt X5 hx Bd (w := (.ref b2)) rfl (Or.inr (Or.inr (Or.inr (Or.inr ⟨rfl, rfl, rfl⟩)))) (hb hby d33_32) e5 ⟨b2, rfl, N5, K⟩
abbrev y_30 : MethodName := ⟨"java/util/Arrays", "copyOfRange", "([BII)[B"⟩
theorem d32_0 : decode jdk_65_method_132_code 0 = .ok (.iload_n 1, 1) := by decide +kernel
theorem d32_1 : decode jdk_65_method_132_code 1 = .ok (.ifCond .ne 9, 3) := by decide +kernel
theorem d32_4 : decode jdk_65_method_132_code 4 = .ok (.iload_n 2, 1) := by decide +kernel
theorem d32_5 : decode jdk_65_method_132_code 5 = .ok (.aload_n 0, 1) := by decide +kernel
theorem d32_6 : decode jdk_65_method_132_code 6 = .ok (.arraylength, 1) := by decide +kernel
theorem d32_7 : decode jdk_65_method_132_code 7 = .ok (.if_icmp .eq 10, 3) := by decide +kernel
theorem d32_17 : decode jdk_65_method_132_code 17 = .ok (.aload_n 0, 1) := by decide +kernel
theorem d32_18 : decode jdk_65_method_132_code 18 = .ok (.invokevirtual 310, 3) := by decide +kernel
theorem d32_21 : decode jdk_65_method_132_code 21 = .ok (.checkcast 311, 3) := by decide +kernel
theorem d32_24 : decode jdk_65_method_132_code 24 = .ok (.areturn, 1) := by decide +kernel
theorem d32_10 : decode jdk_65_method_132_code 10 = .ok (.aload_n 0, 1) := by decide +kernel
theorem d32_11 : decode jdk_65_method_132_code 11 = .ok (.iload_n 1, 1) := by decide +kernel
theorem d32_12 : decode jdk_65_method_132_code 12 = .ok (.iload_n 2, 1) := by decide +kernel
theorem d32_13 : decode jdk_65_method_132_code 13 = .ok (.invokestatic 339, 3) := by decide +kernel
theorem pd__28_5bBII_29_5bB : parseMethodDescriptor "([BII)[B" = some ⟨[(.array .byte), .int, .int], some (.array .byte)⟩ := by decide +kernel
theorem d32_16 : decode jdk_65_method_132_code 16 = .ok (.areturn, 1) := by decide +kernel
abbrev rm_rmCr : Room := ({ frames := 2, cells := 1, slots := 70, locals := 34 } : Room)
def Q_rmCr (Z : State) (da : Addr) (cn : Int32) (kd : ClassId) (nn : Int32) (vs : List Value) (h0 : Heap) (n0 : Nat) (v : Option Value) (h : Heap) (L : List Loc) : Prop := ∃ cb : Addr, (v = some (.ref cb)) ∧ (Fr n0 L) ∧ (Keep h0 h [])
theorem rmCr (l : Launch) (Z : State) (a0 : Array Value) (hw : HW a0 Z) (ws : List Jvm.Cond) (da : Addr) (cn : Int32) (kd : ClassId) (nn : Int32) (vs : List Value) (h0 : Heap) (n0 : Nat) (O : Old Z n0 h0) (V_da : Arv Z h0 da kd .byte nn vs (.int 0)) (E_da : Exa Z h0 da "[B") (hr : 0 ≤ cn.toInt ∧ cn.toInt ≤ nn.toInt ∧ nn.toInt ≤ 70) :
    Mt l Z y_30 jdk_65_method_132_code 3 (some (.array .byte)) ws rm_rmCr #[(.ref da), (.int 0), (.int cn)] h0 (Q_rmCr Z da cn kd nn vs h0 n0) := by
 refine own_met "java/util/Arrays" (plainFor_of_name pn_java_util_Arrays) #[rv da, iv 0, iv cn] (fun m => rfl) (fun p e s m below meth c s₁ Bd hx hby hml hZ hown hnm X0 e0 => ?_)
 have N0 := Fr.nil n0
 have K := Keep.refl h0 []
 refine Go.step (S' := s₁.setTop (mkF m 6 #[rv da, iv 0, iv cn] [(.ref da), (.int cn)])) (fun t k => ?_) ?_
 · refine XS.iloadN X0.here hx rfl (hb hby d32_0) rfl ?_
   refine XS.ifNo X0.here hx rfl (hb hby d32_1) rfl ((if0 _ _).trans (teq ((by decide) : (0 : Int32) = (0 : Int32))).2) ?_
   refine XS.iloadN X0.here hx rfl (hb hby d32_4) rfl ?_
   refine XS.aloadN X0.here hx rfl (hb hby d32_5) rfl rfl ?_
   exact k
 refine Go.len X0 hx hZ e0 V_da (hb hby d32_6) ?_
 by_cases hc7 : cn = nn
 ·skip
  refine Go.step (S' := s₁.setTop (mkF m 18 #[rv da, iv 0, iv cn] [(.ref da)])) (fun t k => ?_) ?_
  · refine XS.icmpYes X0.here hx rfl (pc0 := 7) (pc' := 17) rfl (hb hby d32_7) rfl (teq (hc7 : cn = nn)).1 (by decide) (by decide) ?_
    refine XS.aloadN X0.here hx rfl (hb hby d32_17) rfl rfl ?_
    exact k
  refine Go.cln X0 hx hml hown hZ (own_w hw 222 rfl) (own_w hw 223 rfl) (own_w hw 227 rfl) (own_w hw 225 rfl) (own_w hw 226 rfl) (own_w hw 228 rfl) e0 V_da E_da 0 70 [] (hb hby d32_18) (fun T2 h2 X2 e2 E2 A2 Q2 => ?_) (hcap := own_cle (n := 70) (by omega) (by omega))
  obtain ⟨b2, g2⟩ : ∃ z, z = Array.size h0 := ⟨_, rfl⟩
  have g_b2 : n0 ≤ b2 := Nat.le_trans (old_le O) (Nat.le_of_eq g2.symm)
  have sz_b2 : h0.size ≤ b2 := Nat.le_trans K.1 (Nat.le_of_eq g2.symm)
  have ne_da_b2 : da ≠ b2 := Nat.ne_of_lt (Nat.lt_of_lt_of_le V_da.lt (Nat.le_of_eq g2.symm))
  rw [← g2] at A2 Q2
  rw [← g2]
  have O := O.ext E2
  have V_da := V_da.ext E2
  have E_da := E_da.ext E2
  have K := K.ext E2
  have V_b2 := A2
  have E_b2 := Q2
  obtain ⟨T3, X3, e3, st3⟩ := castY X2 hx hZ hown (own_w hw 229 rfl) e2 (Ins.self E_b2) (g := (mkF m 21 #[rv da, iv 0, iv cn] [(.ref b2)])) rfl rfl (hb hby d32_21)
  refine Go.step st3 ?_
  exact Go.rt X3 hx Bd (w := (.ref b2)) rfl (Or.inr (Or.inr (Or.inr (Or.inr ⟨rfl, rfl, rfl⟩)))) (hb hby d32_24) e3 ⟨b2, rfl, N0, K⟩
 ·skip
  refine Go.step (S' := s₁.setTop (mkF m 13 #[rv da, iv 0, iv cn] [(.int cn), (.int 0), (.ref da)])) (fun t k => ?_) ?_
  · refine XS.icmpNo X0.here hx rfl (hb hby d32_7) rfl (feq (hc7 : ¬ (cn = nn))).1 ?_
    refine XS.aloadN X0.here hx rfl (hb hby d32_10) rfl rfl ?_
    refine XS.iloadN X0.here hx rfl (hb hby d32_11) rfl ?_
    refine XS.iloadN X0.here hx rfl (hb hby d32_12) rfl ?_
    exact k
  refine Go.cS X0 hx hml hown hZ (own_w hw 182 rfl) (own_w hw 183 rfl) (own_w hw 144 rfl) (own_w hw 184 rfl) (rmCB l Z a0 hw [] da cn kd nn vs h0 n0 O V_da hr (own_ltn hr.2.1 hc7) (own_nl0 hr.1)) 0 [] pd__28_5bBII_29_5bB (hb hby d32_13) e0 (fun _ T4 L4 X4 hQ4 => ?_)
  obtain ⟨cb_4, rfl, Nq4, K4⟩ := hQ4
  have N4 := Fr.app N0 Nq4
  have O := O.keep K4 all0
  have V_da := V_da.keep K4 nin0
  have E_da := E_da.keep K4
  have K := K.trans K4 all0
  exact Go.rt X4 hx Bd (w := (.ref cb_4)) rfl (Or.inr (Or.inr (Or.inr (Or.inr ⟨rfl, rfl, rfl⟩)))) (hb hby d32_16) (Eq.refl T4.heap) ⟨cb_4, rfl, N4, K⟩
abbrev y_31 : MethodName := ⟨"java/lang/String", "<init>", "(Ljava/lang/AbstractStringBuilder;Ljava/lang/Void;)V"⟩
theorem d28_0 : decode jdk_42_method_150_code 0 = .ok (.aload_n 0, 1) := by decide +kernel
theorem d28_1 : decode jdk_42_method_150_code 1 = .ok (.invokespecial 1, 3) := by decide +kernel
theorem d28_4 : decode jdk_42_method_150_code 4 = .ok (.aload_n 1, 1) := by decide +kernel
theorem d28_5 : decode jdk_42_method_150_code 5 = .ok (.invokevirtual 552, 3) := by decide +kernel
theorem pd__28_29_5bB : parseMethodDescriptor "()[B" = some ⟨[], some (.array .byte)⟩ := by decide +kernel
theorem d28_8 : decode jdk_42_method_150_code 8 = .ok (.astore_n 3, 1) := by decide +kernel
theorem d28_9 : decode jdk_42_method_150_code 9 = .ok (.aload_n 1, 1) := by decide +kernel
theorem d28_10 : decode jdk_42_method_150_code 10 = .ok (.invokevirtual 549, 3) := by decide +kernel
theorem d28_13 : decode jdk_42_method_150_code 13 = .ok (.istore 4, 2) := by decide +kernel
theorem d28_15 : decode jdk_42_method_150_code 15 = .ok (.aload_n 1, 1) := by decide +kernel
theorem d28_16 : decode jdk_42_method_150_code 16 = .ok (.invokevirtual 1047, 3) := by decide +kernel
theorem d28_19 : decode jdk_42_method_150_code 19 = .ok (.ifCond .eq 22, 3) := by decide +kernel
theorem d28_22 : decode jdk_42_method_150_code 22 = .ok (.aload_n 0, 1) := by decide +kernel
theorem d28_23 : decode jdk_42_method_150_code 23 = .ok (.iconst 0, 1) := by decide +kernel
theorem d28_24 : decode jdk_42_method_150_code 24 = .ok (.putfield 15, 3) := by decide +kernel
theorem d28_27 : decode jdk_42_method_150_code 27 = .ok (.aload_n 0, 1) := by decide +kernel
theorem d28_28 : decode jdk_42_method_150_code 28 = .ok (.aload_n 3, 1) := by decide +kernel
theorem d28_29 : decode jdk_42_method_150_code 29 = .ok (.iconst 0, 1) := by decide +kernel
theorem d28_30 : decode jdk_42_method_150_code 30 = .ok (.iload 4, 2) := by decide +kernel
theorem d28_32 : decode jdk_42_method_150_code 32 = .ok (.invokestatic 54, 3) := by decide +kernel
theorem d28_35 : decode jdk_42_method_150_code 35 = .ok (.putfield 9, 3) := by decide +kernel
theorem d28_38 : decode jdk_42_method_150_code 38 = .ok (.goto 59, 3) := by decide +kernel
theorem d28_97 : decode jdk_42_method_150_code 97 = .ok (.return_, 1) := by decide +kernel
abbrev rm_rmSA : Room := ({ frames := 3, cells := 1, slots := 70, locals := 49 } : Room)
def Q_rmSA (Z : State) (so : Addr) (sb : Addr) (da : Addr) (kd : ClassId) (nn : Int32) (vs : List Value) (cn : Int32) (cs : Int32) (h0 : Heap) (n0 : Nat) (v : Option Value) (h : Heap) (L : List Loc) : Prop := (v = none) ∧ (Fr n0 L) ∧ (Keep h0 h [so])
theorem rmSA (l : Launch) (Z : State) (a0 : Array Value) (hw : HW a0 Z) (ws : List Jvm.Cond) (so : Addr) (sb : Addr) (da : Addr) (kd : ClassId) (nn : Int32) (vs : List Value) (cn : Int32) (cs : Int32) (h0 : Heap) (n0 : Nat) (O : Old Z n0 h0) (S_CS : Sa_0 Z (.int cs)) (E_so : Exa Z h0 so "java/lang/String") (F_sv : Fd_8 Z h0 so .null) (F_sc : Fd_7 Z h0 so (.int 0)) (E_sb : Exa Z h0 sb "java/lang/StringBuilder") (F_v : Fd_4 Z h0 sb (.ref da)) (F_c : Fd_5 Z h0 sb (.int 0)) (F_n : Fd_6 Z h0 sb (.int cn)) (V_da : Arv Z h0 da kd .byte nn vs (.int 0)) (E_da : Exa Z h0 da "[B") (hcs : ¬ (cs = (0 : Int32))) (hr : 0 ≤ cn.toInt ∧ cn.toInt ≤ nn.toInt ∧ nn.toInt ≤ 70) (g_so : n0 ≤ so) :
    Mt l Z y_31 jdk_42_method_150_code 5 none ws rm_rmSA #[(.ref so), (.ref sb), .null] h0 (Q_rmSA Z so sb da kd nn vs cn cs h0 n0) := by
 refine own_met "java/lang/String" (plainFor_of_name pn_java_lang_String) #[rv so, rv sb, .val .null, u_, u_] (fun m => rfl) (fun p e s m below meth c s₁ Bd hx hby hml hZ hown hnm X0 e0 => ?_)
 have N0 := Fr.nil n0
 have K := Keep.refl h0 [so]
 refine Go.step (S' := s₁.setTop (mkF m 1 #[rv so, rv sb, .val .null, u_, u_] [(.ref so)])) (fun t k => ?_) ?_
 · refine XS.aloadN X0.here hx rfl (hb hby d28_0) rfl rfl ?_
   exact k
 obtain ⟨T1, X1, e1, st1⟩ := initO X0 hx hZ hown (own_w hw 164 rfl) (own_w hw 19 rfl) (own_w hw 20 rfl) e0 (g := (mkF m 1 #[rv so, rv sb, .val .null, u_, u_] [(.ref so)])) rfl (by rw [hml]; rfl) rfl (hb hby d28_1) (by decide) (W := 0) (by show 2 * 0 + _ ≤ _; exact Nat.le_of_eq rfl) (by decide)
 refine Go.step st1 ?_
 refine Go.step (S' := T1.setTop (mkF m 5 #[rv so, rv sb, .val .null, u_, u_] [(.ref sb)])) (fun t k => ?_) ?_
 · refine XS.aloadN X1.here hx rfl (hb hby d28_4) rfl rfl ?_
   exact k
 refine Go.cV X1 hx hml hown hZ (own_w hw 165 rfl) (own_w hw 166 rfl) (own_w hw 168 rfl) (own_w hw 167 rfl) (own_w hw 43 rfl) (own_w hw 169 rfl) E_sb (rmGV l Z a0 hw [] sb da h0 n0 O F_v) 0 [] pd__28_29_5bB (hb hby d28_5) e1 (fun _ T2 L2 X2 hQ2 => ?_)
 obtain ⟨rfl, Nq2, e2⟩ := hQ2
 have N2 := Fr.app N0 Nq2
 refine Go.step (S' := T2.setTop (mkF m 10 #[rv so, rv sb, .val .null, rv da, u_] [(.ref sb)])) (fun t k => ?_) ?_
 · refine XS.astoreN X2.here hx rfl (hb hby d28_8) rfl rfl (l' := #[rv so, rv sb, .val .null, rv da, u_]) rfl ?_
   refine XS.aloadN X2.here hx rfl (hb hby d28_9) rfl rfl ?_
   exact k
 obtain ⟨cq3, kq3, q3a, q3b, q3c⟩ := isOf hZ e2 E_sb
 obtain ⟨_, _, ⟨T3, L3, k3, n3⟩, -, X3, ⟨Lc3, hQ3, l3, y3, z3⟩, st3⟩ := X2.virtualBack hx (y := y_8) (z := y_27) hown (mvT hZ (own_w hw 170 rfl)) (mvT hZ (own_w hw 171 rfl)) (own_nf hZ (own_w hw 71 rfl) rfl) (mvT hZ (own_w hw 173 rfl)) (mvT hZ (own_w hw 174 rfl)) (by decide) (backOf (W := 0) (rmBL l Z a0 hw [] sb cn h0 n0 O E_sb F_n) hZ (own_w hw 175 rfl) (own_w hw 35 rfl) (by decide) (by decide)) q3a q3c (g := (mkF m 10 #[rv so, rv sb, .val .null, rv da, u_] [(.ref sb)])) rfl (by rw [hml]; rfl) (Steps.refl _) (argsL := []) (rest := []) (lenOf pd__28_29I rfl) rfl (Nat.le_of_eq rfl) (hb hby d28_10) (fun _ _ => ⟨rfl, e2, (by decide : 0 + 0 ≤ _), (by decide : 0 + 0 ≤ _)⟩)
 dsimp only [Pt.U, Pt.locs, Pt.cells, Pt.slots] at X3 l3 y3 z3 st3 hQ3
 subst l3 y3 z3
 obtain ⟨rfl, Nq3, e3⟩ := hQ3
 have N3 := Fr.app N2 Nq3
 refine Go.step (fun t k => st3.trans k) ?_
 refine Go.step (S' := T3.setTop (mkF m 16 #[rv so, rv sb, .val .null, rv da, iv cn] [(.ref sb)])) (fun t k => ?_) ?_
 · refine XS.istore X3.here hx rfl (hb hby d28_13) rfl (l' := #[rv so, rv sb, .val .null, rv da, iv cn]) rfl ?_
   refine XS.aloadN X3.here hx rfl (hb hby d28_15) rfl rfl ?_
   exact k
 refine Go.cV X3 hx hml hown hZ (own_w hw 178 rfl) (own_w hw 74 rfl) (own_w hw 76 rfl) (own_w hw 75 rfl) (own_w hw 43 rfl) (own_w hw 77 rfl) E_sb (rmL1 l Z a0 hw [] sb cs h0 n0 O S_CS F_c hcs) 0 [] pd__28_29Z (hb hby d28_16) e3 (fun _ T4 L4 X4 hQ4 => ?_)
 obtain ⟨rfl, Nq4, e4⟩ := hQ4
 have N4 := Fr.app N3 Nq4
 refine Go.step (S' := T4.setTop (mkF m 24 #[rv so, rv sb, .val .null, rv da, iv cn] [(.int 0), (.ref so)])) (fun t k => ?_) ?_
 · refine XS.ifNo X4.here hx rfl (hb hby d28_19) rfl ((if0 _ _).trans (feq ((by decide) : ¬ ((1 : Int32) = (0 : Int32)))).1) ?_
   refine XS.aloadN X4.here hx rfl (hb hby d28_22) rfl rfl ?_
   refine XS.iconst X4.here hx rfl (hb hby d28_23) ?_
   exact k
 obtain ⟨T5, h5, X5, e5, W5, st5⟩ := putFN X4 hx hZ hown (own_w hw 106 rfl) Via.refl e4 F_sc E_so (Or.inr ⟨(own_w hw 30 rfl), rfl, hnm⟩) (own_w hw 27 rfl) (ty := .byte) (v' := (.int 0)) (by decide) rfl rfl (g := (mkF m 24 #[rv so, rv sb, .val .null, rv da, iv cn] [(.int 0), (.ref so)])) rfl rfl (hb hby d28_24)
 have ne_sb_so : sb ≠ so := ne_exa E_sb E_so (by decide)
 have ne_da_so : da ≠ so := ne_exa E_da E_so (by decide)
 have O := O.wr W5 g_so
 have E_so := E_so.wr W5
 have F_sv := F_sv.other W5 (Or.inr (slot_ne (Or.inr (own_w hw 29 rfl)) (Or.inr (own_w hw 30 rfl)) (by decide) (t := (.array .byte)) (t' := .byte) (by decide) (by decide)))
 have F_sc := F_sc.same W5
 have E_sb := E_sb.wr W5
 have F_v := F_v.other W5 (Or.inl ne_sb_so)
 have F_c := F_c.other W5 (Or.inl ne_sb_so)
 have F_n := F_n.other W5 (Or.inl ne_sb_so)
 have V_da := V_da.other W5 ne_da_so
 have E_da := E_da.wr W5
 have K := K.wr W5 (Or.inl (List.mem_of_getElem? (i := 0) rfl))
 have N5 := Fr.snoc X5 N4 g_so
 refine Go.step st5 ?_
 refine Go.step (S' := T5.setTop (mkF m 32 #[rv so, rv sb, .val .null, rv da, iv cn] [(.int cn), (.int 0), (.ref da), (.ref so)])) (fun t k => ?_) ?_
 · refine XS.aloadN X5.here hx rfl (hb hby d28_27) rfl rfl ?_
   refine XS.aloadN X5.here hx rfl (hb hby d28_28) rfl rfl ?_
   refine XS.iconst X5.here hx rfl (hb hby d28_29) ?_
   refine XS.iload X5.here hx rfl (hb hby d28_30) rfl ?_
   exact k
 refine Go.cS X5 hx hml hown hZ (own_w hw 179 rfl) (own_w hw 180 rfl) (own_w hw 144 rfl) (own_w hw 181 rfl) (rmCr l Z a0 hw [] da cn kd nn vs h5 n0 O V_da E_da hr) 1 [(.ref so)] pd__28_5bBII_29_5bB (hb hby d28_32) e5 (fun _ T6 L6 X6 hQ6 => ?_)
 obtain ⟨cb_6, rfl, Nq6, K6⟩ := hQ6
 have N6 := Fr.app N5 Nq6
 have O := O.keep K6 all0
 have E_so := E_so.keep K6
 have F_sv := F_sv.keep K6 nin0
 have F_sc := F_sc.keep K6 nin0
 have E_sb := E_sb.keep K6
 have F_v := F_v.keep K6 nin0
 have F_c := F_c.keep K6 nin0
 have F_n := F_n.keep K6 nin0
 have V_da := V_da.keep K6 nin0
 have E_da := E_da.keep K6
 have K := K.trans K6 all0
 obtain ⟨T7, h7, X7, e7, W7, st7⟩ := putF X6 hx hZ hown (host := "") (Or.inl (own_w hw 99 rfl)) Via.refl (Eq.refl T6.heap) F_sv E_so (Or.inr ⟨(own_w hw 29 rfl), rfl, hnm⟩) (own_w hw 27 rfl) (ty := (.array .byte)) (by decide) rfl rfl (g := (mkF m 35 #[rv so, rv sb, .val .null, rv da, iv cn] [(.ref cb_6), (.ref so)])) rfl rfl (hb hby d28_35)
 have O := O.wr W7 g_so
 have E_so := E_so.wr W7
 have F_sv := F_sv.same W7
 have F_sc := F_sc.other W7 (Or.inr (slot_ne (Or.inr (own_w hw 30 rfl)) (Or.inr (own_w hw 29 rfl)) (by decide) (t := .byte) (t' := (.array .byte)) (by decide) (by decide)))
 have E_sb := E_sb.wr W7
 have F_v := F_v.other W7 (Or.inl ne_sb_so)
 have F_c := F_c.other W7 (Or.inl ne_sb_so)
 have F_n := F_n.other W7 (Or.inl ne_sb_so)
 have V_da := V_da.other W7 ne_da_so
 have E_da := E_da.wr W7
 have K := K.wr W7 (Or.inl (List.mem_of_getElem? (i := 0) rfl))
 have N7 := Fr.snoc X7 N6 g_so
 refine Go.step st7 ?_
 refine Go.step (S' := T7.setTop (mkF m 97 #[rv so, rv sb, .val .null, rv da, iv cn] [])) (fun t k => ?_) ?_
 · refine XS.goto X7.here hx rfl (pc0 := 38) (pc' := 97) rfl (hb hby d28_38) (by decide) (by decide) ?_
   exact k
 exact Go.rv X7 hx Bd (hb hby d28_97) e7 ⟨rfl, N7, K⟩
abbrev y_32 : MethodName := ⟨"java/lang/String", "<init>", "(Ljava/lang/StringBuilder;)V"⟩
theorem d27_0 : decode jdk_42_method_53_code 0 = .ok (.aload_n 0, 1) := by decide +kernel
theorem d27_1 : decode jdk_42_method_53_code 1 = .ok (.aload_n 1, 1) := by decide +kernel
theorem d27_2 : decode jdk_42_method_53_code 2 = .ok (.aconst_null, 1) := by decide +kernel
theorem d27_3 : decode jdk_42_method_53_code 3 = .ok (.invokespecial 489, 3) := by decide +kernel
theorem pd__28Ljava_2flang_2fAbstractStringBuilder_3bLjava_2flang_2fVoid_3b_29V : parseMethodDescriptor "(Ljava/lang/AbstractStringBuilder;Ljava/lang/Void;)V" = some ⟨[(.object "java/lang/AbstractStringBuilder"), (.object "java/lang/Void")], none⟩ := by decide +kernel
theorem d27_6 : decode jdk_42_method_53_code 6 = .ok (.return_, 1) := by decide +kernel
abbrev rm_rmSB : Room := ({ frames := 4, cells := 1, slots := 70, locals := 65 } : Room)
def Q_rmSB (Z : State) (so : Addr) (sb : Addr) (da : Addr) (kd : ClassId) (nn : Int32) (vs : List Value) (cn : Int32) (cs : Int32) (h0 : Heap) (n0 : Nat) (v : Option Value) (h : Heap) (L : List Loc) : Prop := (v = none) ∧ (Fr n0 L) ∧ (Keep h0 h [so])
theorem rmSB (l : Launch) (Z : State) (a0 : Array Value) (hw : HW a0 Z) (ws : List Jvm.Cond) (so : Addr) (sb : Addr) (da : Addr) (kd : ClassId) (nn : Int32) (vs : List Value) (cn : Int32) (cs : Int32) (h0 : Heap) (n0 : Nat) (O : Old Z n0 h0) (S_CS : Sa_0 Z (.int cs)) (E_so : Exa Z h0 so "java/lang/String") (F_sv : Fd_8 Z h0 so .null) (F_sc : Fd_7 Z h0 so (.int 0)) (E_sb : Exa Z h0 sb "java/lang/StringBuilder") (F_v : Fd_4 Z h0 sb (.ref da)) (F_c : Fd_5 Z h0 sb (.int 0)) (F_n : Fd_6 Z h0 sb (.int cn)) (V_da : Arv Z h0 da kd .byte nn vs (.int 0)) (E_da : Exa Z h0 da "[B") (hcs : ¬ (cs = (0 : Int32))) (hr : 0 ≤ cn.toInt ∧ cn.toInt ≤ nn.toInt ∧ nn.toInt ≤ 70) (g_so : n0 ≤ so) :
    Mt l Z y_32 jdk_42_method_53_code 2 none ws rm_rmSB #[(.ref so), (.ref sb)] h0 (Q_rmSB Z so sb da kd nn vs cn cs h0 n0) := by
 refine own_met "java/lang/String" (plainFor_of_name pn_java_lang_String) #[rv so, rv sb] (fun m => rfl) (fun p e s m below meth c s₁ Bd hx hby hml hZ hown hnm X0 e0 => ?_)
 have N0 := Fr.nil n0
 have K := Keep.refl h0 [so]
 refine Go.step (S' := s₁.setTop (mkF m 3 #[rv so, rv sb] [.null, (.ref sb), (.ref so)])) (fun t k => ?_) ?_
 · refine XS.aloadN X0.here hx rfl (hb hby d27_0) rfl rfl ?_
   refine XS.aloadN X0.here hx rfl (hb hby d27_1) rfl rfl ?_
   refine XS.aconstNull X0.here hx rfl (hb hby d27_2) ?_
   exact k
 refine Go.cI X0 hx hml hown hZ (own_w hw 161 rfl) (own_w hw 162 rfl) (own_w hw 26 rfl) (own_w hw 163 rfl) (rmSA l Z a0 hw [] so sb da kd nn vs cn cs h0 n0 O S_CS E_so F_sv F_sc E_sb F_v F_c F_n V_da E_da hcs hr (by assumption)) 0 [] pd__28Ljava_2flang_2fAbstractStringBuilder_3bLjava_2flang_2fVoid_3b_29V (hb hby d27_3) e0 (fun _ T1 L1 X1 hQ1 => ?_)
 obtain ⟨rfl, Nq1, K1⟩ := hQ1
 have N1 := Fr.app N0 Nq1
 have ne_sb_so : sb ≠ so := ne_exa E_sb E_so (by decide)
 have ne_da_so : da ≠ so := ne_exa E_da E_so (by decide)
 have O := O.keep K1 (allS g_so all0)
 have E_so := E_so.keep K1
 have E_sb := E_sb.keep K1
 have F_v := F_v.keep K1 (ninS ne_sb_so nin0)
 have F_c := F_c.keep K1 (ninS ne_sb_so nin0)
 have F_n := F_n.keep K1 (ninS ne_sb_so nin0)
 have V_da := V_da.keep K1 (ninS ne_da_so nin0)
 have E_da := E_da.keep K1
 have K := K.trans K1 (allS (Or.inl (List.mem_of_getElem? (i := 0) rfl)) all0)
 exact Go.rv X1 hx Bd (hb hby d27_6) (Eq.refl T1.heap) ⟨rfl, N1, K⟩
abbrev y_33 : MethodName := ⟨"java/lang/StringBuilder", "toString", "()Ljava/lang/String;"⟩
theorem d26_0 : decode jdk_67_method_42_code 0 = .ok (.new 18, 3) := by decide +kernel
theorem d26_3 : decode jdk_67_method_42_code 3 = .ok (.dup, 1) := by decide +kernel
theorem d26_4 : decode jdk_67_method_42_code 4 = .ok (.aload_n 0, 1) := by decide +kernel
theorem d26_5 : decode jdk_67_method_42_code 5 = .ok (.invokespecial 137, 3) := by decide +kernel
theorem pd__28Ljava_2flang_2fStringBuilder_3b_29V : parseMethodDescriptor "(Ljava/lang/StringBuilder;)V" = some ⟨[(.object "java/lang/StringBuilder")], none⟩ := by decide +kernel
theorem d26_8 : decode jdk_67_method_42_code 8 = .ok (.areturn, 1) := by decide +kernel
abbrev rm_rmTs : Room := ({ frames := 5, cells := 2, slots := 74, locals := 79 } : Room)
def Q_rmTs (Z : State) (sb : Addr) (da : Addr) (kd : ClassId) (nn : Int32) (vs : List Value) (cn : Int32) (cs : Int32) (h0 : Heap) (n0 : Nat) (v : Option Value) (h : Heap) (L : List Loc) : Prop := ∃ ts : Addr, (v = some (.ref ts)) ∧ (Fr n0 L) ∧ (Keep h0 h [])
theorem rmTs (l : Launch) (Z : State) (a0 : Array Value) (hw : HW a0 Z) (ws : List Jvm.Cond) (sb : Addr) (da : Addr) (kd : ClassId) (nn : Int32) (vs : List Value) (cn : Int32) (cs : Int32) (h0 : Heap) (n0 : Nat) (O : Old Z n0 h0) (S_CS : Sa_0 Z (.int cs)) (E_sb : Exa Z h0 sb "java/lang/StringBuilder") (F_v : Fd_4 Z h0 sb (.ref da)) (F_c : Fd_5 Z h0 sb (.int 0)) (F_n : Fd_6 Z h0 sb (.int cn)) (V_da : Arv Z h0 da kd .byte nn vs (.int 0)) (E_da : Exa Z h0 da "[B") (hcs : ¬ (cs = (0 : Int32))) (hr : 0 ≤ cn.toInt ∧ cn.toInt ≤ nn.toInt ∧ nn.toInt ≤ 70) :
    Mt l Z y_33 jdk_67_method_42_code 1 (some (.object "java/lang/String")) ws rm_rmTs #[(.ref sb)] h0 (Q_rmTs Z sb da kd nn vs cn cs h0 n0) := by
 refine own_met "java/lang/StringBuilder" (plainFor_of_name pn_java_lang_StringBuilder) #[rv sb] (fun m => rfl) (fun p e s m below meth c s₁ Bd hx hby hml hZ hown hnm X0 e0 => ?_)
 have N0 := Fr.nil n0
 have K := Keep.refl h0 []
 obtain ⟨T1, h1, X1, e1, E1, A1, D1, -, st1⟩ := newO X0 hx hZ hown (own_w hw 156 rfl) (own_w hw 27 rfl) (own_w hw 26 rfl) e0 (g := (mkF m 0 #[rv sb] [])) rfl (hb hby d26_0) (by decide) (by decide)
 obtain ⟨b1, g1⟩ : ∃ z, z = Array.size h0 := ⟨_, rfl⟩
 have g_b1 : n0 ≤ b1 := Nat.le_trans (old_le O) (Nat.le_of_eq g1.symm)
 have sz_b1 : h0.size ≤ b1 := Nat.le_trans K.1 (Nat.le_of_eq g1.symm)
 have ne_sb_b1 : sb ≠ b1 := Nat.ne_of_lt (Nat.lt_of_lt_of_le E_sb.lt (Nat.le_of_eq g1.symm))
 have ne_da_b1 : da ≠ b1 := Nat.ne_of_lt (Nat.lt_of_lt_of_le V_da.lt (Nat.le_of_eq g1.symm))
 rw [← g1] at A1 D1 st1
 have O := O.ext E1
 have E_sb := E_sb.ext E1
 have F_v := F_v.ext E1
 have F_c := F_c.ext E1
 have F_n := F_n.ext E1
 have V_da := V_da.ext E1
 have E_da := E_da.ext E1
 have K := K.ext E1
 have E_b1 := A1
 have F_value_b1 : Fd_8 Z h1 b1 .null := D1 (Or.inr (own_w hw 29 rfl)) (ty := (.array .byte)) (by decide)
 have F_coder_b1 : Fd_7 Z h1 b1 (.int 0) := D1 (Or.inr (own_w hw 30 rfl)) (ty := .byte) (by decide)
 refine Go.step st1 ?_
 refine Go.step (S' := T1.setTop (mkF m 5 #[rv sb] [(.ref sb), (.ref b1), (.ref b1)])) (fun t k => ?_) ?_
 · refine XS.dup X1.here hx rfl (hb hby d26_3) rfl rfl ?_
   refine XS.aloadN X1.here hx rfl (hb hby d26_4) rfl rfl ?_
   exact k
 refine Go.cI X1 hx hml hown hZ (own_w hw 157 rfl) (own_w hw 158 rfl) (own_w hw 26 rfl) (own_w hw 160 rfl) (rmSB l Z a0 hw [] b1 sb da kd nn vs cn cs h1 n0 O S_CS E_b1 F_value_b1 F_coder_b1 E_sb F_v F_c F_n V_da E_da hcs hr g_b1) 1 [(.ref b1)] pd__28Ljava_2flang_2fStringBuilder_3b_29V (hb hby d26_5) e1 (fun _ T2 L2 X2 hQ2 => ?_)
 obtain ⟨rfl, Nq2, K2⟩ := hQ2
 have N2 := Fr.app N0 Nq2
 have O := O.keep K2 (allS g_b1 all0)
 have E_sb := E_sb.keep K2
 have F_v := F_v.keep K2 (ninS ne_sb_b1 nin0)
 have F_c := F_c.keep K2 (ninS ne_sb_b1 nin0)
 have F_n := F_n.keep K2 (ninS ne_sb_b1 nin0)
 have V_da := V_da.keep K2 (ninS ne_da_b1 nin0)
 have E_da := E_da.keep K2
 have K := K.trans K2 (allS (Or.inr sz_b1) all0)
 have E_b1 := E_b1.keep K2
 exact Go.rt X2 hx Bd (w := (.ref b1)) rfl (Or.inr (Or.inr (Or.inr (Or.inr ⟨rfl, rfl, rfl⟩)))) (hb hby d26_8) (Eq.refl T2.heap) ⟨b1, rfl, N2, K⟩
abbrev y_34 : MethodName := ⟨"java/lang/String", "<init>", "([BB)V"⟩
theorem d37_0 : decode jdk_42_method_151_code 0 = .ok (.aload_n 0, 1) := by decide +kernel
theorem d37_1 : decode jdk_42_method_151_code 1 = .ok (.invokespecial 1, 3) := by decide +kernel
theorem d37_4 : decode jdk_42_method_151_code 4 = .ok (.aload_n 0, 1) := by decide +kernel
theorem d37_5 : decode jdk_42_method_151_code 5 = .ok (.aload_n 1, 1) := by decide +kernel
theorem d37_6 : decode jdk_42_method_151_code 6 = .ok (.putfield 9, 3) := by decide +kernel
theorem d37_9 : decode jdk_42_method_151_code 9 = .ok (.aload_n 0, 1) := by decide +kernel
theorem d37_10 : decode jdk_42_method_151_code 10 = .ok (.iload_n 2, 1) := by decide +kernel
theorem d37_11 : decode jdk_42_method_151_code 11 = .ok (.putfield 15, 3) := by decide +kernel
theorem d37_14 : decode jdk_42_method_151_code 14 = .ok (.return_, 1) := by decide +kernel
abbrev rm_rmSV : Room := ({ frames := 1, cells := 0, slots := 0, locals := 12 } : Room)
def Q_rmSV (Z : State) (so : Addr) (da : Addr) (h0 : Heap) (n0 : Nat) (v : Option Value) (h : Heap) (L : List Loc) : Prop := (v = none) ∧ (Fr n0 L) ∧ (Keep h0 h [so])
theorem rmSV (l : Launch) (Z : State) (a0 : Array Value) (hw : HW a0 Z) (ws : List Jvm.Cond) (so : Addr) (da : Addr) (h0 : Heap) (n0 : Nat) (O : Old Z n0 h0) (E_so : Exa Z h0 so "java/lang/String") (F_sv : Fd_8 Z h0 so .null) (F_sc : Fd_7 Z h0 so (.int 0)) (g_so : n0 ≤ so) :
    Mt l Z y_34 jdk_42_method_151_code 3 none ws rm_rmSV #[(.ref so), (.ref da), (.int 0)] h0 (Q_rmSV Z so da h0 n0) := by
 refine own_met "java/lang/String" (plainFor_of_name pn_java_lang_String) #[rv so, rv da, iv 0] (fun m => rfl) (fun p e s m below meth c s₁ Bd hx hby hml hZ hown hnm X0 e0 => ?_)
 have N0 := Fr.nil n0
 have K := Keep.refl h0 [so]
 refine Go.step (S' := s₁.setTop (mkF m 1 #[rv so, rv da, iv 0] [(.ref so)])) (fun t k => ?_) ?_
 · refine XS.aloadN X0.here hx rfl (hb hby d37_0) rfl rfl ?_
   exact k
 obtain ⟨T1, X1, e1, st1⟩ := initO X0 hx hZ hown (own_w hw 164 rfl) (own_w hw 19 rfl) (own_w hw 20 rfl) e0 (g := (mkF m 1 #[rv so, rv da, iv 0] [(.ref so)])) rfl (by rw [hml]; rfl) rfl (hb hby d37_1) (by decide) (W := 0) (by show 2 * 0 + _ ≤ _; exact Nat.le_of_eq rfl) (by decide)
 refine Go.step st1 ?_
 refine Go.step (S' := T1.setTop (mkF m 6 #[rv so, rv da, iv 0] [(.ref da), (.ref so)])) (fun t k => ?_) ?_
 · refine XS.aloadN X1.here hx rfl (hb hby d37_4) rfl rfl ?_
   refine XS.aloadN X1.here hx rfl (hb hby d37_5) rfl rfl ?_
   exact k
 obtain ⟨T2, h2, X2, e2, W2, st2⟩ := putF X1 hx hZ hown (host := "") (Or.inl (own_w hw 99 rfl)) Via.refl e1 F_sv E_so (Or.inr ⟨(own_w hw 29 rfl), rfl, hnm⟩) (own_w hw 27 rfl) (ty := (.array .byte)) (by decide) rfl rfl (g := (mkF m 6 #[rv so, rv da, iv 0] [(.ref da), (.ref so)])) rfl rfl (hb hby d37_6)
 have O := O.wr W2 g_so
 have E_so := E_so.wr W2
 have F_sv := F_sv.same W2
 have F_sc := F_sc.other W2 (Or.inr (slot_ne (Or.inr (own_w hw 30 rfl)) (Or.inr (own_w hw 29 rfl)) (by decide) (t := .byte) (t' := (.array .byte)) (by decide) (by decide)))
 have K := K.wr W2 (Or.inl (List.mem_of_getElem? (i := 0) rfl))
 have N2 := Fr.snoc X2 N0 g_so
 refine Go.step st2 ?_
 refine Go.step (S' := T2.setTop (mkF m 11 #[rv so, rv da, iv 0] [(.int 0), (.ref so)])) (fun t k => ?_) ?_
 · refine XS.aloadN X2.here hx rfl (hb hby d37_9) rfl rfl ?_
   refine XS.iloadN X2.here hx rfl (hb hby d37_10) rfl ?_
   exact k
 obtain ⟨T3, h3, X3, e3, W3, st3⟩ := putFN X2 hx hZ hown (own_w hw 106 rfl) Via.refl e2 F_sc E_so (Or.inr ⟨(own_w hw 30 rfl), rfl, hnm⟩) (own_w hw 27 rfl) (ty := .byte) (v' := (.int 0)) (by decide) rfl rfl (g := (mkF m 11 #[rv so, rv da, iv 0] [(.int 0), (.ref so)])) rfl rfl (hb hby d37_11)
 have O := O.wr W3 g_so
 have E_so := E_so.wr W3
 have F_sv := F_sv.other W3 (Or.inr (slot_ne (Or.inr (own_w hw 29 rfl)) (Or.inr (own_w hw 30 rfl)) (by decide) (t := (.array .byte)) (t' := .byte) (by decide) (by decide)))
 have F_sc := F_sc.same W3
 have K := K.wr W3 (Or.inl (List.mem_of_getElem? (i := 0) rfl))
 have N3 := Fr.snoc X3 N2 g_so
 refine Go.step st3 ?_
 exact Go.rv X3 hx Bd (hb hby d37_14) e3 ⟨rfl, N3, K⟩
abbrev y_35 : MethodName := ⟨"java/lang/Long", "toString", "(J)Ljava/lang/String;"⟩
theorem d36_0 : decode jdk_35_method_12_code 0 = .ok (.lload_n 0, 1) := by decide +kernel
theorem d36_1 : decode jdk_35_method_12_code 1 = .ok (.invokestatic 118, 3) := by decide +kernel
theorem d36_4 : decode jdk_35_method_12_code 4 = .ok (.istore_n 2, 1) := by decide +kernel
theorem d36_5 : decode jdk_35_method_12_code 5 = .ok (.getstatic 13, 3) := by decide +kernel
theorem d36_8 : decode jdk_35_method_12_code 8 = .ok (.ifCond .eq 24, 3) := by decide +kernel
theorem d36_11 : decode jdk_35_method_12_code 11 = .ok (.iload_n 2, 1) := by decide +kernel
theorem d36_12 : decode jdk_35_method_12_code 12 = .ok (.newarray .byte, 2) := by decide +kernel
theorem d36_14 : decode jdk_35_method_12_code 14 = .ok (.astore_n 3, 1) := by decide +kernel
theorem d36_15 : decode jdk_35_method_12_code 15 = .ok (.lload_n 0, 1) := by decide +kernel
theorem d36_16 : decode jdk_35_method_12_code 16 = .ok (.iload_n 2, 1) := by decide +kernel
theorem d36_17 : decode jdk_35_method_12_code 17 = .ok (.aload_n 3, 1) := by decide +kernel
theorem d36_18 : decode jdk_35_method_12_code 18 = .ok (.invokestatic 121, 3) := by decide +kernel
theorem d36_21 : decode jdk_35_method_12_code 21 = .ok (.pop, 1) := by decide +kernel
theorem d36_22 : decode jdk_35_method_12_code 22 = .ok (.new 5, 3) := by decide +kernel
theorem d36_25 : decode jdk_35_method_12_code 25 = .ok (.dup, 1) := by decide +kernel
theorem d36_26 : decode jdk_35_method_12_code 26 = .ok (.aload_n 3, 1) := by decide +kernel
theorem d36_27 : decode jdk_35_method_12_code 27 = .ok (.iconst 0, 1) := by decide +kernel
theorem d36_28 : decode jdk_35_method_12_code 28 = .ok (.invokespecial 112, 3) := by decide +kernel
theorem pd__28_5bBB_29V : parseMethodDescriptor "([BB)V" = some ⟨[(.array .byte), .byte], none⟩ := by decide +kernel
theorem d36_31 : decode jdk_35_method_12_code 31 = .ok (.areturn, 1) := by decide +kernel
abbrev rm_rmLs : Room := ({ frames := 2, cells := 2, slots := 11, locals := 27 } : Room)
def Q_rmLs (Z : State) (xa : Int64) (cs : Int32) (dO : Addr) (kO : ClassId) (vO : List Value) (fO : Nat → Int32) (dT : Addr) (kT : ClassId) (vT : List Value) (fT : Nat → Int32) (h0 : Heap) (n0 : Nat) (v : Option Value) (h : Heap) (L : List Loc) : Prop := ∃ ts : Addr, (v = some (.ref ts)) ∧ (Fr n0 L) ∧ (Keep h0 h [])
theorem rmLs (l : Launch) (Z : State) (a0 : Array Value) (hw : HW a0 Z) (ws : List Jvm.Cond) (xa : Int64) (cs : Int32) (dO : Addr) (kO : ClassId) (vO : List Value) (fO : Nat → Int32) (dT : Addr) (kT : ClassId) (vT : List Value) (fT : Nat → Int32) (h0 : Heap) (n0 : Nat) (O : Old Z n0 h0) (S_CS : Sa_0 Z (.int cs)) (S_DO : Sa_1 Z (.ref dO)) (V_dO : Arv Z Z.heap dO kO .byte (100 : Int32) vO (.int 0)) (S_DT : Sa_2 Z (.ref dT)) (V_dT : Arv Z Z.heap dT kT .byte (100 : Int32) vT (.int 0)) (hcs : ¬ (cs = (0 : Int32))) (hvO : ∀ zj : Nat, zj < 100 → vO.getD zj (.int 0) = .int (fO zj)) (hvT : ∀ zj : Nat, zj < 100 → vT.getD zj (.int 0) = .int (fT zj)) (ua : ¬ (xa < (0 : Int64))) (ub : ¬ ((1000000 : Int64) < xa)) :
    Mt l Z y_35 jdk_35_method_12_code 4 (some (.object "java/lang/String")) ws rm_rmLs #[(.long xa)] h0 (Q_rmLs Z xa cs dO kO vO fO dT kT vT fT h0 n0) := by
 refine own_met "java/lang/Long" (plainFor_of_name pn_java_lang_Long) #[lv xa, .second, u_, u_] (fun m => rfl) (fun p e s m below meth c s₁ Bd hx hby hml hZ hown hnm X0 e0 => ?_)
 have N0 := Fr.nil n0
 have K := Keep.refl h0 []
 refine Go.step (S' := s₁.setTop (mkF m 1 #[lv xa, .second, u_, u_] [(.long xa)])) (fun t k => ?_) ?_
 · refine XS.lloadN X0.here hx rfl (hb hby d36_0) rfl ?_
   exact k
 refine Go.cS X0 hx hml hown hZ (own_w hw 195 rfl) (own_w hw 64 rfl) (own_w hw 65 rfl) (own_w hw 66 rfl) (rmSz l Z a0 hw [] xa h0 n0 O ua ub) 0 [] pd__28J_29I (hb hby d36_1) e0 (fun _ T1 L1 X1 hQ1 => ?_)
 obtain ⟨sr_1, rfl, Nq1, e1, dz_1⟩ := hQ1
 have N1 := Fr.app N0 Nq1
 refine Go.step (S' := T1.setTop (mkF m 5 #[lv xa, .second, iv sr_1, u_] [])) (fun t k => ?_) ?_
 · refine XS.istoreN X1.here hx rfl (hb hby d36_4) rfl (l' := #[lv xa, .second, iv sr_1, u_]) rfl ?_
   exact k
 refine Go.gS X1 hx hZ hown (host := "") (Or.inl (own_w hw 197 rfl)) Via.refl e1 (S_CS.ext O.2) (hb hby d36_5) (fun T2 X2 e2 => ?_)
 refine Go.step (S' := T2.setTop (mkF m 12 #[lv xa, .second, iv sr_1, u_] [(.int sr_1)])) (fun t k => ?_) ?_
 · refine XS.ifNo X2.here hx rfl (hb hby d36_8) rfl ((if0 _ _).trans (feq (hcs : ¬ (cs = (0 : Int32)))).1) ?_
   refine XS.iloadN X2.here hx rfl (hb hby d36_11) rfl ?_
   exact k
 obtain ⟨hs1, hs7, -⟩ := id dz_1
 obtain ⟨T3, h3, k3, X3, e3, E3, A3, Q3, st3⟩ := newPE X2 hx hZ (own_w hw 28 rfl) e2 (g := (mkF m 12 #[lv xa, .second, iv sr_1, u_] [(.int sr_1)])) rfl (hb hby d36_12) rfl (own_nl0 (by omega)) (cap := 7) (own_cle (n := 7) (by omega) (by omega)) (by decide) (by decide) (by decide) (ad := "[B") rfl
 obtain ⟨b3, g3⟩ : ∃ z, z = Array.size h0 := ⟨_, rfl⟩
 have g_b3 : n0 ≤ b3 := Nat.le_trans (old_le O) (Nat.le_of_eq g3.symm)
 have sz_b3 : h0.size ≤ b3 := Nat.le_trans K.1 (Nat.le_of_eq g3.symm)
 rw [← g3] at A3 Q3 st3
 have O := O.ext E3
 have K := K.ext E3
 have V_b3 : Arv Z h3 b3 k3 .byte sr_1 (List.replicate sr_1.toNatClampNeg (.int 0)) (.int 0) := (Arv.new A3 (own_nl0 (by omega))).pad (pad_rep [] (.int 0) _)
 have E_b3 := Q3
 refine Go.step st3 ?_
 refine Go.step (S' := T3.setTop (mkF m 18 #[lv xa, .second, iv sr_1, rv b3] [(.ref b3), (.int sr_1), (.long xa)])) (fun t k => ?_) ?_
 · refine XS.astoreN X3.here hx rfl (hb hby d36_14) rfl rfl (l' := #[lv xa, .second, iv sr_1, rv b3]) rfl ?_
   refine XS.lloadN X3.here hx rfl (hb hby d36_15) rfl ?_
   refine XS.iloadN X3.here hx rfl (hb hby d36_16) rfl ?_
   refine XS.aloadN X3.here hx rfl (hb hby d36_17) rfl rfl ?_
   exact k
 refine Go.cS X3 hx hml hown hZ (own_w hw 198 rfl) (own_w hw 79 rfl) (own_w hw 65 rfl) (own_w hw 80 rfl) (rmGc l Z a0 hw [] xa sr_1 b3 dO kO vO fO dT kT vT fT k3 sr_1 (List.replicate sr_1.toNatClampNeg (.int 0)) sr_1 h3 n0 O S_DO V_dO S_DT V_dT V_b3 hvO hvT ua ub dz_1 ⟨Int.le_refl _, Int.le_refl _⟩ (by simp) g_b3) 0 [] pd__28JI_5bB_29I (hb hby d36_18) e3 (fun _ T4 L4 X4 hQ4 => ?_)
 obtain ⟨rr_4, vt_4, rfl, Nq4, K4, P4_V, hvt_4⟩ := hQ4
 have N4 := Fr.app N1 Nq4
 have O := O.keep K4 (allS g_b3 all0)
 have K := K.trans K4 (allS (Or.inr sz_b3) all0)
 have E_b3 := E_b3.keep K4
 have V_4 := P4_V
 refine Go.step (S' := T4.setTop (mkF m 22 #[lv xa, .second, iv sr_1, rv b3] [])) (fun t k => ?_) ?_
 · refine XS.pop X4.here hx rfl (hb hby d36_21) rfl rfl ?_
   exact k
 obtain ⟨T5, h5, X5, e5, E5, A5, D5, -, st5⟩ := newO X4 hx hZ hown (own_w hw 200 rfl) (own_w hw 27 rfl) (own_w hw 26 rfl) (Eq.refl T4.heap) (g := (mkF m 22 #[lv xa, .second, iv sr_1, rv b3] [])) rfl (hb hby d36_22) (by decide) (by decide)
 obtain ⟨b5, g5⟩ : ∃ z, z = Array.size T4.heap := ⟨_, rfl⟩
 have g_b5 : n0 ≤ b5 := Nat.le_trans (old_le O) (Nat.le_of_eq g5.symm)
 have sz_b5 : h0.size ≤ b5 := Nat.le_trans K.1 (Nat.le_of_eq g5.symm)
 have ne_b3_b5 : b3 ≠ b5 := Nat.ne_of_lt (Nat.lt_of_lt_of_le E_b3.lt (Nat.le_of_eq g5.symm))
 rw [← g5] at A5 D5 st5
 have O := O.ext E5
 have K := K.ext E5
 have E_b3 := E_b3.ext E5
 have V_4 := V_4.ext E5
 have E_b5 := A5
 have F_value_b5 : Fd_8 Z h5 b5 .null := D5 (Or.inr (own_w hw 29 rfl)) (ty := (.array .byte)) (by decide)
 have F_coder_b5 : Fd_7 Z h5 b5 (.int 0) := D5 (Or.inr (own_w hw 30 rfl)) (ty := .byte) (by decide)
 refine Go.step st5 ?_
 refine Go.step (S' := T5.setTop (mkF m 28 #[lv xa, .second, iv sr_1, rv b3] [(.int 0), (.ref b3), (.ref b5), (.ref b5)])) (fun t k => ?_) ?_
 · refine XS.dup X5.here hx rfl (hb hby d36_25) rfl rfl ?_
   refine XS.aloadN X5.here hx rfl (hb hby d36_26) rfl rfl ?_
   refine XS.iconst X5.here hx rfl (hb hby d36_27) ?_
   exact k
 refine Go.cI X5 hx hml hown hZ (own_w hw 201 rfl) (own_w hw 202 rfl) (own_w hw 26 rfl) (own_w hw 203 rfl) (rmSV l Z a0 hw [] b5 b3 h5 n0 O E_b5 F_value_b5 F_coder_b5 g_b5) 1 [(.ref b5)] pd__28_5bBB_29V (hb hby d36_28) e5 (fun _ T6 L6 X6 hQ6 => ?_)
 obtain ⟨rfl, Nq6, K6⟩ := hQ6
 have N6 := Fr.app N4 Nq6
 have O := O.keep K6 (allS g_b5 all0)
 have K := K.trans K6 (allS (Or.inr sz_b5) all0)
 have E_b3 := E_b3.keep K6
 have V_4 := V_4.keep K6 (ninS ne_b3_b5 nin0)
 have E_b5 := E_b5.keep K6
 exact Go.rt X6 hx Bd (w := (.ref b5)) rfl (Or.inr (Or.inr (Or.inr (Or.inr ⟨rfl, rfl, rfl⟩)))) (hb hby d36_31) (Eq.refl T6.heap) ⟨b5, rfl, N6, K⟩
abbrev EL_ : List (String × Nat) := [("com/example/planstitch/planstitch/core/catalog/CostModel", 13), ("com/example/planstitch/planstitch/core/catalog/CostModel", 22), ("com/example/planstitch/planstitch/core/catalog/CostModel", 27), ("com/example/planstitch/planstitch/core/catalog/CostModel", 37), ("com/example/planstitch/planstitch/core/catalog/CostModel", 44)]
theorem own_EW {Z : State} {a0 : Array Value} (hw : ∀ d ∈ tables_1, d.before a0 Z = true) : EW Z a0 EL_ := EW.cons (own_w hw 25 rfl) (by decide) (EW.cons (own_w hw 84 rfl) (by decide) (EW.cons (own_w hw 150 rfl) (by decide) (EW.cons (own_w hw 191 rfl) (by decide) (EW.cons (own_w hw 204 rfl) (by decide) (EW.nil)))))
theorem own_CHw {Z s : State} {vm0 vm' : Vm} {a0 : Array Value} {h : Heap} {EL : List (String × Nat)} (hZ : Z.Warmed39 vm0) (w : EW Z a0 EL) (hW : (s.setVm vm0).WarmedH vm') (H : CHv Z EL vm0 h) : CHv Z EL vm' h :=
  (CHv.later (h' := h) hZ (hW := (show (Wst Z vm0 h).Warmed39 vm' from hW.wide)) w ⟨Nat.le_refl _, fun _ _ q => q⟩ (Or.inl hW.interned_eq) H).1
theorem own_backX {p : Program} {l : Launch} {e : Env} {R : Room} {s : State} {args : Array Value} {below : List Frame} {Z : State} {a0 : Array Value} {h : Heap} {y : MethodName} {bytes : ByteArray} {maxL : Nat} {ret : Option FieldType} {rm : Room} {len W : Nat} {as' : Array Value} {Q : Option Value → Heap → List Loc → Prop} {Ex : Vm → Prop}
    (hM : MetFree l y (head1 [Jvm.Cond.code y bytes maxL ret] rm) (fun a U => a = as' ∧ Z.Warmed39 U.vm ∧ U.heap = h ∧ Ex U.vm) (fun _ _ _ _ _ => True) (fun _ U o U' => ∃ v L, o = .returned v ∧ Q v U'.heap L ∧ ReturnedEndW U o U' L rm.cells rm.slots))
    (hZ : Z.Warmed39 s.vm) (wc : (Jvm.Cond.code y bytes maxL ret).before a0 Z = true) (wz : (Jvm.Cond.initialized y.cls).before a0 Z = true) (hf : rm.frames + 1 ≤ R.frames) (hl : W + (maxL + 11) + rm.locals ≤ R.locals) (hE : ∀ vm', s.WarmedH vm' → Ex vm') :
    BackS l R p e below s args y len W (fun A a => a = as' ∧ A.U.heap = h ∧ A.cells + rm.cells ≤ R.cells ∧ A.slots + rm.slots ≤ R.slots)
      (fun A _ v B => ∃ L, Q v B.U.heap L ∧ B.locs = A.locs ++ L ∧ B.cells = A.cells + rm.cells ∧ B.slots = A.slots + rm.slots) := by
  refine BackS.of_freeW (bytes := bytes) (maxL := maxL) (ret := ret) (E := fun _ _ o t L k n => k = rm.cells ∧ n = rm.slots ∧ ∃ v, o = .returned v ∧ Q v t.heap L) hM hf hl ?_ ?_ ?_ ?_ ?_
  · intro m meth c A a Y hp
    have hU : Z.Warmed39 A.U.vm := wtrans hZ Y.warmed
    refine ⟨?_, mv hU wc, mv hU wz, hp.2.2.1, hp.2.2.2⟩
    show (Jvm.Cond.and _ .tt).before a A.U = true
    rw [Cond.before_and, mv hU wc]; rfl
  · exact fun m meth c A a g mk Y hp => ⟨hp.1, wtrans hZ Y.warmed, hp.2.1, hE _ Y.warmed⟩
  · exact fun _ _ _ _ _ _ _ _ _ => trivial
  · rintro a first o t ⟨v, L, e1, e2, e3⟩
    exact ⟨L, _, _, e3, rfl, rfl, v, e1, e2⟩
  · rintro m meth c A a g mk v t L k n Y hp _ _ ⟨rfl, rfl, v', e3, e4⟩
    cases e3
    exact ⟨L, e4, rfl, rfl, rfl⟩
def own_v15 : List Value := " to access and ".toList.map (fun c => Value.int (Jvm.Lit.byteI c.toNat.toUInt16))
def own_v8 : List Value := " to move".toList.map (fun c => Value.int (Jvm.Lit.byteI c.toNat.toUInt16))
abbrev y_36 : MethodName := ⟨"com/example/planstitch/planstitch/core/catalog/CostModel", "<init>", "(JJJJ)V"⟩
theorem d2_0 : decode prog_57_method_1_code 0 = .ok (.aload_n 0, 1) := by decide +kernel
theorem d2_1 : decode prog_57_method_1_code 1 = .ok (.invokespecial 1, 3) := by decide +kernel
theorem pd__28_29V : parseMethodDescriptor "()V" = some ⟨[], none⟩ := by decide +kernel
theorem d2_4 : decode prog_57_method_1_code 4 = .ok (.lload_n 1, 1) := by decide +kernel
theorem d2_5 : decode prog_57_method_1_code 5 = .ok (.invokestatic 7, 3) := by decide +kernel
theorem pd__28J_29Z : parseMethodDescriptor "(J)Z" = some ⟨[.long], some .boolean⟩ := by decide +kernel
theorem d2_8 : decode prog_57_method_1_code 8 = .ok (.ifCond .eq 14, 3) := by decide +kernel
theorem d2_11 : decode prog_57_method_1_code 11 = .ok (.lload_n 3, 1) := by decide +kernel
theorem d2_12 : decode prog_57_method_1_code 12 = .ok (.invokestatic 7, 3) := by decide +kernel
theorem d2_15 : decode prog_57_method_1_code 15 = .ok (.ifCond .eq 7, 3) := by decide +kernel
theorem d2_18 : decode prog_57_method_1_code 18 = .ok (.iconst 1, 1) := by decide +kernel
theorem d2_19 : decode prog_57_method_1_code 19 = .ok (.goto 4, 3) := by decide +kernel
theorem d2_23 : decode prog_57_method_1_code 23 = .ok (.ldc 13, 2) := by decide +kernel
theorem d2_25 : decode prog_57_method_1_code 25 = .ok (.new 15, 3) := by decide +kernel
theorem d2_28 : decode prog_57_method_1_code 28 = .ok (.dup, 1) := by decide +kernel
theorem d2_29 : decode prog_57_method_1_code 29 = .ok (.invokespecial 17, 3) := by decide +kernel
theorem d2_32 : decode prog_57_method_1_code 32 = .ok (.lload_n 1, 1) := by decide +kernel
theorem d2_33 : decode prog_57_method_1_code 33 = .ok (.invokevirtual 18, 3) := by decide +kernel
theorem pd__28J_29Ljava_2flang_2fStringBuilder_3b : parseMethodDescriptor "(J)Ljava/lang/StringBuilder;" = some ⟨[.long], some (.object "java/lang/StringBuilder")⟩ := by decide +kernel
theorem d2_36 : decode prog_57_method_1_code 36 = .ok (.ldc 22, 2) := by decide +kernel
theorem d2_38 : decode prog_57_method_1_code 38 = .ok (.invokevirtual 24, 3) := by decide +kernel
theorem pd__28Ljava_2flang_2fString_3b_29Ljava_2flang_2fStringBuilder_3b : parseMethodDescriptor "(Ljava/lang/String;)Ljava/lang/StringBuilder;" = some ⟨[(.object "java/lang/String")], some (.object "java/lang/StringBuilder")⟩ := by decide +kernel
theorem d2_41 : decode prog_57_method_1_code 41 = .ok (.lload_n 3, 1) := by decide +kernel
theorem d2_42 : decode prog_57_method_1_code 42 = .ok (.invokevirtual 18, 3) := by decide +kernel
theorem d2_45 : decode prog_57_method_1_code 45 = .ok (.ldc 27, 2) := by decide +kernel
theorem d2_47 : decode prog_57_method_1_code 47 = .ok (.invokevirtual 24, 3) := by decide +kernel
theorem d2_50 : decode prog_57_method_1_code 50 = .ok (.invokevirtual 29, 3) := by decide +kernel
theorem pd__28_29Ljava_2flang_2fString_3b : parseMethodDescriptor "()Ljava/lang/String;" = some ⟨[], some (.object "java/lang/String")⟩ := by decide +kernel
theorem d2_53 : decode prog_57_method_1_code 53 = .ok (.invokestatic 33, 3) := by decide +kernel
theorem pd__28ZLjava_2flang_2fString_3bLjava_2flang_2fString_3b_29V : parseMethodDescriptor "(ZLjava/lang/String;Ljava/lang/String;)V" = some ⟨[.boolean, (.object "java/lang/String"), (.object "java/lang/String")], none⟩ := by decide +kernel
theorem d2_56 : decode prog_57_method_1_code 56 = .ok (.lload 5, 2) := by decide +kernel
theorem d2_58 : decode prog_57_method_1_code 58 = .ok (.invokestatic 7, 3) := by decide +kernel
theorem d2_61 : decode prog_57_method_1_code 61 = .ok (.ldc 37, 2) := by decide +kernel
theorem d2_63 : decode prog_57_method_1_code 63 = .ok (.lload 5, 2) := by decide +kernel
theorem d2_65 : decode prog_57_method_1_code 65 = .ok (.invokestatic 39, 3) := by decide +kernel
theorem pd__28J_29Ljava_2flang_2fString_3b : parseMethodDescriptor "(J)Ljava/lang/String;" = some ⟨[.long], some (.object "java/lang/String")⟩ := by decide +kernel
theorem d2_68 : decode prog_57_method_1_code 68 = .ok (.invokestatic 33, 3) := by decide +kernel
theorem d2_71 : decode prog_57_method_1_code 71 = .ok (.lload 7, 2) := by decide +kernel
theorem d2_73 : decode prog_57_method_1_code 73 = .ok (.invokestatic 7, 3) := by decide +kernel
theorem d2_76 : decode prog_57_method_1_code 76 = .ok (.ldc 44, 2) := by decide +kernel
theorem d2_78 : decode prog_57_method_1_code 78 = .ok (.lload 7, 2) := by decide +kernel
theorem d2_80 : decode prog_57_method_1_code 80 = .ok (.invokestatic 39, 3) := by decide +kernel
theorem d2_83 : decode prog_57_method_1_code 83 = .ok (.invokestatic 33, 3) := by decide +kernel
theorem d2_86 : decode prog_57_method_1_code 86 = .ok (.aload_n 0, 1) := by decide +kernel
theorem d2_87 : decode prog_57_method_1_code 87 = .ok (.lload_n 1, 1) := by decide +kernel
theorem d2_88 : decode prog_57_method_1_code 88 = .ok (.putfield 46, 3) := by decide +kernel
theorem d2_91 : decode prog_57_method_1_code 91 = .ok (.aload_n 0, 1) := by decide +kernel
theorem d2_92 : decode prog_57_method_1_code 92 = .ok (.lload_n 3, 1) := by decide +kernel
theorem d2_93 : decode prog_57_method_1_code 93 = .ok (.putfield 50, 3) := by decide +kernel
theorem d2_96 : decode prog_57_method_1_code 96 = .ok (.aload_n 0, 1) := by decide +kernel
theorem d2_97 : decode prog_57_method_1_code 97 = .ok (.lload 5, 2) := by decide +kernel
theorem d2_99 : decode prog_57_method_1_code 99 = .ok (.putfield 53, 3) := by decide +kernel
theorem d2_102 : decode prog_57_method_1_code 102 = .ok (.aload_n 0, 1) := by decide +kernel
theorem d2_103 : decode prog_57_method_1_code 103 = .ok (.lload 7, 2) := by decide +kernel
theorem d2_105 : decode prog_57_method_1_code 105 = .ok (.putfield 56, 3) := by decide +kernel
theorem d2_108 : decode prog_57_method_1_code 108 = .ok (.return_, 1) := by decide +kernel
theorem ef_rmC4 (m : MethodId) (oa : Addr) (xa : Int64) (xb : Int64) (xc : Int64) (xd : Int64) : entryFrame m #[(.ref oa), (.long xa), (.long xb), (.long xc), (.long xd)] 9 = mkF m 0 #[.val (.ref oa), .val (.long xa), .second, .val (.long xb), .second, .val (.long xc), .second, .val (.long xd), .second] [] := by first | (simp [entryFrame, mkF, argsToLocals, Value.category]; done) | rfl
abbrev rm_rmC4 : Room := ({ frames := 6, cells := 21, slots := 478, locals := 94 } : Room)
def Q_rmC4 (Z : State) (oa : Addr) (xa : Int64) (xb : Int64) (xc : Int64) (xd : Int64) (cs : Int32) (dO : Addr) (kO : ClassId) (vO : List Value) (fO : Nat → Int32) (dT : Addr) (kT : ClassId) (vT : List Value) (fT : Nat → Int32) (h0 : Heap) (n0 : Nat) (v : Option Value) (h : Heap) (L : List Loc) : Prop := (v = none) ∧ (Fr n0 L) ∧ (Keep h0 h [oa]) ∧ (Fd_3 Z h oa (.long xd))
theorem rmC4 (l : Launch) (Z : State) (a0 : Array Value) (hw : ∀ d ∈ tables_1, d.before a0 Z = true) (ws : List Jvm.Cond) (oa : Addr) (xa : Int64) (xb : Int64) (xc : Int64) (xd : Int64) (cs : Int32) (dO : Addr) (kO : ClassId) (vO : List Value) (fO : Nat → Int32) (dT : Addr) (kT : ClassId) (vT : List Value) (fT : Nat → Int32) (h0 : Heap) (n0 : Nat) (O : Old Z n0 h0) (S_CS : Sa_0 Z (.int cs)) (S_DO : Sa_1 Z (.ref dO)) (V_dO : Arv Z Z.heap dO kO .byte (100 : Int32) vO (.int 0)) (S_DT : Sa_2 Z (.ref dT)) (V_dT : Arv Z Z.heap dT kT .byte (100 : Int32) vT (.int 0)) (E_oa : Exa Z h0 oa "com/example/planstitch/planstitch/core/catalog/CostModel") (F_a : Fd_9 Z h0 oa (.long (0 : Int64))) (F_t : Fd_10 Z h0 oa (.long (0 : Int64))) (F_m : Fd_11 Z h0 oa (.long (0 : Int64))) (F_b : Fd_3 Z h0 oa (.long (0 : Int64))) (hcs : ¬ (cs = (0 : Int32))) (g_oa : n0 ≤ oa) (hvO : ∀ zj : Nat, zj < 100 → vO.getD zj (.int 0) = .int (fO zj)) (hvT : ∀ zj : Nat, zj < 100 → vT.getD zj (.int 0) = .int (fT zj)) (uxa0 : ¬ (xa < (0 : Int64))) (uxa1 : ¬ ((1000000 : Int64) < xa)) (uxb0 : ¬ (xb < (0 : Int64))) (uxb1 : ¬ ((1000000 : Int64) < xb)) (uxc0 : ¬ (xc < (0 : Int64))) (uxc1 : ¬ ((1000000 : Int64) < xc)) (uxd0 : ¬ (xd < (0 : Int64))) (uxd1 : ¬ ((1000000 : Int64) < xd)) :
    MetFree l y_36 (head1 (Jvm.Cond.code y_36 prog_57_method_1_code 9 none :: ws) rm_rmC4) (fun A_ U => A_ = #[(.ref oa), (.long xa), (.long xb), (.long xc), (.long xd)] ∧ Z.Warmed39 U.vm ∧ U.heap = h0 ∧ CHv Z EL_ U.vm h0) (fun _ _ _ _ _ => True) (fun _ U o U' => ∃ v L, o = .returned v ∧ Q_rmC4 Z oa xa xb xc xd cs dO kO vO fO dT kT vT fT h0 n0 v U'.heap L ∧ CHr Z EL_ U.vm U.heap U'.vm U'.heap ∧ ReturnedEndW U o U' L rm_rmC4.cells rm_rmC4.slots) := by
 refine MetFree.of_bodySF (plainFor_of_name pn_com_example_planstitch_planstitch_core_catalog_CostModel) hisR ?_
 intro p e s m args below meth c s₁ Bd hml0 hP hK
 obtain ⟨rfl, hZ, hh, CH⟩ := hP
 have hx := Bd.exec
 have hby := Bd.bytes
 have hml : c.maxLocals = 9 := hml0
 have hown : s.vm.findClass "com/example/planstitch/planstitch/core/catalog/CostModel" = some m.cls := findClass_of_methodNamed Bd.named
 have hnm := (name_of_methodNamed Bd.named Bd.method).1
 have X0 : Stand p l e rm_rmC4 (s.setVm s.vm) m #[(.ref oa), (.long xa), (.long xb), (.long xc), (.long xd)] below meth c s₁ [] 0 0 := Stand.of_body Bd
 have e0 : s₁.heap = h0 := by rw [← hh, Bd.state]; rfl
 have N0 := Fr.nil n0
 have K := Keep.refl h0 [oa]
 have hS : s.Since s.vm 0 := (State.WarmedH.refl s).since 0
 have hk : 0 ≤ h0.size := Nat.zero_le _
 have wS := own_wS hw
 have CH := CHr.refl CH
 refine Go.step (p := p) (e := e) (below := below) (G := fun o U' => ∃ v L, o = .returned v ∧ Q_rmC4 Z oa xa xb xc xd cs dO kO vO fO dT kT vT fT h0 n0 v U'.heap L ∧ CHr Z EL_ s.vm s.heap U'.vm U'.heap ∧ ReturnedEndW s o U' L rm_rmC4.cells rm_rmC4.slots) (S' := s₁.setTop (mkF m 0 #[rv oa, lv xa, .second, lv xb, .second, lv xc, .second, lv xd, .second] [])) (fun t k => castTop (ef_rmC4 m oa xa xb xc xd) k) ?_
 refine Go.step (S' := s₁.setTop (mkF m 1 #[rv oa, lv xa, .second, lv xb, .second, lv xc, .second, lv xd, .second] [(.ref oa)])) (fun t k => ?_) ?_
 · refine XS.aloadN X0.here hx rfl (hb hby d2_0) rfl rfl ?_
   exact k
 refine Go.cI X0 hx hml hown hZ (own_w hw 13 rfl) (own_w hw 14 rfl) (own_w hw 16 rfl) (own_w hw 17 rfl) (rmRc l Z a0 hw [] oa h0 n0 O ) 0 [] pd__28_29V (hb hby d2_1) e0 (fun _ T1 L1 X1 hQ1 => ?_)
 obtain ⟨rfl, Nq1, e1⟩ := hQ1
 have N1 := Fr.app N0 Nq1
 refine Go.step (S' := T1.setTop (mkF m 5 #[rv oa, lv xa, .second, lv xb, .second, lv xc, .second, lv xd, .second] [(.long xa)])) (fun t k => ?_) ?_
 · refine XS.lloadN X1.here hx rfl (hb hby d2_4) rfl ?_
   exact k
 refine Go.cS X1 hx hml hown hZ (own_w hw 21 rfl) (own_w hw 22 rfl) (own_w hw 9 rfl) (own_w hw 23 rfl) (rmIn l Z a0 hw [] xa h0 n0 O uxa0 uxa1) 0 [] pd__28J_29Z (hb hby d2_5) e1 (fun _ T2 L2 X2 hQ2 => ?_)
 obtain ⟨rfl, Nq2, e2⟩ := hQ2
 have N2 := Fr.app N1 Nq2
 refine Go.step (S' := T2.setTop (mkF m 12 #[rv oa, lv xa, .second, lv xb, .second, lv xc, .second, lv xd, .second] [(.long xb)])) (fun t k => ?_) ?_
 · refine XS.ifNo X2.here hx rfl (hb hby d2_8) rfl ((if0 _ _).trans (feq ((by decide) : ¬ ((1 : Int32) = (0 : Int32)))).1) ?_
   refine XS.lloadN X2.here hx rfl (hb hby d2_11) rfl ?_
   exact k
 refine Go.cS X2 hx hml hown hZ (own_w hw 21 rfl) (own_w hw 22 rfl) (own_w hw 9 rfl) (own_w hw 23 rfl) (rmIn l Z a0 hw [] xb h0 n0 O uxb0 uxb1) 0 [] pd__28J_29Z (hb hby d2_12) e2 (fun _ T3 L3 X3 hQ3 => ?_)
 obtain ⟨rfl, Nq3, e3⟩ := hQ3
 have N3 := Fr.app N2 Nq3
 refine Go.step (S' := T3.setTop (mkF m 23 #[rv oa, lv xa, .second, lv xb, .second, lv xc, .second, lv xd, .second] [(.int 1)])) (fun t k => ?_) ?_
 · refine XS.ifNo X3.here hx rfl (hb hby d2_15) rfl ((if0 _ _).trans (feq ((by decide) : ¬ ((1 : Int32) = (0 : Int32)))).1) ?_
   refine XS.iconst X3.here hx rfl (hb hby d2_18) ?_
   refine XS.goto X3.here hx rfl (pc0 := 19) (pc' := 23) rfl (hb hby d2_19) (by decide) (by decide) ?_
   exact k
 obtain ⟨a4, T4, h4, k4, X4, e4, E4, hS, hk, hZ, hown, AH4, -, st4⟩ := ldcOH X3 hx hZ hown (own_w hw 25 rfl) wS e3 hS hk (own_EW hw) CH.1 (g := (mkF m 23 #[rv oa, lv xa, .second, lv xb, .second, lv xc, .second, lv xd, .second] [(.int 1)])) rfl (hb hby d2_23) (n := 28) (by decide) (by decide) (by decide) (by decide)
 have CH := CH.trans AH4
 have O := O.ext E4
 have E_oa := E_oa.ext E4
 have F_a := F_a.ext E4
 have F_t := F_t.ext E4
 have F_m := F_m.ext E4
 have F_b := F_b.ext E4
 have K := K.ext E4
 refine Go.step st4 ?_
 obtain ⟨T5, h5, X5, e5, E5, A5, D5, -, st5⟩ := newO X4 hx hZ hown (own_w hw 33 rfl) (own_w hw 34 rfl) (own_w hw 35 rfl) e4 (g := (mkF m 25 #[rv oa, lv xa, .second, lv xb, .second, lv xc, .second, lv xd, .second] [(.ref a4), (.int 1)])) rfl (hb hby d2_25) (by decide) (by decide)
 obtain ⟨b5, g5⟩ : ∃ z, z = Array.size h4 := ⟨_, rfl⟩
 have g_b5 : n0 ≤ b5 := Nat.le_trans (old_le O) (Nat.le_of_eq g5.symm)
 have sz_b5 : h0.size ≤ b5 := Nat.le_trans K.1 (Nat.le_of_eq g5.symm)
 have ne_oa_b5 : oa ≠ b5 := Nat.ne_of_lt (Nat.lt_of_lt_of_le E_oa.lt (Nat.le_of_eq g5.symm))
 rw [← g5] at A5 D5 st5
 have AH5 := CHr.ext E5 CH.1
 have CH := CH.trans AH5
 have O := O.ext E5
 have E_oa := E_oa.ext E5
 have F_a := F_a.ext E5
 have F_t := F_t.ext E5
 have F_m := F_m.ext E5
 have F_b := F_b.ext E5
 have K := K.ext E5
 have hk := Nat.le_trans hk E5.1
 have E_b5 := A5
 have F_value_b5 : Fd_4 Z h5 b5 .null := D5 (Or.inl (own_w hw 48 rfl)) (ty := (.array .byte)) (by decide)
 have F_coder_b5 : Fd_5 Z h5 b5 (.int 0) := D5 (Or.inl (own_w hw 50 rfl)) (ty := .byte) (by decide)
 have F_count_b5 : Fd_6 Z h5 b5 (.int 0) := D5 (Or.inl (own_w hw 62 rfl)) (ty := .int) (by decide)
 refine Go.step st5 ?_
 refine Go.step (S' := T5.setTop (mkF m 29 #[rv oa, lv xa, .second, lv xb, .second, lv xc, .second, lv xd, .second] [(.ref b5), (.ref b5), (.ref a4), (.int 1)])) (fun t k => ?_) ?_
 · refine XS.dup X5.here hx rfl (hb hby d2_28) rfl rfl ?_
   exact k
 refine Go.cI X5 hx hml hown hZ (own_w hw 36 rfl) (own_w hw 37 rfl) (own_w hw 35 rfl) (own_w hw 38 rfl) (rmBI l Z a0 hw [] b5 cs h5 n0 O S_CS E_b5 F_value_b5 F_coder_b5 F_count_b5 (by assumption) hcs) 3 [(.ref b5), (.ref a4), (.int 1)] pd__28_29V (hb hby d2_29) e5 (fun _ T6 L6 X6 hQ6 => ?_)
 obtain ⟨da_6, kd_6, rfl, Nq6, K6, P6_E_sb, P6_F_v, P6_F_c, P6_F_n, P6_V_da, P6_E_da, gd_6, sd_6⟩ := hQ6
 have N6 := Fr.app N3 Nq6
 have sz_da_6 : h0.size ≤ da_6 := Nat.le_trans K.1 sd_6
 have ne_oa_da_6 : oa ≠ da_6 := Nat.ne_of_lt (Nat.lt_of_lt_of_le E_oa.lt sd_6)
 have ne_b5_da_6 : b5 ≠ da_6 := Nat.ne_of_lt (Nat.lt_of_lt_of_le E_b5.lt sd_6)
 have AH6 := CHr.keep K6 (allS (Safe.exa hZ.alike E_b5 (by decide) (by decide)) all0) CH.1
 have Sf_da_6 := Safe.keep K6 (allS (Safe.exa hZ.alike E_b5 (by decide) (by decide)) all0) CH.1 (Safe.new sd_6)
 have CH := CH.trans AH6
 have O := O.keep K6 (allS g_b5 all0)
 have E_oa := E_oa.keep K6
 have F_a := F_a.keep K6 (ninS ne_oa_b5 nin0)
 have F_t := F_t.keep K6 (ninS ne_oa_b5 nin0)
 have F_m := F_m.keep K6 (ninS ne_oa_b5 nin0)
 have F_b := F_b.keep K6 (ninS ne_oa_b5 nin0)
 have K := K.trans K6 (allS (Or.inr sz_b5) all0)
 have hk := Nat.le_trans hk K6.1
 have E_b5 := E_b5.keep K6
 have E_sb_6 := P6_E_sb
 have F_v_6 := P6_F_v
 have F_c_6 := P6_F_c
 have F_n_6 := P6_F_n
 have V_da_6 := P6_V_da
 have E_da_6 := P6_E_da
 have g_da_6 := gd_6
 refine Go.step (S' := T6.setTop (mkF m 33 #[rv oa, lv xa, .second, lv xb, .second, lv xc, .second, lv xd, .second] [(.long xa), (.ref b5), (.ref a4), (.int 1)])) (fun t k => ?_) ?_
 · refine XS.lloadN X6.here hx rfl (hb hby d2_32) rfl ?_
   exact k
 refine Go.cV X6 hx hml hown hZ (own_w hw 51 rfl) (own_w hw 52 rfl) (own_w hw 54 rfl) (own_w hw 53 rfl) (own_w hw 35 rfl) (own_w hw 55 rfl) E_b5 (rmBj1 l Z a0 hw [] b5 xa da_6 kd_6 (List.replicate 16 (.int 0)) (0 : Int32) cs dO kO vO fO dT kT vT fT T6.heap n0 O S_CS S_DO V_dO S_DT V_dT E_b5 F_v_6 F_c_6 F_n_6 V_da_6 E_da_6 hcs hvO hvT uxa0 uxa1 g_b5 g_da_6 (by simp) rfl) 2 [(.ref a4), (.int 1)] pd__28J_29Ljava_2flang_2fStringBuilder_3b (hb hby d2_33) (Eq.refl T6.heap) (fun _ T7 L7 X7 hQ7 => ?_)
 obtain ⟨de_7, ke_7, vf_7, ce_7, rfl, Nq7, K7, P7_E_sb, P7_F_v, P7_F_c, P7_F_n, P7_V, P7_E, hvf_7, ge_7, se_7, hce_7⟩ := hQ7
 have N7 := Fr.app N6 Nq7
 have sz_de_7 := own_szo se_7 sz_da_6 K.1
 have AH7 := CHr.keep K7 (allS (Safe.exa hZ.alike E_b5 (by decide) (by decide)) (allS Sf_da_6 all0)) CH.1
 have Sf_de_7 := Safe.keep K7 (allS (Safe.exa hZ.alike E_b5 (by decide) (by decide)) (allS Sf_da_6 all0)) CH.1 (own_sfo se_7 Sf_da_6)
 have CH := CH.trans AH7
 have O := O.keep K7 (allS g_b5 (allS g_da_6 all0))
 have E_oa := E_oa.keep K7
 have F_a := F_a.keep K7 (ninS ne_oa_b5 (ninS ne_oa_da_6 nin0))
 have F_t := F_t.keep K7 (ninS ne_oa_b5 (ninS ne_oa_da_6 nin0))
 have F_m := F_m.keep K7 (ninS ne_oa_b5 (ninS ne_oa_da_6 nin0))
 have F_b := F_b.keep K7 (ninS ne_oa_b5 (ninS ne_oa_da_6 nin0))
 have K := K.trans K7 (allS (Or.inr sz_b5) (allS (Or.inr sz_da_6) all0))
 have hk := Nat.le_trans hk K7.1
 have E_b5 := E_b5.keep K7
 have E_sb_6 := E_sb_6.keep K7
 have E_da_6 := E_da_6.keep K7
 have E_sb_7 := P7_E_sb
 have F_v_7 := P7_F_v
 have F_c_7 := P7_F_c
 have F_n_7 := P7_F_n
 have V_7 := P7_V
 have E_7 := P7_E
 have g_de_7 := ge_7
 obtain ⟨a8, T8, h8, k8, b8, kb8, X8, e8, E8, hS, hk, hZ, hown, Ea8, Fc8, Fv8, Va8, -, -, AH8, -, NE8, st8⟩ := ldcCH X7 hx hZ hown (own_w hw 84 rfl) wS (Eq.refl T7.heap) hS hk (own_EW hw) (List.mem_of_getElem? (i := 1) rfl) CH.1 (vs := own_v15) (z := (15 : Int32)) ⟨by decide, rfl⟩ (by decide) rfl (g := (mkF m 36 #[rv oa, lv xa, .second, lv xb, .second, lv xc, .second, lv xd, .second] [(.ref b5), (.ref a4), (.int 1)])) rfl (hb hby d2_36) (n := 60) (by decide) (by decide) (by decide) (by decide)
 have Sf_de_7 := AH8.safe V_7.lt Sf_de_7
 have CH := CH.trans AH8
 have O := O.ext E8
 have E_oa := E_oa.ext E8
 have F_a := F_a.ext E8
 have F_t := F_t.ext E8
 have F_m := F_m.ext E8
 have F_b := F_b.ext E8
 have K := K.ext E8
 have E_b5 := E_b5.ext E8
 have E_sb_6 := E_sb_6.ext E8
 have E_da_6 := E_da_6.ext E8
 have E_sb_7 := E_sb_7.ext E8
 have F_v_7 := F_v_7.ext E8
 have F_c_7 := F_c_7.ext E8
 have F_n_7 := F_n_7.ext E8
 have V_7 := V_7.ext E8
 have E_7 := E_7.ext E8
 have ne_de_7_b8 : de_7 ≠ b8 := (NE8 _ Sf_de_7).2
 refine Go.step st8 ?_
 refine Go.cV X8 hx hml hown hZ (own_w hw 85 rfl) (own_w hw 86 rfl) (own_w hw 88 rfl) (own_w hw 87 rfl) (own_w hw 35 rfl) (own_w hw 89 rfl) E_b5 (rmBs15 l Z a0 hw [] b5 a8 b8 kb8 own_v15 cs de_7 ke_7 vf_7 ce_7 h8 n0 O S_CS Ea8 Fv8 Fc8 Va8 E_b5 F_v_7 F_c_7 F_n_7 V_7 E_7 hcs g_b5 g_de_7 (Ne.symm ne_de_7_b8) hvf_7 hce_7) 2 [(.ref a4), (.int 1)] pd__28Ljava_2flang_2fString_3b_29Ljava_2flang_2fStringBuilder_3b (hb hby d2_38) e8 (fun _ T9 L9 X9 hQ9 => ?_)
 obtain ⟨de_9, ke_9, vf_9, ce_9, nn_9, rfl, Nq9, K9, P9_E_sb, P9_F_v, P9_F_c, P9_F_n, P9_V, P9_E, hvf_9, ge_9, se_9, hn_9⟩ := hQ9
 have N9 := Fr.app N7 Nq9
 have sz_de_9 := own_szo se_9 sz_de_7 K.1
 have AH9 := CHr.keep K9 (allS (Safe.exa hZ.alike E_b5 (by decide) (by decide)) (allS Sf_de_7 all0)) CH.1
 have Sf_de_9 := Safe.keep K9 (allS (Safe.exa hZ.alike E_b5 (by decide) (by decide)) (allS Sf_de_7 all0)) CH.1 (own_sfo se_9 Sf_de_7)
 have CH := CH.trans AH9
 have ne_oa_de_7 : oa ≠ de_7 := ne_exa E_oa E_7 (by decide)
 have ne_b5_de_7 : b5 ≠ de_7 := ne_exa E_b5 E_7 (by decide)
 have ne_a8_b5 : a8 ≠ b5 := ne_exa Ea8 E_b5 (by decide)
 have ne_a8_de_7 : a8 ≠ de_7 := ne_exa Ea8 E_7 (by decide)
 have ne_b8_b5 : b8 ≠ b5 := Ne.symm (Exa.neArv E_b5 Va8 (own_w hw 34 rfl))
 have O := O.keep K9 (allS g_b5 (allS g_de_7 all0))
 have E_oa := E_oa.keep K9
 have F_a := F_a.keep K9 (ninS ne_oa_b5 (ninS ne_oa_de_7 nin0))
 have F_t := F_t.keep K9 (ninS ne_oa_b5 (ninS ne_oa_de_7 nin0))
 have F_m := F_m.keep K9 (ninS ne_oa_b5 (ninS ne_oa_de_7 nin0))
 have F_b := F_b.keep K9 (ninS ne_oa_b5 (ninS ne_oa_de_7 nin0))
 have K := K.trans K9 (allS (Or.inr sz_b5) (allS (Or.inr sz_de_7) all0))
 have E_b5 := E_b5.keep K9
 have E_sb_6 := E_sb_6.keep K9
 have E_da_6 := E_da_6.keep K9
 have E_sb_7 := E_sb_7.keep K9
 have E_7 := E_7.keep K9
 have hk := Nat.le_trans hk K9.1
 have Ea8 := Ea8.keep K9
 have Fc8 := Fc8.keep K9 (ninS ne_a8_b5 (ninS ne_a8_de_7 nin0))
 have Fv8 := Fv8.keep K9 (ninS ne_a8_b5 (ninS ne_a8_de_7 nin0))
 have Va8 := Va8.keep K9 (ninS ne_b8_b5 (ninS (Ne.symm ne_de_7_b8) nin0))
 have E_sb_9 := P9_E_sb
 have F_v_9 := P9_F_v
 have F_c_9 := P9_F_c
 have F_n_9 := P9_F_n
 have V_9 := P9_V
 have E_9 := P9_E
 have g_de_9 := ge_9
 refine Go.step (S' := T9.setTop (mkF m 42 #[rv oa, lv xa, .second, lv xb, .second, lv xc, .second, lv xd, .second] [(.long xb), (.ref b5), (.ref a4), (.int 1)])) (fun t k => ?_) ?_
 · refine XS.lloadN X9.here hx rfl (hb hby d2_41) rfl ?_
   exact k
 refine Go.cV X9 hx hml hown hZ (own_w hw 51 rfl) (own_w hw 52 rfl) (own_w hw 54 rfl) (own_w hw 53 rfl) (own_w hw 35 rfl) (own_w hw 55 rfl) E_b5 (rmBj2 l Z a0 hw [] b5 xb de_9 ke_9 vf_9 ce_9 cs dO kO vO fO dT kT vT fT nn_9 T9.heap n0 O S_CS S_DO V_dO S_DT V_dT E_b5 F_v_9 F_c_9 F_n_9 V_9 E_9 hcs hvO hvT uxb0 uxb1 g_b5 g_de_9 hvf_9 hn_9) 2 [(.ref a4), (.int 1)] pd__28J_29Ljava_2flang_2fStringBuilder_3b (hb hby d2_42) (Eq.refl T9.heap) (fun _ T10 L10 X10 hQ10 => ?_)
 obtain ⟨de_10, ke_10, vf_10, ce_10, rfl, Nq10, K10, P10_E_sb, P10_F_v, P10_F_c, P10_F_n, P10_V, P10_E, hvf_10, ge_10, se_10, hce_10⟩ := hQ10
 have N10 := Fr.app N9 Nq10
 have sz_de_10 := own_szo se_10 sz_de_9 K.1
 have AH10 := CHr.keep K10 (allS (Safe.exa hZ.alike E_b5 (by decide) (by decide)) (allS Sf_de_9 all0)) CH.1
 have Sf_de_10 := Safe.keep K10 (allS (Safe.exa hZ.alike E_b5 (by decide) (by decide)) (allS Sf_de_9 all0)) CH.1 (own_sfo se_10 Sf_de_9)
 have CH := CH.trans AH10
 have ne_oa_de_9 : oa ≠ de_9 := ne_exa E_oa E_9 (by decide)
 have ne_b5_de_9 : b5 ≠ de_9 := ne_exa E_b5 E_9 (by decide)
 have O := O.keep K10 (allS g_b5 (allS g_de_9 all0))
 have E_oa := E_oa.keep K10
 have F_a := F_a.keep K10 (ninS ne_oa_b5 (ninS ne_oa_de_9 nin0))
 have F_t := F_t.keep K10 (ninS ne_oa_b5 (ninS ne_oa_de_9 nin0))
 have F_m := F_m.keep K10 (ninS ne_oa_b5 (ninS ne_oa_de_9 nin0))
 have F_b := F_b.keep K10 (ninS ne_oa_b5 (ninS ne_oa_de_9 nin0))
 have K := K.trans K10 (allS (Or.inr sz_b5) (allS (Or.inr sz_de_9) all0))
 have E_b5 := E_b5.keep K10
 have E_sb_6 := E_sb_6.keep K10
 have E_da_6 := E_da_6.keep K10
 have E_sb_7 := E_sb_7.keep K10
 have E_7 := E_7.keep K10
 have hk := Nat.le_trans hk K10.1
 have E_sb_9 := E_sb_9.keep K10
 have E_9 := E_9.keep K10
 have E_sb_10 := P10_E_sb
 have F_v_10 := P10_F_v
 have F_c_10 := P10_F_c
 have F_n_10 := P10_F_n
 have V_10 := P10_V
 have E_10 := P10_E
 have g_de_10 := ge_10
 obtain ⟨a11, T11, h11, k11, b11, kb11, X11, e11, E11, hS, hk, hZ, hown, Ea11, Fc11, Fv11, Va11, -, -, AH11, -, NE11, st11⟩ := ldcCH X10 hx hZ hown (own_w hw 150 rfl) wS (Eq.refl T10.heap) hS hk (own_EW hw) (List.mem_of_getElem? (i := 2) rfl) CH.1 (vs := own_v8) (z := (8 : Int32)) ⟨by decide, rfl⟩ (by decide) rfl (g := (mkF m 45 #[rv oa, lv xa, .second, lv xb, .second, lv xc, .second, lv xd, .second] [(.ref b5), (.ref a4), (.int 1)])) rfl (hb hby d2_45) (n := 32) (by decide) (by decide) (by decide) (by decide)
 have Sf_de_10 := AH11.safe V_10.lt Sf_de_10
 have CH := CH.trans AH11
 have O := O.ext E11
 have E_oa := E_oa.ext E11
 have F_a := F_a.ext E11
 have F_t := F_t.ext E11
 have F_m := F_m.ext E11
 have F_b := F_b.ext E11
 have K := K.ext E11
 have E_b5 := E_b5.ext E11
 have E_sb_6 := E_sb_6.ext E11
 have E_da_6 := E_da_6.ext E11
 have E_sb_7 := E_sb_7.ext E11
 have E_7 := E_7.ext E11
 have E_sb_9 := E_sb_9.ext E11
 have E_9 := E_9.ext E11
 have E_sb_10 := E_sb_10.ext E11
 have F_v_10 := F_v_10.ext E11
 have F_c_10 := F_c_10.ext E11
 have F_n_10 := F_n_10.ext E11
 have V_10 := V_10.ext E11
 have E_10 := E_10.ext E11
 have ne_de_10_b11 : de_10 ≠ b11 := (NE11 _ Sf_de_10).2
 refine Go.step st11 ?_
 refine Go.cV X11 hx hml hown hZ (own_w hw 85 rfl) (own_w hw 86 rfl) (own_w hw 88 rfl) (own_w hw 87 rfl) (own_w hw 35 rfl) (own_w hw 89 rfl) E_b5 (rmBs8 l Z a0 hw [] b5 a11 b11 kb11 own_v8 cs de_10 ke_10 vf_10 ce_10 h11 n0 O S_CS Ea11 Fv11 Fc11 Va11 E_b5 F_v_10 F_c_10 F_n_10 V_10 E_10 hcs g_b5 g_de_10 (Ne.symm ne_de_10_b11) hvf_10 hce_10) 2 [(.ref a4), (.int 1)] pd__28Ljava_2flang_2fString_3b_29Ljava_2flang_2fStringBuilder_3b (hb hby d2_47) e11 (fun _ T12 L12 X12 hQ12 => ?_)
 obtain ⟨de_12, ke_12, vf_12, ce_12, nn_12, rfl, Nq12, K12, P12_E_sb, P12_F_v, P12_F_c, P12_F_n, P12_V, P12_E, hvf_12, ge_12, se_12, hn_12⟩ := hQ12
 have N12 := Fr.app N10 Nq12
 have sz_de_12 := own_szo se_12 sz_de_10 K.1
 have AH12 := CHr.keep K12 (allS (Safe.exa hZ.alike E_b5 (by decide) (by decide)) (allS Sf_de_10 all0)) CH.1
 have Sf_de_12 := Safe.keep K12 (allS (Safe.exa hZ.alike E_b5 (by decide) (by decide)) (allS Sf_de_10 all0)) CH.1 (own_sfo se_12 Sf_de_10)
 have CH := CH.trans AH12
 have ne_oa_de_10 : oa ≠ de_10 := ne_exa E_oa E_10 (by decide)
 have ne_b5_de_10 : b5 ≠ de_10 := ne_exa E_b5 E_10 (by decide)
 have ne_a11_b5 : a11 ≠ b5 := ne_exa Ea11 E_b5 (by decide)
 have ne_a11_de_10 : a11 ≠ de_10 := ne_exa Ea11 E_10 (by decide)
 have ne_b11_b5 : b11 ≠ b5 := Ne.symm (Exa.neArv E_b5 Va11 (own_w hw 34 rfl))
 have O := O.keep K12 (allS g_b5 (allS g_de_10 all0))
 have E_oa := E_oa.keep K12
 have F_a := F_a.keep K12 (ninS ne_oa_b5 (ninS ne_oa_de_10 nin0))
 have F_t := F_t.keep K12 (ninS ne_oa_b5 (ninS ne_oa_de_10 nin0))
 have F_m := F_m.keep K12 (ninS ne_oa_b5 (ninS ne_oa_de_10 nin0))
 have F_b := F_b.keep K12 (ninS ne_oa_b5 (ninS ne_oa_de_10 nin0))
 have K := K.trans K12 (allS (Or.inr sz_b5) (allS (Or.inr sz_de_10) all0))
 have E_b5 := E_b5.keep K12
 have E_sb_6 := E_sb_6.keep K12
 have E_da_6 := E_da_6.keep K12
 have E_sb_7 := E_sb_7.keep K12
 have E_7 := E_7.keep K12
 have E_sb_9 := E_sb_9.keep K12
 have E_9 := E_9.keep K12
 have E_sb_10 := E_sb_10.keep K12
 have E_10 := E_10.keep K12
 have hk := Nat.le_trans hk K12.1
 have Ea11 := Ea11.keep K12
 have Fc11 := Fc11.keep K12 (ninS ne_a11_b5 (ninS ne_a11_de_10 nin0))
 have Fv11 := Fv11.keep K12 (ninS ne_a11_b5 (ninS ne_a11_de_10 nin0))
 have Va11 := Va11.keep K12 (ninS ne_b11_b5 (ninS (Ne.symm ne_de_10_b11) nin0))
 have E_sb_12 := P12_E_sb
 have F_v_12 := P12_F_v
 have F_c_12 := P12_F_c
 have F_n_12 := P12_F_n
 have V_12 := P12_V
 have E_12 := P12_E
 have g_de_12 := ge_12
 refine Go.cV X12 hx hml hown hZ (own_w hw 151 rfl) (own_w hw 152 rfl) (own_w hw 154 rfl) (own_w hw 153 rfl) (own_w hw 35 rfl) (own_w hw 155 rfl) E_b5 (rmTs l Z a0 hw [] b5 de_12 ke_12 nn_12 vf_12 ce_12 cs T12.heap n0 O S_CS E_b5 F_v_12 F_c_12 F_n_12 V_12 E_12 hcs hn_12) 2 [(.ref a4), (.int 1)] pd__28_29Ljava_2flang_2fString_3b (hb hby d2_50) (Eq.refl T12.heap) (fun _ T13 L13 X13 hQ13 => ?_)
 obtain ⟨ts_13, rfl, Nq13, K13⟩ := hQ13
 have N13 := Fr.app N12 Nq13
 have AH13 := CHr.keep K13 all0 CH.1
 have Sf_de_12 := AH13.safe V_12.lt Sf_de_12
 have CH := CH.trans AH13
 have O := O.keep K13 all0
 have E_oa := E_oa.keep K13
 have F_a := F_a.keep K13 nin0
 have F_t := F_t.keep K13 nin0
 have F_m := F_m.keep K13 nin0
 have F_b := F_b.keep K13 nin0
 have K := K.trans K13 all0
 have E_b5 := E_b5.keep K13
 have E_sb_6 := E_sb_6.keep K13
 have E_da_6 := E_da_6.keep K13
 have E_sb_7 := E_sb_7.keep K13
 have E_7 := E_7.keep K13
 have E_sb_9 := E_sb_9.keep K13
 have E_9 := E_9.keep K13
 have E_sb_10 := E_sb_10.keep K13
 have E_10 := E_10.keep K13
 have hk := Nat.le_trans hk K13.1
 have Ea11 := Ea11.keep K13
 have Fc11 := Fc11.keep K13 nin0
 have Fv11 := Fv11.keep K13 nin0
 have Va11 := Va11.keep K13 nin0
 have E_sb_12 := E_sb_12.keep K13
 have F_v_12 := F_v_12.keep K13 nin0
 have F_c_12 := F_c_12.keep K13 nin0
 have F_n_12 := F_n_12.keep K13 nin0
 have V_12 := V_12.keep K13 nin0
 have E_12 := E_12.keep K13
 refine Go.cS X13 hx hml hown hZ (own_w hw 188 rfl) (own_w hw 189 rfl) (own_w hw 9 rfl) (own_w hw 190 rfl) (rmRq l Z a0 hw [] a4 ts_13 T13.heap n0 O ) 0 [] pd__28ZLjava_2flang_2fString_3bLjava_2flang_2fString_3b_29V (hb hby d2_53) (Eq.refl T13.heap) (fun _ T14 L14 X14 hQ14 => ?_)
 obtain ⟨rfl, Nq14, e14⟩ := hQ14
 have N14 := Fr.app N13 Nq14
 refine Go.step (S' := T14.setTop (mkF m 58 #[rv oa, lv xa, .second, lv xb, .second, lv xc, .second, lv xd, .second] [(.long xc)])) (fun t k => ?_) ?_
 · refine XS.lload X14.here hx rfl (hb hby d2_56) rfl ?_
   exact k
 refine Go.cS X14 hx hml hown hZ (own_w hw 21 rfl) (own_w hw 22 rfl) (own_w hw 9 rfl) (own_w hw 23 rfl) (rmIn l Z a0 hw [] xc T13.heap n0 O uxc0 uxc1) 0 [] pd__28J_29Z (hb hby d2_58) e14 (fun _ T15 L15 X15 hQ15 => ?_)
 obtain ⟨rfl, Nq15, e15⟩ := hQ15
 have N15 := Fr.app N14 Nq15
 obtain ⟨a16, T16, h16, k16, X16, e16, E16, hS, hk, hZ, hown, AH16, -, st16⟩ := ldcOH X15 hx hZ hown (own_w hw 191 rfl) wS e15 hS hk (own_EW hw) CH.1 (g := (mkF m 61 #[rv oa, lv xa, .second, lv xb, .second, lv xc, .second, lv xd, .second] [(.int 1)])) rfl (hb hby d2_61) (n := 36) (by decide) (by decide) (by decide) (by decide)
 have Sf_de_12 := AH16.safe V_12.lt Sf_de_12
 have CH := CH.trans AH16
 have O := O.ext E16
 have E_oa := E_oa.ext E16
 have F_a := F_a.ext E16
 have F_t := F_t.ext E16
 have F_m := F_m.ext E16
 have F_b := F_b.ext E16
 have K := K.ext E16
 have E_b5 := E_b5.ext E16
 have E_sb_6 := E_sb_6.ext E16
 have E_da_6 := E_da_6.ext E16
 have E_sb_7 := E_sb_7.ext E16
 have E_7 := E_7.ext E16
 have E_sb_9 := E_sb_9.ext E16
 have E_9 := E_9.ext E16
 have E_sb_10 := E_sb_10.ext E16
 have E_10 := E_10.ext E16
 have Ea11 := Ea11.ext E16
 have Fc11 := Fc11.ext E16
 have Fv11 := Fv11.ext E16
 have Va11 := Va11.ext E16
 have E_sb_12 := E_sb_12.ext E16
 have F_v_12 := F_v_12.ext E16
 have F_c_12 := F_c_12.ext E16
 have F_n_12 := F_n_12.ext E16
 have V_12 := V_12.ext E16
 have E_12 := E_12.ext E16
 refine Go.step st16 ?_
 refine Go.step (S' := T16.setTop (mkF m 65 #[rv oa, lv xa, .second, lv xb, .second, lv xc, .second, lv xd, .second] [(.long xc), (.ref a16), (.int 1)])) (fun t k => ?_) ?_
 · refine XS.lload X16.here hx rfl (hb hby d2_63) rfl ?_
   exact k
 refine Go.cS X16 hx hml hown hZ (own_w hw 192 rfl) (own_w hw 193 rfl) (own_w hw 65 rfl) (own_w hw 194 rfl) (rmLs l Z a0 hw [] xc cs dO kO vO fO dT kT vT fT h16 n0 O S_CS S_DO V_dO S_DT V_dT hcs hvO hvT uxc0 uxc1) 2 [(.ref a16), (.int 1)] pd__28J_29Ljava_2flang_2fString_3b (hb hby d2_65) e16 (fun _ T17 L17 X17 hQ17 => ?_)
 obtain ⟨ts_17, rfl, Nq17, K17⟩ := hQ17
 have N17 := Fr.app N15 Nq17
 have AH17 := CHr.keep K17 all0 CH.1
 have Sf_de_12 := AH17.safe V_12.lt Sf_de_12
 have CH := CH.trans AH17
 have O := O.keep K17 all0
 have E_oa := E_oa.keep K17
 have F_a := F_a.keep K17 nin0
 have F_t := F_t.keep K17 nin0
 have F_m := F_m.keep K17 nin0
 have F_b := F_b.keep K17 nin0
 have K := K.trans K17 all0
 have E_b5 := E_b5.keep K17
 have E_sb_6 := E_sb_6.keep K17
 have E_da_6 := E_da_6.keep K17
 have E_sb_7 := E_sb_7.keep K17
 have E_7 := E_7.keep K17
 have E_sb_9 := E_sb_9.keep K17
 have E_9 := E_9.keep K17
 have E_sb_10 := E_sb_10.keep K17
 have E_10 := E_10.keep K17
 have Ea11 := Ea11.keep K17
 have Fc11 := Fc11.keep K17 nin0
 have Fv11 := Fv11.keep K17 nin0
 have Va11 := Va11.keep K17 nin0
 have E_sb_12 := E_sb_12.keep K17
 have F_v_12 := F_v_12.keep K17 nin0
 have F_c_12 := F_c_12.keep K17 nin0
 have F_n_12 := F_n_12.keep K17 nin0
 have V_12 := V_12.keep K17 nin0
 have E_12 := E_12.keep K17
 have hk := Nat.le_trans hk K17.1
 refine Go.cS X17 hx hml hown hZ (own_w hw 188 rfl) (own_w hw 189 rfl) (own_w hw 9 rfl) (own_w hw 190 rfl) (rmRq l Z a0 hw [] a16 ts_17 T17.heap n0 O ) 0 [] pd__28ZLjava_2flang_2fString_3bLjava_2flang_2fString_3b_29V (hb hby d2_68) (Eq.refl T17.heap) (fun _ T18 L18 X18 hQ18 => ?_)
 obtain ⟨rfl, Nq18, e18⟩ := hQ18
 have N18 := Fr.app N17 Nq18
 refine Go.step (S' := T18.setTop (mkF m 73 #[rv oa, lv xa, .second, lv xb, .second, lv xc, .second, lv xd, .second] [(.long xd)])) (fun t k => ?_) ?_
 · refine XS.lload X18.here hx rfl (hb hby d2_71) rfl ?_
   exact k
 refine Go.cS X18 hx hml hown hZ (own_w hw 21 rfl) (own_w hw 22 rfl) (own_w hw 9 rfl) (own_w hw 23 rfl) (rmIn l Z a0 hw [] xd T17.heap n0 O uxd0 uxd1) 0 [] pd__28J_29Z (hb hby d2_73) e18 (fun _ T19 L19 X19 hQ19 => ?_)
 obtain ⟨rfl, Nq19, e19⟩ := hQ19
 have N19 := Fr.app N18 Nq19
 obtain ⟨a20, T20, h20, k20, X20, e20, E20, hS, hk, hZ, hown, AH20, -, st20⟩ := ldcOH X19 hx hZ hown (own_w hw 204 rfl) wS e19 hS hk (own_EW hw) CH.1 (g := (mkF m 76 #[rv oa, lv xa, .second, lv xb, .second, lv xc, .second, lv xd, .second] [(.int 1)])) rfl (hb hby d2_76) (n := 48) (by decide) (by decide) (by decide) (by decide)
 have Sf_de_12 := AH20.safe V_12.lt Sf_de_12
 have CH := CH.trans AH20
 have O := O.ext E20
 have E_oa := E_oa.ext E20
 have F_a := F_a.ext E20
 have F_t := F_t.ext E20
 have F_m := F_m.ext E20
 have F_b := F_b.ext E20
 have K := K.ext E20
 have E_b5 := E_b5.ext E20
 have E_sb_6 := E_sb_6.ext E20
 have E_da_6 := E_da_6.ext E20
 have E_sb_7 := E_sb_7.ext E20
 have E_7 := E_7.ext E20
 have E_sb_9 := E_sb_9.ext E20
 have E_9 := E_9.ext E20
 have E_sb_10 := E_sb_10.ext E20
 have E_10 := E_10.ext E20
 have Ea11 := Ea11.ext E20
 have Fc11 := Fc11.ext E20
 have Fv11 := Fv11.ext E20
 have Va11 := Va11.ext E20
 have E_sb_12 := E_sb_12.ext E20
 have F_v_12 := F_v_12.ext E20
 have F_c_12 := F_c_12.ext E20
 have F_n_12 := F_n_12.ext E20
 have V_12 := V_12.ext E20
 have E_12 := E_12.ext E20
 refine Go.step st20 ?_
 refine Go.step (S' := T20.setTop (mkF m 80 #[rv oa, lv xa, .second, lv xb, .second, lv xc, .second, lv xd, .second] [(.long xd), (.ref a20), (.int 1)])) (fun t k => ?_) ?_
 · refine XS.lload X20.here hx rfl (hb hby d2_78) rfl ?_
   exact k
 refine Go.cS X20 hx hml hown hZ (own_w hw 192 rfl) (own_w hw 193 rfl) (own_w hw 65 rfl) (own_w hw 194 rfl) (rmLs l Z a0 hw [] xd cs dO kO vO fO dT kT vT fT h20 n0 O S_CS S_DO V_dO S_DT V_dT hcs hvO hvT uxd0 uxd1) 2 [(.ref a20), (.int 1)] pd__28J_29Ljava_2flang_2fString_3b (hb hby d2_80) e20 (fun _ T21 L21 X21 hQ21 => ?_)
 obtain ⟨ts_21, rfl, Nq21, K21⟩ := hQ21
 have N21 := Fr.app N19 Nq21
 have AH21 := CHr.keep K21 all0 CH.1
 have Sf_de_12 := AH21.safe V_12.lt Sf_de_12
 have CH := CH.trans AH21
 have O := O.keep K21 all0
 have E_oa := E_oa.keep K21
 have F_a := F_a.keep K21 nin0
 have F_t := F_t.keep K21 nin0
 have F_m := F_m.keep K21 nin0
 have F_b := F_b.keep K21 nin0
 have K := K.trans K21 all0
 have E_b5 := E_b5.keep K21
 have E_sb_6 := E_sb_6.keep K21
 have E_da_6 := E_da_6.keep K21
 have E_sb_7 := E_sb_7.keep K21
 have E_7 := E_7.keep K21
 have E_sb_9 := E_sb_9.keep K21
 have E_9 := E_9.keep K21
 have E_sb_10 := E_sb_10.keep K21
 have E_10 := E_10.keep K21
 have Ea11 := Ea11.keep K21
 have Fc11 := Fc11.keep K21 nin0
 have Fv11 := Fv11.keep K21 nin0
 have Va11 := Va11.keep K21 nin0
 have E_sb_12 := E_sb_12.keep K21
 have F_v_12 := F_v_12.keep K21 nin0
 have F_c_12 := F_c_12.keep K21 nin0
 have F_n_12 := F_n_12.keep K21 nin0
 have V_12 := V_12.keep K21 nin0
 have E_12 := E_12.keep K21
 have hk := Nat.le_trans hk K21.1
 refine Go.cS X21 hx hml hown hZ (own_w hw 188 rfl) (own_w hw 189 rfl) (own_w hw 9 rfl) (own_w hw 190 rfl) (rmRq l Z a0 hw [] a20 ts_21 T21.heap n0 O ) 0 [] pd__28ZLjava_2flang_2fString_3bLjava_2flang_2fString_3b_29V (hb hby d2_83) (Eq.refl T21.heap) (fun _ T22 L22 X22 hQ22 => ?_)
 obtain ⟨rfl, Nq22, e22⟩ := hQ22
 have N22 := Fr.app N21 Nq22
 refine Go.step (S' := T22.setTop (mkF m 88 #[rv oa, lv xa, .second, lv xb, .second, lv xc, .second, lv xd, .second] [(.long xa), (.ref oa)])) (fun t k => ?_) ?_
 · refine XS.aloadN X22.here hx rfl (hb hby d2_86) rfl rfl ?_
   refine XS.lloadN X22.here hx rfl (hb hby d2_87) rfl ?_
   exact k
 obtain ⟨T23, h23, X23, e23, W23, st23⟩ := putF X22 hx hZ hown (host := "") (Or.inl (own_w hw 205 rfl)) Via.refl e22 F_a E_oa (Or.inr ⟨(own_w hw 206 rfl), rfl, hnm⟩) (own_w hw 8 rfl) (ty := .long) (by decide) rfl rfl (g := (mkF m 88 #[rv oa, lv xa, .second, lv xb, .second, lv xc, .second, lv xd, .second] [(.long xa), (.ref oa)])) rfl rfl (hb hby d2_88)
 have AH23 := CHr.wr W23 (Safe.exa hZ.alike E_oa (by decide) (by decide)) CH.1
 have CH := CH.trans AH23
 have O := O.wr W23 g_oa
 have E_oa := E_oa.wr W23
 have F_a := F_a.same W23
 have F_t := F_t.other W23 (Or.inr (slot_ne (Or.inr (own_w hw 208 rfl)) (Or.inr (own_w hw 206 rfl)) (by decide) (t := .long) (t' := .long) (by decide) (by decide)))
 have F_m := F_m.other W23 (Or.inr (slot_ne (Or.inr (own_w hw 210 rfl)) (Or.inr (own_w hw 206 rfl)) (by decide) (t := .long) (t' := .long) (by decide) (by decide)))
 have F_b := F_b.other W23 (Or.inr (slot_ne (Or.inr (own_w hw 212 rfl)) (Or.inr (own_w hw 206 rfl)) (by decide) (t := .long) (t' := .long) (by decide) (by decide)))
 have K := K.wr W23 (Or.inl (List.mem_of_getElem? (i := 0) rfl))
 have hk := Nat.le_trans hk (Keep.of_wr W23).1
 have N23 := Fr.snoc X23 N22 g_oa
 refine Go.step st23 ?_
 refine Go.step (S' := T23.setTop (mkF m 93 #[rv oa, lv xa, .second, lv xb, .second, lv xc, .second, lv xd, .second] [(.long xb), (.ref oa)])) (fun t k => ?_) ?_
 · refine XS.aloadN X23.here hx rfl (hb hby d2_91) rfl rfl ?_
   refine XS.lloadN X23.here hx rfl (hb hby d2_92) rfl ?_
   exact k
 obtain ⟨T24, h24, X24, e24, W24, st24⟩ := putF X23 hx hZ hown (host := "") (Or.inl (own_w hw 207 rfl)) Via.refl e23 F_t E_oa (Or.inr ⟨(own_w hw 208 rfl), rfl, hnm⟩) (own_w hw 8 rfl) (ty := .long) (by decide) rfl rfl (g := (mkF m 93 #[rv oa, lv xa, .second, lv xb, .second, lv xc, .second, lv xd, .second] [(.long xb), (.ref oa)])) rfl rfl (hb hby d2_93)
 have AH24 := CHr.wr W24 (Safe.exa hZ.alike E_oa (by decide) (by decide)) CH.1
 have CH := CH.trans AH24
 have O := O.wr W24 g_oa
 have E_oa := E_oa.wr W24
 have F_a := F_a.other W24 (Or.inr (slot_ne (Or.inr (own_w hw 206 rfl)) (Or.inr (own_w hw 208 rfl)) (by decide) (t := .long) (t' := .long) (by decide) (by decide)))
 have F_t := F_t.same W24
 have F_m := F_m.other W24 (Or.inr (slot_ne (Or.inr (own_w hw 210 rfl)) (Or.inr (own_w hw 208 rfl)) (by decide) (t := .long) (t' := .long) (by decide) (by decide)))
 have F_b := F_b.other W24 (Or.inr (slot_ne (Or.inr (own_w hw 212 rfl)) (Or.inr (own_w hw 208 rfl)) (by decide) (t := .long) (t' := .long) (by decide) (by decide)))
 have K := K.wr W24 (Or.inl (List.mem_of_getElem? (i := 0) rfl))
 have hk := Nat.le_trans hk (Keep.of_wr W24).1
 have N24 := Fr.snoc X24 N23 g_oa
 refine Go.step st24 ?_
 refine Go.step (S' := T24.setTop (mkF m 99 #[rv oa, lv xa, .second, lv xb, .second, lv xc, .second, lv xd, .second] [(.long xc), (.ref oa)])) (fun t k => ?_) ?_
 · refine XS.aloadN X24.here hx rfl (hb hby d2_96) rfl rfl ?_
   refine XS.lload X24.here hx rfl (hb hby d2_97) rfl ?_
   exact k
 obtain ⟨T25, h25, X25, e25, W25, st25⟩ := putF X24 hx hZ hown (host := "") (Or.inl (own_w hw 209 rfl)) Via.refl e24 F_m E_oa (Or.inr ⟨(own_w hw 210 rfl), rfl, hnm⟩) (own_w hw 8 rfl) (ty := .long) (by decide) rfl rfl (g := (mkF m 99 #[rv oa, lv xa, .second, lv xb, .second, lv xc, .second, lv xd, .second] [(.long xc), (.ref oa)])) rfl rfl (hb hby d2_99)
 have AH25 := CHr.wr W25 (Safe.exa hZ.alike E_oa (by decide) (by decide)) CH.1
 have CH := CH.trans AH25
 have O := O.wr W25 g_oa
 have E_oa := E_oa.wr W25
 have F_a := F_a.other W25 (Or.inr (slot_ne (Or.inr (own_w hw 206 rfl)) (Or.inr (own_w hw 210 rfl)) (by decide) (t := .long) (t' := .long) (by decide) (by decide)))
 have F_t := F_t.other W25 (Or.inr (slot_ne (Or.inr (own_w hw 208 rfl)) (Or.inr (own_w hw 210 rfl)) (by decide) (t := .long) (t' := .long) (by decide) (by decide)))
 have F_m := F_m.same W25
 have F_b := F_b.other W25 (Or.inr (slot_ne (Or.inr (own_w hw 212 rfl)) (Or.inr (own_w hw 210 rfl)) (by decide) (t := .long) (t' := .long) (by decide) (by decide)))
 have K := K.wr W25 (Or.inl (List.mem_of_getElem? (i := 0) rfl))
 have hk := Nat.le_trans hk (Keep.of_wr W25).1
 have N25 := Fr.snoc X25 N24 g_oa
 refine Go.step st25 ?_
 refine Go.step (S' := T25.setTop (mkF m 105 #[rv oa, lv xa, .second, lv xb, .second, lv xc, .second, lv xd, .second] [(.long xd), (.ref oa)])) (fun t k => ?_) ?_
 · refine XS.aloadN X25.here hx rfl (hb hby d2_102) rfl rfl ?_
   refine XS.lload X25.here hx rfl (hb hby d2_103) rfl ?_
   exact k
 obtain ⟨T26, h26, X26, e26, W26, st26⟩ := putF X25 hx hZ hown (host := "") (Or.inl (own_w hw 211 rfl)) Via.refl e25 F_b E_oa (Or.inr ⟨(own_w hw 212 rfl), rfl, hnm⟩) (own_w hw 8 rfl) (ty := .long) (by decide) rfl rfl (g := (mkF m 105 #[rv oa, lv xa, .second, lv xb, .second, lv xc, .second, lv xd, .second] [(.long xd), (.ref oa)])) rfl rfl (hb hby d2_105)
 have AH26 := CHr.wr W26 (Safe.exa hZ.alike E_oa (by decide) (by decide)) CH.1
 have CH := CH.trans AH26
 have O := O.wr W26 g_oa
 have E_oa := E_oa.wr W26
 have F_a := F_a.other W26 (Or.inr (slot_ne (Or.inr (own_w hw 206 rfl)) (Or.inr (own_w hw 212 rfl)) (by decide) (t := .long) (t' := .long) (by decide) (by decide)))
 have F_t := F_t.other W26 (Or.inr (slot_ne (Or.inr (own_w hw 208 rfl)) (Or.inr (own_w hw 212 rfl)) (by decide) (t := .long) (t' := .long) (by decide) (by decide)))
 have F_m := F_m.other W26 (Or.inr (slot_ne (Or.inr (own_w hw 210 rfl)) (Or.inr (own_w hw 212 rfl)) (by decide) (t := .long) (t' := .long) (by decide) (by decide)))
 have F_b := F_b.same W26
 have K := K.wr W26 (Or.inl (List.mem_of_getElem? (i := 0) rfl))
 have hk := Nat.le_trans hk (Keep.of_wr W26).1
 have N26 := Fr.snoc X26 N25 g_oa
 refine Go.step st26 ?_
 obtain ⟨fs, hr, hrun, hended, hR⟩ := X26.leaveW hS (by rw [e26]; exact hk) (v := none) (fun _ => rfl)
 refine Go.fin (S' := T26.setFrames fs) ?_ hrun hended ⟨_, _, rfl, ?_, (by rw [hh]; show CHr Z EL_ s.vm h0 T26.vm T26.heap; rw [e26]; exact CH.trans (CHv.at X26 hZ (own_EW hw) CH.1)), hR.1, hR.2.1, hR.2.2.1, hR.2.2.2.mono (by decide) (by decide)⟩
 · exact X26.returnOut hx Bd.returns (hb hby d2_108) hr
 · show Q_rmC4 Z oa xa xb xc xd cs dO kO vO fO dT kT vT fT h0 n0 (none) T26.heap _
   rw [e26]
   exact ⟨rfl, N26, K, F_b⟩
abbrev y_37 : MethodName := ⟨"com/example/planstitch/planstitch/core/catalog/CostModel", "<init>", "(JJ)V"⟩
theorem d38_0 : decode prog_57_method_2_code 0 = .ok (.aload_n 0, 1) := by decide +kernel
theorem d38_1 : decode prog_57_method_2_code 1 = .ok (.lload_n 1, 1) := by decide +kernel
theorem d38_2 : decode prog_57_method_2_code 2 = .ok (.lload_n 3, 1) := by decide +kernel
theorem d38_3 : decode prog_57_method_2_code 3 = .ok (.lconst 0, 1) := by decide +kernel
theorem d38_4 : decode prog_57_method_2_code 4 = .ok (.lconst 0, 1) := by decide +kernel
theorem d38_5 : decode prog_57_method_2_code 5 = .ok (.invokespecial 59, 3) := by decide +kernel
theorem pd__28JJJJ_29V : parseMethodDescriptor "(JJJJ)V" = some ⟨[.long, .long, .long, .long], none⟩ := by decide +kernel
theorem d38_8 : decode prog_57_method_2_code 8 = .ok (.return_, 1) := by decide +kernel
theorem ef_rmC2 (m : MethodId) (oa : Addr) (xa : Int64) (xb : Int64) : entryFrame m #[(.ref oa), (.long xa), (.long xb)] 5 = mkF m 0 #[.val (.ref oa), .val (.long xa), .second, .val (.long xb), .second] [] := by first | (simp [entryFrame, mkF, argsToLocals, Value.category]; done) | rfl
abbrev rm_rmC2 : Room := ({ frames := 7, cells := 21, slots := 478, locals := 114 } : Room)
def Q_rmC2 (Z : State) (oa : Addr) (xa : Int64) (xb : Int64) (cs : Int32) (dO : Addr) (kO : ClassId) (vO : List Value) (fO : Nat → Int32) (dT : Addr) (kT : ClassId) (vT : List Value) (fT : Nat → Int32) (h0 : Heap) (n0 : Nat) (v : Option Value) (h : Heap) (L : List Loc) : Prop := (v = none) ∧ (Fr n0 L) ∧ (Keep h0 h [oa]) ∧ (Fd_3 Z h oa (.long (0 : Int64)))
theorem rmC2 (l : Launch) (Z : State) (a0 : Array Value) (hw : ∀ d ∈ tables_1, d.before a0 Z = true) (ws : List Jvm.Cond) (oa : Addr) (xa : Int64) (xb : Int64) (cs : Int32) (dO : Addr) (kO : ClassId) (vO : List Value) (fO : Nat → Int32) (dT : Addr) (kT : ClassId) (vT : List Value) (fT : Nat → Int32) (h0 : Heap) (n0 : Nat) (O : Old Z n0 h0) (S_CS : Sa_0 Z (.int cs)) (S_DO : Sa_1 Z (.ref dO)) (V_dO : Arv Z Z.heap dO kO .byte (100 : Int32) vO (.int 0)) (S_DT : Sa_2 Z (.ref dT)) (V_dT : Arv Z Z.heap dT kT .byte (100 : Int32) vT (.int 0)) (E_oa : Exa Z h0 oa "com/example/planstitch/planstitch/core/catalog/CostModel") (F_a : Fd_9 Z h0 oa (.long (0 : Int64))) (F_t : Fd_10 Z h0 oa (.long (0 : Int64))) (F_m : Fd_11 Z h0 oa (.long (0 : Int64))) (F_b : Fd_3 Z h0 oa (.long (0 : Int64))) (hcs : ¬ (cs = (0 : Int32))) (g_oa : n0 ≤ oa) (hvO : ∀ zj : Nat, zj < 100 → vO.getD zj (.int 0) = .int (fO zj)) (hvT : ∀ zj : Nat, zj < 100 → vT.getD zj (.int 0) = .int (fT zj)) (uxa0 : ¬ (xa < (0 : Int64))) (uxa1 : ¬ ((1000000 : Int64) < xa)) (uxb0 : ¬ (xb < (0 : Int64))) (uxb1 : ¬ ((1000000 : Int64) < xb)) :
    MetFree l y_37 (head1 (Jvm.Cond.code y_37 prog_57_method_2_code 5 none :: ws) rm_rmC2) (fun A_ U => A_ = #[(.ref oa), (.long xa), (.long xb)] ∧ Z.Warmed39 U.vm ∧ U.heap = h0 ∧ CHv Z EL_ U.vm h0) (fun _ _ _ _ _ => True) (fun _ U o U' => ∃ v L, o = .returned v ∧ Q_rmC2 Z oa xa xb cs dO kO vO fO dT kT vT fT h0 n0 v U'.heap L ∧ CHr Z EL_ U.vm U.heap U'.vm U'.heap ∧ ReturnedEndW U o U' L rm_rmC2.cells rm_rmC2.slots) := by
 refine MetFree.of_bodySF (plainFor_of_name pn_com_example_planstitch_planstitch_core_catalog_CostModel) hisR ?_
 intro p e s m args below meth c s₁ Bd hml0 hP hK
 obtain ⟨rfl, hZ, hh, CH⟩ := hP
 have hx := Bd.exec
 have hby := Bd.bytes
 have hml : c.maxLocals = 5 := hml0
 have hown : s.vm.findClass "com/example/planstitch/planstitch/core/catalog/CostModel" = some m.cls := findClass_of_methodNamed Bd.named
 have hnm := (name_of_methodNamed Bd.named Bd.method).1
 have X0 : Stand p l e rm_rmC2 (s.setVm s.vm) m #[(.ref oa), (.long xa), (.long xb)] below meth c s₁ [] 0 0 := Stand.of_body Bd
 have e0 : s₁.heap = h0 := by rw [← hh, Bd.state]; rfl
 have N0 := Fr.nil n0
 have K := Keep.refl h0 [oa]
 have hS : s.Since s.vm 0 := (State.WarmedH.refl s).since 0
 have hk : 0 ≤ h0.size := Nat.zero_le _
 have wS := own_wS hw
 have CH := CHr.refl CH
 refine Go.step (p := p) (e := e) (below := below) (G := fun o U' => ∃ v L, o = .returned v ∧ Q_rmC2 Z oa xa xb cs dO kO vO fO dT kT vT fT h0 n0 v U'.heap L ∧ CHr Z EL_ s.vm s.heap U'.vm U'.heap ∧ ReturnedEndW s o U' L rm_rmC2.cells rm_rmC2.slots) (S' := s₁.setTop (mkF m 0 #[rv oa, lv xa, .second, lv xb, .second] [])) (fun t k => castTop (ef_rmC2 m oa xa xb) k) ?_
 refine Go.step (S' := s₁.setTop (mkF m 5 #[rv oa, lv xa, .second, lv xb, .second] [(.long (0 : Int64)), (.long (0 : Int64)), (.long xb), (.long xa), (.ref oa)])) (fun t k => ?_) ?_
 · refine XS.aloadN X0.here hx rfl (hb hby d38_0) rfl rfl ?_
   refine XS.lloadN X0.here hx rfl (hb hby d38_1) rfl ?_
   refine XS.lloadN X0.here hx rfl (hb hby d38_2) rfl ?_
   refine XS.lconst X0.here hx rfl (hb hby d38_3) ?_
   refine XS.lconst X0.here hx rfl (hb hby d38_4) ?_
   exact k
 obtain ⟨_, _, ⟨T1, L1, k1, n1⟩, -, X1, hS1, hgr1, ⟨Lc1, hQ1, l1, y1, z1, AH1⟩, st1⟩ := X0.specialBackS hx (y := y_36) rfl hown (mvT hZ (own_w hw 216 rfl)) (mvT hZ (own_w hw 11 rfl)) (mvT hZ (own_w hw 12 rfl)) (by decide) (backOfSH (W := 0) (rmC4 l Z a0 hw [] oa xa xb (0 : Int64) (0 : Int64) cs dO kO vO fO dT kT vT fT h0 n0 O S_CS S_DO V_dO S_DT V_dT E_oa F_a F_t F_m F_b hcs (by assumption) hvO hvT uxa0 uxa1 uxb0 uxb1 (by decide) (by decide) (by decide) (by decide)) hZ (own_w hw 12 rfl) (own_w hw 9 rfl) (by decide) (by decide) (own_EW hw) CH.1) (g := (mkF m 5 #[rv oa, lv xa, .second, lv xb, .second] [(.long (0 : Int64)), (.long (0 : Int64)), (.long xb), (.long xa), (.ref oa)])) rfl (by rw [hml]; rfl) (Steps.refl _) (a := oa) (argsL := [(.long xa), (.long xb), (.long (0 : Int64)), (.long (0 : Int64))]) (rest := []) (lenOf pd__28JJJJ_29V rfl) rfl (Nat.le_of_eq rfl) (hb hby d38_5) (fun _ _ => ⟨rfl, e0, (by decide : 0 + 21 ≤ _), (by decide : 0 + 478 ≤ _)⟩)
 dsimp only [Pt.U, Pt.locs, Pt.cells, Pt.slots] at X1 l1 y1 z1 st1 hQ1 hS1 hgr1 AH1
 subst l1 y1 z1
 have hS := foldS hS (by rw [e0]; exact hk) hS1 hgr1
 have hown : (s.setVm T1.vm).vm.findClass "com/example/planstitch/planstitch/core/catalog/CostModel" = some m.cls := by show T1.vm.findClass _ = _; rw [hS1.1.alike.findClass]; exact hown
 have hZ : Z.Warmed39 (s.setVm T1.vm).vm := State.Warmed39.trans hZ hS1.1
 have X1 : Stand p l e rm_rmC2 (s.setVm T1.vm) m #[(.ref oa), (.long xa), (.long xb)] below meth c T1 _ _ _ := X1
 obtain ⟨rfl, Nq1, K1, P1_F_b⟩ := hQ1
 have N1 := Fr.app N0 Nq1
 have CH := CH.trans AH1
 have O := O.keep K1 (allS g_oa all0)
 have E_oa := E_oa.keep K1
 have K := K.trans K1 (allS (Or.inl (List.mem_of_getElem? (i := 0) rfl)) all0)
 have F_b_1 := P1_F_b
 have hk : T1.heap.size ≤ (T1.heap).size := Nat.le_refl _
 refine Go.step (fun t k => st1.trans k) ?_
 obtain ⟨fs, hr, hrun, hended, hR⟩ := X1.leaveW hS (by exact hk) (v := none) (fun _ => rfl)
 refine Go.fin (S' := T1.setFrames fs) ?_ hrun hended ⟨_, _, rfl, ?_, (by rw [hh]; show CHr Z EL_ s.vm h0 T1.vm T1.heap; exact CH.trans (CHv.at X1 hZ (own_EW hw) CH.1)), hR.1, hR.2.1, hR.2.2.1, hR.2.2.2.mono (by decide) (by decide)⟩
 · exact X1.returnOut hx Bd.returns (hb hby d38_8) hr
 · show Q_rmC2 Z oa xa xb cs dO kO vO fO dT kT vT fT h0 n0 (none) T1.heap _
   exact ⟨rfl, N1, K, F_b_1⟩
theorem own_un {x y : Int64} (h : ((x &&& (9223372036854775807 : Int64)) - ((x &&& (9223372036854775807 : Int64)) / (1000001 : Int64)) * (1000001 : Int64)) = y) : ¬ y < (0 : Int64) ∧ ¬ (1000000 : Int64) < y := by
  have a := c_maskL x 9223372036854775807 63 (by decide) (by decide)
  have b := (c_lrem (x &&& (9223372036854775807 : Int64)) (1000001 : Int64) 1000001 (by decide)).1 (by omega)
  rw [h] at b
  simp only [Int64.lt_iff_toInt_lt, show (0 : Int64).toInt = 0 from rfl, show (1000000 : Int64).toInt = 1000000 from rfl]
  omega
theorem own_ud {x y : Int64} (h : ((1 : Int64) + ((x &&& (9223372036854775807 : Int64)) - ((x &&& (9223372036854775807 : Int64)) / (1000000 : Int64)) * (1000000 : Int64))) = y) : ¬ y < (0 : Int64) ∧ ¬ (1000000 : Int64) < y ∧ (0 : Int64) < y ∧ ¬ y = (0 : Int64) := by
  have a := c_maskL x 9223372036854775807 63 (by decide) (by decide)
  have b := (c_lrem (x &&& (9223372036854775807 : Int64)) (1000000 : Int64) 1000000 (by decide)).1 (by omega)
  have d := c_ladd (1 : Int64) ((x &&& (9223372036854775807 : Int64)) - ((x &&& (9223372036854775807 : Int64)) / (1000000 : Int64)) * (1000000 : Int64))
  rw [h] at d
  have r := rng64 y
  simp only [show (1 : Int64).toInt = 1 from rfl] at d
  have e : 1 ≤ y.toInt ∧ y.toInt ≤ 1000000 := by omega
  refine ⟨?_, ?_, ?_, fun q => ?_⟩
  · rw [Int64.lt_iff_toInt_lt, show (0 : Int64).toInt = 0 from rfl]; omega
  · rw [Int64.lt_iff_toInt_lt, show (1000000 : Int64).toInt = 1000000 from rfl]; omega
  · rw [Int64.lt_iff_toInt_lt, show (0 : Int64).toInt = 0 from rfl]; omega
  · rw [q, show (0 : Int64).toInt = 0 from rfl] at e; omega
theorem own_tbl {Z : State} {a0 : Array Value} {f : String} (hF : Fit Z) (w1 : (Jvm.Cond.exactly (.static "java/lang/Integer" f "[B") "[B").before a0 Z = true) (w2 : (Jvm.Cond.eq (.length (.static "java/lang/Integer" f "[B")) (.int 100)).before a0 Z = true) (w3 : (Jvm.Cond.initializedFor "java/lang/Integer" f "[B").before a0 Z = true) (wa : (Jvm.Cond.arrayClass .byte).before a0 Z = true) :
    ∃ (d : Addr) (k : ClassId) (vs : List Value) (g : Nat → Int32), Sta Z Z.heap "java/lang/Integer" f "[B" (.ref d) ∧ Arv Z Z.heap d k .byte 100 vs (.int 0) ∧ ∀ j, j < 100 → vs.getD j (.int 0) = .int (g j) := by
  obtain ⟨d, cB, D, kB, hev, hfcB, hcellD, hkB, hstatD, hclsD, -⟩ := Cond.exactly_spec w1
  have hl := Cond.eq_int w2 rfl
  obtain ⟨d', D', hev', harrAt, hlen⟩ := Term.length_spec hl
  cases hev.symm.trans hev'
  obtain ⟨hcellD', hknD, -, -⟩ := State.arrayAt?_spec harrAt
  cases hcellD.symm.trans hcellD'
  have h31 := Jvm.Free.SBG.length_lt hev harrAt hl
  have e100 : D.slots.size.toInt32 = 100 := (Value.int.inj hlen).symm
  obtain ⟨cB', kB', comp, hnameB, hkB', hkindB⟩ := Cond.arrayClass_spec wa
  have eBA : ("[" ++ FieldType.toString .byte) = "[B" := by decide
  rw [eBA] at hnameB
  cases hfcB.symm.trans hnameB
  cases hkB.symm.trans hkB'
  have A : Arr Z Z.heap d D .byte := ⟨hcellD, ⟨(fun q h => by rw [h] at hstatD; cases hstatD), kB, (by rw [hclsD]; exact hkB), comp, hkindB⟩, hknD⟩
  have hl2 : (100 : Int32).toNatClampNeg = D.slots.toList.length := by rw [← e100]; simp only [Int32.toNatClampNeg, len_toInt h31]; simp
  have HL : ∀ (L : List Value) (i : Nat), (∀ j, j < L.length → D.slots[i + j]? = some (L.getD j (.int 0))) → HasL D i L := by
    intro L
    induction L with
    | nil => intro i _; trivial
    | cons v r ih =>
      intro i hh
      refine ⟨by have := hh 0 (by simp); simpa using this, ih (i + 1) fun j hj => ?_⟩
      have := hh (j + 1) (by simp; omega)
      rw [show i + 1 + j = i + (j + 1) by omega]
      simpa using this
  have V := Arv.start (z := 100) (dv := .int 0) (vs := D.slots.toList) hF A h31 e100 (by decide) hl2 (HL _ 0 fun j hj => by
    simp only [Nat.zero_add, List.getD_eq_getElem?_getD, Array.getElem?_toList]
    have hj' : j < D.slots.size := by simpa using hj
    simp [hj'])
  obtain ⟨c, -, -, S, -, -, G⟩ := id V
  refine ⟨d, D.cls, _, fun j => match D.slots.toList.getD j (.int 0) with | .int x => x | _ => 0, Sta.start hev (Or.inl w3), V, fun j hj => ?_⟩
  obtain ⟨x, hx⟩ := fit_I (G j (by rw [S]; exact hj)) (by simp)
  simp only [hx]
theorem pd__28J_29J : parseMethodDescriptor "(J)J" = some ⟨[.long], some .long⟩ := by decide +kernel
theorem pd__28JJ_29V : parseMethodDescriptor "(JJ)V" = some ⟨[.long, .long], none⟩ := by decide +kernel
theorem ef_rm0 (m : MethodId) (p0 : Int64) (p1 : Int64) (p2 : Int64) (p3 : Int64) (p4 : Int32) : entryFrame m #[(.long p0), (.long p1), (.long p2), (.long p3), (.int p4)] maxLocals = mkF m 0 #[.val (.long p0), .second, .val (.long p1), .second, .val (.long p2), .second, .val (.long p3), .second, .val (.int p4), .unset, .unset, .unset, .unset, .unset, .unset, .unset, .unset, .unset, .unset, .unset] [] := by first | (simp [entryFrame, mkF, argsToLocals, Value.category, maxLocals]; done) | rfl
def Q_rm0 (Z : State) (p0 : Int64) (p1 : Int64) (p2 : Int64) (p3 : Int64) (p4 : Int32) (cs : Int32) (dO : Addr) (kO : ClassId) (vO : List Value) (fO : Nat → Int32) (dT : Addr) (kT : ClassId) (vT : List Value) (fT : Nat → Int32) (h0 : Heap) (n0 : Nat) (v : Option Value) (h : Heap) (L : List Loc) : Prop := (v = some (.int 1)) ∧ (Fr n0 L) ∧ (Keep h0 h [])
theorem rm0 (l : Launch) (Z : State) (a0 : Array Value) (hw : ∀ d ∈ tables_1, d.before a0 Z = true) (ws : List Jvm.Cond) (p0 : Int64) (p1 : Int64) (p2 : Int64) (p3 : Int64) (p4 : Int32) (cs : Int32) (dO : Addr) (kO : ClassId) (vO : List Value) (fO : Nat → Int32) (dT : Addr) (kT : ClassId) (vT : List Value) (fT : Nat → Int32) (h0 : Heap) (n0 : Nat) (O : Old Z n0 h0) (S_CS : Sa_0 Z (.int cs)) (S_DO : Sa_1 Z (.ref dO)) (V_dO : Arv Z Z.heap dO kO .byte (100 : Int32) vO (.int 0)) (S_DT : Sa_2 Z (.ref dT)) (V_dT : Arv Z Z.heap dT kT .byte (100 : Int32) vT (.int 0)) (hcs : ¬ (cs = (0 : Int32))) (hvO : ∀ zj : Nat, zj < 100 → vO.getD zj (.int 0) = .int (fO zj)) (hvT : ∀ zj : Nat, zj < 100 → vT.getD zj (.int 0) = .int (fT zj)) :
    MetFree l x (head1 (Jvm.Cond.code x code maxLocals ret :: ws) room_1) (fun A_ U => A_ = #[(.long p0), (.long p1), (.long p2), (.long p3), (.int p4)] ∧ Z.Warmed39 U.vm ∧ U.heap = h0 ∧ CHv Z EL_ U.vm h0) (fun _ _ _ _ _ => True) (fun _ U o U' => ∃ v L, o = .returned v ∧ Q_rm0 Z p0 p1 p2 p3 p4 cs dO kO vO fO dT kT vT fT h0 n0 v U'.heap L ∧ ReturnedEndW U o U' L room_1.cells room_1.slots) := by
 refine MetFree.of_bodySF (plainFor_of_name pn_com_example_planstitch_planstitch_core_catalog_CostModelPricesBytesPinLaw) hisR ?_
 intro p e s m args below meth c s₁ Bd hml0 hP hK
 obtain ⟨rfl, hZ, hh, CH⟩ := hP
 have hx := Bd.exec
 have hby := Bd.bytes
 have hml : c.maxLocals = 20 := hml0
 have hown : s.vm.findClass "com/example/planstitch/planstitch/core/catalog/CostModelPricesBytesPinLaw" = some m.cls := findClass_of_methodNamed Bd.named
 have hnm := (name_of_methodNamed Bd.named Bd.method).1
 have X0 : Stand p l e room_1 (s.setVm s.vm) m #[(.long p0), (.long p1), (.long p2), (.long p3), (.int p4)] below meth c s₁ [] 0 0 := Stand.of_body Bd
 have e0 : s₁.heap = h0 := by rw [← hh, Bd.state]; rfl
 have N0 := Fr.nil n0
 have K := Keep.refl h0 []
 have hS : s.Since s.vm 0 := (State.WarmedH.refl s).since 0
 have hk : 0 ≤ h0.size := Nat.zero_le _
 have wS := own_wS hw
 have CH := CHr.refl CH
 refine Go.step (p := p) (e := e) (below := below) (G := fun o U' => ∃ v L, o = .returned v ∧ Q_rm0 Z p0 p1 p2 p3 p4 cs dO kO vO fO dT kT vT fT h0 n0 v U'.heap L ∧ ReturnedEndW s o U' L room_1.cells room_1.slots) (S' := s₁.setTop (mkF m 0 #[lv p0, .second, lv p1, .second, lv p2, .second, lv p3, .second, iv p4, u_, u_, u_, u_, u_, u_, u_, u_, u_, u_, u_] [])) (fun t k => castTop (ef_rm0 m p0 p1 p2 p3 p4) k) ?_
 refine Go.step (S' := s₁.setTop (mkF m 1 #[lv p0, .second, lv p1, .second, lv p2, .second, lv p3, .second, iv p4, u_, u_, u_, u_, u_, u_, u_, u_, u_, u_, u_] [(.long p0)])) (fun t k => ?_) ?_
 · refine XS.lloadN X0.here hx rfl (hb hby at_0) rfl ?_
   exact k
 refine Go.cS X0 hx hml hown hZ (own_w hw 0 rfl) (own_w hw 1 rfl) (own_w hw 2 rfl) (own_w hw 3 rfl) (rmUn l Z a0 hw [] p0 h0 n0 O ) 0 [] pd__28J_29J (hb hby at_1) e0 (fun _ T1 L1 X1 hQ1 => ?_)
 obtain ⟨rfl, Nq1, e1⟩ := hQ1
 have N1 := Fr.app N0 Nq1
 refine Go.step (S' := T1.setTop (mkF m 6 #[lv p0, .second, lv p1, .second, lv p2, .second, lv p3, .second, iv p4, lv ((p0 &&& (9223372036854775807 : Int64)) - ((p0 &&& (9223372036854775807 : Int64)) / (1000001 : Int64)) * (1000001 : Int64)), .second, u_, u_, u_, u_, u_, u_, u_, u_, u_] [])) (fun t k => ?_) ?_
 · refine XS.lstore X1.here hx rfl (hb hby at_4) rfl (l' := #[lv p0, .second, lv p1, .second, lv p2, .second, lv p3, .second, iv p4, lv ((p0 &&& (9223372036854775807 : Int64)) - ((p0 &&& (9223372036854775807 : Int64)) / (1000001 : Int64)) * (1000001 : Int64)), .second, u_, u_, u_, u_, u_, u_, u_, u_, u_]) rfl ?_
   exact k
 obtain ⟨va, hd_va⟩ : ∃ z : Int64, ((p0 &&& (9223372036854775807 : Int64)) - ((p0 &&& (9223372036854775807 : Int64)) / (1000001 : Int64)) * (1000001 : Int64)) = z := ⟨_, rfl⟩
 rw [hd_va]
 show Go p e below _ (T1.setTop (mkF m 6 #[lv p0, .second, lv p1, .second, lv p2, .second, lv p3, .second, iv p4, lv va, .second, u_, u_, u_, u_, u_, u_, u_, u_, u_] []))
 have hr_va := own_un hd_va
 refine Go.step (S' := T1.setTop (mkF m 7 #[lv p0, .second, lv p1, .second, lv p2, .second, lv p3, .second, iv p4, lv va, .second, u_, u_, u_, u_, u_, u_, u_, u_, u_] [(.long p1)])) (fun t k => ?_) ?_
 · refine XS.lloadN X1.here hx rfl (hb hby at_6) rfl ?_
   exact k
 refine Go.cS X1 hx hml hown hZ (own_w hw 0 rfl) (own_w hw 1 rfl) (own_w hw 2 rfl) (own_w hw 3 rfl) (rmUn l Z a0 hw [] p1 h0 n0 O ) 0 [] pd__28J_29J (hb hby at_7) e1 (fun _ T2 L2 X2 hQ2 => ?_)
 obtain ⟨rfl, Nq2, e2⟩ := hQ2
 have N2 := Fr.app N1 Nq2
 refine Go.step (S' := T2.setTop (mkF m 12 #[lv p0, .second, lv p1, .second, lv p2, .second, lv p3, .second, iv p4, lv va, .second, lv ((p1 &&& (9223372036854775807 : Int64)) - ((p1 &&& (9223372036854775807 : Int64)) / (1000001 : Int64)) * (1000001 : Int64)), .second, u_, u_, u_, u_, u_, u_, u_] [])) (fun t k => ?_) ?_
 · refine XS.lstore X2.here hx rfl (hb hby at_10) rfl (l' := #[lv p0, .second, lv p1, .second, lv p2, .second, lv p3, .second, iv p4, lv va, .second, lv ((p1 &&& (9223372036854775807 : Int64)) - ((p1 &&& (9223372036854775807 : Int64)) / (1000001 : Int64)) * (1000001 : Int64)), .second, u_, u_, u_, u_, u_, u_, u_]) rfl ?_
   exact k
 obtain ⟨vb, hd_vb⟩ : ∃ z : Int64, ((p1 &&& (9223372036854775807 : Int64)) - ((p1 &&& (9223372036854775807 : Int64)) / (1000001 : Int64)) * (1000001 : Int64)) = z := ⟨_, rfl⟩
 rw [hd_vb]
 show Go p e below _ (T2.setTop (mkF m 12 #[lv p0, .second, lv p1, .second, lv p2, .second, lv p3, .second, iv p4, lv va, .second, lv vb, .second, u_, u_, u_, u_, u_, u_, u_] []))
 have hr_vb := own_un hd_vb
 refine Go.step (S' := T2.setTop (mkF m 14 #[lv p0, .second, lv p1, .second, lv p2, .second, lv p3, .second, iv p4, lv va, .second, lv vb, .second, u_, u_, u_, u_, u_, u_, u_] [(.long p2)])) (fun t k => ?_) ?_
 · refine XS.lload X2.here hx rfl (hb hby at_12) rfl ?_
   exact k
 refine Go.cS X2 hx hml hown hZ (own_w hw 0 rfl) (own_w hw 1 rfl) (own_w hw 2 rfl) (own_w hw 3 rfl) (rmUn l Z a0 hw [] p2 h0 n0 O ) 0 [] pd__28J_29J (hb hby at_14) e2 (fun _ T3 L3 X3 hQ3 => ?_)
 obtain ⟨rfl, Nq3, e3⟩ := hQ3
 have N3 := Fr.app N2 Nq3
 refine Go.step (S' := T3.setTop (mkF m 19 #[lv p0, .second, lv p1, .second, lv p2, .second, lv p3, .second, iv p4, lv va, .second, lv vb, .second, lv ((p2 &&& (9223372036854775807 : Int64)) - ((p2 &&& (9223372036854775807 : Int64)) / (1000001 : Int64)) * (1000001 : Int64)), .second, u_, u_, u_, u_, u_] [])) (fun t k => ?_) ?_
 · refine XS.lstore X3.here hx rfl (hb hby at_17) rfl (l' := #[lv p0, .second, lv p1, .second, lv p2, .second, lv p3, .second, iv p4, lv va, .second, lv vb, .second, lv ((p2 &&& (9223372036854775807 : Int64)) - ((p2 &&& (9223372036854775807 : Int64)) / (1000001 : Int64)) * (1000001 : Int64)), .second, u_, u_, u_, u_, u_]) rfl ?_
   exact k
 obtain ⟨vc, hd_vc⟩ : ∃ z : Int64, ((p2 &&& (9223372036854775807 : Int64)) - ((p2 &&& (9223372036854775807 : Int64)) / (1000001 : Int64)) * (1000001 : Int64)) = z := ⟨_, rfl⟩
 rw [hd_vc]
 show Go p e below _ (T3.setTop (mkF m 19 #[lv p0, .second, lv p1, .second, lv p2, .second, lv p3, .second, iv p4, lv va, .second, lv vb, .second, lv vc, .second, u_, u_, u_, u_, u_] []))
 have hr_vc := own_un hd_vc
 refine Go.step (S' := T3.setTop (mkF m 23 #[lv p0, .second, lv p1, .second, lv p2, .second, lv p3, .second, iv p4, lv va, .second, lv vb, .second, lv vc, .second, u_, u_, u_, u_, u_] [(.int (p4 &&& (1 : Int32)))])) (fun t k => ?_) ?_
 · refine XS.iload X3.here hx rfl (hb hby at_19) rfl ?_
   refine XS.iconst X3.here hx rfl (hb hby at_21) ?_
   refine XS.iand X3.here hx rfl (hb hby at_22) rfl ?_
   exact k
 by_cases hc23 : (p4 &&& (1 : Int32)) = (0 : Int32)
 ·skip
  refine Go.step (S' := T3.setTop (mkF m 46 #[lv p0, .second, lv p1, .second, lv p2, .second, lv p3, .second, iv p4, lv va, .second, lv vb, .second, lv vc, .second, lv (0 : Int64), .second, u_, u_, u_] [])) (fun t k => ?_) ?_
  · refine XS.ifNo X3.here hx rfl (hb hby at_23) rfl ((if0 _ _).trans (teq (hc23 : (p4 &&& (1 : Int32)) = (0 : Int32))).2) ?_
    refine XS.lconst X3.here hx rfl (hb hby at_26) ?_
    refine XS.lstore X3.here hx rfl (hb hby at_27) rfl (l' := #[lv p0, .second, lv p1, .second, lv p2, .second, lv p3, .second, iv p4, lv va, .second, lv vb, .second, lv vc, .second, lv (0 : Int64), .second, u_, u_, u_]) rfl ?_
    refine XS.goto X3.here hx rfl (pc0 := 29) (pc' := 46) rfl (hb hby at_29) (by decide) (by decide) ?_
    exact k
  obtain ⟨T4, h4, X4, e4, E4, A4, D4, -, st4⟩ := newO X3 hx hZ hown (own_w hw 7 rfl) (own_w hw 8 rfl) (own_w hw 9 rfl) e3 (g := (mkF m 46 #[lv p0, .second, lv p1, .second, lv p2, .second, lv p3, .second, iv p4, lv va, .second, lv vb, .second, lv vc, .second, lv (0 : Int64), .second, u_, u_, u_] [])) rfl (hb hby at_46) (by decide) (by decide)
  obtain ⟨b4, g4⟩ : ∃ z, z = Array.size h0 := ⟨_, rfl⟩
  have g_b4 : n0 ≤ b4 := Nat.le_trans (old_le O) (Nat.le_of_eq g4.symm)
  have sz_b4 : h0.size ≤ b4 := Nat.le_trans K.1 (Nat.le_of_eq g4.symm)
  rw [← g4] at A4 D4 st4
  have AH4 := CHr.ext E4 CH.1
  have CH := CH.trans AH4
  have O := O.ext E4
  have hk := Nat.le_trans hk E4.1
  have K := K.ext E4
  have E_b4 := A4
  have F_tupleAccess_b4 : Fd_9 Z h4 b4 (.long (0 : Int64)) := D4 (Or.inr (own_w hw 206 rfl)) (ty := .long) (by decide)
  have F_tupleTransfer_b4 : Fd_10 Z h4 b4 (.long (0 : Int64)) := D4 (Or.inr (own_w hw 208 rfl)) (ty := .long) (by decide)
  have F_message_b4 : Fd_11 Z h4 b4 (.long (0 : Int64)) := D4 (Or.inr (own_w hw 210 rfl)) (ty := .long) (by decide)
  have F_byteTransfer_b4 : Fd_3 Z h4 b4 (.long (0 : Int64)) := D4 (Or.inr (own_w hw 212 rfl)) (ty := .long) (by decide)
  refine Go.step st4 ?_
  refine Go.step (S' := T4.setTop (mkF m 58 #[lv p0, .second, lv p1, .second, lv p2, .second, lv p3, .second, iv p4, lv va, .second, lv vb, .second, lv vc, .second, lv (0 : Int64), .second, u_, u_, u_] [(.long (0 : Int64)), (.long vc), (.long vb), (.long va), (.ref b4), (.ref b4)])) (fun t k => ?_) ?_
  · refine XS.dup X4.here hx rfl (hb hby at_49) rfl rfl ?_
    refine XS.lload X4.here hx rfl (hb hby at_50) rfl ?_
    refine XS.lload X4.here hx rfl (hb hby at_52) rfl ?_
    refine XS.lload X4.here hx rfl (hb hby at_54) rfl ?_
    refine XS.lload X4.here hx rfl (hb hby at_56) rfl ?_
    exact k
  obtain ⟨_, _, ⟨T5, L5, k5, n5⟩, -, X5, hS5, hgr5, ⟨Lc5, hQ5, l5, y5, z5, AH5⟩, st5⟩ := X4.specialBackS hx (y := y_36) rfl hown (mvT hZ (own_w hw 10 rfl)) (mvT hZ (own_w hw 11 rfl)) (mvT hZ (own_w hw 12 rfl)) (by decide) (backOfSH (W := 1) (rmC4 l Z a0 hw [] b4 va vb vc (0 : Int64) cs dO kO vO fO dT kT vT fT h4 n0 O S_CS S_DO V_dO S_DT V_dT E_b4 F_tupleAccess_b4 F_tupleTransfer_b4 F_message_b4 F_byteTransfer_b4 hcs (by assumption) hvO hvT hr_va.1 hr_va.2 hr_vb.1 hr_vb.2 hr_vc.1 hr_vc.2 (by decide) (by decide)) hZ (own_w hw 12 rfl) (own_w hw 9 rfl) (by decide) (by decide) (own_EW hw) CH.1) (g := (mkF m 58 #[lv p0, .second, lv p1, .second, lv p2, .second, lv p3, .second, iv p4, lv va, .second, lv vb, .second, lv vc, .second, lv (0 : Int64), .second, u_, u_, u_] [(.long (0 : Int64)), (.long vc), (.long vb), (.long va), (.ref b4), (.ref b4)])) rfl (by rw [hml]; rfl) (Steps.refl _) (a := b4) (argsL := [(.long va), (.long vb), (.long vc), (.long (0 : Int64))]) (rest := [(.ref b4)]) (lenOf pd__28JJJJ_29V rfl) rfl (Nat.le_of_eq rfl) (hb hby at_58) (fun _ _ => ⟨rfl, e4, (by decide : 1 + 21 ≤ _), (by decide : 4 + 478 ≤ _)⟩)
  dsimp only [Pt.U, Pt.locs, Pt.cells, Pt.slots] at X5 l5 y5 z5 st5 hQ5 hS5 hgr5 AH5
  subst l5 y5 z5
  have hS := foldS hS (by rw [e4]; exact hk) hS5 hgr5
  have hown : (s.setVm T5.vm).vm.findClass "com/example/planstitch/planstitch/core/catalog/CostModelPricesBytesPinLaw" = some m.cls := by show T5.vm.findClass _ = _; rw [hS5.1.alike.findClass]; exact hown
  have hZ : Z.Warmed39 (s.setVm T5.vm).vm := State.Warmed39.trans hZ hS5.1
  have X5 : Stand p l e room_1 (s.setVm T5.vm) m #[(.long p0), (.long p1), (.long p2), (.long p3), (.int p4)] below meth c T5 _ _ _ := X5
  obtain ⟨rfl, Nq5, K5, P5_F_b⟩ := hQ5
  have N5 := Fr.app N3 Nq5
  have CH := CH.trans AH5
  have O := O.keep K5 (allS g_b4 all0)
  have K := K.trans K5 (allS (Or.inr sz_b4) all0)
  have E_b4 := E_b4.keep K5
  have F_b_5 := P5_F_b
  have hk : T5.heap.size ≤ (T5.heap).size := Nat.le_refl _
  refine Go.step (fun t k => st5.trans k) ?_
  refine Go.step (S' := T5.setTop (mkF m 63 #[lv p0, .second, lv p1, .second, lv p2, .second, lv p3, .second, iv p4, lv va, .second, lv vb, .second, lv vc, .second, lv (0 : Int64), .second, rv b4, u_, u_] [])) (fun t k => ?_) ?_
  · refine XS.astore X5.here hx rfl (hb hby at_61) rfl rfl (l' := #[lv p0, .second, lv p1, .second, lv p2, .second, lv p3, .second, iv p4, lv va, .second, lv vb, .second, lv vc, .second, lv (0 : Int64), .second, rv b4, u_, u_]) rfl ?_
    exact k
  obtain ⟨T6, h6, X6, e6, E6, A6, D6, -, st6⟩ := newO X5 hx hZ hown (own_w hw 7 rfl) (own_w hw 8 rfl) (own_w hw 9 rfl) (Eq.refl T5.heap) (g := (mkF m 63 #[lv p0, .second, lv p1, .second, lv p2, .second, lv p3, .second, iv p4, lv va, .second, lv vb, .second, lv vc, .second, lv (0 : Int64), .second, rv b4, u_, u_] [])) rfl (hb hby at_63) (by decide) (by decide)
  obtain ⟨b6, g6⟩ : ∃ z, z = Array.size T5.heap := ⟨_, rfl⟩
  have g_b6 : n0 ≤ b6 := Nat.le_trans (old_le O) (Nat.le_of_eq g6.symm)
  have sz_b6 : h0.size ≤ b6 := Nat.le_trans K.1 (Nat.le_of_eq g6.symm)
  have ne_b4_b6 : b4 ≠ b6 := Nat.ne_of_lt (Nat.lt_of_lt_of_le E_b4.lt (Nat.le_of_eq g6.symm))
  rw [← g6] at A6 D6 st6
  have AH6 := CHr.ext E6 CH.1
  have CH := CH.trans AH6
  have O := O.ext E6
  have K := K.ext E6
  have E_b4 := E_b4.ext E6
  have F_b_5 := F_b_5.ext E6
  have hk := Nat.le_trans hk E6.1
  have E_b6 := A6
  have F_tupleAccess_b6 : Fd_9 Z h6 b6 (.long (0 : Int64)) := D6 (Or.inr (own_w hw 206 rfl)) (ty := .long) (by decide)
  have F_tupleTransfer_b6 : Fd_10 Z h6 b6 (.long (0 : Int64)) := D6 (Or.inr (own_w hw 208 rfl)) (ty := .long) (by decide)
  have F_message_b6 : Fd_11 Z h6 b6 (.long (0 : Int64)) := D6 (Or.inr (own_w hw 210 rfl)) (ty := .long) (by decide)
  have F_byteTransfer_b6 : Fd_3 Z h6 b6 (.long (0 : Int64)) := D6 (Or.inr (own_w hw 212 rfl)) (ty := .long) (by decide)
  refine Go.step st6 ?_
  refine Go.step (S' := T6.setTop (mkF m 71 #[lv p0, .second, lv p1, .second, lv p2, .second, lv p3, .second, iv p4, lv va, .second, lv vb, .second, lv vc, .second, lv (0 : Int64), .second, rv b4, u_, u_] [(.long vb), (.long va), (.ref b6), (.ref b6)])) (fun t k => ?_) ?_
  · refine XS.dup X6.here hx rfl (hb hby at_66) rfl rfl ?_
    refine XS.lload X6.here hx rfl (hb hby at_67) rfl ?_
    refine XS.lload X6.here hx rfl (hb hby at_69) rfl ?_
    exact k
  obtain ⟨_, _, ⟨T7, L7, k7, n7⟩, -, X7, hS7, hgr7, ⟨Lc7, hQ7, l7, y7, z7, AH7⟩, st7⟩ := X6.specialBackS hx (y := y_37) rfl hown (mvT hZ (own_w hw 213 rfl)) (mvT hZ (own_w hw 214 rfl)) (mvT hZ (own_w hw 215 rfl)) (by decide) (backOfSH (W := 1) (rmC2 l Z a0 hw [] b6 va vb cs dO kO vO fO dT kT vT fT h6 n0 O S_CS S_DO V_dO S_DT V_dT E_b6 F_tupleAccess_b6 F_tupleTransfer_b6 F_message_b6 F_byteTransfer_b6 hcs (by assumption) hvO hvT hr_va.1 hr_va.2 hr_vb.1 hr_vb.2) hZ (own_w hw 215 rfl) (own_w hw 9 rfl) (by decide) (by decide) (own_EW hw) CH.1) (g := (mkF m 71 #[lv p0, .second, lv p1, .second, lv p2, .second, lv p3, .second, iv p4, lv va, .second, lv vb, .second, lv vc, .second, lv (0 : Int64), .second, rv b4, u_, u_] [(.long vb), (.long va), (.ref b6), (.ref b6)])) rfl (by rw [hml]; rfl) (Steps.refl _) (a := b6) (argsL := [(.long va), (.long vb)]) (rest := [(.ref b6)]) (lenOf pd__28JJ_29V rfl) rfl (Nat.le_of_eq rfl) (hb hby at_71) (fun _ _ => ⟨rfl, e6, (by decide : 23 + 21 ≤ _), (by decide : 486 + 478 ≤ _)⟩)
  dsimp only [Pt.U, Pt.locs, Pt.cells, Pt.slots] at X7 l7 y7 z7 st7 hQ7 hS7 hgr7 AH7
  subst l7 y7 z7
  have hS := foldS hS (by rw [e6]; exact hk) hS7 hgr7
  have hown : (s.setVm T7.vm).vm.findClass "com/example/planstitch/planstitch/core/catalog/CostModelPricesBytesPinLaw" = some m.cls := by show T7.vm.findClass _ = _; rw [hS7.1.alike.findClass]; exact hown
  have hZ : Z.Warmed39 (s.setVm T7.vm).vm := State.Warmed39.trans hZ hS7.1
  have X7 : Stand p l e room_1 (s.setVm T7.vm) m #[(.long p0), (.long p1), (.long p2), (.long p3), (.int p4)] below meth c T7 _ _ _ := X7
  obtain ⟨rfl, Nq7, K7, P7_F_b⟩ := hQ7
  have N7 := Fr.app N5 Nq7
  have CH := CH.trans AH7
  have O := O.keep K7 (allS g_b6 all0)
  have K := K.trans K7 (allS (Or.inr sz_b6) all0)
  have E_b4 := E_b4.keep K7
  have F_b_5 := F_b_5.keep K7 (ninS ne_b4_b6 nin0)
  have E_b6 := E_b6.keep K7
  have F_b_7 := P7_F_b
  have hk : T7.heap.size ≤ (T7.heap).size := Nat.le_refl _
  refine Go.step (fun t k => st7.trans k) ?_
  refine Go.step (S' := T7.setTop (mkF m 92 #[lv p0, .second, lv p1, .second, lv p2, .second, lv p3, .second, iv p4, lv va, .second, lv vb, .second, lv vc, .second, lv (0 : Int64), .second, rv b4, rv b6, iv 0] [(.ref b4)])) (fun t k => ?_) ?_
  · refine XS.astore X7.here hx rfl (hb hby at_74) rfl rfl (l' := #[lv p0, .second, lv p1, .second, lv p2, .second, lv p3, .second, iv p4, lv va, .second, lv vb, .second, lv vc, .second, lv (0 : Int64), .second, rv b4, rv b6, u_]) rfl ?_
    refine XS.lload X7.here hx rfl (hb hby at_76) rfl ?_
    refine XS.lconst X7.here hx rfl (hb hby at_78) ?_
    refine XS.lcmp X7.here hx rfl (hb hby at_79) rfl ?_
    refine XS.ifYes X7.here hx rfl (pc0 := 80) (pc' := 87) rfl (hb hby at_80) rfl ((if0 _ _).trans (flt (fun zq => absurd ((lw_gt (0 : Int64) (0 : Int64)).mp zq) (by decide))).2.2.2) (by decide) (by decide) ?_
    refine XS.iconst X7.here hx rfl (hb hby at_87) ?_
    show Steps p.tables e below (T7.setTop (mkF m 88 #[lv p0, .second, lv p1, .second, lv p2, .second, lv p3, .second, iv p4, lv va, .second, lv vb, .second, lv vc, .second, lv (0 : Int64), .second, rv b4, rv b6, u_] [(.int 0)])) _
    refine XS.istore X7.here hx rfl (hb hby at_88) rfl (l' := #[lv p0, .second, lv p1, .second, lv p2, .second, lv p3, .second, iv p4, lv va, .second, lv vb, .second, lv vc, .second, lv (0 : Int64), .second, rv b4, rv b6, iv 0]) rfl ?_
    refine XS.aload X7.here hx rfl (hb hby at_90) rfl rfl ?_
    exact k
  refine Go.cV X7 hx hml hown hZ (own_w hw 217 rfl) (own_w hw 218 rfl) (own_w hw 220 rfl) (own_w hw 219 rfl) (own_w hw 9 rfl) (own_w hw 221 rfl) E_b4 (rmPb0 l Z a0 hw [] b4 (0 : Int64) T7.heap n0 O F_b_5 (by decide)) 0 [] pd__28_29Z (hb hby at_92) (Eq.refl T7.heap) (fun _ T8 L8 X8 hQ8 => ?_)
  obtain ⟨rfl, Nq8, e8⟩ := hQ8
  have N8 := Fr.app N7 Nq8
  refine Go.step (S' := T8.setTop (mkF m 102 #[lv p0, .second, lv p1, .second, lv p2, .second, lv p3, .second, iv p4, lv va, .second, lv vb, .second, lv vc, .second, lv (0 : Int64), .second, rv b4, rv b6, iv 0] [(.ref b6)])) (fun t k => ?_) ?_
  · refine XS.iload X8.here hx rfl (hb hby at_95) rfl ?_
    refine XS.icmpNo X8.here hx rfl (hb hby at_97) rfl (teq ((by decide) : (0 : Int32) = (0 : Int32))).2 ?_
    refine XS.aload X8.here hx rfl (hb hby at_100) rfl rfl ?_
    exact k
  refine Go.cV X8 hx hml hown hZ (own_w hw 217 rfl) (own_w hw 218 rfl) (own_w hw 220 rfl) (own_w hw 219 rfl) (own_w hw 9 rfl) (own_w hw 221 rfl) E_b6 (rmPb0 l Z a0 hw [] b6 (0 : Int64) T7.heap n0 O F_b_7 (by decide)) 0 [] pd__28_29Z (hb hby at_102) e8 (fun _ T9 L9 X9 hQ9 => ?_)
  obtain ⟨rfl, Nq9, e9⟩ := hQ9
  have N9 := Fr.app N8 Nq9
  refine Go.step (S' := T9.setTop (mkF m 113 #[lv p0, .second, lv p1, .second, lv p2, .second, lv p3, .second, iv p4, lv va, .second, lv vb, .second, lv vc, .second, lv (0 : Int64), .second, rv b4, rv b6, iv 0] [(.int 1)])) (fun t k => ?_) ?_
  · refine XS.ifNo X9.here hx rfl (hb hby at_105) rfl ((if0 _ _).trans (teq ((by decide) : (0 : Int32) = (0 : Int32))).2) ?_
    refine XS.iconst X9.here hx rfl (hb hby at_108) ?_
    refine XS.goto X9.here hx rfl (pc0 := 109) (pc' := 113) rfl (hb hby at_109) (by decide) (by decide) ?_
    exact k
  obtain ⟨fs, hr, hrun, hended, hR⟩ := X9.leaveW hS (by rw [e9]; exact hk) (v := some (.int 1)) (fun h => by rw [Bd.returns] at h; cases h)
  refine Go.fin (S' := T9.setFrames fs) ?_ hrun hended ⟨_, _, rfl, ?_, hR.1, hR.2.1, hR.2.2.1, hR.2.2.2.mono (by decide) (by decide)⟩
  · exact retOut X9 hx Bd.returns (by decide) (Or.inl ⟨rfl, Or.inr (Or.inl rfl), _, rfl⟩) (hb hby at_113) hr
  · show Q_rm0 Z p0 p1 p2 p3 p4 cs dO kO vO fO dT kT vT fT h0 n0 (some (.int 1)) T9.heap _
    rw [e9]
    exact ⟨rfl, N9, K⟩
 ·skip
  refine Go.step (S' := T3.setTop (mkF m 46 #[lv p0, .second, lv p1, .second, lv p2, .second, lv p3, .second, iv p4, lv va, .second, lv vb, .second, lv vc, .second, lv ((1 : Int64) + ((p3 &&& (9223372036854775807 : Int64)) - ((p3 &&& (9223372036854775807 : Int64)) / (1000000 : Int64)) * (1000000 : Int64))), .second, u_, u_, u_] [])) (fun t k => ?_) ?_
  · refine XS.ifYes X3.here hx rfl (pc0 := 23) (pc' := 32) rfl (hb hby at_23) rfl ((if0 _ _).trans (feq (hc23 : ¬ ((p4 &&& (1 : Int32)) = (0 : Int32)))).2) (by decide) (by decide) ?_
    refine XS.lconst X3.here hx rfl (hb hby at_32) ?_
    refine XS.lload X3.here hx rfl (hb hby at_33) rfl ?_
    refine X3.ldc2Long hx hown (mvT hZ (own_w hw 4 rfl)) (g := (mkF m 35 #[lv p0, .second, lv p1, .second, lv p2, .second, lv p3, .second, iv p4, lv va, .second, lv vb, .second, lv vc, .second, u_, u_, u_, u_, u_] [(.long p3), (.long (1 : Int64))])) rfl (hb hby at_35) _ ?_
    refine XS.land X3.here hx rfl (hb hby at_38) rfl ?_
    refine X3.ldc2Long hx hown (mvT hZ (own_w hw 6 rfl)) (g := (mkF m 39 #[lv p0, .second, lv p1, .second, lv p2, .second, lv p3, .second, iv p4, lv va, .second, lv vb, .second, lv vc, .second, u_, u_, u_, u_, u_] [(.long (p3 &&& (9223372036854775807 : Int64))), (.long (1 : Int64))])) rfl (hb hby at_39) _ ?_
    show Steps p.tables e below (T3.setTop (mkF m 42 #[lv p0, .second, lv p1, .second, lv p2, .second, lv p3, .second, iv p4, lv va, .second, lv vb, .second, lv vc, .second, u_, u_, u_, u_, u_] [(.long (1000000 : Int64)), (.long (p3 &&& (9223372036854775807 : Int64))), (.long (1 : Int64))])) _
    refine XS.lrem X3.here hx rfl (hb hby at_42) rfl (by decide) ?_
    refine XS.ladd X3.here hx rfl (hb hby at_43) rfl ?_
    refine XS.lstore X3.here hx rfl (hb hby at_44) rfl (l' := #[lv p0, .second, lv p1, .second, lv p2, .second, lv p3, .second, iv p4, lv va, .second, lv vb, .second, lv vc, .second, lv ((1 : Int64) + ((p3 &&& (9223372036854775807 : Int64)) - ((p3 &&& (9223372036854775807 : Int64)) / (1000000 : Int64)) * (1000000 : Int64))), .second, u_, u_, u_]) rfl ?_
    exact k
  obtain ⟨vd, hd_vd⟩ : ∃ z : Int64, ((1 : Int64) + ((p3 &&& (9223372036854775807 : Int64)) - ((p3 &&& (9223372036854775807 : Int64)) / (1000000 : Int64)) * (1000000 : Int64))) = z := ⟨_, rfl⟩
  rw [hd_vd]
  show Go p e below _ (T3.setTop (mkF m 46 #[lv p0, .second, lv p1, .second, lv p2, .second, lv p3, .second, iv p4, lv va, .second, lv vb, .second, lv vc, .second, lv vd, .second, u_, u_, u_] []))
  have hr_vd := own_ud hd_vd
  obtain ⟨T10, h10, X10, e10, E10, A10, D10, -, st10⟩ := newO X3 hx hZ hown (own_w hw 7 rfl) (own_w hw 8 rfl) (own_w hw 9 rfl) e3 (g := (mkF m 46 #[lv p0, .second, lv p1, .second, lv p2, .second, lv p3, .second, iv p4, lv va, .second, lv vb, .second, lv vc, .second, lv vd, .second, u_, u_, u_] [])) rfl (hb hby at_46) (by decide) (by decide)
  obtain ⟨b10, g10⟩ : ∃ z, z = Array.size h0 := ⟨_, rfl⟩
  have g_b10 : n0 ≤ b10 := Nat.le_trans (old_le O) (Nat.le_of_eq g10.symm)
  have sz_b10 : h0.size ≤ b10 := Nat.le_trans K.1 (Nat.le_of_eq g10.symm)
  rw [← g10] at A10 D10 st10
  have AH10 := CHr.ext E10 CH.1
  have CH := CH.trans AH10
  have O := O.ext E10
  have hk := Nat.le_trans hk E10.1
  have K := K.ext E10
  have E_b10 := A10
  have F_tupleAccess_b10 : Fd_9 Z h10 b10 (.long (0 : Int64)) := D10 (Or.inr (own_w hw 206 rfl)) (ty := .long) (by decide)
  have F_tupleTransfer_b10 : Fd_10 Z h10 b10 (.long (0 : Int64)) := D10 (Or.inr (own_w hw 208 rfl)) (ty := .long) (by decide)
  have F_message_b10 : Fd_11 Z h10 b10 (.long (0 : Int64)) := D10 (Or.inr (own_w hw 210 rfl)) (ty := .long) (by decide)
  have F_byteTransfer_b10 : Fd_3 Z h10 b10 (.long (0 : Int64)) := D10 (Or.inr (own_w hw 212 rfl)) (ty := .long) (by decide)
  refine Go.step st10 ?_
  refine Go.step (S' := T10.setTop (mkF m 58 #[lv p0, .second, lv p1, .second, lv p2, .second, lv p3, .second, iv p4, lv va, .second, lv vb, .second, lv vc, .second, lv vd, .second, u_, u_, u_] [(.long vd), (.long vc), (.long vb), (.long va), (.ref b10), (.ref b10)])) (fun t k => ?_) ?_
  · refine XS.dup X10.here hx rfl (hb hby at_49) rfl rfl ?_
    refine XS.lload X10.here hx rfl (hb hby at_50) rfl ?_
    refine XS.lload X10.here hx rfl (hb hby at_52) rfl ?_
    refine XS.lload X10.here hx rfl (hb hby at_54) rfl ?_
    refine XS.lload X10.here hx rfl (hb hby at_56) rfl ?_
    exact k
  obtain ⟨_, _, ⟨T11, L11, k11, n11⟩, -, X11, hS11, hgr11, ⟨Lc11, hQ11, l11, y11, z11, AH11⟩, st11⟩ := X10.specialBackS hx (y := y_36) rfl hown (mvT hZ (own_w hw 10 rfl)) (mvT hZ (own_w hw 11 rfl)) (mvT hZ (own_w hw 12 rfl)) (by decide) (backOfSH (W := 1) (rmC4 l Z a0 hw [] b10 va vb vc vd cs dO kO vO fO dT kT vT fT h10 n0 O S_CS S_DO V_dO S_DT V_dT E_b10 F_tupleAccess_b10 F_tupleTransfer_b10 F_message_b10 F_byteTransfer_b10 hcs (by assumption) hvO hvT hr_va.1 hr_va.2 hr_vb.1 hr_vb.2 hr_vc.1 hr_vc.2 hr_vd.1 hr_vd.2.1) hZ (own_w hw 12 rfl) (own_w hw 9 rfl) (by decide) (by decide) (own_EW hw) CH.1) (g := (mkF m 58 #[lv p0, .second, lv p1, .second, lv p2, .second, lv p3, .second, iv p4, lv va, .second, lv vb, .second, lv vc, .second, lv vd, .second, u_, u_, u_] [(.long vd), (.long vc), (.long vb), (.long va), (.ref b10), (.ref b10)])) rfl (by rw [hml]; rfl) (Steps.refl _) (a := b10) (argsL := [(.long va), (.long vb), (.long vc), (.long vd)]) (rest := [(.ref b10)]) (lenOf pd__28JJJJ_29V rfl) rfl (Nat.le_of_eq rfl) (hb hby at_58) (fun _ _ => ⟨rfl, e10, (by decide : 1 + 21 ≤ _), (by decide : 4 + 478 ≤ _)⟩)
  dsimp only [Pt.U, Pt.locs, Pt.cells, Pt.slots] at X11 l11 y11 z11 st11 hQ11 hS11 hgr11 AH11
  subst l11 y11 z11
  have hS := foldS hS (by rw [e10]; exact hk) hS11 hgr11
  have hown : (s.setVm T11.vm).vm.findClass "com/example/planstitch/planstitch/core/catalog/CostModelPricesBytesPinLaw" = some m.cls := by show T11.vm.findClass _ = _; rw [hS11.1.alike.findClass]; exact hown
  have hZ : Z.Warmed39 (s.setVm T11.vm).vm := State.Warmed39.trans hZ hS11.1
  have X11 : Stand p l e room_1 (s.setVm T11.vm) m #[(.long p0), (.long p1), (.long p2), (.long p3), (.int p4)] below meth c T11 _ _ _ := X11
  obtain ⟨rfl, Nq11, K11, P11_F_b⟩ := hQ11
  have N11 := Fr.app N3 Nq11
  have CH := CH.trans AH11
  have O := O.keep K11 (allS g_b10 all0)
  have K := K.trans K11 (allS (Or.inr sz_b10) all0)
  have E_b10 := E_b10.keep K11
  have F_b_11 := P11_F_b
  have hk : T11.heap.size ≤ (T11.heap).size := Nat.le_refl _
  refine Go.step (fun t k => st11.trans k) ?_
  refine Go.step (S' := T11.setTop (mkF m 63 #[lv p0, .second, lv p1, .second, lv p2, .second, lv p3, .second, iv p4, lv va, .second, lv vb, .second, lv vc, .second, lv vd, .second, rv b10, u_, u_] [])) (fun t k => ?_) ?_
  · refine XS.astore X11.here hx rfl (hb hby at_61) rfl rfl (l' := #[lv p0, .second, lv p1, .second, lv p2, .second, lv p3, .second, iv p4, lv va, .second, lv vb, .second, lv vc, .second, lv vd, .second, rv b10, u_, u_]) rfl ?_
    exact k
  obtain ⟨T12, h12, X12, e12, E12, A12, D12, -, st12⟩ := newO X11 hx hZ hown (own_w hw 7 rfl) (own_w hw 8 rfl) (own_w hw 9 rfl) (Eq.refl T11.heap) (g := (mkF m 63 #[lv p0, .second, lv p1, .second, lv p2, .second, lv p3, .second, iv p4, lv va, .second, lv vb, .second, lv vc, .second, lv vd, .second, rv b10, u_, u_] [])) rfl (hb hby at_63) (by decide) (by decide)
  obtain ⟨b12, g12⟩ : ∃ z, z = Array.size T11.heap := ⟨_, rfl⟩
  have g_b12 : n0 ≤ b12 := Nat.le_trans (old_le O) (Nat.le_of_eq g12.symm)
  have sz_b12 : h0.size ≤ b12 := Nat.le_trans K.1 (Nat.le_of_eq g12.symm)
  have ne_b10_b12 : b10 ≠ b12 := Nat.ne_of_lt (Nat.lt_of_lt_of_le E_b10.lt (Nat.le_of_eq g12.symm))
  rw [← g12] at A12 D12 st12
  have AH12 := CHr.ext E12 CH.1
  have CH := CH.trans AH12
  have O := O.ext E12
  have K := K.ext E12
  have E_b10 := E_b10.ext E12
  have F_b_11 := F_b_11.ext E12
  have hk := Nat.le_trans hk E12.1
  have E_b12 := A12
  have F_tupleAccess_b12 : Fd_9 Z h12 b12 (.long (0 : Int64)) := D12 (Or.inr (own_w hw 206 rfl)) (ty := .long) (by decide)
  have F_tupleTransfer_b12 : Fd_10 Z h12 b12 (.long (0 : Int64)) := D12 (Or.inr (own_w hw 208 rfl)) (ty := .long) (by decide)
  have F_message_b12 : Fd_11 Z h12 b12 (.long (0 : Int64)) := D12 (Or.inr (own_w hw 210 rfl)) (ty := .long) (by decide)
  have F_byteTransfer_b12 : Fd_3 Z h12 b12 (.long (0 : Int64)) := D12 (Or.inr (own_w hw 212 rfl)) (ty := .long) (by decide)
  refine Go.step st12 ?_
  refine Go.step (S' := T12.setTop (mkF m 71 #[lv p0, .second, lv p1, .second, lv p2, .second, lv p3, .second, iv p4, lv va, .second, lv vb, .second, lv vc, .second, lv vd, .second, rv b10, u_, u_] [(.long vb), (.long va), (.ref b12), (.ref b12)])) (fun t k => ?_) ?_
  · refine XS.dup X12.here hx rfl (hb hby at_66) rfl rfl ?_
    refine XS.lload X12.here hx rfl (hb hby at_67) rfl ?_
    refine XS.lload X12.here hx rfl (hb hby at_69) rfl ?_
    exact k
  obtain ⟨_, _, ⟨T13, L13, k13, n13⟩, -, X13, hS13, hgr13, ⟨Lc13, hQ13, l13, y13, z13, AH13⟩, st13⟩ := X12.specialBackS hx (y := y_37) rfl hown (mvT hZ (own_w hw 213 rfl)) (mvT hZ (own_w hw 214 rfl)) (mvT hZ (own_w hw 215 rfl)) (by decide) (backOfSH (W := 1) (rmC2 l Z a0 hw [] b12 va vb cs dO kO vO fO dT kT vT fT h12 n0 O S_CS S_DO V_dO S_DT V_dT E_b12 F_tupleAccess_b12 F_tupleTransfer_b12 F_message_b12 F_byteTransfer_b12 hcs (by assumption) hvO hvT hr_va.1 hr_va.2 hr_vb.1 hr_vb.2) hZ (own_w hw 215 rfl) (own_w hw 9 rfl) (by decide) (by decide) (own_EW hw) CH.1) (g := (mkF m 71 #[lv p0, .second, lv p1, .second, lv p2, .second, lv p3, .second, iv p4, lv va, .second, lv vb, .second, lv vc, .second, lv vd, .second, rv b10, u_, u_] [(.long vb), (.long va), (.ref b12), (.ref b12)])) rfl (by rw [hml]; rfl) (Steps.refl _) (a := b12) (argsL := [(.long va), (.long vb)]) (rest := [(.ref b12)]) (lenOf pd__28JJ_29V rfl) rfl (Nat.le_of_eq rfl) (hb hby at_71) (fun _ _ => ⟨rfl, e12, (by decide : 23 + 21 ≤ _), (by decide : 486 + 478 ≤ _)⟩)
  dsimp only [Pt.U, Pt.locs, Pt.cells, Pt.slots] at X13 l13 y13 z13 st13 hQ13 hS13 hgr13 AH13
  subst l13 y13 z13
  have hS := foldS hS (by rw [e12]; exact hk) hS13 hgr13
  have hown : (s.setVm T13.vm).vm.findClass "com/example/planstitch/planstitch/core/catalog/CostModelPricesBytesPinLaw" = some m.cls := by show T13.vm.findClass _ = _; rw [hS13.1.alike.findClass]; exact hown
  have hZ : Z.Warmed39 (s.setVm T13.vm).vm := State.Warmed39.trans hZ hS13.1
  have X13 : Stand p l e room_1 (s.setVm T13.vm) m #[(.long p0), (.long p1), (.long p2), (.long p3), (.int p4)] below meth c T13 _ _ _ := X13
  obtain ⟨rfl, Nq13, K13, P13_F_b⟩ := hQ13
  have N13 := Fr.app N11 Nq13
  have CH := CH.trans AH13
  have O := O.keep K13 (allS g_b12 all0)
  have K := K.trans K13 (allS (Or.inr sz_b12) all0)
  have E_b10 := E_b10.keep K13
  have F_b_11 := F_b_11.keep K13 (ninS ne_b10_b12 nin0)
  have E_b12 := E_b12.keep K13
  have F_b_13 := P13_F_b
  have hk : T13.heap.size ≤ (T13.heap).size := Nat.le_refl _
  refine Go.step (fun t k => st13.trans k) ?_
  refine Go.step (S' := T13.setTop (mkF m 92 #[lv p0, .second, lv p1, .second, lv p2, .second, lv p3, .second, iv p4, lv va, .second, lv vb, .second, lv vc, .second, lv vd, .second, rv b10, rv b12, iv 1] [(.ref b10)])) (fun t k => ?_) ?_
  · refine XS.astore X13.here hx rfl (hb hby at_74) rfl rfl (l' := #[lv p0, .second, lv p1, .second, lv p2, .second, lv p3, .second, iv p4, lv va, .second, lv vb, .second, lv vc, .second, lv vd, .second, rv b10, rv b12, u_]) rfl ?_
    refine XS.lload X13.here hx rfl (hb hby at_76) rfl ?_
    refine XS.lconst X13.here hx rfl (hb hby at_78) ?_
    refine XS.lcmp X13.here hx rfl (hb hby at_79) rfl ?_
    refine XS.ifNo X13.here hx rfl (hb hby at_80) rfl ((if0 _ _).trans (tlt ((lw_gt vd (0 : Int64)).mpr hr_vd.2.2.1)).2.2.2) ?_
    refine XS.iconst X13.here hx rfl (hb hby at_83) ?_
    show Steps p.tables e below (T13.setTop (mkF m 84 #[lv p0, .second, lv p1, .second, lv p2, .second, lv p3, .second, iv p4, lv va, .second, lv vb, .second, lv vc, .second, lv vd, .second, rv b10, rv b12, u_] [(.int 1)])) _
    refine XS.goto X13.here hx rfl (pc0 := 84) (pc' := 88) rfl (hb hby at_84) (by decide) (by decide) ?_
    refine XS.istore X13.here hx rfl (hb hby at_88) rfl (l' := #[lv p0, .second, lv p1, .second, lv p2, .second, lv p3, .second, iv p4, lv va, .second, lv vb, .second, lv vc, .second, lv vd, .second, rv b10, rv b12, iv 1]) rfl ?_
    refine XS.aload X13.here hx rfl (hb hby at_90) rfl rfl ?_
    exact k
  refine Go.cV X13 hx hml hown hZ (own_w hw 217 rfl) (own_w hw 218 rfl) (own_w hw 220 rfl) (own_w hw 219 rfl) (own_w hw 9 rfl) (own_w hw 221 rfl) E_b10 (rmPb1 l Z a0 hw [] b10 vd T13.heap n0 O F_b_11 hr_vd.2.2.2) 0 [] pd__28_29Z (hb hby at_92) (Eq.refl T13.heap) (fun _ T14 L14 X14 hQ14 => ?_)
  obtain ⟨rfl, Nq14, e14⟩ := hQ14
  have N14 := Fr.app N13 Nq14
  refine Go.step (S' := T14.setTop (mkF m 102 #[lv p0, .second, lv p1, .second, lv p2, .second, lv p3, .second, iv p4, lv va, .second, lv vb, .second, lv vc, .second, lv vd, .second, rv b10, rv b12, iv 1] [(.ref b12)])) (fun t k => ?_) ?_
  · refine XS.iload X14.here hx rfl (hb hby at_95) rfl ?_
    refine XS.icmpNo X14.here hx rfl (hb hby at_97) rfl (teq ((by decide) : (1 : Int32) = (1 : Int32))).2 ?_
    refine XS.aload X14.here hx rfl (hb hby at_100) rfl rfl ?_
    exact k
  refine Go.cV X14 hx hml hown hZ (own_w hw 217 rfl) (own_w hw 218 rfl) (own_w hw 220 rfl) (own_w hw 219 rfl) (own_w hw 9 rfl) (own_w hw 221 rfl) E_b12 (rmPb0 l Z a0 hw [] b12 (0 : Int64) T13.heap n0 O F_b_13 (by decide)) 0 [] pd__28_29Z (hb hby at_102) e14 (fun _ T15 L15 X15 hQ15 => ?_)
  obtain ⟨rfl, Nq15, e15⟩ := hQ15
  have N15 := Fr.app N14 Nq15
  refine Go.step (S' := T15.setTop (mkF m 113 #[lv p0, .second, lv p1, .second, lv p2, .second, lv p3, .second, iv p4, lv va, .second, lv vb, .second, lv vc, .second, lv vd, .second, rv b10, rv b12, iv 1] [(.int 1)])) (fun t k => ?_) ?_
  · refine XS.ifNo X15.here hx rfl (hb hby at_105) rfl ((if0 _ _).trans (teq ((by decide) : (0 : Int32) = (0 : Int32))).2) ?_
    refine XS.iconst X15.here hx rfl (hb hby at_108) ?_
    refine XS.goto X15.here hx rfl (pc0 := 109) (pc' := 113) rfl (hb hby at_109) (by decide) (by decide) ?_
    exact k
  obtain ⟨fs, hr, hrun, hended, hR⟩ := X15.leaveW hS (by rw [e15]; exact hk) (v := some (.int 1)) (fun h => by rw [Bd.returns] at h; cases h)
  refine Go.fin (S' := T15.setFrames fs) ?_ hrun hended ⟨_, _, rfl, ?_, hR.1, hR.2.1, hR.2.2.1, hR.2.2.2.mono (by decide) (by decide)⟩
  · exact retOut X15 hx Bd.returns (by decide) (Or.inl ⟨rfl, Or.inr (Or.inl rfl), _, rfl⟩) (hb hby at_113) hr
  · show Q_rm0 Z p0 p1 p2 p3 p4 cs dO kO vO fO dT kT vT fT h0 n0 (some (.int 1)) T15.heap _
    rw [e15]
    exact ⟨rfl, N15, K⟩
set_option maxRecDepth 65536 in
set_option maxHeartbeats 4000000 in
theorem comes_1 {Post : Tables → Env → Array Value → State → Outcome → State → Prop} (hpost : ∀ tb e args s v u, (limb_1_1.after args s (.returned v) u = true ∧ limb_1_2.after args s (.returned v) u = true ∧ True) → ReturnedEndW s (.returned v) u (Jvm.fieldLocs frame_1_writes args s ++ Jvm.arrayLocs frame_1_arrays args s ++ Jvm.staticLocs frame_1_statics s) 64 5952 → Post tb e args s (.returned v) u) :
    ArmFor flags0 classFile x code maxLocals ret World_1 tables_1 room_1 Calls_1 rest_1 Pre_1 Post := by
  intro l hfl _ _ p e ha hc hk s m args below hf hA hF happ hP
  obtain ⟨hcalls, hrest, hpre⟩ := hP
  obtain ⟨-, -, -, hnamed, -, -, -, hat⟩ := (Spec.applies_iff hf).mp happ
  obtain ⟨hg, hn⟩ := and_e (Cond.before_iff.mp (show (Jvm.Cond.and given_1 narrow_1).before args s = true from hpre))
  obtain ⟨hgl, hgr⟩ := and_e hg
  obtain ⟨hgrl, hgrr⟩ := and_e hgr
  obtain ⟨hgrrl, hgrrr⟩ := and_e hgrr
  obtain ⟨hgrrrl, hgrrrr⟩ := and_e hgrrr
  obtain ⟨hgrrrrl, hgrrrrr⟩ := and_e hgrrrr
  obtain ⟨w0, w1, w2, w3, w4, rfl⟩ : ∃ w0 w1 w2 w3 w4 : Value, args = #[w0, w1, w2, w3, w4] := by
    have hs : args.size = 5 := by simpa [Cond.value, given_1] using hgl
    obtain ⟨L⟩ := args
    match L, hs with
    | [w0, w1, w2, w3, w4], _ => exact ⟨w0, w1, w2, w3, w4, rfl⟩
  have hw := fun d (hd : d ∈ tables_1) => atoms_spec (ws := Jvm.Cond.code x code maxLocals ret :: tables_1) hat d (List.mem_cons_of_mem _ hd)
  have hfit : Fit s := fun {y c} hc i hi => by
    obtain ⟨ha, rfl⟩ := Array.getElem?_eq_some_iff.mp hc
    have q := List.all_eq_true.mp ((Array.all_eq_true_iff_forall_mem.mp hF) _ (Array.getElem_mem ha)) i (List.mem_range.mpr hi)
    simpa [Array.getElem?_eq_getElem hi] using q
  obtain ⟨hsets, hown0⟩ := atoms_of _ (rest_1_c_eq ▸ (show rest_1_c.before _ s = true from hrest))
  obtain ⟨i0, ei0⟩ := isL_v hgrl
  obtain rfl : w0 = (.long i0) := Option.some.inj ei0
  obtain ⟨i1, ei1⟩ := isL_v hgrrl
  obtain rfl : w1 = (.long i1) := Option.some.inj ei1
  obtain ⟨i2, ei2⟩ := isL_v hgrrrl
  obtain rfl : w2 = (.long i2) := Option.some.inj ei2
  obtain ⟨i3, ei3⟩ := isL_v hgrrrrl
  obtain rfl : w3 = (.long i3) := Option.some.inj ei3
  obtain ⟨i4, ei4⟩ := is_v hgrrrrr
  obtain rfl : w4 = (.int i4) := Option.some.inj ei4
  obtain ⟨cs, evCS⟩ := is_v (Cond.before_iff.mp (hsets _ (List.mem_of_getElem? (i := 1) rfl)))
  have S_CS := Sta.start evCS (Or.inl (hsets _ (List.mem_of_getElem? (i := 0) rfl)))
  have hcs : ¬ (cs = (0 : Int32)) := fun q => by have := not_v (Cond.before_iff.mp (hsets _ (List.mem_of_getElem? (i := 2) rfl))); rw [eq_i evCS (Term.int_eval 0) (by rw [q])] at this; cases this
  obtain ⟨sf, evFM, hsf⟩ := isR_v (Cond.before_iff.mp (hsets _ (List.mem_of_getElem? (i := 8) rfl)))
  have S_FM := Sta.start evFM (Or.inl (hsets _ (List.mem_of_getElem? (i := 7) rfl)))
  obtain ⟨dO, kO, vO, fO, S_DO, V_dO, hvO⟩ := own_tbl hfit (hsets _ (List.mem_of_getElem? (i := 12) rfl)) (hsets _ (List.mem_of_getElem? (i := 13) rfl)) (hsets _ (List.mem_of_getElem? (i := 11) rfl)) (own_w hw 28 rfl)
  obtain ⟨dT, kT, vT, fT, S_DT, V_dT, hvT⟩ := own_tbl hfit (hsets _ (List.mem_of_getElem? (i := 17) rfl)) (hsets _ (List.mem_of_getElem? (i := 18) rfl)) (hsets _ (List.mem_of_getElem? (i := 16) rfl)) (own_w hw 28 rfl)
  have CH0 : CHv s EL_ s.vm s.heap := CHv.start (own_EW hw) (fun p hp => hcalls.1 p hp) (hsets _ (List.mem_of_getElem? (i := 2) rfl)) (own_w hw 28 rfl) (own_w hw 27 rfl)
  obtain ⟨n, o, h1, h2, h3, _, L, rfl, ⟨rfl, N, -⟩, hq⟩ := rm0 l s _ hw tables_1 i0 i1 i2 i3 i4 cs dO kO vO fO dT kT vT fT s.heap s.heap.size (Old.start s) S_CS S_DO V_dO S_DT V_dT hcs hvO hvT p e ha hc hk s m _ below hf ((Spec.applies_iff_loose hf).mp happ).1 ⟨rfl, State.Warmed39.refl s, rfl, CH0⟩ trivial
  refine ⟨n, _, h1, h2, h3, hpost _ _ _ _ _ _ ⟨Cond.after_iff.mpr rfl, Cond.after_iff.mpr (eq_i res_at (Term.int_eval (1)) rfl), trivial⟩ ⟨hq.1, hq.2.1, hq.2.2.1, (hq.2.2.2.sift fun y hy => Or.inr (N y hy)).mono (by decide) (by decide)⟩⟩
theorem main_1_1 : Claimed_1_1 := comes_1 fun _ _ _ _ _ _ h hF => ⟨h.1, hF⟩
theorem main_1_2 : Claimed_1_2 := comes_1 fun _ _ _ _ _ _ h hF => ⟨h.2.1, hF⟩
end Jvm.Pilot.@@N@@
namespace Jvm.Pilot.@@N@@
open Jvm Jvm.ClassFile Sem Op Lib Jvm.Free Jvm.Stand Jvm.Pilot.@@N@@.Jvm.D
/-! MADE BY PROGRAM (witnessworld.py) out of the Statement's table words and the real class files: 27 classes; the members and pool entries that the words name. The judged class is class 1, her method 2. -/
namespace start1
open Jvm.ClassFile
def u (s : String) : CpInfo := .utf8 (stringToUtf16 s)
/-- a pool by its gaps: so many unusable entries, then the entry; so many at the end -/
def gap : Nat → List CpInfo → List CpInfo
  | 0, r => r
  | n + 1, r => .unusable :: gap n r
def poolList (es : List (Nat × CpInfo)) (last : Nat) : List CpInfo := es.foldr (fun e r => gap e.1 (e.2 :: r)) (gap last [])
def pool (es : List (Nat × CpInfo)) (last : Nat) : Array CpInfo := ⟨poolList es last⟩
def fileOf (pool : Array CpInfo) (this : Nat) (attrs : Array Attribute := #[]) (ms : Array MethodInfo := #[]) (fl : Nat := 33) (sup : Nat := 0) (ifs : Array Nat := #[]) (fds : Array FieldInfo := #[]) : ClassFile where
  minorVersion := 0
  majorVersion := 65
  constantPool := pool
  accessFlags := fl
  thisClass := this
  superClass := sup
  interfaces := ifs
  fields := fds
  methods := ms
  attributes := attrs
def plain (name : String) (sup : Option ClassId) : Class where
  name := name
  kind := .ordinary
  loader := none
  accessFlags := 33
  super := sup
  interfaces := #[]
  cf := none
  fields := #[]
  methods := #[]
  instanceTypes := #[]
  staticTypes := #[]
  resolved := #[]
  callSites := []
  init := .initialized
  statics := none
  mirror := none

def pool0 : Array CpInfo := pool [(5, u "<init>"), (0, u "()V"), (1, .class_ 10), (1, u "java/lang/Object"), (85, u "clone"), (0, u "()Ljava/lang/Object;")] 26

def k0c0 : Code := { maxStack := 0, maxLocals := 1, code := object_method_1_code, exceptionTable := #[], attributes := #[] }
def k0m0 : Method := { name := "<init>", desc := "()V", sig := { parameters := [], returnType := none }, accessFlags := 1, code := some k0c0 }
def k0m1 : Method := { name := "clone", desc := "()Ljava/lang/Object;", sig := { parameters := [], returnType := some (.object "java/lang/Object") }, accessFlags := 260, code := none }
/-- java/lang/Object -/
def k0 : Class := { plain "java/lang/Object" none with
  accessFlags := 33
  interfaces := #[]
  cf := some (fileOf pool0 8 #[] #[{ accessFlags := 1, nameIndex := 5, descriptorIndex := 6, attributes := #[] }, { accessFlags := 260, nameIndex := 96, descriptorIndex := 97, attributes := #[] }] 33 0 #[] #[])
  fields := #[]
  methods := #[k0m0, k0m1]
  instanceTypes := #[]
  staticTypes := #[]
  resolved := Array.replicate 124 none
  statics := none }

def pool1 : Array CpInfo := pool [(2, .class_ 4), (1, u "java/lang/Object"), (0, u "<init>"), (0, u "()V"), (2, .long 9223372036854775807), (1, .long 1000001), (1, .methodref 14 15), (0, .class_ 16), (0, .nameAndType 17 18), (0, u "com/example/planstitch/planstitch/core/catalog/CostModelPricesBytesPinLaw"), (0, u "unit"), (0, u "(J)J"), (0, .long 1000000), (1, .class_ 22), (0, u "com/example/planstitch/planstitch/core/catalog/CostModel"), (0, .methodref 21 24), (0, .nameAndType 5 25), (0, u "(JJJJ)V"), (0, .methodref 21 27), (0, .nameAndType 5 28), (0, u "(JJ)V"), (0, .methodref 21 30), (0, .nameAndType 31 32), (0, u "pricesBytes"), (0, u "()Z"), (2, u "law"), (0, u "(JJJJI)Z")] 3

def k1m0 : Method := { name := "<init>", desc := "()V", sig := { parameters := [], returnType := none }, accessFlags := 2, code := none }
def k1c1 : Code := { maxStack := 4, maxLocals := 2, code := method_2_code, exceptionTable := #[], attributes := #[] }
def k1m1 : Method := { name := "unit", desc := "(J)J", sig := { parameters := [.long], returnType := some .long }, accessFlags := 10, code := some k1c1 }
def k1c2 : Code := { maxStack := 10, maxLocals := 20, code := code, exceptionTable := #[], attributes := #[] }
def k1m2 : Method := { name := "law", desc := "(JJJJI)Z", sig := { parameters := [.long, .long, .long, .long, .int], returnType := some .boolean }, accessFlags := 9, code := some k1c2 }
/-- com/example/planstitch/planstitch/core/catalog/CostModelPricesBytesPinLaw -/
def k1 : Class := { plain "com/example/planstitch/planstitch/core/catalog/CostModelPricesBytesPinLaw" (some 0) with
  accessFlags := 49
  interfaces := #[]
  cf := some (fileOf pool1 14 #[] #[{ accessFlags := 2, nameIndex := 5, descriptorIndex := 6, attributes := #[] }, { accessFlags := 10, nameIndex := 17, descriptorIndex := 18, attributes := #[] }, { accessFlags := 9, nameIndex := 35, descriptorIndex := 36, attributes := #[] }] 49 2 #[] #[])
  fields := #[]
  methods := #[k1m0, k1m1, k1m2]
  instanceTypes := #[]
  staticTypes := #[]
  resolved := Array.replicate 40 none
  statics := none }

def pool2 : Array CpInfo := pool [(1, .methodref 2 3), (0, .class_ 4), (0, .nameAndType 5 6), (0, u "java/lang/Object"), (0, u "<init>"), (0, u "()V"), (0, .class_ 8), (0, u "java/lang/Record")] 13

def k2c0 : Code := { maxStack := 1, maxLocals := 1, code := jdk_30_method_1_code, exceptionTable := #[], attributes := #[] }
def k2m0 : Method := { name := "<init>", desc := "()V", sig := { parameters := [], returnType := none }, accessFlags := 4, code := some k2c0 }
/-- java/lang/Record -/
def k2 : Class := { plain "java/lang/Record" (some 0) with
  accessFlags := 1057
  interfaces := #[]
  cf := some (fileOf pool2 7 #[] #[{ accessFlags := 4, nameIndex := 5, descriptorIndex := 6, attributes := #[] }] 1057 2 #[] #[])
  fields := #[]
  methods := #[k2m0]
  instanceTypes := #[]
  staticTypes := #[]
  resolved := Array.replicate 22 none
  statics := none }

def pool3 : Array CpInfo := pool [(1, .methodref 2 3), (0, .class_ 4), (0, .nameAndType 5 6), (0, u "java/lang/Record"), (0, u "<init>"), (0, u "()V"), (0, .methodref 8 9), (0, .class_ 10), (0, .nameAndType 11 12), (0, u "com/example/planstitch/planstitch/core/catalog/CostModel"), (0, u "isInRange"), (0, u "(J)Z"), (0, .string 14), (0, u "a tuple"), (0, .class_ 16), (0, u "java/lang/StringBuilder"), (0, .methodref 15 3), (0, .methodref 15 19), (0, .nameAndType 20 21), (0, u "append"), (0, u "(J)Ljava/lang/StringBuilder;"), (0, .string 23), (0, u " to access and "), (0, .methodref 15 25), (0, .nameAndType 20 26), (0, u "(Ljava/lang/String;)Ljava/lang/StringBuilder;"), (0, .string 28), (0, u " to move"), (0, .methodref 15 30), (0, .nameAndType 31 32), (0, u "toString"), (0, u "()Ljava/lang/String;"), (0, .methodref 8 34), (0, .nameAndType 35 36), (0, u "requireInRange"), (0, u "(ZLjava/lang/String;Ljava/lang/String;)V"), (0, .string 38), (0, u "a message"), (0, .methodref 40 41), (0, .class_ 42), (0, .nameAndType 31 43), (0, u "java/lang/Long"), (0, u "(J)Ljava/lang/String;"), (0, .string 45), (0, u "a byte moved"), (0, .fieldref 8 47), (0, .nameAndType 48 49), (0, u "tupleAccess"), (0, u "J"), (0, .fieldref 8 51), (0, .nameAndType 52 49), (0, u "tupleTransfer"), (0, .fieldref 8 54), (0, .nameAndType 55 49), (0, u "message"), (0, .fieldref 8 57), (0, .nameAndType 58 49), (0, u "byteTransfer"), (0, .methodref 8 60), (0, .nameAndType 5 61), (0, u "(JJJJ)V"), (0, .long 1000000), (25, u "(JJ)V"), (2, u "DEFAULT"), (0, u "Lcom/example/planstitch/planstitch/core/catalog/CostModel;"), (0, u "GREATEST_UNITS"), (5, u "pricesBytes"), (0, u "()Z")] 27

def k3c0 : Code := { maxStack := 5, maxLocals := 9, code := prog_57_method_1_code, exceptionTable := #[], attributes := #[] }
def k3m0 : Method := { name := "<init>", desc := "(JJJJ)V", sig := { parameters := [.long, .long, .long, .long], returnType := none }, accessFlags := 1, code := some k3c0 }
def k3c1 : Code := { maxStack := 9, maxLocals := 5, code := prog_57_method_2_code, exceptionTable := #[], attributes := #[] }
def k3m1 : Method := { name := "<init>", desc := "(JJ)V", sig := { parameters := [.long, .long], returnType := none }, accessFlags := 1, code := some k3c1 }
def k3c2 : Code := { maxStack := 4, maxLocals := 1, code := prog_57_method_3_code, exceptionTable := #[], attributes := #[] }
def k3m2 : Method := { name := "pricesBytes", desc := "()Z", sig := { parameters := [], returnType := some .boolean }, accessFlags := 1, code := some k3c2 }
def k3c3 : Code := { maxStack := 4, maxLocals := 2, code := prog_57_method_4_code, exceptionTable := #[], attributes := #[] }
def k3m3 : Method := { name := "isInRange", desc := "(J)Z", sig := { parameters := [.long], returnType := some .boolean }, accessFlags := 10, code := some k3c3 }
def k3c4 : Code := { maxStack := 5, maxLocals := 3, code := prog_57_method_5_code, exceptionTable := #[], attributes := #[] }
def k3m4 : Method := { name := "requireInRange", desc := "(ZLjava/lang/String;Ljava/lang/String;)V", sig := { parameters := [.boolean, (.object "java/lang/String"), (.object "java/lang/String")], returnType := none }, accessFlags := 10, code := some k3c4 }
/-- com/example/planstitch/planstitch/core/catalog/CostModel -/
def k3 : Class := { plain "com/example/planstitch/planstitch/core/catalog/CostModel" (some 2) with
  accessFlags := 49
  interfaces := #[]
  cf := some (fileOf pool3 8 #[] #[{ accessFlags := 1, nameIndex := 5, descriptorIndex := 61, attributes := #[] }, { accessFlags := 1, nameIndex := 5, descriptorIndex := 88, attributes := #[] }, { accessFlags := 1, nameIndex := 99, descriptorIndex := 100, attributes := #[] }, { accessFlags := 10, nameIndex := 11, descriptorIndex := 12, attributes := #[] }, { accessFlags := 10, nameIndex := 35, descriptorIndex := 36, attributes := #[] }] 49 2 #[] #[{ accessFlags := 18, nameIndex := 48, descriptorIndex := 49, attributes := #[] }, { accessFlags := 18, nameIndex := 52, descriptorIndex := 49, attributes := #[] }, { accessFlags := 18, nameIndex := 55, descriptorIndex := 49, attributes := #[] }, { accessFlags := 18, nameIndex := 58, descriptorIndex := 49, attributes := #[] }, { accessFlags := 25, nameIndex := 91, descriptorIndex := 92, attributes := #[] }, { accessFlags := 25, nameIndex := 93, descriptorIndex := 49, attributes := #[] }])
  fields := #[{ name := "tupleAccess", type := .long, accessFlags := 18, slot := 0, constantValue := 0 }, { name := "tupleTransfer", type := .long, accessFlags := 18, slot := 1, constantValue := 0 }, { name := "message", type := .long, accessFlags := 18, slot := 2, constantValue := 0 }, { name := "byteTransfer", type := .long, accessFlags := 18, slot := 3, constantValue := 0 }, { name := "DEFAULT", type := (.object "com/example/planstitch/planstitch/core/catalog/CostModel"), accessFlags := 25, slot := 0, constantValue := 0 }, { name := "GREATEST_UNITS", type := .long, accessFlags := 25, slot := 1, constantValue := 0 }]
  methods := #[k3m0, k3m1, k3m2, k3m3, k3m4]
  instanceTypes := #[.long, .long, .long, .long]
  staticTypes := #[(.object "com/example/planstitch/planstitch/core/catalog/CostModel"), .long]
  resolved := Array.replicate 128 none
  statics := none }

def pool4 : Array CpInfo := pool [(1, .class_ 2), (0, u "java/io/Serializable"), (0, .class_ 4), (0, u "java/lang/Object")] 2

/-- java/io/Serializable -/
def k4 : Class := { plain "java/io/Serializable" (some 0) with
  accessFlags := 1537
  interfaces := #[]
  cf := some (fileOf pool4 1 #[] #[] 1537 3 #[] #[])
  fields := #[]
  methods := #[]
  instanceTypes := #[]
  staticTypes := #[]
  resolved := Array.replicate 7 none
  statics := none }

def pool5 : Array CpInfo := pool [(1, .class_ 2), (0, u "java/lang/Comparable"), (0, .class_ 4), (0, u "java/lang/Object")] 7

/-- java/lang/Comparable -/
def k5 : Class := { plain "java/lang/Comparable" (some 0) with
  accessFlags := 1537
  interfaces := #[]
  cf := some (fileOf pool5 1 #[] #[] 1537 3 #[] #[])
  fields := #[]
  methods := #[]
  instanceTypes := #[]
  staticTypes := #[]
  resolved := Array.replicate 12 none
  statics := none }

def pool6 : Array CpInfo := pool [(2, .class_ 4), (1, u "java/lang/CharSequence"), (42, .class_ 48), (0, u "java/lang/CharSequence$1CodePointIterator"), (10, .class_ 60), (0, u "java/lang/CharSequence$1CharIterator"), (5, .class_ 67), (0, u "java/lang/Object")] 63

/-- java/lang/CharSequence -/
def k6 : Class := { plain "java/lang/CharSequence" (some 0) with
  accessFlags := 1537
  interfaces := #[]
  cf := some (fileOf pool6 2 #[.nestMembers #[47, 59]] #[] 1537 66 #[] #[])
  fields := #[]
  methods := #[]
  instanceTypes := #[]
  staticTypes := #[]
  resolved := Array.replicate 131 none
  statics := none }

def pool7 : Array CpInfo := pool [(1, .class_ 2), (0, u "java/lang/constant/Constable"), (0, .class_ 4), (0, u "java/lang/Object")] 6

/-- java/lang/constant/Constable -/
def k7 : Class := { plain "java/lang/constant/Constable" (some 0) with
  accessFlags := 1537
  interfaces := #[]
  cf := some (fileOf pool7 1 #[] #[] 1537 3 #[] #[])
  fields := #[]
  methods := #[]
  instanceTypes := #[]
  staticTypes := #[]
  resolved := Array.replicate 11 none
  statics := none }

def pool8 : Array CpInfo := pool [(1, .class_ 2), (0, u "java/lang/constant/ConstantDesc"), (0, .class_ 4), (0, u "java/lang/Object")] 32

/-- java/lang/constant/ConstantDesc -/
def k8 : Class := { plain "java/lang/constant/ConstantDesc" (some 0) with
  accessFlags := 1537
  interfaces := #[]
  cf := some (fileOf pool8 1 #[] #[] 1537 3 #[] #[])
  fields := #[]
  methods := #[]
  instanceTypes := #[]
  staticTypes := #[]
  resolved := Array.replicate 37 none
  statics := none }

def pool9 : Array CpInfo := pool [(1, .methodref 2 3), (0, .class_ 4), (0, .nameAndType 5 6), (0, u "java/lang/Object"), (0, u "<init>"), (0, u "()V"), (2, .fieldref 10 11), (0, .class_ 12), (0, .nameAndType 13 14), (0, u "java/lang/String"), (0, u "value"), (0, u "[B"), (0, .fieldref 10 16), (0, .nameAndType 17 18), (0, u "coder"), (0, u "B"), (2, u "hash"), (0, u "I"), (2, u "hashIsZero"), (0, u "Z"), (11, .fieldref 10 39), (0, .nameAndType 40 26), (0, u "COMPACT_STRINGS"), (13, .methodref 55 56), (0, .class_ 57), (0, .nameAndType 58 59), (0, u "java/util/Arrays"), (0, u "copyOfRange"), (0, u "([BII)[B"), (82, u "()Z"), (50, .class_ 195), (1, u "java/lang/System"), (15, u "([BB)V"), (0, .methodref 193 213), (0, .nameAndType 214 215), (0, u "arraycopy"), (0, u "(Ljava/lang/Object;ILjava/lang/Object;II)V"), (118, u "()I"), (0, .methodref 10 336), (0, .nameAndType 17 337), (0, u "()B"), (2, u "()[B"), (148, .methodref 10 490), (0, .nameAndType 5 491), (0, u "(Ljava/lang/AbstractStringBuilder;Ljava/lang/Void;)V"), (1, .nameAndType 494 142), (0, u "isLatin1"), (11, .nameAndType 507 334), (0, u "length"), (24, u "getBytes"), (16, .methodref 550 506), (0, .class_ 551), (0, u "java/lang/AbstractStringBuilder"), (0, .methodref 550 553), (0, .nameAndType 554 340), (0, u "getValue"), (20, .class_ 576), (0, u "java/lang/CharSequence"), (22, u "CASE_INSENSITIVE_ORDER"), (0, u "Ljava/util/Comparator;"), (220, u "([BIB)V"), (225, .methodref 550 493), (53, u "serialPersistentFields"), (0, u "[Ljava/io/ObjectStreamField;"), (0, .class_ 1104), (0, u "java/lang/String$CaseInsensitiveComparator"), (1, .class_ 1107), (0, u "java/io/Serializable"), (0, .class_ 1109), (0, u "java/lang/Comparable"), (0, .class_ 1111), (0, u "java/lang/constant/Constable"), (0, .class_ 1113), (0, u "java/lang/constant/ConstantDesc"), (2, u "serialVersionUID"), (0, u "J"), (3, u "REPL"), (0, u "C"), (2, u "LATIN1"), (1, u "UTF16"), (105, u "(Ljava/lang/StringBuilder;)V")] 217

def k9m0 : Method := { name := "<init>", desc := "()V", sig := { parameters := [], returnType := none }, accessFlags := 1, code := none }
def k9c1 : Code := { maxStack := 3, maxLocals := 2, code := jdk_42_method_53_code, exceptionTable := #[], attributes := #[] }
def k9m1 : Method := { name := "<init>", desc := "(Ljava/lang/StringBuilder;)V", sig := { parameters := [(.object "java/lang/StringBuilder")], returnType := none }, accessFlags := 1, code := some k9c1 }
def k9c2 : Code := { maxStack := 2, maxLocals := 1, code := jdk_42_method_54_code, exceptionTable := #[], attributes := #[] }
def k9m2 : Method := { name := "length", desc := "()I", sig := { parameters := [], returnType := some .int }, accessFlags := 1, code := some k9c2 }
def k9c3 : Code := { maxStack := 5, maxLocals := 4, code := jdk_42_method_147_code, exceptionTable := #[], attributes := #[] }
def k9m3 : Method := { name := "getBytes", desc := "([BIB)V", sig := { parameters := [(.array .byte), .int, .byte], returnType := none }, accessFlags := 0, code := some k9c3 }
def k9c4 : Code := { maxStack := 5, maxLocals := 5, code := jdk_42_method_150_code, exceptionTable := #[], attributes := #[] }
def k9m4 : Method := { name := "<init>", desc := "(Ljava/lang/AbstractStringBuilder;Ljava/lang/Void;)V", sig := { parameters := [(.object "java/lang/AbstractStringBuilder"), (.object "java/lang/Void")], returnType := none }, accessFlags := 0, code := some k9c4 }
def k9c5 : Code := { maxStack := 2, maxLocals := 3, code := jdk_42_method_151_code, exceptionTable := #[], attributes := #[] }
def k9m5 : Method := { name := "<init>", desc := "([BB)V", sig := { parameters := [(.array .byte), .byte], returnType := none }, accessFlags := 0, code := some k9c5 }
def k9c6 : Code := { maxStack := 1, maxLocals := 1, code := jdk_42_method_152_code, exceptionTable := #[], attributes := #[] }
def k9m6 : Method := { name := "coder", desc := "()B", sig := { parameters := [], returnType := some .byte }, accessFlags := 0, code := some k9c6 }
/-- java/lang/String -/
def k9 : Class := { plain "java/lang/String" (some 0) with
  accessFlags := 49
  interfaces := #[4, 5, 6, 7, 8]
  cf := some (fileOf pool9 10 #[.nestMembers #[1103]] #[{ accessFlags := 1, nameIndex := 5, descriptorIndex := 6, attributes := #[] }, { accessFlags := 1, nameIndex := 5, descriptorIndex := 1233, attributes := #[] }, { accessFlags := 1, nameIndex := 507, descriptorIndex := 334, attributes := #[] }, { accessFlags := 0, nameIndex := 532, descriptorIndex := 821, attributes := #[] }, { accessFlags := 0, nameIndex := 5, descriptorIndex := 491, attributes := #[] }, { accessFlags := 0, nameIndex := 5, descriptorIndex := 211, attributes := #[] }, { accessFlags := 0, nameIndex := 17, descriptorIndex := 337, attributes := #[] }] 49 2 #[1106, 1108, 575, 1110, 1112] #[{ accessFlags := 18, nameIndex := 13, descriptorIndex := 14, attributes := #[] }, { accessFlags := 18, nameIndex := 17, descriptorIndex := 18, attributes := #[] }, { accessFlags := 2, nameIndex := 21, descriptorIndex := 22, attributes := #[] }, { accessFlags := 2, nameIndex := 25, descriptorIndex := 26, attributes := #[] }, { accessFlags := 26, nameIndex := 1116, descriptorIndex := 1117, attributes := #[] }, { accessFlags := 24, nameIndex := 40, descriptorIndex := 26, attributes := #[] }, { accessFlags := 26, nameIndex := 1101, descriptorIndex := 1102, attributes := #[] }, { accessFlags := 26, nameIndex := 1121, descriptorIndex := 1122, attributes := #[] }, { accessFlags := 25, nameIndex := 599, descriptorIndex := 600, attributes := #[] }, { accessFlags := 24, nameIndex := 1125, descriptorIndex := 18, attributes := #[] }, { accessFlags := 24, nameIndex := 1127, descriptorIndex := 18, attributes := #[] }])
  fields := #[{ name := "value", type := (.array .byte), accessFlags := 18, slot := 0, constantValue := 0 }, { name := "coder", type := .byte, accessFlags := 18, slot := 1, constantValue := 0 }, { name := "hash", type := .int, accessFlags := 2, slot := 2, constantValue := 0 }, { name := "hashIsZero", type := .boolean, accessFlags := 2, slot := 3, constantValue := 0 }, { name := "serialVersionUID", type := .long, accessFlags := 26, slot := 0, constantValue := 0 }, { name := "COMPACT_STRINGS", type := .boolean, accessFlags := 24, slot := 1, constantValue := 0 }, { name := "serialPersistentFields", type := (.array (.object "java/io/ObjectStreamField")), accessFlags := 26, slot := 2, constantValue := 0 }, { name := "REPL", type := .char, accessFlags := 26, slot := 3, constantValue := 0 }, { name := "CASE_INSENSITIVE_ORDER", type := (.object "java/util/Comparator"), accessFlags := 25, slot := 4, constantValue := 0 }, { name := "LATIN1", type := .byte, accessFlags := 24, slot := 5, constantValue := 0 }, { name := "UTF16", type := .byte, accessFlags := 24, slot := 6, constantValue := 0 }]
  methods := #[k9m0, k9m1, k9m2, k9m3, k9m4, k9m5, k9m6]
  instanceTypes := #[(.array .byte), .byte, .int, .boolean]
  staticTypes := #[.long, .boolean, (.array (.object "java/io/ObjectStreamField")), .char, (.object "java/util/Comparator"), .byte, .byte]
  resolved := Array.replicate 1451 none
  statics := some 0 }

def pool10 : Array CpInfo := pool [(1, .class_ 2), (0, u "java/lang/Appendable"), (0, .class_ 4), (0, u "java/lang/Object")] 9

/-- java/lang/Appendable -/
def k10 : Class := { plain "java/lang/Appendable" (some 0) with
  accessFlags := 1537
  interfaces := #[]
  cf := some (fileOf pool10 1 #[] #[] 1537 3 #[] #[])
  fields := #[]
  methods := #[]
  instanceTypes := #[]
  staticTypes := #[]
  resolved := Array.replicate 14 none
  statics := none }

def pool11 : Array CpInfo := pool [(1, .class_ 2), (0, u "java/lang/String"), (0, .methodref 4 5), (0, .class_ 6), (0, .nameAndType 7 8), (0, u "java/lang/Object"), (0, u "<init>"), (0, u "()V"), (1, .class_ 12), (1, u "java/lang/AbstractStringBuilder"), (0, u "EMPTYVALUE"), (0, u "[B"), (0, .fieldref 10 16), (0, .nameAndType 17 14), (0, u "value"), (0, .fieldref 1 19), (0, .nameAndType 20 21), (0, u "COMPACT_STRINGS"), (0, u "Z"), (0, .fieldref 10 23), (0, .nameAndType 24 25), (0, u "coder"), (0, u "B"), (6, .methodref 1 33), (0, .nameAndType 34 35), (0, u "length"), (0, u "()I"), (3, .integer 2147483647), (0, .methodref 1 41), (0, .nameAndType 24 42), (0, u "()B"), (2, u "append"), (0, u "(Ljava/lang/String;)Ljava/lang/AbstractStringBuilder;"), (1, .class_ 49), (0, u "java/lang/CharSequence"), (19, u "(Ljava/lang/String;)V"), (5, u "maybeLatin1"), (3, .fieldref 10 80), (0, .nameAndType 81 82), (0, u "count"), (0, u "I"), (0, .methodref 10 84), (0, .nameAndType 85 86), (0, u "isLatin1"), (0, u "()Z"), (13, .methodref 10 101), (0, .nameAndType 102 103), (0, u "ensureCapacityInternal"), (0, u "(I)V"), (0, .methodref 10 105), (0, .nameAndType 106 107), (0, u "newCapacity"), (0, u "(I)I"), (0, .methodref 109 110), (0, .class_ 111), (0, .nameAndType 112 113), (0, u "java/util/Arrays"), (0, u "copyOf"), (0, u "([BI)[B"), (0, .methodref 115 116), (0, .class_ 117), (0, .nameAndType 118 119), (0, u "jdk/internal/util/ArraysSupport"), (0, u "newLength"), (0, u "(III)I"), (68, u "getChars"), (19, .methodref 10 209), (0, .nameAndType 210 211), (0, u "putStringAt"), (0, u "(ILjava/lang/String;)V"), (5, u "inflateIfNeededFor"), (2, .nameAndType 221 222), (0, u "getBytes"), (0, u "([BIB)V"), (24, u "stringSize"), (6, .methodref 255 256), (0, .class_ 257), (0, .nameAndType 247 258), (0, u "java/lang/Long"), (0, u "(J)I"), (0, .methodref 255 260), (0, .nameAndType 188 261), (0, u "(JI[B)I"), (135, .methodref 10 398), (0, .nameAndType 217 69), (0, .methodref 1 220), (3, u "()[B"), (40, .class_ 445), (0, u "java/lang/Appendable"), (67, u "(J)Ljava/lang/AbstractStringBuilder;"), (38, u "getValue")] 56

def k11m0 : Method := { name := "<init>", desc := "()V", sig := { parameters := [], returnType := none }, accessFlags := 0, code := none }
def k11c1 : Code := { maxStack := 2, maxLocals := 2, code := jdk_68_method_2_code, exceptionTable := #[], attributes := #[] }
def k11m1 : Method := { name := "<init>", desc := "(I)V", sig := { parameters := [.int], returnType := none }, accessFlags := 0, code := some k11c1 }
def k11c2 : Code := { maxStack := 1, maxLocals := 1, code := jdk_68_method_6_code, exceptionTable := #[], attributes := #[] }
def k11m2 : Method := { name := "length", desc := "()I", sig := { parameters := [], returnType := some .int }, accessFlags := 1, code := some k11c2 }
def k11c3 : Code := { maxStack := 4, maxLocals := 3, code := jdk_68_method_9_code, exceptionTable := #[], attributes := #[] }
def k11m3 : Method := { name := "ensureCapacityInternal", desc := "(I)V", sig := { parameters := [.int], returnType := none }, accessFlags := 2, code := some k11c3 }
def k11c4 : Code := { maxStack := 5, maxLocals := 6, code := jdk_68_method_10_code, exceptionTable := #[], attributes := #[] }
def k11m4 : Method := { name := "newCapacity", desc := "(I)I", sig := { parameters := [.int], returnType := some .int }, accessFlags := 2, code := some k11c4 }
def k11c5 : Code := { maxStack := 3, maxLocals := 3, code := jdk_68_method_22_code, exceptionTable := #[], attributes := #[] }
def k11m5 : Method := { name := "append", desc := "(Ljava/lang/String;)Ljava/lang/AbstractStringBuilder;", sig := { parameters := [(.object "java/lang/String")], returnType := some (.object "java/lang/AbstractStringBuilder") }, accessFlags := 1, code := some k11c5 }
def k11c6 : Code := { maxStack := 5, maxLocals := 5, code := jdk_68_method_33_code, exceptionTable := #[], attributes := #[] }
def k11m6 : Method := { name := "append", desc := "(J)Ljava/lang/AbstractStringBuilder;", sig := { parameters := [.long], returnType := some (.object "java/lang/AbstractStringBuilder") }, accessFlags := 1, code := some k11c6 }
def k11c7 : Code := { maxStack := 1, maxLocals := 1, code := jdk_68_method_64_code, exceptionTable := #[], attributes := #[] }
def k11m7 : Method := { name := "getValue", desc := "()[B", sig := { parameters := [], returnType := some (.array .byte) }, accessFlags := 16, code := some k11c7 }
def k11c8 : Code := { maxStack := 1, maxLocals := 1, code := jdk_68_method_68_code, exceptionTable := #[], attributes := #[] }
def k11m8 : Method := { name := "isLatin1", desc := "()Z", sig := { parameters := [], returnType := some .boolean }, accessFlags := 16, code := some k11c8 }
def k11c9 : Code := { maxStack := 2, maxLocals := 2, code := jdk_68_method_71_code, exceptionTable := #[], attributes := #[] }
def k11m9 : Method := { name := "inflateIfNeededFor", desc := "(Ljava/lang/String;)V", sig := { parameters := [(.object "java/lang/String")], returnType := none }, accessFlags := 2, code := some k11c9 }
def k11c10 : Code := { maxStack := 4, maxLocals := 3, code := jdk_68_method_73_code, exceptionTable := #[], attributes := #[] }
def k11m10 : Method := { name := "putStringAt", desc := "(ILjava/lang/String;)V", sig := { parameters := [.int, (.object "java/lang/String")], returnType := none }, accessFlags := 2, code := some k11c10 }
/-- java/lang/AbstractStringBuilder -/
def k11 : Class := { plain "java/lang/AbstractStringBuilder" (some 0) with
  accessFlags := 1056
  interfaces := #[10, 6]
  cf := some (fileOf pool11 10 #[] #[{ accessFlags := 0, nameIndex := 7, descriptorIndex := 8, attributes := #[] }, { accessFlags := 0, nameIndex := 7, descriptorIndex := 103, attributes := #[] }, { accessFlags := 1, nameIndex := 34, descriptorIndex := 35, attributes := #[] }, { accessFlags := 2, nameIndex := 102, descriptorIndex := 103, attributes := #[] }, { accessFlags := 2, nameIndex := 106, descriptorIndex := 107, attributes := #[] }, { accessFlags := 1, nameIndex := 45, descriptorIndex := 46, attributes := #[] }, { accessFlags := 1, nameIndex := 45, descriptorIndex := 513, attributes := #[] }, { accessFlags := 16, nameIndex := 552, descriptorIndex := 403, attributes := #[] }, { accessFlags := 16, nameIndex := 85, descriptorIndex := 86, attributes := #[] }, { accessFlags := 2, nameIndex := 217, descriptorIndex := 69, attributes := #[] }, { accessFlags := 2, nameIndex := 210, descriptorIndex := 211, attributes := #[] }] 1056 4 #[444, 48] #[{ accessFlags := 0, nameIndex := 17, descriptorIndex := 14, attributes := #[] }, { accessFlags := 0, nameIndex := 24, descriptorIndex := 25, attributes := #[] }, { accessFlags := 0, nameIndex := 75, descriptorIndex := 21, attributes := #[] }, { accessFlags := 0, nameIndex := 81, descriptorIndex := 82, attributes := #[] }, { accessFlags := 26, nameIndex := 13, descriptorIndex := 14, attributes := #[] }])
  fields := #[{ name := "value", type := (.array .byte), accessFlags := 0, slot := 0, constantValue := 0 }, { name := "coder", type := .byte, accessFlags := 0, slot := 1, constantValue := 0 }, { name := "maybeLatin1", type := .boolean, accessFlags := 0, slot := 2, constantValue := 0 }, { name := "count", type := .int, accessFlags := 0, slot := 3, constantValue := 0 }, { name := "EMPTYVALUE", type := (.array .byte), accessFlags := 26, slot := 0, constantValue := 0 }]
  methods := #[k11m0, k11m1, k11m2, k11m3, k11m4, k11m5, k11m6, k11m7, k11m8, k11m9, k11m10]
  instanceTypes := #[(.array .byte), .byte, .boolean, .int]
  staticTypes := #[(.array .byte)]
  resolved := Array.replicate 609 none
  statics := none }

def pool12 : Array CpInfo := pool [(1, .methodref 2 3), (0, .class_ 4), (0, .nameAndType 5 6), (0, u "java/lang/AbstractStringBuilder"), (0, u "<init>"), (0, u "(I)V"), (11, .class_ 20), (1, u "java/lang/String"), (3, .class_ 26), (1, u "java/lang/StringBuilder"), (0, u "append"), (0, u "(Ljava/lang/String;)Ljava/lang/StringBuilder;"), (0, .methodref 2 30), (0, .nameAndType 27 31), (0, u "(Ljava/lang/String;)Ljava/lang/AbstractStringBuilder;"), (24, .methodref 2 57), (0, .nameAndType 27 58), (0, u "(J)Ljava/lang/AbstractStringBuilder;"), (78, .methodref 18 138), (0, .nameAndType 5 139), (0, u "(Ljava/lang/StringBuilder;)V"), (5, u "()V"), (10, u "()I"), (124, u "(J)Ljava/lang/StringBuilder;"), (61, .methodref 2 344), (0, .nameAndType 345 156), (0, u "length"), (3, .class_ 350), (0, u "java/lang/Appendable"), (0, .class_ 352), (0, u "java/io/Serializable"), (0, .class_ 354), (0, u "java/lang/Comparable"), (0, .class_ 356), (0, u "java/lang/CharSequence"), (0, u "serialVersionUID"), (0, u "J"), (40, u "toString"), (0, u "()Ljava/lang/String;")] 21

def k12c0 : Code := { maxStack := 2, maxLocals := 1, code := jdk_67_method_1_code, exceptionTable := #[], attributes := #[] }
def k12m0 : Method := { name := "<init>", desc := "()V", sig := { parameters := [], returnType := none }, accessFlags := 1, code := some k12c0 }
def k12c1 : Code := { maxStack := 2, maxLocals := 2, code := jdk_67_method_7_code, exceptionTable := #[], attributes := #[] }
def k12m1 : Method := { name := "append", desc := "(Ljava/lang/String;)Ljava/lang/StringBuilder;", sig := { parameters := [(.object "java/lang/String")], returnType := some (.object "java/lang/StringBuilder") }, accessFlags := 1, code := some k12c1 }
def k12c2 : Code := { maxStack := 3, maxLocals := 3, code := jdk_67_method_16_code, exceptionTable := #[], attributes := #[] }
def k12m2 : Method := { name := "append", desc := "(J)Ljava/lang/StringBuilder;", sig := { parameters := [.long], returnType := some (.object "java/lang/StringBuilder") }, accessFlags := 1, code := some k12c2 }
def k12c3 : Code := { maxStack := 3, maxLocals := 1, code := jdk_67_method_42_code, exceptionTable := #[], attributes := #[] }
def k12m3 : Method := { name := "toString", desc := "()Ljava/lang/String;", sig := { parameters := [], returnType := some (.object "java/lang/String") }, accessFlags := 1, code := some k12c3 }
def k12c4 : Code := { maxStack := 1, maxLocals := 1, code := jdk_67_method_93_code, exceptionTable := #[], attributes := #[] }
def k12m4 : Method := { name := "length", desc := "()I", sig := { parameters := [], returnType := some .int }, accessFlags := 4161, code := some k12c4 }
/-- java/lang/StringBuilder -/
def k12 : Class := { plain "java/lang/StringBuilder" (some 11) with
  accessFlags := 49
  interfaces := #[10, 4, 5, 6]
  cf := some (fileOf pool12 24 #[] #[{ accessFlags := 1, nameIndex := 5, descriptorIndex := 145, attributes := #[] }, { accessFlags := 1, nameIndex := 27, descriptorIndex := 28, attributes := #[] }, { accessFlags := 1, nameIndex := 27, descriptorIndex := 281, attributes := #[] }, { accessFlags := 1, nameIndex := 399, descriptorIndex := 400, attributes := #[] }, { accessFlags := 4161, nameIndex := 345, descriptorIndex := 156, attributes := #[] }] 49 2 #[349, 351, 353, 355] #[{ accessFlags := 24, nameIndex := 357, descriptorIndex := 358, attributes := #[] }])
  fields := #[{ name := "serialVersionUID", type := .long, accessFlags := 24, slot := 0, constantValue := 0 }]
  methods := #[k12m0, k12m1, k12m2, k12m3, k12m4]
  instanceTypes := #[(.array .byte), .byte, .boolean, .int]
  staticTypes := #[.long]
  resolved := Array.replicate 422 none
  statics := none }

def pool13 : Array CpInfo := pool [(2, .class_ 4), (1, u "java/lang/Object"), (0, u "<init>"), (0, u "()V"), (1, .class_ 10), (1, u "java/lang/Number"), (2, .class_ 14), (0, u "java/io/Serializable"), (0, u "serialVersionUID"), (0, u "J")] 20

def k13m0 : Method := { name := "<init>", desc := "()V", sig := { parameters := [], returnType := none }, accessFlags := 1, code := none }
/-- java/lang/Number -/
def k13 : Class := { plain "java/lang/Number" (some 0) with
  accessFlags := 1057
  interfaces := #[4]
  cf := some (fileOf pool13 8 #[] #[{ accessFlags := 1, nameIndex := 5, descriptorIndex := 6, attributes := #[] }] 1057 2 #[13] #[{ accessFlags := 26, nameIndex := 15, descriptorIndex := 16, attributes := #[] }])
  fields := #[{ name := "serialVersionUID", type := .long, accessFlags := 26, slot := 0, constantValue := 0 }]
  methods := #[k13m0]
  instanceTypes := #[]
  staticTypes := #[.long]
  resolved := Array.replicate 37 none
  statics := none }

def pool14 : Array CpInfo := pool [(1, .class_ 2), (0, u "java/lang/Long"), (2, .class_ 6), (0, u "java/lang/String"), (4, u "toString"), (0, u "(J)Ljava/lang/String;"), (0, .fieldref 5 14), (0, .nameAndType 15 16), (0, u "COMPACT_STRINGS"), (0, u "Z"), (1, .class_ 20), (1, u "java/lang/Integer"), (32, .long 10), (5, u "<init>"), (41, u "(J)I"), (10, .methodref 5 113), (0, .nameAndType 59 114), (0, u "([BB)V"), (3, .methodref 1 119), (0, .nameAndType 120 101), (0, u "stringSize"), (0, .methodref 1 122), (0, .nameAndType 123 124), (0, u "getChars"), (0, u "(JI[B)I"), (4, .long 18446744071562067968), (3, .fieldref 18 134), (0, .nameAndType 135 136), (0, u "DigitOnes"), (0, u "[B"), (0, .fieldref 18 138), (0, .nameAndType 139 136), (0, u "DigitTens"), (0, .long 18446744073709551606), (94, .class_ 237), (1, u "java/lang/Long$LongCache"), (33, .class_ 272), (0, u "java/lang/Number"), (2, u "value"), (0, u "J"), (84, u "TYPE"), (0, u "Ljava/lang/Class;"), (0, .class_ 364), (0, u "java/lang/Comparable"), (0, .class_ 366), (0, u "java/lang/constant/Constable"), (0, .class_ 368), (0, u "java/lang/constant/ConstantDesc"), (0, u "MIN_VALUE"), (1, u "MAX_VALUE"), (4, u "SIZE"), (0, u "I"), (1, u "BYTES"), (1, u "serialVersionUID")] 142

def k14c0 : Code := { maxStack := 4, maxLocals := 4, code := jdk_35_method_12_code, exceptionTable := #[], attributes := #[] }
def k14m0 : Method := { name := "toString", desc := "(J)Ljava/lang/String;", sig := { parameters := [.long], returnType := some (.object "java/lang/String") }, accessFlags := 9, code := some k14c0 }
def k14c1 : Code := { maxStack := 4, maxLocals := 11, code := jdk_35_method_14_code, exceptionTable := #[], attributes := #[] }
def k14m1 : Method := { name := "getChars", desc := "(JI[B)I", sig := { parameters := [.long, .int, (.array .byte)], returnType := some .int }, accessFlags := 8, code := some k14c1 }
def k14c2 : Code := { maxStack := 4, maxLocals := 6, code := jdk_35_method_15_code, exceptionTable := #[], attributes := #[] }
def k14m2 : Method := { name := "stringSize", desc := "(J)I", sig := { parameters := [.long], returnType := some .int }, accessFlags := 8, code := some k14c2 }
/-- java/lang/Long -/
def k14 : Class := { plain "java/lang/Long" (some 13) with
  accessFlags := 49
  interfaces := #[5, 7, 8]
  cf := some (fileOf pool14 1 #[.nestMembers #[235]] #[{ accessFlags := 9, nameIndex := 11, descriptorIndex := 12, attributes := #[] }, { accessFlags := 8, nameIndex := 123, descriptorIndex := 124, attributes := #[] }, { accessFlags := 8, nameIndex := 120, descriptorIndex := 101, attributes := #[] }] 49 271 #[363, 365, 367] #[{ accessFlags := 25, nameIndex := 369, descriptorIndex := 276, attributes := #[] }, { accessFlags := 25, nameIndex := 371, descriptorIndex := 276, attributes := #[] }, { accessFlags := 25, nameIndex := 361, descriptorIndex := 362, attributes := #[] }, { accessFlags := 18, nameIndex := 275, descriptorIndex := 276, attributes := #[] }, { accessFlags := 25, nameIndex := 376, descriptorIndex := 377, attributes := #[] }, { accessFlags := 25, nameIndex := 379, descriptorIndex := 377, attributes := #[] }, { accessFlags := 26, nameIndex := 381, descriptorIndex := 276, attributes := #[] }])
  fields := #[{ name := "MIN_VALUE", type := .long, accessFlags := 25, slot := 0, constantValue := 0 }, { name := "MAX_VALUE", type := .long, accessFlags := 25, slot := 1, constantValue := 0 }, { name := "TYPE", type := (.object "java/lang/Class"), accessFlags := 25, slot := 2, constantValue := 0 }, { name := "value", type := .long, accessFlags := 18, slot := 0, constantValue := 0 }, { name := "SIZE", type := .int, accessFlags := 25, slot := 3, constantValue := 0 }, { name := "BYTES", type := .int, accessFlags := 25, slot := 4, constantValue := 0 }, { name := "serialVersionUID", type := .long, accessFlags := 26, slot := 5, constantValue := 0 }]
  methods := #[k14m0, k14m1, k14m2]
  instanceTypes := #[.long]
  staticTypes := #[.long, .long, (.object "java/lang/Class"), .int, .int, .long]
  resolved := Array.replicate 524 none
  statics := none }

def pool15 : Array CpInfo := pool [(1, .class_ 2), (0, u "java/lang/Integer"), (16, u "digits"), (0, u "[C"), (64, u "DigitOnes"), (0, u "[B"), (2, u "DigitTens"), (99, .class_ 190), (0, u "java/lang/Integer$IntegerCache"), (3, u "I"), (8, .class_ 204), (0, u "java/lang/Number"), (2, u "value"), (94, u "TYPE"), (0, u "Ljava/lang/Class;"), (0, .class_ 305), (0, u "java/lang/Comparable"), (0, .class_ 307), (0, u "java/lang/constant/Constable"), (0, .class_ 309), (0, u "java/lang/constant/ConstantDesc"), (0, u "MIN_VALUE"), (1, u "MAX_VALUE"), (3, u "SIZE"), (1, u "BYTES"), (1, u "serialVersionUID"), (0, u "J")] 131

/-- java/lang/Integer -/
def k15 : Class := { plain "java/lang/Integer" (some 13) with
  accessFlags := 49
  interfaces := #[5, 7, 8]
  cf := some (fileOf pool15 1 #[.nestMembers #[189]] #[] 49 203 #[304, 306, 308] #[{ accessFlags := 25, nameIndex := 310, descriptorIndex := 194, attributes := #[] }, { accessFlags := 25, nameIndex := 312, descriptorIndex := 194, attributes := #[] }, { accessFlags := 25, nameIndex := 302, descriptorIndex := 303, attributes := #[] }, { accessFlags := 24, nameIndex := 19, descriptorIndex := 20, attributes := #[] }, { accessFlags := 24, nameIndex := 89, descriptorIndex := 86, attributes := #[] }, { accessFlags := 24, nameIndex := 85, descriptorIndex := 86, attributes := #[] }, { accessFlags := 18, nameIndex := 207, descriptorIndex := 194, attributes := #[] }, { accessFlags := 25, nameIndex := 316, descriptorIndex := 194, attributes := #[] }, { accessFlags := 25, nameIndex := 318, descriptorIndex := 194, attributes := #[] }, { accessFlags := 26, nameIndex := 320, descriptorIndex := 321, attributes := #[] }])
  fields := #[{ name := "MIN_VALUE", type := .int, accessFlags := 25, slot := 0, constantValue := 0 }, { name := "MAX_VALUE", type := .int, accessFlags := 25, slot := 1, constantValue := 0 }, { name := "TYPE", type := (.object "java/lang/Class"), accessFlags := 25, slot := 2, constantValue := 0 }, { name := "digits", type := (.array .char), accessFlags := 24, slot := 3, constantValue := 0 }, { name := "DigitTens", type := (.array .byte), accessFlags := 24, slot := 4, constantValue := 0 }, { name := "DigitOnes", type := (.array .byte), accessFlags := 24, slot := 5, constantValue := 0 }, { name := "value", type := .int, accessFlags := 18, slot := 0, constantValue := 0 }, { name := "SIZE", type := .int, accessFlags := 25, slot := 6, constantValue := 0 }, { name := "BYTES", type := .int, accessFlags := 25, slot := 7, constantValue := 0 }, { name := "serialVersionUID", type := .long, accessFlags := 26, slot := 8, constantValue := 0 }]
  methods := #[]
  instanceTypes := #[.int]
  staticTypes := #[.int, .int, (.object "java/lang/Class"), (.array .char), (.array .byte), (.array .byte), .int, .int, .long]
  resolved := Array.replicate 453 none
  statics := some 1 }

def pool16 : Array CpInfo := pool [(2, .class_ 4), (1, u "java/lang/Object"), (0, u "<init>"), (0, u "()V"), (1, .class_ 10), (1, u "java/lang/System"), (0, u "allowSecurityManager"), (0, u "I"), (16, u "cons"), (0, u "Ljava/io/Console;"), (77, .class_ 110), (1, u "java/lang/System$CallersHolder"), (43, u "initialErrStream"), (0, u "Ljava/io/PrintStream;"), (19, u "security"), (0, u "Ljava/lang/SecurityManager;"), (31, .class_ 209), (0, u "java/lang/System$1"), (7, u "props"), (0, u "Ljava/util/Properties;"), (2, u "lineSeparator"), (0, u "Ljava/lang/String;"), (96, .class_ 321), (1, u "java/lang/System$LoggerFinder"), (5, .class_ 328), (0, u "java/lang/System$Logger"), (67, u "err"), (2, u "out"), (91, u "notSupportedJnuEncoding"), (15, u "in"), (17, u "initialIn"), (0, u "Ljava/io/InputStream;"), (35, u "bootLayer"), (0, u "Ljava/lang/ModuleLayer;"), (99, .class_ 664), (0, u "java/lang/System$2"), (9, u "NEVER"), (2, u "MAYBE"), (49, u "arraycopy"), (0, u "(Ljava/lang/Object;ILjava/lang/Object;II)V"), (72, .class_ 802), (0, u "java/lang/System$Logger$Level")] 31

def k16m0 : Method := { name := "<init>", desc := "()V", sig := { parameters := [], returnType := none }, accessFlags := 2, code := none }
def k16m1 : Method := { name := "arraycopy", desc := "(Ljava/lang/Object;ILjava/lang/Object;II)V", sig := { parameters := [(.object "java/lang/Object"), .int, (.object "java/lang/Object"), .int, .int], returnType := none }, accessFlags := 265, code := none }
/-- java/lang/System -/
def k16 : Class := { plain "java/lang/System" (some 0) with
  accessFlags := 49
  interfaces := #[]
  cf := some (fileOf pool16 8 #[.nestMembers #[319, 327, 801, 108, 663, 208]] #[{ accessFlags := 2, nameIndex := 5, descriptorIndex := 6, attributes := #[] }, { accessFlags := 265, nameIndex := 727, descriptorIndex := 728, attributes := #[] }] 49 2 #[] #[{ accessFlags := 25, nameIndex := 507, descriptorIndex := 526, attributes := #[] }, { accessFlags := 25, nameIndex := 399, descriptorIndex := 155, attributes := #[] }, { accessFlags := 25, nameIndex := 396, descriptorIndex := 155, attributes := #[] }, { accessFlags := 10, nameIndex := 525, descriptorIndex := 526, attributes := #[] }, { accessFlags := 26, nameIndex := 674, descriptorIndex := 12, attributes := #[] }, { accessFlags := 26, nameIndex := 677, descriptorIndex := 12, attributes := #[] }, { accessFlags := 10, nameIndex := 11, descriptorIndex := 12, attributes := #[] }, { accessFlags := 74, nameIndex := 175, descriptorIndex := 176, attributes := #[] }, { accessFlags := 10, nameIndex := 491, descriptorIndex := 222, attributes := #[] }, { accessFlags := 74, nameIndex := 29, descriptorIndex := 30, attributes := #[] }, { accessFlags := 74, nameIndex := 154, descriptorIndex := 155, attributes := #[] }, { accessFlags := 10, nameIndex := 217, descriptorIndex := 218, attributes := #[] }, { accessFlags := 10, nameIndex := 221, descriptorIndex := 222, attributes := #[] }, { accessFlags := 8, nameIndex := 562, descriptorIndex := 563, attributes := #[] }])
  fields := #[{ name := "in", type := (.object "java/io/InputStream"), accessFlags := 25, slot := 0, constantValue := 0 }, { name := "out", type := (.object "java/io/PrintStream"), accessFlags := 25, slot := 1, constantValue := 0 }, { name := "err", type := (.object "java/io/PrintStream"), accessFlags := 25, slot := 2, constantValue := 0 }, { name := "initialIn", type := (.object "java/io/InputStream"), accessFlags := 10, slot := 3, constantValue := 0 }, { name := "NEVER", type := .int, accessFlags := 26, slot := 4, constantValue := 0 }, { name := "MAYBE", type := .int, accessFlags := 26, slot := 5, constantValue := 0 }, { name := "allowSecurityManager", type := .int, accessFlags := 10, slot := 6, constantValue := 0 }, { name := "security", type := (.object "java/lang/SecurityManager"), accessFlags := 74, slot := 7, constantValue := 0 }, { name := "notSupportedJnuEncoding", type := (.object "java/lang/String"), accessFlags := 10, slot := 8, constantValue := 0 }, { name := "cons", type := (.object "java/io/Console"), accessFlags := 74, slot := 9, constantValue := 0 }, { name := "initialErrStream", type := (.object "java/io/PrintStream"), accessFlags := 74, slot := 10, constantValue := 0 }, { name := "props", type := (.object "java/util/Properties"), accessFlags := 10, slot := 11, constantValue := 0 }, { name := "lineSeparator", type := (.object "java/lang/String"), accessFlags := 10, slot := 12, constantValue := 0 }, { name := "bootLayer", type := (.object "java/lang/ModuleLayer"), accessFlags := 8, slot := 13, constantValue := 0 }]
  methods := #[k16m0, k16m1]
  instanceTypes := #[]
  staticTypes := #[(.object "java/io/InputStream"), (.object "java/io/PrintStream"), (.object "java/io/PrintStream"), (.object "java/io/InputStream"), .int, .int, .int, (.object "java/lang/SecurityManager"), (.object "java/lang/String"), (.object "java/io/Console"), (.object "java/io/PrintStream"), (.object "java/util/Properties"), (.object "java/lang/String"), (.object "java/lang/ModuleLayer")]
  resolved := Array.replicate 834 none
  statics := none }

def pool17 : Array CpInfo := pool [(9, u "<init>"), (6, .class_ 18), (1, u "java/lang/Object"), (0, u "()V"), (1, .class_ 23), (1, u "jdk/internal/util/ArraysSupport"), (0, u "LOG2_ARRAY_LONG_INDEX_SCALE"), (0, u "I"), (2, u "U"), (0, u "Ljdk/internal/misc/Unsafe;"), (8, u "BIG_ENDIAN"), (0, u "Z"), (8, u "LOG2_BYTE_BIT_SIZE"), (4, u "LOG2_ARRAY_INT_INDEX_SCALE"), (54, u "JLA"), (0, u "Ljdk/internal/access/JavaLangAccess;"), (11, u "LOG2_ARRAY_BOOLEAN_INDEX_SCALE"), (9, u "LOG2_ARRAY_BYTE_INDEX_SCALE"), (5, u "LOG2_ARRAY_CHAR_INDEX_SCALE"), (5, u "LOG2_ARRAY_SHORT_INDEX_SCALE"), (18, u "LOG2_ARRAY_FLOAT_INDEX_SCALE"), (24, u "LOG2_ARRAY_DOUBLE_INDEX_SCALE"), (6, .methodref 195 196), (0, .class_ 197), (0, .nameAndType 198 199), (0, u "java/lang/Math"), (0, u "max"), (0, u "(II)I"), (0, .integer 2147483639), (76, u "T_BOOLEAN"), (2, u "T_CHAR"), (1, u "T_FLOAT"), (1, u "T_DOUBLE"), (1, u "T_BYTE"), (1, u "T_SHORT"), (1, u "T_INT"), (1, u "T_LONG"), (1, u "SOFT_MAX_ARRAY_LENGTH"), (56, u "newLength"), (0, u "(III)I")] 25

def k17m0 : Method := { name := "<init>", desc := "()V", sig := { parameters := [], returnType := none }, accessFlags := 2, code := none }
def k17c1 : Code := { maxStack := 3, maxLocals := 4, code := jdk_48_method_27_code, exceptionTable := #[], attributes := #[] }
def k17m1 : Method := { name := "newLength", desc := "(III)I", sig := { parameters := [.int, .int, .int], returnType := some .int }, accessFlags := 9, code := some k17c1 }
/-- jdk/internal/util/ArraysSupport -/
def k17 : Class := { plain "jdk/internal/util/ArraysSupport" (some 0) with
  accessFlags := 33
  interfaces := #[]
  cf := some (fileOf pool17 21 #[] #[{ accessFlags := 2, nameIndex := 9, descriptorIndex := 19, attributes := #[] }, { accessFlags := 9, nameIndex := 351, descriptorIndex := 352, attributes := #[] }] 33 16 #[] #[{ accessFlags := 24, nameIndex := 28, descriptorIndex := 29, attributes := #[] }, { accessFlags := 26, nameIndex := 38, descriptorIndex := 39, attributes := #[] }, { accessFlags := 25, nameIndex := 121, descriptorIndex := 25, attributes := #[] }, { accessFlags := 25, nameIndex := 131, descriptorIndex := 25, attributes := #[] }, { accessFlags := 25, nameIndex := 137, descriptorIndex := 25, attributes := #[] }, { accessFlags := 25, nameIndex := 143, descriptorIndex := 25, attributes := #[] }, { accessFlags := 25, nameIndex := 53, descriptorIndex := 25, attributes := #[] }, { accessFlags := 25, nameIndex := 24, descriptorIndex := 25, attributes := #[] }, { accessFlags := 25, nameIndex := 162, descriptorIndex := 25, attributes := #[] }, { accessFlags := 25, nameIndex := 187, descriptorIndex := 25, attributes := #[] }, { accessFlags := 26, nameIndex := 48, descriptorIndex := 25, attributes := #[] }, { accessFlags := 25, nameIndex := 277, descriptorIndex := 25, attributes := #[] }, { accessFlags := 25, nameIndex := 280, descriptorIndex := 25, attributes := #[] }, { accessFlags := 25, nameIndex := 282, descriptorIndex := 25, attributes := #[] }, { accessFlags := 25, nameIndex := 284, descriptorIndex := 25, attributes := #[] }, { accessFlags := 25, nameIndex := 286, descriptorIndex := 25, attributes := #[] }, { accessFlags := 25, nameIndex := 288, descriptorIndex := 25, attributes := #[] }, { accessFlags := 25, nameIndex := 290, descriptorIndex := 25, attributes := #[] }, { accessFlags := 25, nameIndex := 292, descriptorIndex := 25, attributes := #[] }, { accessFlags := 26, nameIndex := 108, descriptorIndex := 109, attributes := #[] }, { accessFlags := 25, nameIndex := 294, descriptorIndex := 25, attributes := #[] }])
  fields := #[{ name := "U", type := (.object "jdk/internal/misc/Unsafe"), accessFlags := 24, slot := 0, constantValue := 0 }, { name := "BIG_ENDIAN", type := .boolean, accessFlags := 26, slot := 1, constantValue := 0 }, { name := "LOG2_ARRAY_BOOLEAN_INDEX_SCALE", type := .int, accessFlags := 25, slot := 2, constantValue := 0 }, { name := "LOG2_ARRAY_BYTE_INDEX_SCALE", type := .int, accessFlags := 25, slot := 3, constantValue := 0 }, { name := "LOG2_ARRAY_CHAR_INDEX_SCALE", type := .int, accessFlags := 25, slot := 4, constantValue := 0 }, { name := "LOG2_ARRAY_SHORT_INDEX_SCALE", type := .int, accessFlags := 25, slot := 5, constantValue := 0 }, { name := "LOG2_ARRAY_INT_INDEX_SCALE", type := .int, accessFlags := 25, slot := 6, constantValue := 0 }, { name := "LOG2_ARRAY_LONG_INDEX_SCALE", type := .int, accessFlags := 25, slot := 7, constantValue := 0 }, { name := "LOG2_ARRAY_FLOAT_INDEX_SCALE", type := .int, accessFlags := 25, slot := 8, constantValue := 0 }, { name := "LOG2_ARRAY_DOUBLE_INDEX_SCALE", type := .int, accessFlags := 25, slot := 9, constantValue := 0 }, { name := "LOG2_BYTE_BIT_SIZE", type := .int, accessFlags := 26, slot := 10, constantValue := 0 }, { name := "T_BOOLEAN", type := .int, accessFlags := 25, slot := 11, constantValue := 0 }, { name := "T_CHAR", type := .int, accessFlags := 25, slot := 12, constantValue := 0 }, { name := "T_FLOAT", type := .int, accessFlags := 25, slot := 13, constantValue := 0 }, { name := "T_DOUBLE", type := .int, accessFlags := 25, slot := 14, constantValue := 0 }, { name := "T_BYTE", type := .int, accessFlags := 25, slot := 15, constantValue := 0 }, { name := "T_SHORT", type := .int, accessFlags := 25, slot := 16, constantValue := 0 }, { name := "T_INT", type := .int, accessFlags := 25, slot := 17, constantValue := 0 }, { name := "T_LONG", type := .int, accessFlags := 25, slot := 18, constantValue := 0 }, { name := "JLA", type := (.object "jdk/internal/access/JavaLangAccess"), accessFlags := 26, slot := 19, constantValue := 0 }, { name := "SOFT_MAX_ARRAY_LENGTH", type := .int, accessFlags := 25, slot := 20, constantValue := 0 }]
  methods := #[k17m0, k17m1]
  instanceTypes := #[]
  staticTypes := #[(.object "jdk/internal/misc/Unsafe"), .boolean, .int, .int, .int, .int, .int, .int, .int, .int, .int, .int, .int, .int, .int, .int, .int, .int, .int, (.object "jdk/internal/access/JavaLangAccess"), .int]
  resolved := Array.replicate 378 none
  statics := none }

def pool18 : Array CpInfo := pool [(1, .class_ 2), (0, u "java/lang/Math"), (1, .class_ 6), (1, u "java/lang/Object"), (0, u "<init>"), (0, u "()V"), (89, .class_ 100), (1, u "java/lang/Math$RandomNumberGeneratorHolder"), (71, u "negativeZeroFloatBits"), (0, u "J"), (2, u "negativeZeroDoubleBits"), (21, u "max"), (2, u "min"), (43, u "$assertionsDisabled"), (0, u "Z"), (88, u "(II)I"), (2, u "twoToTheDoubleScaleDown"), (0, u "D"), (4, u "twoToTheDoubleScaleUp"), (9, u "E"), (3, u "PI"), (2, u "TAU"), (2, u "DEGREES_TO_RADIANS"), (0, u "RADIANS_TO_DEGREES")] 94

def k18m0 : Method := { name := "<init>", desc := "()V", sig := { parameters := [], returnType := none }, accessFlags := 2, code := none }
def k18c1 : Code := { maxStack := 2, maxLocals := 2, code := jdk_29_method_65_code, exceptionTable := #[], attributes := #[] }
def k18m1 : Method := { name := "max", desc := "(II)I", sig := { parameters := [.int, .int], returnType := some .int }, accessFlags := 9, code := some k18c1 }
def k18c2 : Code := { maxStack := 2, maxLocals := 2, code := jdk_29_method_69_code, exceptionTable := #[], attributes := #[] }
def k18m2 : Method := { name := "min", desc := "(II)I", sig := { parameters := [.int, .int], returnType := some .int }, accessFlags := 9, code := some k18c2 }
/-- java/lang/Math -/
def k18 : Class := { plain "java/lang/Math" (some 0) with
  accessFlags := 49
  interfaces := #[]
  cf := some (fileOf pool18 1 #[.nestMembers #[98]] #[{ accessFlags := 2, nameIndex := 7, descriptorIndex := 8, attributes := #[] }, { accessFlags := 9, nameIndex := 198, descriptorIndex := 335, attributes := #[] }, { accessFlags := 9, nameIndex := 201, descriptorIndex := 335, attributes := #[] }] 49 4 #[] #[{ accessFlags := 25, nameIndex := 354, descriptorIndex := 339, attributes := #[] }, { accessFlags := 25, nameIndex := 358, descriptorIndex := 339, attributes := #[] }, { accessFlags := 25, nameIndex := 361, descriptorIndex := 339, attributes := #[] }, { accessFlags := 26, nameIndex := 364, descriptorIndex := 339, attributes := #[] }, { accessFlags := 26, nameIndex := 365, descriptorIndex := 339, attributes := #[] }, { accessFlags := 26, nameIndex := 172, descriptorIndex := 173, attributes := #[] }, { accessFlags := 26, nameIndex := 176, descriptorIndex := 173, attributes := #[] }, { accessFlags := 8, nameIndex := 344, descriptorIndex := 339, attributes := #[] }, { accessFlags := 8, nameIndex := 338, descriptorIndex := 339, attributes := #[] }, { accessFlags := 4120, nameIndex := 245, descriptorIndex := 246, attributes := #[] }])
  fields := #[{ name := "E", type := .double, accessFlags := 25, slot := 0, constantValue := 0 }, { name := "PI", type := .double, accessFlags := 25, slot := 1, constantValue := 0 }, { name := "TAU", type := .double, accessFlags := 25, slot := 2, constantValue := 0 }, { name := "DEGREES_TO_RADIANS", type := .double, accessFlags := 26, slot := 3, constantValue := 0 }, { name := "RADIANS_TO_DEGREES", type := .double, accessFlags := 26, slot := 4, constantValue := 0 }, { name := "negativeZeroFloatBits", type := .long, accessFlags := 26, slot := 5, constantValue := 0 }, { name := "negativeZeroDoubleBits", type := .long, accessFlags := 26, slot := 6, constantValue := 0 }, { name := "twoToTheDoubleScaleUp", type := .double, accessFlags := 8, slot := 7, constantValue := 0 }, { name := "twoToTheDoubleScaleDown", type := .double, accessFlags := 8, slot := 8, constantValue := 0 }, { name := "$assertionsDisabled", type := .boolean, accessFlags := 4120, slot := 9, constantValue := 0 }]
  methods := #[k18m0, k18m1, k18m2]
  instanceTypes := #[]
  staticTypes := #[.double, .double, .double, .double, .double, .long, .long, .double, .double, .boolean]
  resolved := Array.replicate 460 none
  statics := none }

def pool19 : Array CpInfo := pool [(2, .class_ 4), (1, u "java/lang/Object"), (0, u "<init>"), (0, u "()V"), (7, .class_ 16), (1, u "java/util/Arrays"), (57, .class_ 76), (1, u "java/util/Arrays$NaturalOrder"), (32, u "()Ljava/lang/Object;"), (3, .class_ 115), (1, u "java/util/Arrays$LegacyMergeSort"), (1, u "Z"), (10, .nameAndType 129 109), (0, u "clone"), (9, u "copyOfRange"), (10, .methodref 151 152), (0, .class_ 153), (0, .nameAndType 154 155), (0, u "java/lang/System"), (0, u "arraycopy"), (0, u "(Ljava/lang/Object;ILjava/lang/Object;II)V"), (146, u "copyOf"), (1, .methodref 305 306), (0, .class_ 307), (0, .nameAndType 308 309), (0, u "java/lang/Math"), (0, u "min"), (0, u "(II)I"), (0, .methodref 311 128), (0, .class_ 312), (0, u "[B"), (26, .methodref 14 340), (0, .nameAndType 341 342), (0, u "copyOfRangeByte"), (0, u "([BII)[B"), (0, .methodref 14 344), (0, .nameAndType 345 346), (0, u "checkLength"), (0, u "(II)V"), (28, .class_ 376), (0, u "java/util/Arrays$ArrayList"), (68, u "$assertionsDisabled"), (269, u "MIN_ARRAY_SORT_GRAN"), (0, u "I"), (2, u "INSERTIONSORT_THRESHOLD"), (149, u "([BI)[B"), (105, .class_ 976), (0, u "java/util/Arrays$ArrayItr")] 52

def k19m0 : Method := { name := "<init>", desc := "()V", sig := { parameters := [], returnType := none }, accessFlags := 2, code := none }
def k19c1 : Code := { maxStack := 6, maxLocals := 3, code := jdk_65_method_121_code, exceptionTable := #[], attributes := #[] }
def k19m1 : Method := { name := "copyOf", desc := "([BI)[B", sig := { parameters := [(.array .byte), .int], returnType := some (.array .byte) }, accessFlags := 9, code := some k19c1 }
def k19c2 : Code := { maxStack := 4, maxLocals := 2, code := jdk_65_method_131_code, exceptionTable := #[], attributes := #[] }
def k19m2 : Method := { name := "checkLength", desc := "(II)V", sig := { parameters := [.int, .int], returnType := none }, accessFlags := 10, code := some k19c2 }
def k19c3 : Code := { maxStack := 3, maxLocals := 3, code := jdk_65_method_132_code, exceptionTable := #[], attributes := #[] }
def k19m3 : Method := { name := "copyOfRange", desc := "([BII)[B", sig := { parameters := [(.array .byte), .int, .int], returnType := some (.array .byte) }, accessFlags := 9, code := some k19c3 }
def k19c4 : Code := { maxStack := 6, maxLocals := 5, code := jdk_65_method_133_code, exceptionTable := #[], attributes := #[] }
def k19m4 : Method := { name := "copyOfRangeByte", desc := "([BII)[B", sig := { parameters := [(.array .byte), .int, .int], returnType := some (.array .byte) }, accessFlags := 10, code := some k19c4 }
/-- java/util/Arrays -/
def k19 : Class := { plain "java/util/Arrays" (some 0) with
  accessFlags := 49
  interfaces := #[]
  cf := some (fileOf pool19 14 #[.nestMembers #[975, 375, 113, 74]] #[{ accessFlags := 2, nameIndex := 5, descriptorIndex := 6, attributes := #[] }, { accessFlags := 9, nameIndex := 302, descriptorIndex := 869, attributes := #[] }, { accessFlags := 10, nameIndex := 345, descriptorIndex := 346, attributes := #[] }, { accessFlags := 9, nameIndex := 139, descriptorIndex := 342, attributes := #[] }, { accessFlags := 10, nameIndex := 341, descriptorIndex := 342, attributes := #[] }] 49 2 #[] #[{ accessFlags := 26, nameIndex := 715, descriptorIndex := 716, attributes := #[] }, { accessFlags := 26, nameIndex := 719, descriptorIndex := 716, attributes := #[] }, { accessFlags := 4120, nameIndex := 445, descriptorIndex := 117, attributes := #[] }])
  fields := #[{ name := "MIN_ARRAY_SORT_GRAN", type := .int, accessFlags := 26, slot := 0, constantValue := 0 }, { name := "INSERTIONSORT_THRESHOLD", type := .int, accessFlags := 26, slot := 1, constantValue := 0 }, { name := "$assertionsDisabled", type := .boolean, accessFlags := 4120, slot := 2, constantValue := 0 }]
  methods := #[k19m0, k19m1, k19m2, k19m3, k19m4]
  instanceTypes := #[]
  staticTypes := #[.int, .int, .boolean]
  resolved := Array.replicate 1029 none
  statics := none }

def pool20 : Array CpInfo := pool [(1, .class_ 2), (0, u "java/lang/Cloneable"), (0, .class_ 4), (0, u "java/lang/Object")] 2

/-- java/lang/Cloneable -/
def k20 : Class := { plain "java/lang/Cloneable" (some 0) with
  accessFlags := 1537
  interfaces := #[]
  cf := some (fileOf pool20 1 #[] #[] 1537 3 #[] #[])
  fields := #[]
  methods := #[]
  instanceTypes := #[]
  staticTypes := #[]
  resolved := Array.replicate 7 none
  statics := none }

def pool21 : Array CpInfo := pool [(4, .class_ 6), (1, u "java/lang/Object"), (0, u "<init>"), (0, u "()V"), (5, .class_ 16), (1, u "java/lang/StringLatin1"), (104, u "$assertionsDisabled"), (0, u "Z"), (98, .class_ 223), (1, u "java/lang/StringLatin1$LinesSpliterator"), (166, .class_ 391), (0, u "java/lang/StringLatin1$CharsSpliterator")] 3

def k21m0 : Method := { name := "<init>", desc := "()V", sig := { parameters := [], returnType := none }, accessFlags := 0, code := none }
/-- java/lang/StringLatin1 -/
def k21 : Class := { plain "java/lang/StringLatin1" (some 0) with
  accessFlags := 48
  interfaces := #[]
  cf := some (fileOf pool21 14 #[.nestMembers #[390, 221]] #[{ accessFlags := 0, nameIndex := 7, descriptorIndex := 8, attributes := #[] }] 48 4 #[] #[{ accessFlags := 4120, nameIndex := 121, descriptorIndex := 122, attributes := #[] }])
  fields := #[{ name := "$assertionsDisabled", type := .boolean, accessFlags := 4120, slot := 0, constantValue := 0 }]
  methods := #[k21m0]
  instanceTypes := #[]
  staticTypes := #[.boolean]
  resolved := Array.replicate 395 none
  statics := none }

def pool22 : Array CpInfo := pool [(2, .class_ 4), (1, u "java/lang/Object"), (0, u "<init>"), (0, u "()V"), (17, .class_ 26), (1, u "jdk/internal/util/Preconditions"), (28, .class_ 56), (0, u "jdk/internal/util/Preconditions$4"), (57, .class_ 115), (0, u "jdk/internal/util/Preconditions$1"), (7, u "SIOOBE_FORMATTER"), (0, u "Ljava/util/function/BiFunction;"), (0, .class_ 126), (0, u "jdk/internal/util/Preconditions$2"), (3, u "AIOOBE_FORMATTER"), (0, .class_ 132), (0, u "jdk/internal/util/Preconditions$3"), (3, u "IOOBE_FORMATTER")] 57

def k22m0 : Method := { name := "<init>", desc := "()V", sig := { parameters := [], returnType := none }, accessFlags := 1, code := none }
/-- jdk/internal/util/Preconditions -/
def k22 : Class := { plain "jdk/internal/util/Preconditions" (some 0) with
  accessFlags := 33
  interfaces := #[]
  cf := some (fileOf pool22 24 #[.nestMembers #[55, 131, 125, 114]] #[{ accessFlags := 1, nameIndex := 5, descriptorIndex := 6, attributes := #[] }] 33 2 #[] #[{ accessFlags := 25, nameIndex := 123, descriptorIndex := 124, attributes := #[] }, { accessFlags := 25, nameIndex := 130, descriptorIndex := 124, attributes := #[] }, { accessFlags := 25, nameIndex := 136, descriptorIndex := 124, attributes := #[] }])
  fields := #[{ name := "SIOOBE_FORMATTER", type := (.object "java/util/function/BiFunction"), accessFlags := 25, slot := 0, constantValue := 0 }, { name := "AIOOBE_FORMATTER", type := (.object "java/util/function/BiFunction"), accessFlags := 25, slot := 1, constantValue := 0 }, { name := "IOOBE_FORMATTER", type := (.object "java/util/function/BiFunction"), accessFlags := 25, slot := 2, constantValue := 0 }]
  methods := #[k22m0]
  instanceTypes := #[]
  staticTypes := #[(.object "java/util/function/BiFunction"), (.object "java/util/function/BiFunction"), (.object "java/util/function/BiFunction")]
  resolved := Array.replicate 194 none
  statics := some 2 }

/-- the primitive byte -/
def k23 : Class := { plain "byte" none with kind := .primitive 'B', accessFlags := 0x411 }
/-- [B -/
def k24 : Class := { plain "[B" (some 0) with kind := .array 23 .byte, interfaces := #[20, 4], accessFlags := 1041 }

/-- the primitive int -/
def k25 : Class := { plain "int" none with kind := .primitive 'I', accessFlags := 0x411 }
/-- [I -/
def k26 : Class := { plain "[I" (some 0) with kind := .array 25 .int, interfaces := #[20, 4], accessFlags := 1041 }

def heap : Heap := #[{ cls := 9, slots := #[.long 0, .int 1, .null, .int 0, .null, .int 0, .int 0], vm := .statics 9 },
  { cls := 15, slots := #[.int 0, .int 0, .null, .null, .ref 4, .ref 3, .int 0, .int 0, .long 0], vm := .statics 15 },
  { cls := 22, slots := #[.null, .null, .null], vm := .statics 22 },
  { cls := 24, slots := #[.int 48, .int 49, .int 50, .int 51, .int 52, .int 53, .int 54, .int 55, .int 56, .int 57, .int 48, .int 49, .int 50, .int 51, .int 52, .int 53, .int 54, .int 55, .int 56, .int 57, .int 48, .int 49, .int 50, .int 51, .int 52, .int 53, .int 54, .int 55, .int 56, .int 57, .int 48, .int 49, .int 50, .int 51, .int 52, .int 53, .int 54, .int 55, .int 56, .int 57, .int 48, .int 49, .int 50, .int 51, .int 52, .int 53, .int 54, .int 55, .int 56, .int 57, .int 48, .int 49, .int 50, .int 51, .int 52, .int 53, .int 54, .int 55, .int 56, .int 57, .int 48, .int 49, .int 50, .int 51, .int 52, .int 53, .int 54, .int 55, .int 56, .int 57, .int 48, .int 49, .int 50, .int 51, .int 52, .int 53, .int 54, .int 55, .int 56, .int 57, .int 48, .int 49, .int 50, .int 51, .int 52, .int 53, .int 54, .int 55, .int 56, .int 57, .int 48, .int 49, .int 50, .int 51, .int 52, .int 53, .int 54, .int 55, .int 56, .int 57], vm := .none },
  { cls := 24, slots := #[.int 48, .int 48, .int 48, .int 48, .int 48, .int 48, .int 48, .int 48, .int 48, .int 48, .int 49, .int 49, .int 49, .int 49, .int 49, .int 49, .int 49, .int 49, .int 49, .int 49, .int 50, .int 50, .int 50, .int 50, .int 50, .int 50, .int 50, .int 50, .int 50, .int 50, .int 51, .int 51, .int 51, .int 51, .int 51, .int 51, .int 51, .int 51, .int 51, .int 51, .int 52, .int 52, .int 52, .int 52, .int 52, .int 52, .int 52, .int 52, .int 52, .int 52, .int 53, .int 53, .int 53, .int 53, .int 53, .int 53, .int 53, .int 53, .int 53, .int 53, .int 54, .int 54, .int 54, .int 54, .int 54, .int 54, .int 54, .int 54, .int 54, .int 54, .int 55, .int 55, .int 55, .int 55, .int 55, .int 55, .int 55, .int 55, .int 55, .int 55, .int 56, .int 56, .int 56, .int 56, .int 56, .int 56, .int 56, .int 56, .int 56, .int 56, .int 57, .int 57, .int 57, .int 57, .int 57, .int 57, .int 57, .int 57, .int 57, .int 57], vm := .none }]
def classes : Array Class := #[k0, k1, k2, k3, k4, k5, k6, k7, k8, k9, k10, k11, k12, k13, k14, k15, k16, k17, k18, k19, k20, k21, k22, k23, k24, k25, k26]
def interned : List (Array UInt16 × Addr) := []
def slotsUsed : Nat := 219
def theMethod : MethodId := ⟨1, 2⟩
def args0 : Array Value := #[.long 5, .long 6, .long 7, .long 8, .int 1]
def aboutOver (below : List Frame) : State where
  vm := { classes := classes, interned := interned.toArray }
  heap := heap
  slotsUsed := slotsUsed
  threads := #[{ frames := .invoking theMethod args0 :: below }]
def below0 : List Frame := [.native { method := ⟨0, 0⟩, args := #[] }]
def about1 : State := aboutOver below0
def p0 : Program := .bare "" "" ""
def e0 : Env := launch0.env 0 0 0
theorem w_frames : about1.frames = Frame.invoking theMethod args0 :: below0 := rfl
set_option maxRecDepth 65536 in
theorem w_args : argsFit about1.vm theMethod args0 = true := by decide +kernel
set_option maxRecDepth 65536 in
theorem w_heap : heapFits about1 = true := by decide +kernel
set_option maxRecDepth 65536 in
theorem w_runnable : about1.curStatus? = some .runnable := by decide +kernel
set_option maxRecDepth 65536 in
theorem w_alone : about1.alone = true := by decide +kernel
set_option maxRecDepth 65536 in
theorem w_named : about1.methodNamed? x = some theMethod := by decide +kernel
set_option maxRecDepth 65536 in
theorem w_hears : about1.hears theMethod below0 = true := by decide +kernel
set_option maxRecDepth 65536 in
theorem w_ripe : about1.ripe theMethod args0 below0 = true := by decide +kernel
theorem w_running : about1.status = .running := rfl
set_option maxRecDepth 65536 in
theorem w_room : about1.hasRoom e0.platform room_1 = true :=
  launch0.hasRoom_least _ room_1 (by decide +kernel) (by decide +kernel) (by decide +kernel) (by decide +kernel) (by decide +kernel) (by decide +kernel)
theorem allAtoms_all (ts : List Jvm.Cond) (a : Array Jvm.Value) (st : Jvm.State) : (allAtoms ts).before a st = ts.all (fun c => c.before a st) := by
  induction ts with
  | nil => rfl
  | cons c t ih =>
    show (Jvm.Cond.and c (allAtoms t)).before a st = _
    rw [Jvm.Cond.before_and, ih, List.all_cons]
def words1 : List Jvm.Cond := Jvm.Cond.code x code maxLocals ret :: tables_1
/-- a 'code' word, met by the world's own term for the bytes: nothing is compared byte by byte -/
theorem code_word {y : MethodName} {bytes : ByteArray} {mx : Nat} {rt : Option FieldType} {a : Array Value} {s : State} {m : MethodId} {meth : Method} {c : Code} (h1 : s.methodNamed? y = some m) (h2 : s.vm.method? m = some meth) (h3 : meth.code = some c) (h4 : c.code = bytes)
    (h5 : (c.maxLocals == mx && c.exceptionTable.isEmpty && decide (c.maxStack ≤ mostOperands) && decide (meth.sig.returnType = rt) && !meth.locks && decide (parseMethodDescriptor y.desc = some meth.sig)) = true) : (Jvm.Cond.code y bytes mx rt).before a s = true := by
  simp only [Bool.and_eq_true, beq_iff_eq, Bool.not_eq_true', decide_eq_true_eq] at h5
  obtain ⟨⟨⟨⟨⟨g1, g2⟩, g3⟩, g4⟩, g5⟩, g6⟩ := h5
  simp [Cond.before, Cond.holds, Cond.value, h1, h2, h3, h4, g1, g2, g3, g4, g5, g6]
def isCode : Jvm.Cond → Bool
  | .code _ _ _ _ => true
  | _ => false
theorem all_split {L : List Jvm.Cond} {P : Jvm.Cond → Bool} (h1 : L.all (fun c => isCode c || P c) = true) (h2 : ∀ c ∈ L.filter isCode, P c = true) : L.all P = true := by
  refine List.all_eq_true.mpr fun c hc => ?_
  have h := List.all_eq_true.mp h1 c hc
  rcases Bool.eq_false_or_eq_true (isCode c) with hi | hi
  · exact h2 c (List.mem_filter.mpr ⟨hc, hi⟩)
  · simpa [hi] using h
set_option maxRecDepth 65536 in
theorem w_c0 : (Jvm.Cond.code x code maxLocals ret).before args0 about1 = true := code_word (m := ⟨1, 2⟩) (meth := k1m2) (c := k1c2) (by decide +kernel) rfl rfl rfl (by decide +kernel)
set_option maxRecDepth 65536 in
theorem w_c1 : (Jvm.Cond.code ({ cls := "com/example/planstitch/planstitch/core/catalog/CostModelPricesBytesPinLaw", name := "unit", desc := "(J)J" } : Jvm.MethodName) method_2_code (2 : Nat) (Option.some Jvm.ClassFile.FieldType.long)).before args0 about1 = true := code_word (m := ⟨1, 1⟩) (meth := k1m1) (c := k1c1) (by decide +kernel) rfl rfl rfl (by decide +kernel)
set_option maxRecDepth 65536 in
theorem w_c2 : (Jvm.Cond.code ({ cls := "com/example/planstitch/planstitch/core/catalog/CostModel", name := "<init>", desc := "(JJJJ)V" } : Jvm.MethodName) prog_57_method_1_code (9 : Nat) (Option.none : Option Jvm.ClassFile.FieldType)).before args0 about1 = true := code_word (m := ⟨3, 0⟩) (meth := k3m0) (c := k3c0) (by decide +kernel) rfl rfl rfl (by decide +kernel)
set_option maxRecDepth 65536 in
theorem w_c3 : (Jvm.Cond.code ({ cls := "java/lang/Record", name := "<init>", desc := "()V" } : Jvm.MethodName) jdk_30_method_1_code (1 : Nat) (Option.none : Option Jvm.ClassFile.FieldType)).before args0 about1 = true := code_word (m := ⟨2, 0⟩) (meth := k2m0) (c := k2c0) (by decide +kernel) rfl rfl rfl (by decide +kernel)
set_option maxRecDepth 65536 in
theorem w_c4 : (Jvm.Cond.code ({ cls := "java/lang/Object", name := "<init>", desc := "()V" } : Jvm.MethodName) object_method_1_code (1 : Nat) (Option.none : Option Jvm.ClassFile.FieldType)).before args0 about1 = true := code_word (m := ⟨0, 0⟩) (meth := k0m0) (c := k0c0) (by decide +kernel) rfl rfl rfl (by decide +kernel)
set_option maxRecDepth 65536 in
theorem w_c5 : (Jvm.Cond.code ({ cls := "com/example/planstitch/planstitch/core/catalog/CostModel", name := "isInRange", desc := "(J)Z" } : Jvm.MethodName) prog_57_method_4_code (2 : Nat) (Option.some Jvm.ClassFile.FieldType.boolean)).before args0 about1 = true := code_word (m := ⟨3, 3⟩) (meth := k3m3) (c := k3c3) (by decide +kernel) rfl rfl rfl (by decide +kernel)
set_option maxRecDepth 65536 in
theorem w_c6 : (Jvm.Cond.code ({ cls := "java/lang/StringBuilder", name := "<init>", desc := "()V" } : Jvm.MethodName) jdk_67_method_1_code (1 : Nat) (Option.none : Option Jvm.ClassFile.FieldType)).before args0 about1 = true := code_word (m := ⟨12, 0⟩) (meth := k12m0) (c := k12c0) (by decide +kernel) rfl rfl rfl (by decide +kernel)
set_option maxRecDepth 65536 in
theorem w_c7 : (Jvm.Cond.code ({ cls := "java/lang/AbstractStringBuilder", name := "<init>", desc := "(I)V" } : Jvm.MethodName) jdk_68_method_2_code (2 : Nat) (Option.none : Option Jvm.ClassFile.FieldType)).before args0 about1 = true := code_word (m := ⟨11, 1⟩) (meth := k11m1) (c := k11c1) (by decide +kernel) rfl rfl rfl (by decide +kernel)
set_option maxRecDepth 65536 in
theorem w_c8 : (Jvm.Cond.code ({ cls := "java/lang/StringBuilder", name := "append", desc := "(J)Ljava/lang/StringBuilder;" } : Jvm.MethodName) jdk_67_method_16_code (3 : Nat) (Option.some (Jvm.ClassFile.FieldType.object "java/lang/StringBuilder"))).before args0 about1 = true := code_word (m := ⟨12, 2⟩) (meth := k12m2) (c := k12c2) (by decide +kernel) rfl rfl rfl (by decide +kernel)
set_option maxRecDepth 65536 in
theorem w_c9 : (Jvm.Cond.code ({ cls := "java/lang/AbstractStringBuilder", name := "append", desc := "(J)Ljava/lang/AbstractStringBuilder;" } : Jvm.MethodName) jdk_68_method_33_code (5 : Nat) (Option.some (Jvm.ClassFile.FieldType.object "java/lang/AbstractStringBuilder"))).before args0 about1 = true := code_word (m := ⟨11, 6⟩) (meth := k11m6) (c := k11c6) (by decide +kernel) rfl rfl rfl (by decide +kernel)
set_option maxRecDepth 65536 in
theorem w_c10 : (Jvm.Cond.code ({ cls := "java/lang/Long", name := "stringSize", desc := "(J)I" } : Jvm.MethodName) jdk_35_method_15_code (6 : Nat) (Option.some Jvm.ClassFile.FieldType.int)).before args0 about1 = true := code_word (m := ⟨14, 2⟩) (meth := k14m2) (c := k14c2) (by decide +kernel) rfl rfl rfl (by decide +kernel)
set_option maxRecDepth 65536 in
theorem w_c11 : (Jvm.Cond.code ({ cls := "java/lang/AbstractStringBuilder", name := "ensureCapacityInternal", desc := "(I)V" } : Jvm.MethodName) jdk_68_method_9_code (3 : Nat) (Option.none : Option Jvm.ClassFile.FieldType)).before args0 about1 = true := code_word (m := ⟨11, 3⟩) (meth := k11m3) (c := k11c3) (by decide +kernel) rfl rfl rfl (by decide +kernel)
set_option maxRecDepth 65536 in
theorem w_c12 : (Jvm.Cond.code ({ cls := "java/lang/AbstractStringBuilder", name := "isLatin1", desc := "()Z" } : Jvm.MethodName) jdk_68_method_68_code (1 : Nat) (Option.some Jvm.ClassFile.FieldType.boolean)).before args0 about1 = true := code_word (m := ⟨11, 8⟩) (meth := k11m8) (c := k11c8) (by decide +kernel) rfl rfl rfl (by decide +kernel)
set_option maxRecDepth 65536 in
theorem w_c13 : (Jvm.Cond.code ({ cls := "java/lang/Long", name := "getChars", desc := "(JI[B)I" } : Jvm.MethodName) jdk_35_method_14_code (11 : Nat) (Option.some Jvm.ClassFile.FieldType.int)).before args0 about1 = true := code_word (m := ⟨14, 1⟩) (meth := k14m1) (c := k14c1) (by decide +kernel) rfl rfl rfl (by decide +kernel)
set_option maxRecDepth 65536 in
theorem w_c14 : (Jvm.Cond.code ({ cls := "java/lang/StringBuilder", name := "append", desc := "(Ljava/lang/String;)Ljava/lang/StringBuilder;" } : Jvm.MethodName) jdk_67_method_7_code (2 : Nat) (Option.some (Jvm.ClassFile.FieldType.object "java/lang/StringBuilder"))).before args0 about1 = true := code_word (m := ⟨12, 1⟩) (meth := k12m1) (c := k12c1) (by decide +kernel) rfl rfl rfl (by decide +kernel)
set_option maxRecDepth 65536 in
theorem w_c15 : (Jvm.Cond.code ({ cls := "java/lang/AbstractStringBuilder", name := "append", desc := "(Ljava/lang/String;)Ljava/lang/AbstractStringBuilder;" } : Jvm.MethodName) jdk_68_method_22_code (3 : Nat) (Option.some (Jvm.ClassFile.FieldType.object "java/lang/AbstractStringBuilder"))).before args0 about1 = true := code_word (m := ⟨11, 5⟩) (meth := k11m5) (c := k11c5) (by decide +kernel) rfl rfl rfl (by decide +kernel)
set_option maxRecDepth 65536 in
theorem w_c16 : (Jvm.Cond.code ({ cls := "java/lang/String", name := "length", desc := "()I" } : Jvm.MethodName) jdk_42_method_54_code (1 : Nat) (Option.some Jvm.ClassFile.FieldType.int)).before args0 about1 = true := code_word (m := ⟨9, 2⟩) (meth := k9m2) (c := k9c2) (by decide +kernel) rfl rfl rfl (by decide +kernel)
set_option maxRecDepth 65536 in
theorem w_c17 : (Jvm.Cond.code ({ cls := "java/lang/String", name := "coder", desc := "()B" } : Jvm.MethodName) jdk_42_method_152_code (1 : Nat) (Option.some Jvm.ClassFile.FieldType.byte)).before args0 about1 = true := code_word (m := ⟨9, 6⟩) (meth := k9m6) (c := k9c6) (by decide +kernel) rfl rfl rfl (by decide +kernel)
set_option maxRecDepth 65536 in
theorem w_c18 : (Jvm.Cond.code ({ cls := "java/lang/AbstractStringBuilder", name := "putStringAt", desc := "(ILjava/lang/String;)V" } : Jvm.MethodName) jdk_68_method_73_code (3 : Nat) (Option.none : Option Jvm.ClassFile.FieldType)).before args0 about1 = true := code_word (m := ⟨11, 10⟩) (meth := k11m10) (c := k11c10) (by decide +kernel) rfl rfl rfl (by decide +kernel)
set_option maxRecDepth 65536 in
theorem w_c19 : (Jvm.Cond.code ({ cls := "java/lang/AbstractStringBuilder", name := "inflateIfNeededFor", desc := "(Ljava/lang/String;)V" } : Jvm.MethodName) jdk_68_method_71_code (2 : Nat) (Option.none : Option Jvm.ClassFile.FieldType)).before args0 about1 = true := code_word (m := ⟨11, 9⟩) (meth := k11m9) (c := k11c9) (by decide +kernel) rfl rfl rfl (by decide +kernel)
set_option maxRecDepth 65536 in
theorem w_c20 : (Jvm.Cond.code ({ cls := "java/lang/String", name := "getBytes", desc := "([BIB)V" } : Jvm.MethodName) jdk_42_method_147_code (4 : Nat) (Option.none : Option Jvm.ClassFile.FieldType)).before args0 about1 = true := code_word (m := ⟨9, 3⟩) (meth := k9m3) (c := k9c3) (by decide +kernel) rfl rfl rfl (by decide +kernel)
set_option maxRecDepth 65536 in
theorem w_c21 : (Jvm.Cond.code ({ cls := "java/lang/AbstractStringBuilder", name := "newCapacity", desc := "(I)I" } : Jvm.MethodName) jdk_68_method_10_code (6 : Nat) (Option.some Jvm.ClassFile.FieldType.int)).before args0 about1 = true := code_word (m := ⟨11, 4⟩) (meth := k11m4) (c := k11c4) (by decide +kernel) rfl rfl rfl (by decide +kernel)
set_option maxRecDepth 65536 in
theorem w_c22 : (Jvm.Cond.code ({ cls := "jdk/internal/util/ArraysSupport", name := "newLength", desc := "(III)I" } : Jvm.MethodName) jdk_48_method_27_code (4 : Nat) (Option.some Jvm.ClassFile.FieldType.int)).before args0 about1 = true := code_word (m := ⟨17, 1⟩) (meth := k17m1) (c := k17c1) (by decide +kernel) rfl rfl rfl (by decide +kernel)
set_option maxRecDepth 65536 in
theorem w_c23 : (Jvm.Cond.code ({ cls := "java/lang/Math", name := "max", desc := "(II)I" } : Jvm.MethodName) jdk_29_method_65_code (2 : Nat) (Option.some Jvm.ClassFile.FieldType.int)).before args0 about1 = true := code_word (m := ⟨18, 1⟩) (meth := k18m1) (c := k18c1) (by decide +kernel) rfl rfl rfl (by decide +kernel)
set_option maxRecDepth 65536 in
theorem w_c24 : (Jvm.Cond.code ({ cls := "java/util/Arrays", name := "copyOf", desc := "([BI)[B" } : Jvm.MethodName) jdk_65_method_121_code (3 : Nat) (Option.some (Jvm.ClassFile.FieldType.array Jvm.ClassFile.FieldType.byte))).before args0 about1 = true := code_word (m := ⟨19, 1⟩) (meth := k19m1) (c := k19c1) (by decide +kernel) rfl rfl rfl (by decide +kernel)
set_option maxRecDepth 65536 in
theorem w_c25 : (Jvm.Cond.code ({ cls := "java/lang/Math", name := "min", desc := "(II)I" } : Jvm.MethodName) jdk_29_method_69_code (2 : Nat) (Option.some Jvm.ClassFile.FieldType.int)).before args0 about1 = true := code_word (m := ⟨18, 2⟩) (meth := k18m2) (c := k18c2) (by decide +kernel) rfl rfl rfl (by decide +kernel)
set_option maxRecDepth 65536 in
theorem w_c26 : (Jvm.Cond.code ({ cls := "java/lang/StringBuilder", name := "toString", desc := "()Ljava/lang/String;" } : Jvm.MethodName) jdk_67_method_42_code (1 : Nat) (Option.some (Jvm.ClassFile.FieldType.object "java/lang/String"))).before args0 about1 = true := code_word (m := ⟨12, 3⟩) (meth := k12m3) (c := k12c3) (by decide +kernel) rfl rfl rfl (by decide +kernel)
set_option maxRecDepth 65536 in
theorem w_c27 : (Jvm.Cond.code ({ cls := "java/lang/String", name := "<init>", desc := "(Ljava/lang/StringBuilder;)V" } : Jvm.MethodName) jdk_42_method_53_code (2 : Nat) (Option.none : Option Jvm.ClassFile.FieldType)).before args0 about1 = true := code_word (m := ⟨9, 1⟩) (meth := k9m1) (c := k9c1) (by decide +kernel) rfl rfl rfl (by decide +kernel)
set_option maxRecDepth 65536 in
theorem w_c28 : (Jvm.Cond.code ({ cls := "java/lang/String", name := "<init>", desc := "(Ljava/lang/AbstractStringBuilder;Ljava/lang/Void;)V" } : Jvm.MethodName) jdk_42_method_150_code (5 : Nat) (Option.none : Option Jvm.ClassFile.FieldType)).before args0 about1 = true := code_word (m := ⟨9, 4⟩) (meth := k9m4) (c := k9c4) (by decide +kernel) rfl rfl rfl (by decide +kernel)
set_option maxRecDepth 65536 in
theorem w_c29 : (Jvm.Cond.code ({ cls := "java/lang/AbstractStringBuilder", name := "getValue", desc := "()[B" } : Jvm.MethodName) jdk_68_method_64_code (1 : Nat) (Option.some (Jvm.ClassFile.FieldType.array Jvm.ClassFile.FieldType.byte))).before args0 about1 = true := code_word (m := ⟨11, 7⟩) (meth := k11m7) (c := k11c7) (by decide +kernel) rfl rfl rfl (by decide +kernel)
set_option maxRecDepth 65536 in
theorem w_c30 : (Jvm.Cond.code ({ cls := "java/lang/StringBuilder", name := "length", desc := "()I" } : Jvm.MethodName) jdk_67_method_93_code (1 : Nat) (Option.some Jvm.ClassFile.FieldType.int)).before args0 about1 = true := code_word (m := ⟨12, 4⟩) (meth := k12m4) (c := k12c4) (by decide +kernel) rfl rfl rfl (by decide +kernel)
set_option maxRecDepth 65536 in
theorem w_c31 : (Jvm.Cond.code ({ cls := "java/lang/AbstractStringBuilder", name := "length", desc := "()I" } : Jvm.MethodName) jdk_68_method_6_code (1 : Nat) (Option.some Jvm.ClassFile.FieldType.int)).before args0 about1 = true := code_word (m := ⟨11, 2⟩) (meth := k11m2) (c := k11c2) (by decide +kernel) rfl rfl rfl (by decide +kernel)
set_option maxRecDepth 65536 in
theorem w_c32 : (Jvm.Cond.code ({ cls := "java/util/Arrays", name := "copyOfRange", desc := "([BII)[B" } : Jvm.MethodName) jdk_65_method_132_code (3 : Nat) (Option.some (Jvm.ClassFile.FieldType.array Jvm.ClassFile.FieldType.byte))).before args0 about1 = true := code_word (m := ⟨19, 3⟩) (meth := k19m3) (c := k19c3) (by decide +kernel) rfl rfl rfl (by decide +kernel)
set_option maxRecDepth 65536 in
theorem w_c33 : (Jvm.Cond.code ({ cls := "java/util/Arrays", name := "copyOfRangeByte", desc := "([BII)[B" } : Jvm.MethodName) jdk_65_method_133_code (5 : Nat) (Option.some (Jvm.ClassFile.FieldType.array Jvm.ClassFile.FieldType.byte))).before args0 about1 = true := code_word (m := ⟨19, 4⟩) (meth := k19m4) (c := k19c4) (by decide +kernel) rfl rfl rfl (by decide +kernel)
set_option maxRecDepth 65536 in
theorem w_c34 : (Jvm.Cond.code ({ cls := "java/util/Arrays", name := "checkLength", desc := "(II)V" } : Jvm.MethodName) jdk_65_method_131_code (2 : Nat) (Option.none : Option Jvm.ClassFile.FieldType)).before args0 about1 = true := code_word (m := ⟨19, 2⟩) (meth := k19m2) (c := k19c2) (by decide +kernel) rfl rfl rfl (by decide +kernel)
set_option maxRecDepth 65536 in
theorem w_c35 : (Jvm.Cond.code ({ cls := "com/example/planstitch/planstitch/core/catalog/CostModel", name := "requireInRange", desc := "(ZLjava/lang/String;Ljava/lang/String;)V" } : Jvm.MethodName) prog_57_method_5_code (3 : Nat) (Option.none : Option Jvm.ClassFile.FieldType)).before args0 about1 = true := code_word (m := ⟨3, 4⟩) (meth := k3m4) (c := k3c4) (by decide +kernel) rfl rfl rfl (by decide +kernel)
set_option maxRecDepth 65536 in
theorem w_c36 : (Jvm.Cond.code ({ cls := "java/lang/Long", name := "toString", desc := "(J)Ljava/lang/String;" } : Jvm.MethodName) jdk_35_method_12_code (4 : Nat) (Option.some (Jvm.ClassFile.FieldType.object "java/lang/String"))).before args0 about1 = true := code_word (m := ⟨14, 0⟩) (meth := k14m0) (c := k14c0) (by decide +kernel) rfl rfl rfl (by decide +kernel)
set_option maxRecDepth 65536 in
theorem w_c37 : (Jvm.Cond.code ({ cls := "java/lang/String", name := "<init>", desc := "([BB)V" } : Jvm.MethodName) jdk_42_method_151_code (3 : Nat) (Option.none : Option Jvm.ClassFile.FieldType)).before args0 about1 = true := code_word (m := ⟨9, 5⟩) (meth := k9m5) (c := k9c5) (by decide +kernel) rfl rfl rfl (by decide +kernel)
set_option maxRecDepth 65536 in
theorem w_c38 : (Jvm.Cond.code ({ cls := "com/example/planstitch/planstitch/core/catalog/CostModel", name := "<init>", desc := "(JJ)V" } : Jvm.MethodName) prog_57_method_2_code (5 : Nat) (Option.none : Option Jvm.ClassFile.FieldType)).before args0 about1 = true := code_word (m := ⟨3, 1⟩) (meth := k3m1) (c := k3c1) (by decide +kernel) rfl rfl rfl (by decide +kernel)
set_option maxRecDepth 65536 in
theorem w_c39 : (Jvm.Cond.code ({ cls := "com/example/planstitch/planstitch/core/catalog/CostModel", name := "pricesBytes", desc := "()Z" } : Jvm.MethodName) prog_57_method_3_code (1 : Nat) (Option.some Jvm.ClassFile.FieldType.boolean)).before args0 about1 = true := code_word (m := ⟨3, 2⟩) (meth := k3m2) (c := k3c2) (by decide +kernel) rfl rfl rfl (by decide +kernel)
def codes1 : List Jvm.Cond := [Jvm.Cond.code x code maxLocals ret, Jvm.Cond.code ({ cls := "com/example/planstitch/planstitch/core/catalog/CostModelPricesBytesPinLaw", name := "unit", desc := "(J)J" } : Jvm.MethodName) method_2_code (2 : Nat) (Option.some Jvm.ClassFile.FieldType.long), Jvm.Cond.code ({ cls := "com/example/planstitch/planstitch/core/catalog/CostModel", name := "<init>", desc := "(JJJJ)V" } : Jvm.MethodName) prog_57_method_1_code (9 : Nat) (Option.none : Option Jvm.ClassFile.FieldType), Jvm.Cond.code ({ cls := "java/lang/Record", name := "<init>", desc := "()V" } : Jvm.MethodName) jdk_30_method_1_code (1 : Nat) (Option.none : Option Jvm.ClassFile.FieldType), Jvm.Cond.code ({ cls := "java/lang/Object", name := "<init>", desc := "()V" } : Jvm.MethodName) object_method_1_code (1 : Nat) (Option.none : Option Jvm.ClassFile.FieldType), Jvm.Cond.code ({ cls := "com/example/planstitch/planstitch/core/catalog/CostModel", name := "isInRange", desc := "(J)Z" } : Jvm.MethodName) prog_57_method_4_code (2 : Nat) (Option.some Jvm.ClassFile.FieldType.boolean), Jvm.Cond.code ({ cls := "java/lang/StringBuilder", name := "<init>", desc := "()V" } : Jvm.MethodName) jdk_67_method_1_code (1 : Nat) (Option.none : Option Jvm.ClassFile.FieldType), Jvm.Cond.code ({ cls := "java/lang/AbstractStringBuilder", name := "<init>", desc := "(I)V" } : Jvm.MethodName) jdk_68_method_2_code (2 : Nat) (Option.none : Option Jvm.ClassFile.FieldType), Jvm.Cond.code ({ cls := "java/lang/StringBuilder", name := "append", desc := "(J)Ljava/lang/StringBuilder;" } : Jvm.MethodName) jdk_67_method_16_code (3 : Nat) (Option.some (Jvm.ClassFile.FieldType.object "java/lang/StringBuilder")), Jvm.Cond.code ({ cls := "java/lang/AbstractStringBuilder", name := "append", desc := "(J)Ljava/lang/AbstractStringBuilder;" } : Jvm.MethodName) jdk_68_method_33_code (5 : Nat) (Option.some (Jvm.ClassFile.FieldType.object "java/lang/AbstractStringBuilder")), Jvm.Cond.code ({ cls := "java/lang/Long", name := "stringSize", desc := "(J)I" } : Jvm.MethodName) jdk_35_method_15_code (6 : Nat) (Option.some Jvm.ClassFile.FieldType.int), Jvm.Cond.code ({ cls := "java/lang/AbstractStringBuilder", name := "ensureCapacityInternal", desc := "(I)V" } : Jvm.MethodName) jdk_68_method_9_code (3 : Nat) (Option.none : Option Jvm.ClassFile.FieldType), Jvm.Cond.code ({ cls := "java/lang/AbstractStringBuilder", name := "isLatin1", desc := "()Z" } : Jvm.MethodName) jdk_68_method_68_code (1 : Nat) (Option.some Jvm.ClassFile.FieldType.boolean), Jvm.Cond.code ({ cls := "java/lang/Long", name := "getChars", desc := "(JI[B)I" } : Jvm.MethodName) jdk_35_method_14_code (11 : Nat) (Option.some Jvm.ClassFile.FieldType.int), Jvm.Cond.code ({ cls := "java/lang/StringBuilder", name := "append", desc := "(Ljava/lang/String;)Ljava/lang/StringBuilder;" } : Jvm.MethodName) jdk_67_method_7_code (2 : Nat) (Option.some (Jvm.ClassFile.FieldType.object "java/lang/StringBuilder")), Jvm.Cond.code ({ cls := "java/lang/AbstractStringBuilder", name := "append", desc := "(Ljava/lang/String;)Ljava/lang/AbstractStringBuilder;" } : Jvm.MethodName) jdk_68_method_22_code (3 : Nat) (Option.some (Jvm.ClassFile.FieldType.object "java/lang/AbstractStringBuilder")), Jvm.Cond.code ({ cls := "java/lang/String", name := "length", desc := "()I" } : Jvm.MethodName) jdk_42_method_54_code (1 : Nat) (Option.some Jvm.ClassFile.FieldType.int), Jvm.Cond.code ({ cls := "java/lang/String", name := "coder", desc := "()B" } : Jvm.MethodName) jdk_42_method_152_code (1 : Nat) (Option.some Jvm.ClassFile.FieldType.byte), Jvm.Cond.code ({ cls := "java/lang/AbstractStringBuilder", name := "putStringAt", desc := "(ILjava/lang/String;)V" } : Jvm.MethodName) jdk_68_method_73_code (3 : Nat) (Option.none : Option Jvm.ClassFile.FieldType), Jvm.Cond.code ({ cls := "java/lang/AbstractStringBuilder", name := "inflateIfNeededFor", desc := "(Ljava/lang/String;)V" } : Jvm.MethodName) jdk_68_method_71_code (2 : Nat) (Option.none : Option Jvm.ClassFile.FieldType), Jvm.Cond.code ({ cls := "java/lang/String", name := "getBytes", desc := "([BIB)V" } : Jvm.MethodName) jdk_42_method_147_code (4 : Nat) (Option.none : Option Jvm.ClassFile.FieldType), Jvm.Cond.code ({ cls := "java/lang/AbstractStringBuilder", name := "newCapacity", desc := "(I)I" } : Jvm.MethodName) jdk_68_method_10_code (6 : Nat) (Option.some Jvm.ClassFile.FieldType.int), Jvm.Cond.code ({ cls := "jdk/internal/util/ArraysSupport", name := "newLength", desc := "(III)I" } : Jvm.MethodName) jdk_48_method_27_code (4 : Nat) (Option.some Jvm.ClassFile.FieldType.int), Jvm.Cond.code ({ cls := "java/lang/Math", name := "max", desc := "(II)I" } : Jvm.MethodName) jdk_29_method_65_code (2 : Nat) (Option.some Jvm.ClassFile.FieldType.int), Jvm.Cond.code ({ cls := "java/util/Arrays", name := "copyOf", desc := "([BI)[B" } : Jvm.MethodName) jdk_65_method_121_code (3 : Nat) (Option.some (Jvm.ClassFile.FieldType.array Jvm.ClassFile.FieldType.byte)), Jvm.Cond.code ({ cls := "java/lang/Math", name := "min", desc := "(II)I" } : Jvm.MethodName) jdk_29_method_69_code (2 : Nat) (Option.some Jvm.ClassFile.FieldType.int), Jvm.Cond.code ({ cls := "java/lang/StringBuilder", name := "toString", desc := "()Ljava/lang/String;" } : Jvm.MethodName) jdk_67_method_42_code (1 : Nat) (Option.some (Jvm.ClassFile.FieldType.object "java/lang/String")), Jvm.Cond.code ({ cls := "java/lang/String", name := "<init>", desc := "(Ljava/lang/StringBuilder;)V" } : Jvm.MethodName) jdk_42_method_53_code (2 : Nat) (Option.none : Option Jvm.ClassFile.FieldType), Jvm.Cond.code ({ cls := "java/lang/String", name := "<init>", desc := "(Ljava/lang/AbstractStringBuilder;Ljava/lang/Void;)V" } : Jvm.MethodName) jdk_42_method_150_code (5 : Nat) (Option.none : Option Jvm.ClassFile.FieldType), Jvm.Cond.code ({ cls := "java/lang/AbstractStringBuilder", name := "getValue", desc := "()[B" } : Jvm.MethodName) jdk_68_method_64_code (1 : Nat) (Option.some (Jvm.ClassFile.FieldType.array Jvm.ClassFile.FieldType.byte)), Jvm.Cond.code ({ cls := "java/lang/StringBuilder", name := "length", desc := "()I" } : Jvm.MethodName) jdk_67_method_93_code (1 : Nat) (Option.some Jvm.ClassFile.FieldType.int), Jvm.Cond.code ({ cls := "java/lang/AbstractStringBuilder", name := "length", desc := "()I" } : Jvm.MethodName) jdk_68_method_6_code (1 : Nat) (Option.some Jvm.ClassFile.FieldType.int), Jvm.Cond.code ({ cls := "java/util/Arrays", name := "copyOfRange", desc := "([BII)[B" } : Jvm.MethodName) jdk_65_method_132_code (3 : Nat) (Option.some (Jvm.ClassFile.FieldType.array Jvm.ClassFile.FieldType.byte)), Jvm.Cond.code ({ cls := "java/util/Arrays", name := "copyOfRangeByte", desc := "([BII)[B" } : Jvm.MethodName) jdk_65_method_133_code (5 : Nat) (Option.some (Jvm.ClassFile.FieldType.array Jvm.ClassFile.FieldType.byte)), Jvm.Cond.code ({ cls := "java/util/Arrays", name := "checkLength", desc := "(II)V" } : Jvm.MethodName) jdk_65_method_131_code (2 : Nat) (Option.none : Option Jvm.ClassFile.FieldType), Jvm.Cond.code ({ cls := "com/example/planstitch/planstitch/core/catalog/CostModel", name := "requireInRange", desc := "(ZLjava/lang/String;Ljava/lang/String;)V" } : Jvm.MethodName) prog_57_method_5_code (3 : Nat) (Option.none : Option Jvm.ClassFile.FieldType), Jvm.Cond.code ({ cls := "java/lang/Long", name := "toString", desc := "(J)Ljava/lang/String;" } : Jvm.MethodName) jdk_35_method_12_code (4 : Nat) (Option.some (Jvm.ClassFile.FieldType.object "java/lang/String")), Jvm.Cond.code ({ cls := "java/lang/String", name := "<init>", desc := "([BB)V" } : Jvm.MethodName) jdk_42_method_151_code (3 : Nat) (Option.none : Option Jvm.ClassFile.FieldType), Jvm.Cond.code ({ cls := "com/example/planstitch/planstitch/core/catalog/CostModel", name := "<init>", desc := "(JJ)V" } : Jvm.MethodName) prog_57_method_2_code (5 : Nat) (Option.none : Option Jvm.ClassFile.FieldType), Jvm.Cond.code ({ cls := "com/example/planstitch/planstitch/core/catalog/CostModel", name := "pricesBytes", desc := "()Z" } : Jvm.MethodName) prog_57_method_3_code (1 : Nat) (Option.some Jvm.ClassFile.FieldType.boolean)]
set_option maxRecDepth 65536 in
theorem codes_eq : words1.filter isCode = codes1 := rfl
theorem w_codes : ∀ c ∈ words1.filter isCode, c.before args0 about1 = true := by
  rw [codes_eq]
  intro c hc
  simp only [codes1, List.mem_cons, List.not_mem_nil, or_false] at hc
  rcases hc with rfl | rfl | rfl | rfl | rfl | rfl | rfl | rfl | rfl | rfl | rfl | rfl | rfl | rfl | rfl | rfl | rfl | rfl | rfl | rfl | rfl | rfl | rfl | rfl | rfl | rfl | rfl | rfl | rfl | rfl | rfl | rfl | rfl | rfl | rfl | rfl | rfl | rfl | rfl | rfl
  · exact w_c0
  · exact w_c1
  · exact w_c2
  · exact w_c3
  · exact w_c4
  · exact w_c5
  · exact w_c6
  · exact w_c7
  · exact w_c8
  · exact w_c9
  · exact w_c10
  · exact w_c11
  · exact w_c12
  · exact w_c13
  · exact w_c14
  · exact w_c15
  · exact w_c16
  · exact w_c17
  · exact w_c18
  · exact w_c19
  · exact w_c20
  · exact w_c21
  · exact w_c22
  · exact w_c23
  · exact w_c24
  · exact w_c25
  · exact w_c26
  · exact w_c27
  · exact w_c28
  · exact w_c29
  · exact w_c30
  · exact w_c31
  · exact w_c32
  · exact w_c33
  · exact w_c34
  · exact w_c35
  · exact w_c36
  · exact w_c37
  · exact w_c38
  · exact w_c39
set_option maxRecDepth 65536 in
theorem w_t1 : (words1.take 24).all (fun c => isCode c || c.before args0 about1) = true := by decide +kernel
set_option maxRecDepth 65536 in
theorem w_t2 : ((words1.drop 24).take 24).all (fun c => isCode c || c.before args0 about1) = true := by decide +kernel
set_option maxRecDepth 65536 in
theorem w_t3 : (((words1.drop 24).drop 24).take 24).all (fun c => isCode c || c.before args0 about1) = true := by decide +kernel
set_option maxRecDepth 65536 in
theorem w_t4 : ((((words1.drop 24).drop 24).drop 24).take 24).all (fun c => isCode c || c.before args0 about1) = true := by decide +kernel
set_option maxRecDepth 65536 in
theorem w_t5 : (((((words1.drop 24).drop 24).drop 24).drop 24).take 24).all (fun c => isCode c || c.before args0 about1) = true := by decide +kernel
set_option maxRecDepth 65536 in
theorem w_t6 : ((((((words1.drop 24).drop 24).drop 24).drop 24).drop 24).take 24).all (fun c => isCode c || c.before args0 about1) = true := by decide +kernel
set_option maxRecDepth 65536 in
theorem w_t7 : (((((((words1.drop 24).drop 24).drop 24).drop 24).drop 24).drop 24).take 24).all (fun c => isCode c || c.before args0 about1) = true := by decide +kernel
set_option maxRecDepth 65536 in
theorem w_t8 : ((((((((words1.drop 24).drop 24).drop 24).drop 24).drop 24).drop 24).drop 24).take 24).all (fun c => isCode c || c.before args0 about1) = true := by decide +kernel
set_option maxRecDepth 65536 in
theorem w_t9 : (((((((((words1.drop 24).drop 24).drop 24).drop 24).drop 24).drop 24).drop 24).drop 24).take 24).all (fun c => isCode c || c.before args0 about1) = true := by decide +kernel
set_option maxRecDepth 65536 in
theorem w_t10 : (((((((((words1.drop 24).drop 24).drop 24).drop 24).drop 24).drop 24).drop 24).drop 24).drop 24).all (fun c => isCode c || c.before args0 about1) = true := by decide +kernel
theorem w_tables : (allAtoms (Jvm.Cond.code x code maxLocals ret :: tables_1)).before args0 about1 = true := by
  rw [allAtoms_all]
  show words1.all (fun c => c.before args0 about1) = true
  refine all_split ?_ w_codes
  rw [← List.take_append_drop 24 words1, List.all_append, w_t1, ← List.take_append_drop 24 (words1.drop 24), List.all_append, w_t2, ← List.take_append_drop 24 ((words1.drop 24).drop 24), List.all_append, w_t3, ← List.take_append_drop 24 (((words1.drop 24).drop 24).drop 24), List.all_append, w_t4, ← List.take_append_drop 24 ((((words1.drop 24).drop 24).drop 24).drop 24), List.all_append, w_t5, ← List.take_append_drop 24 (((((words1.drop 24).drop 24).drop 24).drop 24).drop 24), List.all_append, w_t6, ← List.take_append_drop 24 ((((((words1.drop 24).drop 24).drop 24).drop 24).drop 24).drop 24), List.all_append, w_t7, ← List.take_append_drop 24 (((((((words1.drop 24).drop 24).drop 24).drop 24).drop 24).drop 24).drop 24), List.all_append, w_t8, ← List.take_append_drop 24 ((((((((words1.drop 24).drop 24).drop 24).drop 24).drop 24).drop 24).drop 24).drop 24), List.all_append, w_t9, w_t10]
  rfl
set_option maxRecDepth 65536 in
theorem w_rest : rest_1_c.before args0 about1 = true := by decide +kernel
set_option maxRecDepth 65536 in
theorem w_case : (Jvm.Cond.and given_1 narrow_1).before args0 about1 = true := by decide +kernel
set_option maxRecDepth 65536 in
theorem w_consts : constsHeld consts_1 about1 := Jvm.Lit.constsHeldB_iff.mp (by decide +kernel)
theorem w_applies : (headSpec (Jvm.Cond.code x code maxLocals ret :: tables_1) room_1).applies x e0.platform about1 = true :=
  (Spec.applies_iff w_frames).mpr ⟨w_running, w_runnable, w_alone, w_named, w_hears, w_ripe, w_room, w_tables⟩
theorem atStart : AtStart classFile x code maxLocals ret World_1 tables_1 room_1 Calls_1 rest_1 Pre_1 launch0 p0 e0 about1 theMethod args0 below0 :=
  ⟨lists_1, trivial, launch0.admits_env _ _ _, launch0.least_env, fairChoices_fair.cas, fairChoices_fair.clock, w_frames, w_args, w_heap, w_applies, ⟨w_consts, trivial⟩, w_rest, w_case⟩
end start1
theorem witness_1 : WitnessClaimed_1 := ⟨start1.p0, start1.e0, start1.about1, start1.theMethod, start1.args0, start1.below0, start1.atStart⟩
end Jvm.Pilot.@@N@@
