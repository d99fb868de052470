import JvmDerived
import JvmDerived.Pilot.@@N@@Statement
import JvmDerived.Pilot.@@N@@Code
set_option linter.unusedVariables false
set_option linter.unusedSimpArgs false
namespace Jvm.Pilot.@@N@@
open Jvm Jvm.ClassFile Sem Op Lib Jvm.Free Jvm.Stand Jvm.LawKit Jvm.RoadKit Bundle Jvm.Pilot.@@N@@.Jvm.D
/-- from the state S the body comes to its end, and there G holds -/
def Go (p : Program) (e : Env) (below : List Frame) (G : Outcome → State → Prop) (S : State) : Prop := ∃ s₂ o, Steps p.tables e below S s₂ ∧ s₂.status = .running ∧ Ended s₂ below o ∧ G o s₂
theorem Go.step {p : Program} {e : Env} {below : List Frame} {G : Outcome → State → Prop} {S S' : State} (k : ∀ t, Steps p.tables e below S' t → Steps p.tables e below S t) (g : Go p e below G S') : Go p e below G S := by
  obtain ⟨s₂, o, h, r⟩ := g
  exact ⟨s₂, o, k _ h, r⟩
theorem Go.fin {p : Program} {e : Env} {below : List Frame} {G : Outcome → State → Prop} {S S' : State} {o : Outcome} (h : Steps p.tables e below S S') (h1 : S'.status = .running) (h2 : Ended S' below o) (h3 : G o S') : Go p e below G S := ⟨_, _, h, h1, h2, h3⟩
abbrev lv (x : Int64) : Slot := .val (.long x)
abbrev u_ : Slot := .unset
theorem own_w {Z : State} {a0 : Array Value} (hw : ∀ d ∈ tables_1, d.before a0 Z = true) (k : Nat) {d : Jvm.Cond} (h : tables_1[k]? = some d) : d.before a0 Z = true := hw d (List.mem_of_getElem? h)
theorem old_le {Z : State} {n0 : Nat} {h : Heap} (O : Old Z n0 h) : n0 ≤ h.size := O.1 ▸ O.2.1
theorem own_getR {p : Program} {l : Launch} {e : Env} {R : Room} {s : State} {m : MethodId} {args : Array Value} {below : List Frame} {meth : Method} {c : Code} {T : State} {locs : List Loc} {cells slots : Nat} {Z : State} {a0 : Array Value} {h : Heap}
    (X : Stand p l e R s m args below meth c T locs cells slots) (hx : p.tables.exec = Jvm.exec) (hZ : Z.Warmed39 s.vm) {own R0 n d : String} {index : Nat} (hown : s.vm.findClass own = some m.cls) (w : (Jvm.Cond.fieldRef own index R0 n d).before a0 Z = true)
    (eT : T.heap = h) {a : Addr} {v : Value} (F : Fld Z h a R0 n d v) {g : JFrame} (hg : g.method = m) {rest : List Value} (hs : g.stack = .ref a :: rest) (hd : decode c.code g.pc = .ok (.getfield index, 3)) : ∀ target, Steps p.tables e below (T.setTop { g with pc := g.pc + 3, stack := v :: rest }) target → Steps p.tables e below (T.setTop g) target := by
  obtain ⟨cell, cf, k, i, f, h1, h2, h3, h4, -, -, h7⟩ := F
  have hT : Z.Warmed39 T.vm := wtrans hZ X.warmed
  have w' := Cond.fieldRef_warmed39 hT w
  have ho : (Z.setVm T.vm).vm.findClass own = some m.cls := by show T.vm.findClass own = _; rw [X.warmed.alike.findClass]; exact hown
  obtain ⟨c1, k1, i1, f1, e1, hr⟩ := Cond.fieldRef_spec ho w'
  obtain ⟨k', hi, -⟩ := State.fieldFound?_setVm (s := Z) hT.alike h2
  cases e1.symm.trans hi
  intro target kk
  exact (X.getfieldR hx hg hr h3 hs (by rw [eT]; exact h1) h4 h7 hd (Steps.refl _)).trans kk
theorem own_selP {Z s : State} {a0 args : Array Value} {y : MethodName} {n : Nat} (hZ : Z.Warmed39 s.vm) (wi : (Jvm.Cond.instantiable y.cls n).before a0 Z = true) (wn : (Jvm.Cond.instanceMethod y).before a0 Z = true) (wp : (Jvm.Cond.privateMethod y).before a0 Z = true)
    (hy : y.cls ≠ "java/lang/invoke/MethodHandle" ∧ y.cls ≠ "java/lang/invoke/VarHandle") : (Jvm.Cond.selects y.cls y y).before args s = true := by
  have wi' : (Jvm.Cond.instantiable y.cls n).before args s = true := mv hZ wi
  obtain ⟨c, k, h1, h2, -, h4, -⟩ := Cond.instantiable_spec wi'
  exact Stand.selects_self_of_private h1 h2 (by simp only [Bool.or_eq_false_iff] at h4; exact h4.1) (Cond.privateMethod_at (args := args) (mvP hZ wp)) (mvT hZ wn) hy
theorem own_eqI {t : Term} {n : Int32} {args : Array Value} {s : State} (h : (Jvm.Cond.eq t (.int n)).value args s none s [] = some true) : t.eval args s none [] s = some (.int n) := by
  have hn : (Term.int n).eval args s none [] s = some (.int n) := rfl
  cases ht : t.eval args s none [] s with
  | none => simp [Cond.value, ht] at h
  | some v => cases v <;> simp [Cond.value, ht, hn] at h ⊢; exact h
theorem own_eqJ {t : Term} {n : Int64} {args : Array Value} {s : State} (h : (Jvm.Cond.eq t (.long n)).value args s none s [] = some true) : t.eval args s none [] s = some (.long n) := by
  have hn : (Term.long n).eval args s none [] s = some (.long n) := rfl
  cases ht : t.eval args s none [] s with
  | none => simp [Cond.value, ht] at h
  | some v => cases v <;> simp [Cond.value, ht, hn] at h ⊢; exact h
abbrev HW (a0 : Array Value) (Z : State) : Prop := ∀ d ∈ tables_1, d.before a0 Z = true
abbrev Gq (Q : Option Value → Heap → List Loc → Prop) (s : State) (rc rs : Nat) : Outcome → State → Prop := fun o U' => ∃ v L, o = .returned v ∧ Q v U'.heap L ∧ FrameEnd s o U' L rc rs
abbrev Mt (l : Launch) (Z : State) (y : MethodName) (bytes : ByteArray) (k : Nat) (rt : Option FieldType) (ws : List Jvm.Cond) (rm : Room) (A : Array Value) (h0 : Heap) (Q : Option Value → Heap → List Loc → Prop) : Prop :=
  MetFree l y (head1 (Jvm.Cond.code y bytes k rt :: ws) rm) (fun a U => a = A ∧ Z.Warmed39 U.vm ∧ U.heap = h0) (fun _ _ _ _ _ => True) (fun _ U o U' => ∃ v L, o = .returned v ∧ Q v U'.heap L ∧ FrameEnd U o U' L rm.cells rm.slots)
theorem own_met {l : Launch} {Z : State} {y : MethodName} {bytes : ByteArray} {k : Nat} {rt : Option FieldType} {ws : List Jvm.Cond} {rm : Room} {A : Array Value} {h0 : Heap} {Q : Option Value → Heap → List Loc → Prop} (own : String) (hp : plainFor y = true) (ls : Array Slot) (ef : ∀ m, entryFrame m A k = mkF m 0 ls [])
    (H : ∀ (p : Program) (e : Env) (s : State) (m : MethodId) (below : List Frame) (meth : Method) (c : Code) (s₁ : State), BodyLoose p l y (head1 (Jvm.Cond.code y bytes k rt :: ws) rm) bytes k rt e s m A below meth c s₁ → p.tables.exec = Jvm.exec → c.code = bytes → c.maxLocals = k → Z.Warmed39 s.vm → s.vm.findClass own = some m.cls → meth.name = y.name → Stand p l e rm s m A below meth c s₁ [] 0 0 → s₁.heap = h0 → Go p e below (Gq Q s rm.cells rm.slots) (s₁.setTop (mkF m 0 ls []))) (hy : y.cls = own := by rfl) : Mt l Z y bytes k rt ws rm A h0 Q := by
  refine MetFree.of_bodySF hp hisR ?_
  intro p e s m args below meth c s₁ Bd hml hP hK
  obtain ⟨rfl, hZ, hh⟩ := hP
  subst hy
  have e0 : s₁.heap = h0 := by rw [← hh, Bd.state]; rfl
  have g := H p e s m below meth c s₁ Bd Bd.exec Bd.bytes hml hZ (findClass_of_methodNamed Bd.named) (name_of_methodNamed Bd.named Bd.method).1 (Stand.of_body Bd) e0
  rw [← ef] at g
  exact g
theorem Go.cS {p : Program} {l : Launch} {e : Env} {R : Room} {s : State} {m : MethodId} {args : Array Value} {below : List Frame} {meth : Method} {c : Code} {T : State} {locs : List Loc} {cells slots : Nat} {G : Outcome → State → Prop} {Z : State} {a0 : Array Value} {h : Heap} {own : String} {index n : Nat} {y : MethodName} {bytes : ByteArray} {maxL : Nat} {rt : Option FieldType} {rm : Room} {argsL : List Value} {Q : Option Value → Heap → List Loc → Prop} (X : Stand p l e R s m args below meth c T locs cells slots) (hx : p.tables.exec = Jvm.exec) (hml : c.maxLocals = n) (hown : s.vm.findClass own = some m.cls) (hZ : Z.Warmed39 s.vm) (w1 : (Jvm.Cond.methodLink own index y).before a0 Z = true) (w2 : (Jvm.Cond.static y).before a0 Z = true) (w3 : (Jvm.Cond.initialized y.cls).before a0 Z = true) (w4 : (Jvm.Cond.code y bytes maxL rt).before a0 Z = true)
    (hM : Mt l Z y bytes maxL rt [] rm argsL.toArray h Q) (W : Nat) {pc : Nat} {Ls : Array Slot} {stk : List Value} (rest : List Value)
    {ps : List FieldType} {r : Option FieldType} (pd : parseMethodDescriptor y.desc = some ⟨ps, r⟩)
    (hd : decode c.code pc = .ok (.invokestatic index, 3)) (eT : T.heap = h)
    (K : ∀ v T' L, Stand p l e R s m args below meth c T' (locs ++ L) (cells + rm.cells) (slots + rm.slots) → Q v T'.heap L → Go p e below G (T'.setTop (mkF m (pc + 3) Ls (v.toList ++ rest))))
    (hf : rm.frames + 1 ≤ R.frames := by decide) (hl : W + (maxL + 11) + rm.locals ≤ R.locals := by decide) (hy : y.cls ≠ "java/lang/invoke/MethodHandle" ∧ y.cls ≠ "java/lang/invoke/VarHandle" := by decide) (hn : argsL.length = ps.length := by rfl) (hs : stk = argsL.reverse ++ rest := by rfl)
    (hsz : Ls.size = n := by rfl) (hW : 2 * (mkF m pc Ls stk).monitorRoom + (rest.map fun v => v.category).sum ≤ W := by exact Nat.le_of_eq rfl) (h1 : cells + rm.cells ≤ R.cells := by decide) (h2 : slots + rm.slots ≤ R.slots := by decide) : Go p e below G (T.setTop (mkF m pc Ls stk)) := by
  obtain ⟨_, _, ⟨T1, L1, k1, n1⟩, -, X1, ⟨Lc1, hQ1, l1, y1, z1⟩, st1⟩ := Jvm.LawKit.callS X hx (y := y) hown (mvT hZ w1) (mvT hZ w2) (mvT hZ w3) (mvT hZ w4) hy (backOf (W := W) hM hZ w4 w3 hf hl) (g := mkF m pc Ls stk) rfl (hsz.trans hml.symm) (argsL := argsL) (rest := rest) (lenOf pd hn) hs hW hd (fun _ _ => ⟨rfl, eT, h1, h2⟩)
  dsimp only [Pt.U, Pt.locs, Pt.cells, Pt.slots] at X1 l1 y1 z1 st1 hQ1
  subst l1 y1 z1
  exact Go.step st1 (K _ _ _ X1 hQ1)
theorem Go.cI {p : Program} {l : Launch} {e : Env} {R : Room} {s : State} {m : MethodId} {args : Array Value} {below : List Frame} {meth : Method} {c : Code} {T : State} {locs : List Loc} {cells slots : Nat} {G : Outcome → State → Prop} {Z : State} {a0 : Array Value} {h : Heap} {own : String} {index n : Nat} {y : MethodName} {bytes : ByteArray} {maxL : Nat} {rm : Room} {argsL : List Value} {Q : Option Value → Heap → List Loc → Prop} {a : Addr} (X : Stand p l e R s m args below meth c T locs cells slots) (hx : p.tables.exec = Jvm.exec) (hml : c.maxLocals = n) (hown : s.vm.findClass own = some m.cls) (hZ : Z.Warmed39 s.vm) (w1 : (Jvm.Cond.methodLink own index y).before a0 Z = true) (w2 : (Jvm.Cond.instanceMethod y).before a0 Z = true) (w3 : (Jvm.Cond.initialized y.cls).before a0 Z = true) (w4 : (Jvm.Cond.code y bytes maxL none).before a0 Z = true)
    (hM : Mt l Z y bytes maxL none [] rm (.ref a :: argsL).toArray h Q) (W : Nat) {pc : Nat} {Ls : Array Slot} {stk : List Value} (rest : List Value)
    {ps : List FieldType} {r : Option FieldType} (pd : parseMethodDescriptor y.desc = some ⟨ps, r⟩)
    (hd : decode c.code pc = .ok (.invokespecial index, 3)) (eT : T.heap = h)
    (K : ∀ v T' L, Stand p l e R s m args below meth c T' (locs ++ L) (cells + rm.cells) (slots + rm.slots) → Q v T'.heap L → Go p e below G (T'.setTop (mkF m (pc + 3) Ls (v.toList ++ rest))))
    (hf : rm.frames + 1 ≤ R.frames := by decide) (hl : W + (maxL + 11) + rm.locals ≤ R.locals := by decide) (hy : y.cls ≠ "java/lang/invoke/MethodHandle" ∧ y.cls ≠ "java/lang/invoke/VarHandle" := by decide) (hn : argsL.length = ps.length := by rfl) (hs : stk = argsL.reverse ++ .ref a :: rest := by rfl)
    (hsz : Ls.size = n := by rfl) (hW : 2 * (mkF m pc Ls stk).monitorRoom + (rest.map fun v => v.category).sum ≤ W := by exact Nat.le_of_eq rfl) (h1 : cells + rm.cells ≤ R.cells := by decide) (h2 : slots + rm.slots ≤ R.slots := by decide) (hy1 : y.name = "<init>" := by rfl) : Go p e below G (T.setTop (mkF m pc Ls stk)) := by
  obtain ⟨_, _, ⟨T1, L1, k1, n1⟩, -, X1, ⟨Lc1, hQ1, l1, y1, z1⟩, st1⟩ := X.specialBack hx (y := y) hy1 hown (mvT hZ w1) (mvT hZ w2) (mvT hZ w4) hy (backOf (W := W) hM hZ w4 w3 hf hl) (g := mkF m pc Ls stk) rfl (hsz.trans hml.symm) (Steps.refl _) (a := a) (argsL := argsL) (rest := rest) (lenOf pd hn) hs hW hd (fun _ _ => ⟨rfl, eT, h1, h2⟩)
  dsimp only [Pt.U, Pt.locs, Pt.cells, Pt.slots] at X1 l1 y1 z1 st1 hQ1
  subst l1 y1 z1
  exact Go.step (fun _ k => st1.trans k) (K _ _ _ X1 hQ1)
theorem Go.cV {p : Program} {l : Launch} {e : Env} {R : Room} {s : State} {m : MethodId} {args : Array Value} {below : List Frame} {meth : Method} {c : Code} {T : State} {locs : List Loc} {cells slots : Nat} {G : Outcome → State → Prop} {Z : State} {a0 : Array Value} {h : Heap} {own : String} {index n : Nat} {y : MethodName} {bytes : ByteArray} {maxL : Nat} {rt : Option FieldType} {rm : Room} {argsL : List Value} {Q : Option Value → Heap → List Loc → Prop} {a : Addr} {C : String} (X : Stand p l e R s m args below meth c T locs cells slots) (hx : p.tables.exec = Jvm.exec) (hml : c.maxLocals = n) (hown : s.vm.findClass own = some m.cls) (hZ : Z.Warmed39 s.vm) (w1 : (Jvm.Cond.methodLink own index y).before a0 Z = true) (w2 : (Jvm.Cond.declares y).before a0 Z = true) (w5 : (Jvm.Cond.selects C y y).before a0 Z = true) (w6 : (Jvm.Cond.instanceMethod y).before a0 Z = true) (w3 : (Jvm.Cond.initialized y.cls).before a0 Z = true) (w4 : (Jvm.Cond.code y bytes maxL rt).before a0 Z = true) (E : Exa Z h a C)
    (hM : Mt l Z y bytes maxL rt [] rm (.ref a :: argsL).toArray h Q) (W : Nat) {pc : Nat} {Ls : Array Slot} {stk : List Value} (rest : List Value)
    {ps : List FieldType} {r : Option FieldType} (pd : parseMethodDescriptor y.desc = some ⟨ps, r⟩)
    (hd : decode c.code pc = .ok (.invokevirtual index, 3)) (eT : T.heap = h)
    (K : ∀ v T' L, Stand p l e R s m args below meth c T' (locs ++ L) (cells + rm.cells) (slots + rm.slots) → Q v T'.heap L → Go p e below G (T'.setTop (mkF m (pc + 3) Ls (v.toList ++ rest))))
    (hf : rm.frames + 1 ≤ R.frames := by decide) (hl : W + (maxL + 11) + rm.locals ≤ R.locals := by decide) (hy : y.cls ≠ "java/lang/invoke/MethodHandle" ∧ y.cls ≠ "java/lang/invoke/VarHandle" := by decide) (hn : argsL.length = ps.length := by rfl) (hs : stk = argsL.reverse ++ .ref a :: rest := by rfl)
    (hsz : Ls.size = n := by rfl) (hW : 2 * (mkF m pc Ls stk).monitorRoom + (rest.map fun v => v.category).sum ≤ W := by exact Nat.le_of_eq rfl) (h1 : cells + rm.cells ≤ R.cells := by decide) (h2 : slots + rm.slots ≤ R.slots := by decide) : Go p e below G (T.setTop (mkF m pc Ls stk)) := by
  obtain ⟨cq1, kq1, q1a, q1b, q1c⟩ := isOf hZ eT E
  obtain ⟨_, _, ⟨T1, L1, k1, n1⟩, -, X1, ⟨Lc1, hQ1, l1, y1, z1⟩, st1⟩ := X.virtualBack hx (y := y) (z := y) hown (mvT hZ w1) (mvT hZ w2) (notFace_of_selects (args := #[]) (mvT hZ w5)) (mvT hZ w5) (mvT hZ w6) hy (backOf (W := W) hM hZ w4 w3 hf hl) q1a q1c (g := mkF m pc Ls stk) rfl (hsz.trans hml.symm) (Steps.refl _) (argsL := argsL) (rest := rest) (lenOf pd hn) hs hW hd (fun _ _ => ⟨rfl, eT, h1, h2⟩)
  dsimp only [Pt.U, Pt.locs, Pt.cells, Pt.slots] at X1 l1 y1 z1 st1 hQ1
  subst l1 y1 z1
  exact Go.step (fun _ k => st1.trans k) (K _ _ _ X1 hQ1)
theorem Go.rt {p : Program} {l : Launch} {e : Env} {R : Room} {s : State} {m : MethodId} {args : Array Value} {below : List Frame} {meth : Method} {c : Code} {T : State} {locs : List Loc} {cells slots : Nat} {Q : Option Value → Heap → List Loc → Prop} {y : MethodName} {S : Spec} {bytes : ByteArray} {k pc rc rs : Nat} {t : FieldType} {A : Array Value} {s₁ : State} {Ls : Array Slot} {w : Value} {rest : List Value} {i : Instr} (X : Stand p l e R s m args below meth c T locs cells slots) (hx : p.tables.exec = Jvm.exec) (Bd : BodyLoose p l y S bytes k (some t) e s m A below meth c s₁) (hn : narrow t w = w)
    (hi : (i = .ireturn ∧ (t = .int ∨ t = .boolean ∨ t = .byte ∨ t = .char ∨ t = .short) ∧ ∃ z, w = .int z) ∨ (i = .lreturn ∧ t = .long ∧ ∃ z, w = .long z) ∨ (i = .dreturn ∧ t = .double ∧ ∃ z, w = .double z) ∨ (i = .freturn ∧ t = .float ∧ ∃ z, w = .float z) ∨ (i = .areturn ∧ t.isReference = true ∧ w.isRef = true))
    (hd : decode c.code pc = .ok (i, 1)) {h : Heap} (eT : T.heap = h) (hq : Q (some w) h locs) (h1 : cells ≤ rc := by decide) (h2 : slots ≤ rs := by decide) : Go p e below (Gq Q s rc rs) (T.setTop (mkF m pc Ls (w :: rest))) := by
  subst eT
  obtain ⟨fs, hr, hrun, hended, hW, hsame⟩ := X.leave (v := some w) (fun h => by rw [Bd.returns] at h; cases h) Bd.notSynchronized
  exact Go.fin (S' := T.setFrames fs) (retOut X hx Bd.returns hn hi hd hr) hrun hended ⟨_, _, rfl, hq, ⟨_, rfl⟩, hW, hsame.mono h1 h2⟩
theorem Go.rv {p : Program} {l : Launch} {e : Env} {R : Room} {s : State} {m : MethodId} {args : Array Value} {below : List Frame} {meth : Method} {c : Code} {T : State} {locs : List Loc} {cells slots : Nat} {Q : Option Value → Heap → List Loc → Prop} {y : MethodName} {S : Spec} {bytes : ByteArray} {k pc rc rs : Nat} {A : Array Value} {s₁ : State} {Ls : Array Slot} (X : Stand p l e R s m args below meth c T locs cells slots) (hx : p.tables.exec = Jvm.exec) (Bd : BodyLoose p l y S bytes k none e s m A below meth c s₁)
    (hd : decode c.code pc = .ok (.return_, 1)) {h : Heap} (eT : T.heap = h) (hq : Q none h locs) (h1 : cells ≤ rc := by decide) (h2 : slots ≤ rs := by decide) : Go p e below (Gq Q s rc rs) (T.setTop (mkF m pc Ls [])) := by
  subst eT
  obtain ⟨fs, hr, hrun, hended, hW, hsame⟩ := X.leave (v := none) (fun _ => rfl) Bd.notSynchronized
  exact Go.fin (S' := T.setFrames fs) (X.returnOut hx Bd.returns hd hr) hrun hended ⟨_, _, rfl, hq, ⟨_, rfl⟩, hW, hsame.mono h1 h2⟩
theorem Go.gS {p : Program} {l : Launch} {e : Env} {R : Room} {s : State} {m : MethodId} {args : Array Value} {below : List Frame} {meth : Method} {c : Code} {T : State} {locs : List Loc} {cells slots : Nat} {G : Outcome → State → Prop} {Z : State} {a0 : Array Value} {h : Heap} {own R0 O n d host : String} {index pc : Nat} {Ls : Array Slot} {stk : List Value} {v : Value} (X : Stand p l e R s m args below meth c T locs cells slots) (hx : p.tables.exec = Jvm.exec) (hZ : Z.Warmed39 s.vm) (hown : s.vm.findClass own = some m.cls) (w : (Jvm.Cond.fieldLink own index R0 n d).before a0 Z = true ∨ (Jvm.Cond.fieldLinkNest own index R0 n d host).before a0 Z = true) (via : Via Z R0 O n d)
    (eT : T.heap = h) (F : Sta Z h O n d v) (hd : decode c.code pc = .ok (.getstatic index, 3)) (K : ∀ T', Stand p l e R s m args below meth c T' locs cells slots → T'.heap = h → Go p e below G (T'.setTop (mkF m (pc + 3) Ls (v :: stk)))) : Go p e below G (T.setTop (mkF m pc Ls stk)) := by
  obtain ⟨T1, X1, e1, st1⟩ := getS2 X hx hZ hown w via eT F (g := mkF m pc Ls stk) rfl hd
  exact Go.step st1 (K _ X1 e1)
theorem Go.gF {p : Program} {l : Launch} {e : Env} {R : Room} {s : State} {m : MethodId} {args : Array Value} {below : List Frame} {meth : Method} {c : Code} {T : State} {locs : List Loc} {cells slots : Nat} {G : Outcome → State → Prop} {Z : State} {a0 : Array Value} {h : Heap} {own R0 O n d host : String} {index pc : Nat} {Ls : Array Slot} {stk : List Value} {v : Value} {a : Addr} (X : Stand p l e R s m args below meth c T locs cells slots) (hx : p.tables.exec = Jvm.exec) (hZ : Z.Warmed39 s.vm) (hown : s.vm.findClass own = some m.cls) (w : (Jvm.Cond.fieldLink own index R0 n d).before a0 Z = true ∨ (Jvm.Cond.fieldLinkNest own index R0 n d host).before a0 Z = true) (via : Via Z R0 O n d)
    (eT : T.heap = h) (F : Fld Z h a O n d v) (hd : decode c.code pc = .ok (.getfield index, 3)) (K : ∀ T', Stand p l e R s m args below meth c T' locs cells slots → T'.heap = h → Go p e below G (T'.setTop (mkF m (pc + 3) Ls (v :: stk)))) : Go p e below G (T.setTop (mkF m pc Ls (.ref a :: stk))) := by
  obtain ⟨T1, X1, e1, st1⟩ := getF X hx hZ hown w via eT F (g := mkF m pc Ls (.ref a :: stk)) rfl rfl hd
  exact Go.step st1 (K _ X1 e1)
theorem Go.bal {p : Program} {l : Launch} {e : Env} {R : Room} {s : State} {m : MethodId} {args : Array Value} {below : List Frame} {meth : Method} {c : Code} {T : State} {locs : List Loc} {cells slots : Nat} {G : Outcome → State → Prop} {Z : State} {h : Heap} {pc : Nat} {Ls : Array Slot} {stk vs : List Value} {v d : Value} {a : Addr} {k : ClassId} {n j : Int32} (X : Stand p l e R s m args below meth c T locs cells slots) (hx : p.tables.exec = Jvm.exec) (hZ : Z.Warmed39 s.vm)
    (eT : T.heap = h) (F : Arv Z h a k .byte n vs d) (hd : decode c.code pc = .ok (.baload, 1)) (hv : vs.getD j.toNatClampNeg d = v) (K : Go p e below G (T.setTop (mkF m (pc + 1) Ls (v :: stk)))) (q : ¬ j < 0 ∧ j < n := by decide) : Go p e below G (T.setTop (mkF m pc Ls (.int j :: .ref a :: stk))) := by
  subst eT
  obtain ⟨cl, Ar, -, S, -, H, -⟩ := F
  exact Go.step (fun t k => X.baloadBytes hx Ar.1 (State.isArrayOf_alike hZ.alike Ar.2.1) Ar.2.2 (inb_of S q) (H.at (inb_of S q) hv) (g := mkF m pc Ls (.int j :: .ref a :: stk)) rfl rfl hd _ k) K
theorem Go.cal {p : Program} {l : Launch} {e : Env} {R : Room} {s : State} {m : MethodId} {args : Array Value} {below : List Frame} {meth : Method} {c : Code} {T : State} {locs : List Loc} {cells slots : Nat} {G : Outcome → State → Prop} {Z : State} {h : Heap} {pc : Nat} {Ls : Array Slot} {stk vs : List Value} {v d : Value} {a : Addr} {k : ClassId} {n j : Int32} (X : Stand p l e R s m args below meth c T locs cells slots) (hx : p.tables.exec = Jvm.exec) (hZ : Z.Warmed39 s.vm)
    (eT : T.heap = h) (F : Arv Z h a k .char n vs d) (hd : decode c.code pc = .ok (.caload, 1)) (hv : vs.getD j.toNatClampNeg d = v) (K : Go p e below G (T.setTop (mkF m (pc + 1) Ls (v :: stk)))) (q : ¬ j < 0 ∧ j < n := by decide) : Go p e below G (T.setTop (mkF m pc Ls (.int j :: .ref a :: stk))) := by
  subst eT
  obtain ⟨cl, Ar, -, S, -, H, -⟩ := F
  exact Go.step (fun t k => X.caload hx Ar.1 (State.isArrayOf_alike hZ.alike Ar.2.1) Ar.2.2 (inb_of S q) (H.at (inb_of S q) hv) (g := mkF m pc Ls (.int j :: .ref a :: stk)) rfl rfl hd _ k) K
theorem Go.len {p : Program} {l : Launch} {e : Env} {R : Room} {s : State} {m : MethodId} {args : Array Value} {below : List Frame} {meth : Method} {c : Code} {T : State} {locs : List Loc} {cells slots : Nat} {G : Outcome → State → Prop} {Z : State} {h : Heap} {pc : Nat} {Ls : Array Slot} {stk vs : List Value} {d : Value} {a : Addr} {k : ClassId} {ty : FieldType} {n : Int32} (X : Stand p l e R s m args below meth c T locs cells slots) (hx : p.tables.exec = Jvm.exec) (hZ : Z.Warmed39 s.vm)
    (eT : T.heap = h) (F : Arv Z h a k ty n vs d) (hd : decode c.code pc = .ok (.arraylength, 1)) (K : Go p e below G (T.setTop (mkF m (pc + 1) Ls (.int n :: stk)))) : Go p e below G (T.setTop (mkF m pc Ls (.ref a :: stk))) := by
  subst eT
  obtain ⟨cl, Ar, -, S, N, -, -⟩ := F
  rw [← len_of S N] at K
  exact Go.step (fun t k => X.arraylength hx Ar.1 (State.isArrayOf_alike hZ.alike Ar.2.1) (g := mkF m pc Ls (.ref a :: stk)) rfl rfl hd _ k) K
set_option maxRecDepth 65536
set_option maxHeartbeats 4000000
abbrev Sa_0 (Z : State) (v : Value) : Prop := Sta Z Z.heap "java/lang/String" "COMPACT_STRINGS" "Z" v
abbrev Sa_1 (Z : State) (v : Value) : Prop := Sta Z Z.heap "java/lang/StringUTF16" "$assertionsDisabled" "Z" v
abbrev Sa_2 (Z : State) (v : Value) : Prop := Sta Z Z.heap "java/lang/StringUTF16" "HI_BYTE_SHIFT" "I" v
abbrev Sa_3 (Z : State) (v : Value) : Prop := Sta Z Z.heap "java/lang/StringUTF16" "LO_BYTE_SHIFT" "I" v
abbrev Sa_4 (Z : State) (v : Value) : Prop := Sta Z Z.heap "jdk/internal/util/Preconditions" "SIOOBE_FORMATTER" "Ljava/util/function/BiFunction;" v
abbrev Fd_5 (Z : State) (h : Heap) (a : Addr) (v : Value) : Prop := Fld Z h a "java/lang/String" "value" "[B" v
abbrev Fd_6 (Z : State) (h : Heap) (a : Addr) (v : Value) : Prop := Fld Z h a "java/lang/String" "coder" "B" v
theorem own_wS {Z : State} {a0 : Array Value} (hw : ∀ d ∈ tables_1, d.before a0 Z = true) : ∀ a ∈ Bundle.stringAtoms, a.before a0 Z = true := by
  intro a ha
  simp only [Bundle.stringAtoms, List.mem_cons, List.not_mem_nil, or_false] at ha
  rcases ha with rfl | rfl | rfl | rfl | rfl | rfl | rfl
  · exact (own_w hw 5 rfl)
  · exact (own_w hw 4 rfl)
  · exact (own_w hw 17 rfl)
  · exact (own_w hw 18 rfl)
  · exact (own_w hw 19 rfl)
  · exact (own_w hw 20 rfl)
  · exact (own_w hw 21 rfl)
abbrev EL_ : List (String × Nat) := [("java/lang/String", 7)]
theorem own_EW {Z : State} {a0 : Array Value} (hw : ∀ d ∈ tables_1, d.before a0 Z = true) : EW Z a0 EL_ := EW.cons (own_w hw 16 rfl) (by decide) (EW.nil)
theorem own_CHw {Z s : State} {vm0 vm' : Vm} {a0 : Array Value} {h : Heap} {EL : List (String × Nat)} (hZ : Z.Warmed39 vm0) (w : EW Z a0 EL) (hW : (s.setVm vm0).WarmedH vm') (H : CHv Z EL vm0 h) : CHv Z EL vm' h :=
  (CHv.later (h' := h) hZ (hW := (show (Wst Z vm0 h).Warmed39 vm' from hW.wide)) w ⟨Nat.le_refl _, fun _ _ q => q⟩ (Or.inl hW.interned_eq) H).1
theorem own_backX {p : Program} {l : Launch} {e : Env} {R : Room} {s : State} {args : Array Value} {below : List Frame} {Z : State} {a0 : Array Value} {h : Heap} {y : MethodName} {bytes : ByteArray} {maxL : Nat} {ret : Option FieldType} {rm : Room} {len W : Nat} {as' : Array Value} {Q : Option Value → Heap → List Loc → Prop} {Ex : Vm → Prop}
    (hM : MetFree l y (head1 [Jvm.Cond.code y bytes maxL ret] rm) (fun a U => a = as' ∧ Z.Warmed39 U.vm ∧ U.heap = h ∧ Ex U.vm) (fun _ _ _ _ _ => True) (fun _ U o U' => ∃ v L, o = .returned v ∧ Q v U'.heap L ∧ ReturnedEndW U o U' L rm.cells rm.slots))
    (hZ : Z.Warmed39 s.vm) (wc : (Jvm.Cond.code y bytes maxL ret).before a0 Z = true) (wz : (Jvm.Cond.initialized y.cls).before a0 Z = true) (hf : rm.frames + 1 ≤ R.frames) (hl : W + (maxL + 11) + rm.locals ≤ R.locals) (hE : ∀ vm', s.WarmedH vm' → Ex vm') :
    BackS l R p e below s args y len W (fun A a => a = as' ∧ A.U.heap = h ∧ A.cells + rm.cells ≤ R.cells ∧ A.slots + rm.slots ≤ R.slots)
      (fun A _ v B => ∃ L, Q v B.U.heap L ∧ B.locs = A.locs ++ L ∧ B.cells = A.cells + rm.cells ∧ B.slots = A.slots + rm.slots) := by
  refine BackS.of_freeW (bytes := bytes) (maxL := maxL) (ret := ret) (E := fun _ _ o t L k n => k = rm.cells ∧ n = rm.slots ∧ ∃ v, o = .returned v ∧ Q v t.heap L) hM hf hl ?_ ?_ ?_ ?_ ?_
  · intro m meth c A a Y hp
    have hU : Z.Warmed39 A.U.vm := wtrans hZ Y.warmed
    refine ⟨?_, mv hU wc, mv hU wz, hp.2.2.1, hp.2.2.2⟩
    show (Jvm.Cond.and _ .tt).before a A.U = true
    rw [Cond.before_and, mv hU wc]; rfl
  · exact fun m meth c A a g mk Y hp => ⟨hp.1, wtrans hZ Y.warmed, hp.2.1, hE _ Y.warmed⟩
  · exact fun _ _ _ _ _ _ _ _ _ => trivial
  · rintro a first o t ⟨v, L, e1, e2, e3⟩
    exact ⟨L, _, _, e3, rfl, rfl, v, e1, e2⟩
  · rintro m meth c A a g mk v t L k n Y hp _ _ ⟨rfl, rfl, v', e3, e4⟩
    cases e3
    exact ⟨L, e4, rfl, rfl, rfl⟩
theorem own_b2 (x : Int32) : ((x.toInt8.toInt32).toInt8.toInt32) = (x.toInt8.toInt32) := by
  rw [← Int32.toInt_inj]
  have h1 := c_i2b x
  have h2 := c_i2b x.toInt8.toInt32
  omega
theorem own_i2c {x : Int32} (h0 : ¬ (x < (0 : Int32))) (h1 : ¬ ((255 : Int32) < x)) : (x.toUInt32.toUInt16.toUInt32.toInt32) = x := by
  rw [← Int32.toInt_inj]
  have := c_i2c x
  simp only [Int32.lt_iff_toInt_lt, show (0 : Int32).toInt = 0 from rfl, show (255 : Int32).toInt = 255 from rfl] at h0 h1
  omega
abbrev y_0 : MethodName := ⟨"java/lang/StringUTF16", "compress", "([CI[BII)I"⟩
theorem pn_java_lang_StringUTF16 : plainName "java/lang/StringUTF16" = true := by first | (simp [plainName, overriddenIn]; done) | decide +kernel
theorem d15_0 : decode jdk_52_method_21_code 0 = .ok (.iconst 0, 1) := by decide +kernel
theorem d15_1 : decode jdk_52_method_21_code 1 = .ok (.istore 5, 2) := by decide +kernel
theorem d15_3 : decode jdk_52_method_21_code 3 = .ok (.iload 5, 2) := by decide +kernel
theorem d15_5 : decode jdk_52_method_21_code 5 = .ok (.iload 4, 2) := by decide +kernel
theorem d15_7 : decode jdk_52_method_21_code 7 = .ok (.if_icmp .ge 37, 3) := by decide +kernel
theorem d15_10 : decode jdk_52_method_21_code 10 = .ok (.aload_n 0, 1) := by decide +kernel
theorem d15_11 : decode jdk_52_method_21_code 11 = .ok (.iload_n 1, 1) := by decide +kernel
theorem d15_12 : decode jdk_52_method_21_code 12 = .ok (.caload, 1) := by decide +kernel
theorem d15_13 : decode jdk_52_method_21_code 13 = .ok (.istore 6, 2) := by decide +kernel
theorem d15_15 : decode jdk_52_method_21_code 15 = .ok (.iload 6, 2) := by decide +kernel
theorem d15_17 : decode jdk_52_method_21_code 17 = .ok (.sipush 255, 3) := by decide +kernel
theorem d15_20 : decode jdk_52_method_21_code 20 = .ok (.if_icmp .le 6, 3) := by decide +kernel
theorem d15_26 : decode jdk_52_method_21_code 26 = .ok (.aload_n 2, 1) := by decide +kernel
theorem d15_27 : decode jdk_52_method_21_code 27 = .ok (.iload_n 3, 1) := by decide +kernel
theorem d15_28 : decode jdk_52_method_21_code 28 = .ok (.iload 6, 2) := by decide +kernel
theorem d15_30 : decode jdk_52_method_21_code 30 = .ok (.i2b, 1) := by decide +kernel
theorem d15_31 : decode jdk_52_method_21_code 31 = .ok (.bastore, 1) := by decide +kernel
theorem d15_32 : decode jdk_52_method_21_code 32 = .ok (.iinc 1 1, 3) := by decide +kernel
theorem d15_35 : decode jdk_52_method_21_code 35 = .ok (.iinc 3 1, 3) := by decide +kernel
theorem d15_38 : decode jdk_52_method_21_code 38 = .ok (.iinc 5 1, 3) := by decide +kernel
theorem d15_41 : decode jdk_52_method_21_code 41 = .ok (.goto (-38), 3) := by decide +kernel
theorem d15_44 : decode jdk_52_method_21_code 44 = .ok (.iload 4, 2) := by decide +kernel
theorem d15_46 : decode jdk_52_method_21_code 46 = .ok (.ireturn, 1) := by decide +kernel
abbrev rm_rmCl1 : Room := ({ frames := 0, cells := 0, slots := 0, locals := 0 } : Room)
def Q_rmCl1 (Z : State) (vc : Addr) (db : Addr) (kc : ClassId) (kb : ClassId) (x0 : Int32) (h0 : Heap) (n0 : Nat) (v : Option Value) (h : Heap) (L : List Loc) : Prop := (v = some (.int 1)) ∧ (Fr n0 L) ∧ (Keep h0 h [db]) ∧ (Arv Z h db kb .byte (1 : Int32) [(.int (x0.toInt8.toInt32))] (.int 0))
theorem rmCl1 (l : Launch) (Z : State) (a0 : Array Value) (hw : HW a0 Z) (ws : List Jvm.Cond) (vc : Addr) (db : Addr) (kc : ClassId) (kb : ClassId) (x0 : Int32) (h0 : Heap) (n0 : Nat) (O : Old Z n0 h0) (V_vc : Arv Z h0 vc kc .char (1 : Int32) [(.int x0)] (.int 0)) (V_db : Arv Z h0 db kb .byte (1 : Int32) [(.int 0)] (.int 0)) (g_db : n0 ≤ db) (ne_vc_db : vc ≠ db) (u0 : ¬ ((255 : Int32) < x0)) :
    Mt l Z y_0 jdk_52_method_21_code 7 (some .int) ws rm_rmCl1 #[(.ref vc), (.int 0), (.ref db), (.int 0), (.int 1)] h0 (Q_rmCl1 Z vc db kc kb x0 h0 n0) := by
 refine own_met "java/lang/StringUTF16" (plainFor_of_name pn_java_lang_StringUTF16) #[rv vc, iv 0, rv db, iv 0, iv 1, u_, u_] (fun m => rfl) (fun p e s m below meth c s₁ Bd hx hby hml hZ hown hnm X0 e0 => ?_)
 have N0 := Fr.nil n0
 have K := Keep.refl h0 [db]
 refine Go.step (S' := s₁.setTop (mkF m 12 #[rv vc, iv 0, rv db, iv 0, iv 1, iv 0, u_] [(.int 0), (.ref vc)])) (fun t k => ?_) ?_
 · refine XS.iconst X0.here hx rfl (hb hby d15_0) ?_
   refine XS.istore X0.here hx rfl (hb hby d15_1) rfl (l' := #[rv vc, iv 0, rv db, iv 0, iv 1, iv 0, u_]) rfl ?_
   refine XS.iload X0.here hx rfl (hb hby d15_3) rfl ?_
   refine XS.iload X0.here hx rfl (hb hby d15_5) rfl ?_
   refine XS.icmpNo X0.here hx rfl (hb hby d15_7) rfl (tlt ((by decide) : (0 : Int32) < (1 : Int32))).2.1 ?_
   refine XS.aloadN X0.here hx rfl (hb hby d15_10) rfl rfl ?_
   show Steps p.tables e below (s₁.setTop (mkF m 11 #[rv vc, iv 0, rv db, iv 0, iv 1, iv 0, u_] [(.ref vc)])) _
   refine XS.iloadN X0.here hx rfl (hb hby d15_11) rfl ?_
   exact k
 refine Go.cal X0 hx hZ e0 V_vc (hb hby d15_12) (v := (.int x0)) rfl ?_
 refine Go.step (S' := s₁.setTop (mkF m 31 #[rv vc, iv 0, rv db, iv 0, iv 1, iv 0, iv x0] [(.int (x0.toInt8.toInt32)), (.int 0), (.ref db)])) (fun t k => ?_) ?_
 · refine XS.istore X0.here hx rfl (hb hby d15_13) rfl (l' := #[rv vc, iv 0, rv db, iv 0, iv 1, iv 0, iv x0]) rfl ?_
   refine XS.iload X0.here hx rfl (hb hby d15_15) rfl ?_
   refine XS.sipush X0.here hx rfl (hb hby d15_17) ?_
   refine XS.icmpYes X0.here hx rfl (pc0 := 20) (pc' := 26) rfl (hb hby d15_20) rfl (flt (u0 : ¬ ((255 : Int32) < x0))).2.2.2 (by decide) (by decide) ?_
   refine XS.aloadN X0.here hx rfl (hb hby d15_26) rfl rfl ?_
   refine XS.iloadN X0.here hx rfl (hb hby d15_27) rfl ?_
   show Steps p.tables e below (s₁.setTop (mkF m 28 #[rv vc, iv 0, rv db, iv 0, iv 1, iv 0, iv x0] [(.int 0), (.ref db)])) _
   refine XS.iload X0.here hx rfl (hb hby d15_28) rfl ?_
   refine XS.i2b X0.here hx rfl (hb hby d15_30) rfl ?_
   exact k
 obtain ⟨cl2, Ar2, q2, S2, N2_, H2, G2⟩ := V_db
 have hin2 : ¬ ((0 : Int32) < 0 ∨ cl2.slots.size ≤ ((0 : Int32)).toNatClampNeg) := inb_of S2 ⟨by decide, by decide⟩
 obtain ⟨T2, h2, X2, e2, W2, st2⟩ := stB X0 hx hZ e0 Ar2 (j := (0 : Int32)) hin2 (g := (mkF m 31 #[rv vc, iv 0, rv db, iv 0, iv 1, iv 0, iv x0] [(.int (x0.toInt8.toInt32)), (.int 0), (.ref db)])) rfl rfl (hb hby d15_31)
 have O := O.wr W2 g_db
 have V_vc := V_vc.other W2 ne_vc_db
 have K := K.wr W2 (Or.inl (List.mem_of_getElem? (i := 0) rfl))
 have V_db : Arv Z h2 db kb .byte (1 : Int32) [(.int ((x0.toInt8.toInt32).toInt8.toInt32))] (.int 0) := Arv.set Ar2 q2 S2 N2_ H2 G2 (fits_nar_byte _) W2 0 rfl (Nat.le_of_ble_eq_true rfl)
 rw [(own_b2 x0 : ((x0.toInt8.toInt32).toInt8.toInt32) = (x0.toInt8.toInt32))] at V_db
 have N2 := Fr.snoc X2 N0 g_db
 refine Go.step st2 ?_
 refine Go.step (S' := T2.setTop (mkF m 46 #[rv vc, iv 1, rv db, iv 1, iv 1, iv 1, iv x0] [(.int 1)])) (fun t k => ?_) ?_
 · refine XS.iinc X2.here hx rfl (hb hby d15_32) rfl (l' := #[rv vc, iv 1, rv db, iv 0, iv 1, iv 0, iv x0]) rfl ?_
   refine XS.iinc X2.here hx rfl (hb hby d15_35) rfl (l' := #[rv vc, iv 1, rv db, iv 1, iv 1, iv 0, iv x0]) rfl ?_
   refine XS.iinc X2.here hx rfl (hb hby d15_38) rfl (l' := #[rv vc, iv 1, rv db, iv 1, iv 1, iv 1, iv x0]) rfl ?_
   refine XS.goto X2.here hx rfl (pc0 := 41) (pc' := 3) rfl (hb hby d15_41) (by decide) (by decide) ?_
   refine XS.iload X2.here hx rfl (hb hby d15_3) rfl ?_
   refine XS.iload X2.here hx rfl (hb hby d15_5) rfl ?_
   show Steps p.tables e below (T2.setTop (mkF m 7 #[rv vc, iv 1, rv db, iv 1, iv 1, iv 1, iv x0] [(.int 1), (.int 1)])) _
   refine XS.icmpYes X2.here hx rfl (pc0 := 7) (pc' := 44) rfl (hb hby d15_7) rfl (flt ((by decide) : ¬ ((1 : Int32) < (1 : Int32)))).2.1 (by decide) (by decide) ?_
   refine XS.iload X2.here hx rfl (hb hby d15_44) rfl ?_
   exact k
 exact Go.rt X2 hx Bd (w := (.int 1)) rfl (Or.inl ⟨rfl, Or.inl rfl, _, rfl⟩) (hb hby d15_46) e2 ⟨rfl, N2, K, V_db⟩
abbrev y_1 : MethodName := ⟨"java/lang/StringUTF16", "compress", "([CII)[B"⟩
theorem d14_0 : decode jdk_52_method_16_code 0 = .ok (.iload_n 2, 1) := by decide +kernel
theorem d14_1 : decode jdk_52_method_16_code 1 = .ok (.newarray .byte, 2) := by decide +kernel
theorem d14_3 : decode jdk_52_method_16_code 3 = .ok (.astore_n 3, 1) := by decide +kernel
theorem d14_4 : decode jdk_52_method_16_code 4 = .ok (.aload_n 0, 1) := by decide +kernel
theorem d14_5 : decode jdk_52_method_16_code 5 = .ok (.iload_n 1, 1) := by decide +kernel
theorem d14_6 : decode jdk_52_method_16_code 6 = .ok (.aload_n 3, 1) := by decide +kernel
theorem d14_7 : decode jdk_52_method_16_code 7 = .ok (.iconst 0, 1) := by decide +kernel
theorem d14_8 : decode jdk_52_method_16_code 8 = .ok (.iload_n 2, 1) := by decide +kernel
theorem d14_9 : decode jdk_52_method_16_code 9 = .ok (.invokestatic 115, 3) := by decide +kernel
theorem pd__28_5bCI_5bBII_29I : parseMethodDescriptor "([CI[BII)I" = some ⟨[(.array .char), .int, (.array .byte), .int, .int], some .int⟩ := by decide +kernel
theorem d14_12 : decode jdk_52_method_16_code 12 = .ok (.istore 4, 2) := by decide +kernel
theorem d14_14 : decode jdk_52_method_16_code 14 = .ok (.iload 4, 2) := by decide +kernel
theorem d14_16 : decode jdk_52_method_16_code 16 = .ok (.iload_n 2, 1) := by decide +kernel
theorem d14_17 : decode jdk_52_method_16_code 17 = .ok (.if_icmp .eq 40, 3) := by decide +kernel
theorem d14_57 : decode jdk_52_method_16_code 57 = .ok (.aload_n 3, 1) := by decide +kernel
theorem d14_58 : decode jdk_52_method_16_code 58 = .ok (.areturn, 1) := by decide +kernel
abbrev rm_rmCm1 : Room := ({ frames := 1, cells := 1, slots := 1, locals := 18 } : Room)
def Q_rmCm1 (Z : State) (vc : Addr) (kc : ClassId) (x0 : Int32) (h0 : Heap) (n0 : Nat) (v : Option Value) (h : Heap) (L : List Loc) : Prop := ∃ b : Addr, ∃ kb : ClassId, (v = some (.ref b)) ∧ (Fr n0 L) ∧ (Keep h0 h []) ∧ (Arv Z h b kb .byte (1 : Int32) [(.int (x0.toInt8.toInt32))] (.int 0))
theorem rmCm1 (l : Launch) (Z : State) (a0 : Array Value) (hw : HW a0 Z) (ws : List Jvm.Cond) (vc : Addr) (kc : ClassId) (x0 : Int32) (h0 : Heap) (n0 : Nat) (O : Old Z n0 h0) (V_vc : Arv Z h0 vc kc .char (1 : Int32) [(.int x0)] (.int 0)) (u0 : ¬ ((255 : Int32) < x0)) :
    Mt l Z y_1 jdk_52_method_16_code 6 (some (.array .byte)) ws rm_rmCm1 #[(.ref vc), (.int 0), (.int 1)] h0 (Q_rmCm1 Z vc kc x0 h0 n0) := by
 refine own_met "java/lang/StringUTF16" (plainFor_of_name pn_java_lang_StringUTF16) #[rv vc, iv 0, iv 1, u_, u_, u_] (fun m => rfl) (fun p e s m below meth c s₁ Bd hx hby hml hZ hown hnm X0 e0 => ?_)
 have N0 := Fr.nil n0
 have K := Keep.refl h0 []
 refine Go.step (S' := s₁.setTop (mkF m 1 #[rv vc, iv 0, iv 1, u_, u_, u_] [(.int 1)])) (fun t k => ?_) ?_
 · refine XS.iloadN X0.here hx rfl (hb hby d14_0) rfl ?_
   exact k
 obtain ⟨T1, h1, k1, X1, e1, E1, A1, st1⟩ := newP X0 hx hZ (own_w hw 17 rfl) e0 (g := (mkF m 1 #[rv vc, iv 0, iv 1, u_, u_, u_] [(.int 1)])) rfl (hb hby d14_1) rfl (by decide) (cap := 1) (by decide) (by decide) (by decide) (by decide)
 obtain ⟨b1, g1⟩ : ∃ z, z = Array.size h0 := ⟨_, rfl⟩
 have g_b1 : n0 ≤ b1 := Nat.le_trans (old_le O) (Nat.le_of_eq g1.symm)
 have sz_b1 : h0.size ≤ b1 := Nat.le_trans K.1 (Nat.le_of_eq g1.symm)
 have ne_vc_b1 : vc ≠ b1 := Nat.ne_of_lt (Nat.lt_of_lt_of_le V_vc.lt (Nat.le_of_eq g1.symm))
 rw [← g1] at A1 st1
 have O := O.ext E1
 have V_vc := V_vc.ext E1
 have K := K.ext E1
 have V_b1 : Arv Z h1 b1 k1 .byte (1 : Int32) [(.int 0)] (.int 0) := (Arv.new A1 (by decide)).pad (pad_rep [] (.int 0) 1)
 refine Go.step st1 ?_
 refine Go.step (S' := T1.setTop (mkF m 9 #[rv vc, iv 0, iv 1, rv b1, u_, u_] [(.int 1), (.int 0), (.ref b1), (.int 0), (.ref vc)])) (fun t k => ?_) ?_
 · refine XS.astoreN X1.here hx rfl (hb hby d14_3) rfl rfl (l' := #[rv vc, iv 0, iv 1, rv b1, u_, u_]) rfl ?_
   refine XS.aloadN X1.here hx rfl (hb hby d14_4) rfl rfl ?_
   refine XS.iloadN X1.here hx rfl (hb hby d14_5) rfl ?_
   refine XS.aloadN X1.here hx rfl (hb hby d14_6) rfl rfl ?_
   refine XS.iconst X1.here hx rfl (hb hby d14_7) ?_
   refine XS.iloadN X1.here hx rfl (hb hby d14_8) rfl ?_
   exact k
 refine Go.cS X1 hx hml hown hZ (own_w hw 72 rfl) (own_w hw 73 rfl) (own_w hw 70 rfl) (own_w hw 74 rfl) (rmCl1 l Z a0 hw [] vc b1 kc k1 x0 h1 n0 O V_vc V_b1 (by assumption) ne_vc_b1 u0) 0 [] pd__28_5bCI_5bBII_29I (hb hby d14_9) e1 (fun _ T2 L2 X2 hQ2 => ?_)
 obtain ⟨rfl, Nq2, K2, P2_V⟩ := hQ2
 have N2 := Fr.app N0 Nq2
 have O := O.keep K2 (allS g_b1 all0)
 have V_vc := V_vc.keep K2 (ninS ne_vc_b1 nin0)
 have K := K.trans K2 (allS (Or.inr sz_b1) all0)
 have V_2 := P2_V
 refine Go.step (S' := T2.setTop (mkF m 58 #[rv vc, iv 0, iv 1, rv b1, iv 1, u_] [(.ref b1)])) (fun t k => ?_) ?_
 · refine XS.istore X2.here hx rfl (hb hby d14_12) rfl (l' := #[rv vc, iv 0, iv 1, rv b1, iv 1, u_]) rfl ?_
   refine XS.iload X2.here hx rfl (hb hby d14_14) rfl ?_
   refine XS.iloadN X2.here hx rfl (hb hby d14_16) rfl ?_
   refine XS.icmpYes X2.here hx rfl (pc0 := 17) (pc' := 57) rfl (hb hby d14_17) rfl (teq ((by decide) : (1 : Int32) = (1 : Int32))).1 (by decide) (by decide) ?_
   refine XS.aloadN X2.here hx rfl (hb hby d14_57) rfl rfl ?_
   exact k
 exact Go.rt X2 hx Bd (w := (.ref b1)) rfl (Or.inr (Or.inr (Or.inr (Or.inr ⟨rfl, rfl, rfl⟩)))) (hb hby d14_58) (Eq.refl T2.heap) ⟨b1, k1, rfl, N2, K, V_2⟩
abbrev y_2 : MethodName := ⟨"java/lang/StringUTF16", "coderFromArrayLen", "([BI)B"⟩
theorem d16_0 : decode jdk_52_method_15_code 0 = .ok (.iload_n 1, 1) := by decide +kernel
theorem d16_1 : decode jdk_52_method_15_code 1 = .ok (.aload_n 0, 1) := by decide +kernel
theorem d16_2 : decode jdk_52_method_15_code 2 = .ok (.arraylength, 1) := by decide +kernel
theorem d16_3 : decode jdk_52_method_15_code 3 = .ok (.isub, 1) := by decide +kernel
theorem d16_4 : decode jdk_52_method_15_code 4 = .ok (.bipush 31, 2) := by decide +kernel
theorem d16_6 : decode jdk_52_method_15_code 6 = .ok (.iushr, 1) := by decide +kernel
theorem d16_7 : decode jdk_52_method_15_code 7 = .ok (.i2b, 1) := by decide +kernel
theorem d16_8 : decode jdk_52_method_15_code 8 = .ok (.ireturn, 1) := by decide +kernel
abbrev rm_rmCf1 : Room := ({ frames := 0, cells := 0, slots := 0, locals := 0 } : Room)
def Q_rmCf1 (Z : State) (tb : Addr) (kb : ClassId) (x0 : Int32) (h0 : Heap) (n0 : Nat) (v : Option Value) (h : Heap) (L : List Loc) : Prop := (v = some (.int 0)) ∧ (Fr n0 L) ∧ (h = h0)
theorem rmCf1 (l : Launch) (Z : State) (a0 : Array Value) (hw : HW a0 Z) (ws : List Jvm.Cond) (tb : Addr) (kb : ClassId) (x0 : Int32) (h0 : Heap) (n0 : Nat) (O : Old Z n0 h0) (V_tb : Arv Z h0 tb kb .byte (1 : Int32) [(.int (x0.toInt8.toInt32))] (.int 0)) :
    Mt l Z y_2 jdk_52_method_15_code 2 (some .byte) ws rm_rmCf1 #[(.ref tb), (.int 1)] h0 (Q_rmCf1 Z tb kb x0 h0 n0) := by
 refine own_met "java/lang/StringUTF16" (plainFor_of_name pn_java_lang_StringUTF16) #[rv tb, iv 1] (fun m => rfl) (fun p e s m below meth c s₁ Bd hx hby hml hZ hown hnm X0 e0 => ?_)
 have N0 := Fr.nil n0
 refine Go.step (S' := s₁.setTop (mkF m 2 #[rv tb, iv 1] [(.ref tb), (.int 1)])) (fun t k => ?_) ?_
 · refine XS.iloadN X0.here hx rfl (hb hby d16_0) rfl ?_
   refine XS.aloadN X0.here hx rfl (hb hby d16_1) rfl rfl ?_
   exact k
 refine Go.len X0 hx hZ e0 V_tb (hb hby d16_2) ?_
 refine Go.step (S' := s₁.setTop (mkF m 8 #[rv tb, iv 1] [(.int 0)])) (fun t k => ?_) ?_
 · refine XS.isub X0.here hx rfl (hb hby d16_3) rfl ?_
   refine XS.bipush X0.here hx rfl (hb hby d16_4) ?_
   refine XS.iushr X0.here hx rfl (hb hby d16_6) rfl ?_
   refine XS.i2b X0.here hx rfl (hb hby d16_7) rfl ?_
   exact k
 exact Go.rt X0 hx Bd (w := (.int 0)) (by decide) (Or.inl ⟨rfl, Or.inr (Or.inr (Or.inl rfl)), _, rfl⟩) (hb hby d16_8) e0 ⟨rfl, N0, rfl⟩
abbrev y_3 : MethodName := ⟨"java/lang/String", "<init>", "([CIILjava/lang/Void;)V"⟩
theorem pn_java_lang_String : plainName "java/lang/String" = true := by first | (simp [plainName, overriddenIn]; done) | decide +kernel
theorem d2_0 : decode jdk_42_method_149_code 0 = .ok (.aload_n 0, 1) := by decide +kernel
theorem d2_1 : decode jdk_42_method_149_code 1 = .ok (.invokespecial 1, 3) := by decide +kernel
theorem d2_4 : decode jdk_42_method_149_code 4 = .ok (.iload_n 3, 1) := by decide +kernel
theorem d2_5 : decode jdk_42_method_149_code 5 = .ok (.ifCond .ne 22, 3) := by decide +kernel
theorem d2_27 : decode jdk_42_method_149_code 27 = .ok (.getstatic 38, 3) := by decide +kernel
theorem d2_30 : decode jdk_42_method_149_code 30 = .ok (.ifCond .eq 28, 3) := by decide +kernel
theorem d2_33 : decode jdk_42_method_149_code 33 = .ok (.aload_n 1, 1) := by decide +kernel
theorem d2_34 : decode jdk_42_method_149_code 34 = .ok (.iload_n 2, 1) := by decide +kernel
theorem d2_35 : decode jdk_42_method_149_code 35 = .ok (.iload_n 3, 1) := by decide +kernel
theorem d2_36 : decode jdk_42_method_149_code 36 = .ok (.invokestatic 177, 3) := by decide +kernel
theorem pd__28_5bCII_29_5bB : parseMethodDescriptor "([CII)[B" = some ⟨[(.array .char), .int, .int], some (.array .byte)⟩ := by decide +kernel
theorem d2_39 : decode jdk_42_method_149_code 39 = .ok (.astore 5, 2) := by decide +kernel
theorem d2_41 : decode jdk_42_method_149_code 41 = .ok (.aload_n 0, 1) := by decide +kernel
theorem d2_42 : decode jdk_42_method_149_code 42 = .ok (.aload 5, 2) := by decide +kernel
theorem d2_44 : decode jdk_42_method_149_code 44 = .ok (.iload_n 3, 1) := by decide +kernel
theorem d2_45 : decode jdk_42_method_149_code 45 = .ok (.invokestatic 47, 3) := by decide +kernel
theorem pd__28_5bBI_29B : parseMethodDescriptor "([BI)B" = some ⟨[(.array .byte), .int], some .byte⟩ := by decide +kernel
theorem d2_48 : decode jdk_42_method_149_code 48 = .ok (.putfield 15, 3) := by decide +kernel
theorem d2_51 : decode jdk_42_method_149_code 51 = .ok (.aload_n 0, 1) := by decide +kernel
theorem d2_52 : decode jdk_42_method_149_code 52 = .ok (.aload 5, 2) := by decide +kernel
theorem d2_54 : decode jdk_42_method_149_code 54 = .ok (.putfield 9, 3) := by decide +kernel
theorem d2_57 : decode jdk_42_method_149_code 57 = .ok (.return_, 1) := by decide +kernel
abbrev rm_rmN4_1 : Room := ({ frames := 2, cells := 1, slots := 1, locals := 35 } : Room)
def Q_rmN4_1 (Z : State) (so : Addr) (vc : Addr) (kc : ClassId) (cs : Int32) (x0 : Int32) (h0 : Heap) (n0 : Nat) (v : Option Value) (h : Heap) (L : List Loc) : Prop := ∃ tb : Addr, ∃ kb : ClassId, (v = none) ∧ (Fr n0 L) ∧ (Keep h0 h [so]) ∧ (Exa Z h so "java/lang/String") ∧ (Fd_5 Z h so (.ref tb)) ∧ (Fd_6 Z h so (.int 0)) ∧ (Arv Z h tb kb .byte (1 : Int32) [(.int (x0.toInt8.toInt32))] (.int 0))
theorem rmN4_1 (l : Launch) (Z : State) (a0 : Array Value) (hw : HW a0 Z) (ws : List Jvm.Cond) (so : Addr) (vc : Addr) (kc : ClassId) (cs : Int32) (x0 : Int32) (h0 : Heap) (n0 : Nat) (O : Old Z n0 h0) (S_CS : Sa_0 Z (.int cs)) (E_so : Exa Z h0 so "java/lang/String") (F_v : Fd_5 Z h0 so .null) (F_c : Fd_6 Z h0 so (.int 0)) (V_vc : Arv Z h0 vc kc .char (1 : Int32) [(.int x0)] (.int 0)) (g_so : n0 ≤ so) (hcs : ¬ (cs = (0 : Int32))) (u0 : ¬ ((255 : Int32) < x0)) :
    Mt l Z y_3 jdk_42_method_149_code 6 none ws rm_rmN4_1 #[(.ref so), (.ref vc), (.int 0), (.int 1), .null] h0 (Q_rmN4_1 Z so vc kc cs x0 h0 n0) := by
 refine own_met "java/lang/String" (plainFor_of_name pn_java_lang_String) #[rv so, rv vc, iv 0, iv 1, .val .null, u_] (fun m => rfl) (fun p e s m below meth c s₁ Bd hx hby hml hZ hown hnm X0 e0 => ?_)
 have N0 := Fr.nil n0
 have K := Keep.refl h0 [so]
 refine Go.step (S' := s₁.setTop (mkF m 1 #[rv so, rv vc, iv 0, iv 1, .val .null, u_] [(.ref so)])) (fun t k => ?_) ?_
 · refine XS.aloadN X0.here hx rfl (hb hby d2_0) rfl rfl ?_
   exact k
 obtain ⟨T1, X1, e1, st1⟩ := initO X0 hx hZ hown (own_w hw 13 rfl) (own_w hw 14 rfl) (own_w hw 15 rfl) e0 (g := (mkF m 1 #[rv so, rv vc, iv 0, iv 1, .val .null, u_] [(.ref so)])) rfl (by rw [hml]; rfl) rfl (hb hby d2_1) (by decide) (W := 0) (by show 2 * 0 + _ ≤ _; exact Nat.le_of_eq rfl) (by decide)
 refine Go.step st1 ?_
 refine Go.step (S' := T1.setTop (mkF m 27 #[rv so, rv vc, iv 0, iv 1, .val .null, u_] [])) (fun t k => ?_) ?_
 · refine XS.iloadN X1.here hx rfl (hb hby d2_4) rfl ?_
   refine XS.ifYes X1.here hx rfl (pc0 := 5) (pc' := 27) rfl (hb hby d2_5) rfl ((if0 _ _).trans (feq ((by decide) : ¬ ((1 : Int32) = (0 : Int32)))).2) (by decide) (by decide) ?_
   exact k
 refine Go.gS X1 hx hZ hown (host := "") (Or.inl (own_w hw 43 rfl)) Via.refl e1 (S_CS.ext O.2) (hb hby d2_27) (fun T2 X2 e2 => ?_)
 refine Go.step (S' := T2.setTop (mkF m 36 #[rv so, rv vc, iv 0, iv 1, .val .null, u_] [(.int 1), (.int 0), (.ref vc)])) (fun t k => ?_) ?_
 · refine XS.ifNo X2.here hx rfl (hb hby d2_30) rfl ((if0 _ _).trans (feq (hcs : ¬ (cs = (0 : Int32)))).1) ?_
   refine XS.aloadN X2.here hx rfl (hb hby d2_33) rfl rfl ?_
   refine XS.iloadN X2.here hx rfl (hb hby d2_34) rfl ?_
   refine XS.iloadN X2.here hx rfl (hb hby d2_35) rfl ?_
   exact k
 refine Go.cS X2 hx hml hown hZ (own_w hw 68 rfl) (own_w hw 69 rfl) (own_w hw 70 rfl) (own_w hw 71 rfl) (rmCm1 l Z a0 hw [] vc kc x0 h0 n0 O V_vc u0) 0 [] pd__28_5bCII_29_5bB (hb hby d2_36) e2 (fun _ T3 L3 X3 hQ3 => ?_)
 obtain ⟨b_3, kb_3, rfl, Nq3, K3, P3_V⟩ := hQ3
 have N3 := Fr.app N0 Nq3
 have O := O.keep K3 all0
 have E_so := E_so.keep K3
 have F_v := F_v.keep K3 nin0
 have F_c := F_c.keep K3 nin0
 have V_vc := V_vc.keep K3 nin0
 have K := K.trans K3 all0
 have V_3 := P3_V
 refine Go.step (S' := T3.setTop (mkF m 45 #[rv so, rv vc, iv 0, iv 1, .val .null, rv b_3] [(.int 1), (.ref b_3), (.ref so)])) (fun t k => ?_) ?_
 · refine XS.astore X3.here hx rfl (hb hby d2_39) rfl rfl (l' := #[rv so, rv vc, iv 0, iv 1, .val .null, rv b_3]) rfl ?_
   refine XS.aloadN X3.here hx rfl (hb hby d2_41) rfl rfl ?_
   refine XS.aload X3.here hx rfl (hb hby d2_42) rfl rfl ?_
   refine XS.iloadN X3.here hx rfl (hb hby d2_44) rfl ?_
   exact k
 refine Go.cS X3 hx hml hown hZ (own_w hw 75 rfl) (own_w hw 76 rfl) (own_w hw 70 rfl) (own_w hw 77 rfl) (rmCf1 l Z a0 hw [] b_3 kb_3 x0 T3.heap n0 O V_3) 1 [(.ref so)] pd__28_5bBI_29B (hb hby d2_45) (Eq.refl T3.heap) (fun _ T4 L4 X4 hQ4 => ?_)
 obtain ⟨rfl, Nq4, e4⟩ := hQ4
 have N4 := Fr.app N3 Nq4
 obtain ⟨T5, h5, X5, e5, W5, st5⟩ := putFN X4 hx hZ hown (own_w hw 23 rfl) Via.refl e4 F_c E_so (Or.inr ⟨(own_w hw 19 rfl), rfl, hnm⟩) (own_w hw 4 rfl) (ty := .byte) (v' := (.int 0)) (by decide) rfl rfl (g := (mkF m 48 #[rv so, rv vc, iv 0, iv 1, .val .null, rv b_3] [(.int 0), (.ref so)])) rfl rfl (hb hby d2_48)
 have ne_vc_so : vc ≠ so := Ne.symm (Exa.neArv E_so V_vc (own_w hw 4 rfl))
 have ne_b_3_so : b_3 ≠ so := Ne.symm (Exa.neArv E_so V_3 (own_w hw 4 rfl))
 have O := O.wr W5 g_so
 have E_so := E_so.wr W5
 have F_v := F_v.other W5 (Or.inr (slot_ne (Or.inr (own_w hw 18 rfl)) (Or.inr (own_w hw 19 rfl)) (by decide) (t := (.array .byte)) (t' := .byte) (by decide) (by decide)))
 have F_c := F_c.same W5
 have V_vc := V_vc.other W5 ne_vc_so
 have K := K.wr W5 (Or.inl (List.mem_of_getElem? (i := 0) rfl))
 have V_3 := V_3.other W5 ne_b_3_so
 have N5 := Fr.snoc X5 N4 g_so
 refine Go.step st5 ?_
 refine Go.step (S' := T5.setTop (mkF m 54 #[rv so, rv vc, iv 0, iv 1, .val .null, rv b_3] [(.ref b_3), (.ref so)])) (fun t k => ?_) ?_
 · refine XS.aloadN X5.here hx rfl (hb hby d2_51) rfl rfl ?_
   refine XS.aload X5.here hx rfl (hb hby d2_52) rfl rfl ?_
   exact k
 obtain ⟨T6, h6, X6, e6, W6, st6⟩ := putF X5 hx hZ hown (host := "") (Or.inl (own_w hw 22 rfl)) Via.refl e5 F_v E_so (Or.inr ⟨(own_w hw 18 rfl), rfl, hnm⟩) (own_w hw 4 rfl) (ty := (.array .byte)) (by decide) rfl rfl (g := (mkF m 54 #[rv so, rv vc, iv 0, iv 1, .val .null, rv b_3] [(.ref b_3), (.ref so)])) rfl rfl (hb hby d2_54)
 have O := O.wr W6 g_so
 have E_so := E_so.wr W6
 have F_v := F_v.same W6
 have F_c := F_c.other W6 (Or.inr (slot_ne (Or.inr (own_w hw 19 rfl)) (Or.inr (own_w hw 18 rfl)) (by decide) (t := .byte) (t' := (.array .byte)) (by decide) (by decide)))
 have V_vc := V_vc.other W6 ne_vc_so
 have K := K.wr W6 (Or.inl (List.mem_of_getElem? (i := 0) rfl))
 have V_3 := V_3.other W6 ne_b_3_so
 have N6 := Fr.snoc X6 N5 g_so
 refine Go.step st6 ?_
 exact Go.rv X6 hx Bd (hb hby d2_57) e6 ⟨b_3, kb_3, rfl, N6, K, E_so, F_v, F_c, V_3⟩
abbrev y_4 : MethodName := ⟨"java/lang/String", "<init>", "([C)V"⟩
theorem d1_0 : decode jdk_42_method_3_code 0 = .ok (.aload_n 0, 1) := by decide +kernel
theorem d1_1 : decode jdk_42_method_3_code 1 = .ok (.aload_n 1, 1) := by decide +kernel
theorem d1_2 : decode jdk_42_method_3_code 2 = .ok (.iconst 0, 1) := by decide +kernel
theorem d1_3 : decode jdk_42_method_3_code 3 = .ok (.aload_n 1, 1) := by decide +kernel
theorem d1_4 : decode jdk_42_method_3_code 4 = .ok (.arraylength, 1) := by decide +kernel
theorem d1_5 : decode jdk_42_method_3_code 5 = .ok (.aconst_null, 1) := by decide +kernel
theorem d1_6 : decode jdk_42_method_3_code 6 = .ok (.invokespecial 27, 3) := by decide +kernel
theorem pd__28_5bCIILjava_2flang_2fVoid_3b_29V : parseMethodDescriptor "([CIILjava/lang/Void;)V" = some ⟨[(.array .char), .int, .int, (.object "java/lang/Void")], none⟩ := by decide +kernel
theorem d1_9 : decode jdk_42_method_3_code 9 = .ok (.return_, 1) := by decide +kernel
abbrev rm_rmNS1 : Room := ({ frames := 3, cells := 1, slots := 1, locals := 52 } : Room)
def Q_rmNS1 (Z : State) (so : Addr) (vc : Addr) (kc : ClassId) (cs : Int32) (x0 : Int32) (h0 : Heap) (n0 : Nat) (v : Option Value) (h : Heap) (L : List Loc) : Prop := ∃ tb : Addr, ∃ kb : ClassId, (v = none) ∧ (Fr n0 L) ∧ (Keep h0 h [so]) ∧ (Exa Z h so "java/lang/String") ∧ (Fd_5 Z h so (.ref tb)) ∧ (Fd_6 Z h so (.int 0)) ∧ (Arv Z h tb kb .byte (1 : Int32) [(.int (x0.toInt8.toInt32))] (.int 0))
theorem rmNS1 (l : Launch) (Z : State) (a0 : Array Value) (hw : HW a0 Z) (ws : List Jvm.Cond) (so : Addr) (vc : Addr) (kc : ClassId) (cs : Int32) (x0 : Int32) (h0 : Heap) (n0 : Nat) (O : Old Z n0 h0) (S_CS : Sa_0 Z (.int cs)) (E_so : Exa Z h0 so "java/lang/String") (F_v : Fd_5 Z h0 so .null) (F_c : Fd_6 Z h0 so (.int 0)) (V_vc : Arv Z h0 vc kc .char (1 : Int32) [(.int x0)] (.int 0)) (g_so : n0 ≤ so) (hcs : ¬ (cs = (0 : Int32))) (u0 : ¬ ((255 : Int32) < x0)) :
    Mt l Z y_4 jdk_42_method_3_code 2 none ws rm_rmNS1 #[(.ref so), (.ref vc)] h0 (Q_rmNS1 Z so vc kc cs x0 h0 n0) := by
 refine own_met "java/lang/String" (plainFor_of_name pn_java_lang_String) #[rv so, rv vc] (fun m => rfl) (fun p e s m below meth c s₁ Bd hx hby hml hZ hown hnm X0 e0 => ?_)
 have N0 := Fr.nil n0
 have K := Keep.refl h0 [so]
 refine Go.step (S' := s₁.setTop (mkF m 4 #[rv so, rv vc] [(.ref vc), (.int 0), (.ref vc), (.ref so)])) (fun t k => ?_) ?_
 · refine XS.aloadN X0.here hx rfl (hb hby d1_0) rfl rfl ?_
   refine XS.aloadN X0.here hx rfl (hb hby d1_1) rfl rfl ?_
   refine XS.iconst X0.here hx rfl (hb hby d1_2) ?_
   refine XS.aloadN X0.here hx rfl (hb hby d1_3) rfl rfl ?_
   exact k
 refine Go.len X0 hx hZ e0 V_vc (hb hby d1_4) ?_
 refine Go.step (S' := s₁.setTop (mkF m 6 #[rv so, rv vc] [.null, (.int 1), (.int 0), (.ref vc), (.ref so)])) (fun t k => ?_) ?_
 · refine XS.aconstNull X0.here hx rfl (hb hby d1_5) ?_
   exact k
 refine Go.cI X0 hx hml hown hZ (own_w hw 9 rfl) (own_w hw 10 rfl) (own_w hw 5 rfl) (own_w hw 12 rfl) (rmN4_1 l Z a0 hw [] so vc kc cs x0 h0 n0 O S_CS E_so F_v F_c V_vc (by assumption) hcs u0) 0 [] pd__28_5bCIILjava_2flang_2fVoid_3b_29V (hb hby d1_6) e0 (fun _ T1 L1 X1 hQ1 => ?_)
 obtain ⟨tb_1, kb_1, rfl, Nq1, K1, P1_E, P1_Fv, P1_Fc, P1_V⟩ := hQ1
 have N1 := Fr.app N0 Nq1
 have ne_vc_so : vc ≠ so := Ne.symm (Exa.neArv E_so V_vc (own_w hw 4 rfl))
 have O := O.keep K1 (allS g_so all0)
 have E_so := E_so.keep K1
 have V_vc := V_vc.keep K1 (ninS ne_vc_so nin0)
 have K := K.trans K1 (allS (Or.inl (List.mem_of_getElem? (i := 0) rfl)) all0)
 have E_1 := P1_E
 have Fv_1 := P1_Fv
 have Fc_1 := P1_Fc
 have V_1 := P1_V
 exact Go.rv X1 hx Bd (hb hby d1_9) (Eq.refl T1.heap) ⟨tb_1, kb_1, rfl, N1, K, E_so, Fv_1, Fc_1, V_1⟩
abbrev rm_rmCl2 : Room := ({ frames := 0, cells := 0, slots := 0, locals := 0 } : Room)
def Q_rmCl2 (Z : State) (vc : Addr) (db : Addr) (kc : ClassId) (kb : ClassId) (x0 : Int32) (x1 : Int32) (h0 : Heap) (n0 : Nat) (v : Option Value) (h : Heap) (L : List Loc) : Prop := (v = some (.int 2)) ∧ (Fr n0 L) ∧ (Keep h0 h [db]) ∧ (Arv Z h db kb .byte (2 : Int32) [(.int (x0.toInt8.toInt32)), (.int (x1.toInt8.toInt32))] (.int 0))
theorem rmCl2 (l : Launch) (Z : State) (a0 : Array Value) (hw : HW a0 Z) (ws : List Jvm.Cond) (vc : Addr) (db : Addr) (kc : ClassId) (kb : ClassId) (x0 : Int32) (x1 : Int32) (h0 : Heap) (n0 : Nat) (O : Old Z n0 h0) (V_vc : Arv Z h0 vc kc .char (2 : Int32) [(.int x0), (.int x1)] (.int 0)) (V_db : Arv Z h0 db kb .byte (2 : Int32) [(.int 0), (.int 0)] (.int 0)) (g_db : n0 ≤ db) (ne_vc_db : vc ≠ db) (u0 : ¬ ((255 : Int32) < x0)) (u1 : ¬ ((255 : Int32) < x1)) :
    Mt l Z y_0 jdk_52_method_21_code 7 (some .int) ws rm_rmCl2 #[(.ref vc), (.int 0), (.ref db), (.int 0), (.int 2)] h0 (Q_rmCl2 Z vc db kc kb x0 x1 h0 n0) := by
 refine own_met "java/lang/StringUTF16" (plainFor_of_name pn_java_lang_StringUTF16) #[rv vc, iv 0, rv db, iv 0, iv 2, u_, u_] (fun m => rfl) (fun p e s m below meth c s₁ Bd hx hby hml hZ hown hnm X0 e0 => ?_)
 have N0 := Fr.nil n0
 have K := Keep.refl h0 [db]
 refine Go.step (S' := s₁.setTop (mkF m 12 #[rv vc, iv 0, rv db, iv 0, iv 2, iv 0, u_] [(.int 0), (.ref vc)])) (fun t k => ?_) ?_
 · refine XS.iconst X0.here hx rfl (hb hby d15_0) ?_
   refine XS.istore X0.here hx rfl (hb hby d15_1) rfl (l' := #[rv vc, iv 0, rv db, iv 0, iv 2, iv 0, u_]) rfl ?_
   refine XS.iload X0.here hx rfl (hb hby d15_3) rfl ?_
   refine XS.iload X0.here hx rfl (hb hby d15_5) rfl ?_
   refine XS.icmpNo X0.here hx rfl (hb hby d15_7) rfl (tlt ((by decide) : (0 : Int32) < (2 : Int32))).2.1 ?_
   refine XS.aloadN X0.here hx rfl (hb hby d15_10) rfl rfl ?_
   show Steps p.tables e below (s₁.setTop (mkF m 11 #[rv vc, iv 0, rv db, iv 0, iv 2, iv 0, u_] [(.ref vc)])) _
   refine XS.iloadN X0.here hx rfl (hb hby d15_11) rfl ?_
   exact k
 refine Go.cal X0 hx hZ e0 V_vc (hb hby d15_12) (v := (.int x0)) rfl ?_
 refine Go.step (S' := s₁.setTop (mkF m 31 #[rv vc, iv 0, rv db, iv 0, iv 2, iv 0, iv x0] [(.int (x0.toInt8.toInt32)), (.int 0), (.ref db)])) (fun t k => ?_) ?_
 · refine XS.istore X0.here hx rfl (hb hby d15_13) rfl (l' := #[rv vc, iv 0, rv db, iv 0, iv 2, iv 0, iv x0]) rfl ?_
   refine XS.iload X0.here hx rfl (hb hby d15_15) rfl ?_
   refine XS.sipush X0.here hx rfl (hb hby d15_17) ?_
   refine XS.icmpYes X0.here hx rfl (pc0 := 20) (pc' := 26) rfl (hb hby d15_20) rfl (flt (u0 : ¬ ((255 : Int32) < x0))).2.2.2 (by decide) (by decide) ?_
   refine XS.aloadN X0.here hx rfl (hb hby d15_26) rfl rfl ?_
   refine XS.iloadN X0.here hx rfl (hb hby d15_27) rfl ?_
   show Steps p.tables e below (s₁.setTop (mkF m 28 #[rv vc, iv 0, rv db, iv 0, iv 2, iv 0, iv x0] [(.int 0), (.ref db)])) _
   refine XS.iload X0.here hx rfl (hb hby d15_28) rfl ?_
   refine XS.i2b X0.here hx rfl (hb hby d15_30) rfl ?_
   exact k
 obtain ⟨cl2, Ar2, q2, S2, N2_, H2, G2⟩ := V_db
 have hin2 : ¬ ((0 : Int32) < 0 ∨ cl2.slots.size ≤ ((0 : Int32)).toNatClampNeg) := inb_of S2 ⟨by decide, by decide⟩
 obtain ⟨T2, h2, X2, e2, W2, st2⟩ := stB X0 hx hZ e0 Ar2 (j := (0 : Int32)) hin2 (g := (mkF m 31 #[rv vc, iv 0, rv db, iv 0, iv 2, iv 0, iv x0] [(.int (x0.toInt8.toInt32)), (.int 0), (.ref db)])) rfl rfl (hb hby d15_31)
 have O := O.wr W2 g_db
 have V_vc := V_vc.other W2 ne_vc_db
 have K := K.wr W2 (Or.inl (List.mem_of_getElem? (i := 0) rfl))
 have V_db : Arv Z h2 db kb .byte (2 : Int32) [(.int ((x0.toInt8.toInt32).toInt8.toInt32)), (.int 0)] (.int 0) := Arv.set Ar2 q2 S2 N2_ H2 G2 (fits_nar_byte _) W2 0 rfl (Nat.le_of_ble_eq_true rfl)
 rw [(own_b2 x0 : ((x0.toInt8.toInt32).toInt8.toInt32) = (x0.toInt8.toInt32))] at V_db
 have N2 := Fr.snoc X2 N0 g_db
 refine Go.step st2 ?_
 refine Go.step (S' := T2.setTop (mkF m 12 #[rv vc, iv 1, rv db, iv 1, iv 2, iv 1, iv x0] [(.int 1), (.ref vc)])) (fun t k => ?_) ?_
 · refine XS.iinc X2.here hx rfl (hb hby d15_32) rfl (l' := #[rv vc, iv 1, rv db, iv 0, iv 2, iv 0, iv x0]) rfl ?_
   refine XS.iinc X2.here hx rfl (hb hby d15_35) rfl (l' := #[rv vc, iv 1, rv db, iv 1, iv 2, iv 0, iv x0]) rfl ?_
   refine XS.iinc X2.here hx rfl (hb hby d15_38) rfl (l' := #[rv vc, iv 1, rv db, iv 1, iv 2, iv 1, iv x0]) rfl ?_
   refine XS.goto X2.here hx rfl (pc0 := 41) (pc' := 3) rfl (hb hby d15_41) (by decide) (by decide) ?_
   refine XS.iload X2.here hx rfl (hb hby d15_3) rfl ?_
   refine XS.iload X2.here hx rfl (hb hby d15_5) rfl ?_
   show Steps p.tables e below (T2.setTop (mkF m 7 #[rv vc, iv 1, rv db, iv 1, iv 2, iv 1, iv x0] [(.int 2), (.int 1)])) _
   refine XS.icmpNo X2.here hx rfl (hb hby d15_7) rfl (tlt ((by decide) : (1 : Int32) < (2 : Int32))).2.1 ?_
   refine XS.aloadN X2.here hx rfl (hb hby d15_10) rfl rfl ?_
   refine XS.iloadN X2.here hx rfl (hb hby d15_11) rfl ?_
   exact k
 refine Go.cal X2 hx hZ e2 V_vc (hb hby d15_12) (v := (.int x1)) rfl ?_
 refine Go.step (S' := T2.setTop (mkF m 31 #[rv vc, iv 1, rv db, iv 1, iv 2, iv 1, iv x1] [(.int (x1.toInt8.toInt32)), (.int 1), (.ref db)])) (fun t k => ?_) ?_
 · refine XS.istore X2.here hx rfl (hb hby d15_13) rfl (l' := #[rv vc, iv 1, rv db, iv 1, iv 2, iv 1, iv x1]) rfl ?_
   refine XS.iload X2.here hx rfl (hb hby d15_15) rfl ?_
   refine XS.sipush X2.here hx rfl (hb hby d15_17) ?_
   refine XS.icmpYes X2.here hx rfl (pc0 := 20) (pc' := 26) rfl (hb hby d15_20) rfl (flt (u1 : ¬ ((255 : Int32) < x1))).2.2.2 (by decide) (by decide) ?_
   refine XS.aloadN X2.here hx rfl (hb hby d15_26) rfl rfl ?_
   refine XS.iloadN X2.here hx rfl (hb hby d15_27) rfl ?_
   show Steps p.tables e below (T2.setTop (mkF m 28 #[rv vc, iv 1, rv db, iv 1, iv 2, iv 1, iv x1] [(.int 1), (.ref db)])) _
   refine XS.iload X2.here hx rfl (hb hby d15_28) rfl ?_
   refine XS.i2b X2.here hx rfl (hb hby d15_30) rfl ?_
   exact k
 obtain ⟨cl4, Ar4, q4, S4, N4_, H4, G4⟩ := V_db
 have hin4 : ¬ ((1 : Int32) < 0 ∨ cl4.slots.size ≤ ((1 : Int32)).toNatClampNeg) := inb_of S4 ⟨by decide, by decide⟩
 obtain ⟨T4, h4, X4, e4, W4, st4⟩ := stB X2 hx hZ e2 Ar4 (j := (1 : Int32)) hin4 (g := (mkF m 31 #[rv vc, iv 1, rv db, iv 1, iv 2, iv 1, iv x1] [(.int (x1.toInt8.toInt32)), (.int 1), (.ref db)])) rfl rfl (hb hby d15_31)
 have O := O.wr W4 g_db
 have V_vc := V_vc.other W4 ne_vc_db
 have K := K.wr W4 (Or.inl (List.mem_of_getElem? (i := 0) rfl))
 have V_db : Arv Z h4 db kb .byte (2 : Int32) [(.int (x0.toInt8.toInt32)), (.int ((x1.toInt8.toInt32).toInt8.toInt32))] (.int 0) := Arv.set Ar4 q4 S4 N4_ H4 G4 (fits_nar_byte _) W4 1 rfl (Nat.le_of_ble_eq_true rfl)
 rw [(own_b2 x1 : ((x1.toInt8.toInt32).toInt8.toInt32) = (x1.toInt8.toInt32))] at V_db
 have N4 := Fr.snoc X4 N2 g_db
 refine Go.step st4 ?_
 refine Go.step (S' := T4.setTop (mkF m 46 #[rv vc, iv 2, rv db, iv 2, iv 2, iv 2, iv x1] [(.int 2)])) (fun t k => ?_) ?_
 · refine XS.iinc X4.here hx rfl (hb hby d15_32) rfl (l' := #[rv vc, iv 2, rv db, iv 1, iv 2, iv 1, iv x1]) rfl ?_
   refine XS.iinc X4.here hx rfl (hb hby d15_35) rfl (l' := #[rv vc, iv 2, rv db, iv 2, iv 2, iv 1, iv x1]) rfl ?_
   refine XS.iinc X4.here hx rfl (hb hby d15_38) rfl (l' := #[rv vc, iv 2, rv db, iv 2, iv 2, iv 2, iv x1]) rfl ?_
   refine XS.goto X4.here hx rfl (pc0 := 41) (pc' := 3) rfl (hb hby d15_41) (by decide) (by decide) ?_
   refine XS.iload X4.here hx rfl (hb hby d15_3) rfl ?_
   refine XS.iload X4.here hx rfl (hb hby d15_5) rfl ?_
   show Steps p.tables e below (T4.setTop (mkF m 7 #[rv vc, iv 2, rv db, iv 2, iv 2, iv 2, iv x1] [(.int 2), (.int 2)])) _
   refine XS.icmpYes X4.here hx rfl (pc0 := 7) (pc' := 44) rfl (hb hby d15_7) rfl (flt ((by decide) : ¬ ((2 : Int32) < (2 : Int32)))).2.1 (by decide) (by decide) ?_
   refine XS.iload X4.here hx rfl (hb hby d15_44) rfl ?_
   exact k
 exact Go.rt X4 hx Bd (w := (.int 2)) rfl (Or.inl ⟨rfl, Or.inl rfl, _, rfl⟩) (hb hby d15_46) e4 ⟨rfl, N4, K, V_db⟩
abbrev rm_rmCm2 : Room := ({ frames := 1, cells := 1, slots := 2, locals := 18 } : Room)
def Q_rmCm2 (Z : State) (vc : Addr) (kc : ClassId) (x0 : Int32) (x1 : Int32) (h0 : Heap) (n0 : Nat) (v : Option Value) (h : Heap) (L : List Loc) : Prop := ∃ b : Addr, ∃ kb : ClassId, (v = some (.ref b)) ∧ (Fr n0 L) ∧ (Keep h0 h []) ∧ (Arv Z h b kb .byte (2 : Int32) [(.int (x0.toInt8.toInt32)), (.int (x1.toInt8.toInt32))] (.int 0))
theorem rmCm2 (l : Launch) (Z : State) (a0 : Array Value) (hw : HW a0 Z) (ws : List Jvm.Cond) (vc : Addr) (kc : ClassId) (x0 : Int32) (x1 : Int32) (h0 : Heap) (n0 : Nat) (O : Old Z n0 h0) (V_vc : Arv Z h0 vc kc .char (2 : Int32) [(.int x0), (.int x1)] (.int 0)) (u0 : ¬ ((255 : Int32) < x0)) (u1 : ¬ ((255 : Int32) < x1)) :
    Mt l Z y_1 jdk_52_method_16_code 6 (some (.array .byte)) ws rm_rmCm2 #[(.ref vc), (.int 0), (.int 2)] h0 (Q_rmCm2 Z vc kc x0 x1 h0 n0) := by
 refine own_met "java/lang/StringUTF16" (plainFor_of_name pn_java_lang_StringUTF16) #[rv vc, iv 0, iv 2, u_, u_, u_] (fun m => rfl) (fun p e s m below meth c s₁ Bd hx hby hml hZ hown hnm X0 e0 => ?_)
 have N0 := Fr.nil n0
 have K := Keep.refl h0 []
 refine Go.step (S' := s₁.setTop (mkF m 1 #[rv vc, iv 0, iv 2, u_, u_, u_] [(.int 2)])) (fun t k => ?_) ?_
 · refine XS.iloadN X0.here hx rfl (hb hby d14_0) rfl ?_
   exact k
 obtain ⟨T1, h1, k1, X1, e1, E1, A1, st1⟩ := newP X0 hx hZ (own_w hw 17 rfl) e0 (g := (mkF m 1 #[rv vc, iv 0, iv 2, u_, u_, u_] [(.int 2)])) rfl (hb hby d14_1) rfl (by decide) (cap := 2) (by decide) (by decide) (by decide) (by decide)
 obtain ⟨b1, g1⟩ : ∃ z, z = Array.size h0 := ⟨_, rfl⟩
 have g_b1 : n0 ≤ b1 := Nat.le_trans (old_le O) (Nat.le_of_eq g1.symm)
 have sz_b1 : h0.size ≤ b1 := Nat.le_trans K.1 (Nat.le_of_eq g1.symm)
 have ne_vc_b1 : vc ≠ b1 := Nat.ne_of_lt (Nat.lt_of_lt_of_le V_vc.lt (Nat.le_of_eq g1.symm))
 rw [← g1] at A1 st1
 have O := O.ext E1
 have V_vc := V_vc.ext E1
 have K := K.ext E1
 have V_b1 : Arv Z h1 b1 k1 .byte (2 : Int32) [(.int 0), (.int 0)] (.int 0) := (Arv.new A1 (by decide)).pad (pad_rep [] (.int 0) 2)
 refine Go.step st1 ?_
 refine Go.step (S' := T1.setTop (mkF m 9 #[rv vc, iv 0, iv 2, rv b1, u_, u_] [(.int 2), (.int 0), (.ref b1), (.int 0), (.ref vc)])) (fun t k => ?_) ?_
 · refine XS.astoreN X1.here hx rfl (hb hby d14_3) rfl rfl (l' := #[rv vc, iv 0, iv 2, rv b1, u_, u_]) rfl ?_
   refine XS.aloadN X1.here hx rfl (hb hby d14_4) rfl rfl ?_
   refine XS.iloadN X1.here hx rfl (hb hby d14_5) rfl ?_
   refine XS.aloadN X1.here hx rfl (hb hby d14_6) rfl rfl ?_
   refine XS.iconst X1.here hx rfl (hb hby d14_7) ?_
   refine XS.iloadN X1.here hx rfl (hb hby d14_8) rfl ?_
   exact k
 refine Go.cS X1 hx hml hown hZ (own_w hw 72 rfl) (own_w hw 73 rfl) (own_w hw 70 rfl) (own_w hw 74 rfl) (rmCl2 l Z a0 hw [] vc b1 kc k1 x0 x1 h1 n0 O V_vc V_b1 (by assumption) ne_vc_b1 u0 u1) 0 [] pd__28_5bCI_5bBII_29I (hb hby d14_9) e1 (fun _ T2 L2 X2 hQ2 => ?_)
 obtain ⟨rfl, Nq2, K2, P2_V⟩ := hQ2
 have N2 := Fr.app N0 Nq2
 have O := O.keep K2 (allS g_b1 all0)
 have V_vc := V_vc.keep K2 (ninS ne_vc_b1 nin0)
 have K := K.trans K2 (allS (Or.inr sz_b1) all0)
 have V_2 := P2_V
 refine Go.step (S' := T2.setTop (mkF m 58 #[rv vc, iv 0, iv 2, rv b1, iv 2, u_] [(.ref b1)])) (fun t k => ?_) ?_
 · refine XS.istore X2.here hx rfl (hb hby d14_12) rfl (l' := #[rv vc, iv 0, iv 2, rv b1, iv 2, u_]) rfl ?_
   refine XS.iload X2.here hx rfl (hb hby d14_14) rfl ?_
   refine XS.iloadN X2.here hx rfl (hb hby d14_16) rfl ?_
   refine XS.icmpYes X2.here hx rfl (pc0 := 17) (pc' := 57) rfl (hb hby d14_17) rfl (teq ((by decide) : (2 : Int32) = (2 : Int32))).1 (by decide) (by decide) ?_
   refine XS.aloadN X2.here hx rfl (hb hby d14_57) rfl rfl ?_
   exact k
 exact Go.rt X2 hx Bd (w := (.ref b1)) rfl (Or.inr (Or.inr (Or.inr (Or.inr ⟨rfl, rfl, rfl⟩)))) (hb hby d14_58) (Eq.refl T2.heap) ⟨b1, k1, rfl, N2, K, V_2⟩
abbrev rm_rmCf2 : Room := ({ frames := 0, cells := 0, slots := 0, locals := 0 } : Room)
def Q_rmCf2 (Z : State) (tb : Addr) (kb : ClassId) (x0 : Int32) (x1 : Int32) (h0 : Heap) (n0 : Nat) (v : Option Value) (h : Heap) (L : List Loc) : Prop := (v = some (.int 0)) ∧ (Fr n0 L) ∧ (h = h0)
theorem rmCf2 (l : Launch) (Z : State) (a0 : Array Value) (hw : HW a0 Z) (ws : List Jvm.Cond) (tb : Addr) (kb : ClassId) (x0 : Int32) (x1 : Int32) (h0 : Heap) (n0 : Nat) (O : Old Z n0 h0) (V_tb : Arv Z h0 tb kb .byte (2 : Int32) [(.int (x0.toInt8.toInt32)), (.int (x1.toInt8.toInt32))] (.int 0)) :
    Mt l Z y_2 jdk_52_method_15_code 2 (some .byte) ws rm_rmCf2 #[(.ref tb), (.int 2)] h0 (Q_rmCf2 Z tb kb x0 x1 h0 n0) := by
 refine own_met "java/lang/StringUTF16" (plainFor_of_name pn_java_lang_StringUTF16) #[rv tb, iv 2] (fun m => rfl) (fun p e s m below meth c s₁ Bd hx hby hml hZ hown hnm X0 e0 => ?_)
 have N0 := Fr.nil n0
 refine Go.step (S' := s₁.setTop (mkF m 2 #[rv tb, iv 2] [(.ref tb), (.int 2)])) (fun t k => ?_) ?_
 · refine XS.iloadN X0.here hx rfl (hb hby d16_0) rfl ?_
   refine XS.aloadN X0.here hx rfl (hb hby d16_1) rfl rfl ?_
   exact k
 refine Go.len X0 hx hZ e0 V_tb (hb hby d16_2) ?_
 refine Go.step (S' := s₁.setTop (mkF m 8 #[rv tb, iv 2] [(.int 0)])) (fun t k => ?_) ?_
 · refine XS.isub X0.here hx rfl (hb hby d16_3) rfl ?_
   refine XS.bipush X0.here hx rfl (hb hby d16_4) ?_
   refine XS.iushr X0.here hx rfl (hb hby d16_6) rfl ?_
   refine XS.i2b X0.here hx rfl (hb hby d16_7) rfl ?_
   exact k
 exact Go.rt X0 hx Bd (w := (.int 0)) (by decide) (Or.inl ⟨rfl, Or.inr (Or.inr (Or.inl rfl)), _, rfl⟩) (hb hby d16_8) e0 ⟨rfl, N0, rfl⟩
abbrev rm_rmN4_2 : Room := ({ frames := 2, cells := 1, slots := 2, locals := 35 } : Room)
def Q_rmN4_2 (Z : State) (so : Addr) (vc : Addr) (kc : ClassId) (cs : Int32) (x0 : Int32) (x1 : Int32) (h0 : Heap) (n0 : Nat) (v : Option Value) (h : Heap) (L : List Loc) : Prop := ∃ tb : Addr, ∃ kb : ClassId, (v = none) ∧ (Fr n0 L) ∧ (Keep h0 h [so]) ∧ (Exa Z h so "java/lang/String") ∧ (Fd_5 Z h so (.ref tb)) ∧ (Fd_6 Z h so (.int 0)) ∧ (Arv Z h tb kb .byte (2 : Int32) [(.int (x0.toInt8.toInt32)), (.int (x1.toInt8.toInt32))] (.int 0))
theorem rmN4_2 (l : Launch) (Z : State) (a0 : Array Value) (hw : HW a0 Z) (ws : List Jvm.Cond) (so : Addr) (vc : Addr) (kc : ClassId) (cs : Int32) (x0 : Int32) (x1 : Int32) (h0 : Heap) (n0 : Nat) (O : Old Z n0 h0) (S_CS : Sa_0 Z (.int cs)) (E_so : Exa Z h0 so "java/lang/String") (F_v : Fd_5 Z h0 so .null) (F_c : Fd_6 Z h0 so (.int 0)) (V_vc : Arv Z h0 vc kc .char (2 : Int32) [(.int x0), (.int x1)] (.int 0)) (g_so : n0 ≤ so) (hcs : ¬ (cs = (0 : Int32))) (u0 : ¬ ((255 : Int32) < x0)) (u1 : ¬ ((255 : Int32) < x1)) :
    Mt l Z y_3 jdk_42_method_149_code 6 none ws rm_rmN4_2 #[(.ref so), (.ref vc), (.int 0), (.int 2), .null] h0 (Q_rmN4_2 Z so vc kc cs x0 x1 h0 n0) := by
 refine own_met "java/lang/String" (plainFor_of_name pn_java_lang_String) #[rv so, rv vc, iv 0, iv 2, .val .null, u_] (fun m => rfl) (fun p e s m below meth c s₁ Bd hx hby hml hZ hown hnm X0 e0 => ?_)
 have N0 := Fr.nil n0
 have K := Keep.refl h0 [so]
 refine Go.step (S' := s₁.setTop (mkF m 1 #[rv so, rv vc, iv 0, iv 2, .val .null, u_] [(.ref so)])) (fun t k => ?_) ?_
 · refine XS.aloadN X0.here hx rfl (hb hby d2_0) rfl rfl ?_
   exact k
 obtain ⟨T1, X1, e1, st1⟩ := initO X0 hx hZ hown (own_w hw 13 rfl) (own_w hw 14 rfl) (own_w hw 15 rfl) e0 (g := (mkF m 1 #[rv so, rv vc, iv 0, iv 2, .val .null, u_] [(.ref so)])) rfl (by rw [hml]; rfl) rfl (hb hby d2_1) (by decide) (W := 0) (by show 2 * 0 + _ ≤ _; exact Nat.le_of_eq rfl) (by decide)
 refine Go.step st1 ?_
 refine Go.step (S' := T1.setTop (mkF m 27 #[rv so, rv vc, iv 0, iv 2, .val .null, u_] [])) (fun t k => ?_) ?_
 · refine XS.iloadN X1.here hx rfl (hb hby d2_4) rfl ?_
   refine XS.ifYes X1.here hx rfl (pc0 := 5) (pc' := 27) rfl (hb hby d2_5) rfl ((if0 _ _).trans (feq ((by decide) : ¬ ((2 : Int32) = (0 : Int32)))).2) (by decide) (by decide) ?_
   exact k
 refine Go.gS X1 hx hZ hown (host := "") (Or.inl (own_w hw 43 rfl)) Via.refl e1 (S_CS.ext O.2) (hb hby d2_27) (fun T2 X2 e2 => ?_)
 refine Go.step (S' := T2.setTop (mkF m 36 #[rv so, rv vc, iv 0, iv 2, .val .null, u_] [(.int 2), (.int 0), (.ref vc)])) (fun t k => ?_) ?_
 · refine XS.ifNo X2.here hx rfl (hb hby d2_30) rfl ((if0 _ _).trans (feq (hcs : ¬ (cs = (0 : Int32)))).1) ?_
   refine XS.aloadN X2.here hx rfl (hb hby d2_33) rfl rfl ?_
   refine XS.iloadN X2.here hx rfl (hb hby d2_34) rfl ?_
   refine XS.iloadN X2.here hx rfl (hb hby d2_35) rfl ?_
   exact k
 refine Go.cS X2 hx hml hown hZ (own_w hw 68 rfl) (own_w hw 69 rfl) (own_w hw 70 rfl) (own_w hw 71 rfl) (rmCm2 l Z a0 hw [] vc kc x0 x1 h0 n0 O V_vc u0 u1) 0 [] pd__28_5bCII_29_5bB (hb hby d2_36) e2 (fun _ T3 L3 X3 hQ3 => ?_)
 obtain ⟨b_3, kb_3, rfl, Nq3, K3, P3_V⟩ := hQ3
 have N3 := Fr.app N0 Nq3
 have O := O.keep K3 all0
 have E_so := E_so.keep K3
 have F_v := F_v.keep K3 nin0
 have F_c := F_c.keep K3 nin0
 have V_vc := V_vc.keep K3 nin0
 have K := K.trans K3 all0
 have V_3 := P3_V
 refine Go.step (S' := T3.setTop (mkF m 45 #[rv so, rv vc, iv 0, iv 2, .val .null, rv b_3] [(.int 2), (.ref b_3), (.ref so)])) (fun t k => ?_) ?_
 · refine XS.astore X3.here hx rfl (hb hby d2_39) rfl rfl (l' := #[rv so, rv vc, iv 0, iv 2, .val .null, rv b_3]) rfl ?_
   refine XS.aloadN X3.here hx rfl (hb hby d2_41) rfl rfl ?_
   refine XS.aload X3.here hx rfl (hb hby d2_42) rfl rfl ?_
   refine XS.iloadN X3.here hx rfl (hb hby d2_44) rfl ?_
   exact k
 refine Go.cS X3 hx hml hown hZ (own_w hw 75 rfl) (own_w hw 76 rfl) (own_w hw 70 rfl) (own_w hw 77 rfl) (rmCf2 l Z a0 hw [] b_3 kb_3 x0 x1 T3.heap n0 O V_3) 1 [(.ref so)] pd__28_5bBI_29B (hb hby d2_45) (Eq.refl T3.heap) (fun _ T4 L4 X4 hQ4 => ?_)
 obtain ⟨rfl, Nq4, e4⟩ := hQ4
 have N4 := Fr.app N3 Nq4
 obtain ⟨T5, h5, X5, e5, W5, st5⟩ := putFN X4 hx hZ hown (own_w hw 23 rfl) Via.refl e4 F_c E_so (Or.inr ⟨(own_w hw 19 rfl), rfl, hnm⟩) (own_w hw 4 rfl) (ty := .byte) (v' := (.int 0)) (by decide) rfl rfl (g := (mkF m 48 #[rv so, rv vc, iv 0, iv 2, .val .null, rv b_3] [(.int 0), (.ref so)])) rfl rfl (hb hby d2_48)
 have ne_vc_so : vc ≠ so := Ne.symm (Exa.neArv E_so V_vc (own_w hw 4 rfl))
 have ne_b_3_so : b_3 ≠ so := Ne.symm (Exa.neArv E_so V_3 (own_w hw 4 rfl))
 have O := O.wr W5 g_so
 have E_so := E_so.wr W5
 have F_v := F_v.other W5 (Or.inr (slot_ne (Or.inr (own_w hw 18 rfl)) (Or.inr (own_w hw 19 rfl)) (by decide) (t := (.array .byte)) (t' := .byte) (by decide) (by decide)))
 have F_c := F_c.same W5
 have V_vc := V_vc.other W5 ne_vc_so
 have K := K.wr W5 (Or.inl (List.mem_of_getElem? (i := 0) rfl))
 have V_3 := V_3.other W5 ne_b_3_so
 have N5 := Fr.snoc X5 N4 g_so
 refine Go.step st5 ?_
 refine Go.step (S' := T5.setTop (mkF m 54 #[rv so, rv vc, iv 0, iv 2, .val .null, rv b_3] [(.ref b_3), (.ref so)])) (fun t k => ?_) ?_
 · refine XS.aloadN X5.here hx rfl (hb hby d2_51) rfl rfl ?_
   refine XS.aload X5.here hx rfl (hb hby d2_52) rfl rfl ?_
   exact k
 obtain ⟨T6, h6, X6, e6, W6, st6⟩ := putF X5 hx hZ hown (host := "") (Or.inl (own_w hw 22 rfl)) Via.refl e5 F_v E_so (Or.inr ⟨(own_w hw 18 rfl), rfl, hnm⟩) (own_w hw 4 rfl) (ty := (.array .byte)) (by decide) rfl rfl (g := (mkF m 54 #[rv so, rv vc, iv 0, iv 2, .val .null, rv b_3] [(.ref b_3), (.ref so)])) rfl rfl (hb hby d2_54)
 have O := O.wr W6 g_so
 have E_so := E_so.wr W6
 have F_v := F_v.same W6
 have F_c := F_c.other W6 (Or.inr (slot_ne (Or.inr (own_w hw 19 rfl)) (Or.inr (own_w hw 18 rfl)) (by decide) (t := .byte) (t' := (.array .byte)) (by decide) (by decide)))
 have V_vc := V_vc.other W6 ne_vc_so
 have K := K.wr W6 (Or.inl (List.mem_of_getElem? (i := 0) rfl))
 have V_3 := V_3.other W6 ne_b_3_so
 have N6 := Fr.snoc X6 N5 g_so
 refine Go.step st6 ?_
 exact Go.rv X6 hx Bd (hb hby d2_57) e6 ⟨b_3, kb_3, rfl, N6, K, E_so, F_v, F_c, V_3⟩
abbrev rm_rmNS2 : Room := ({ frames := 3, cells := 1, slots := 2, locals := 52 } : Room)
def Q_rmNS2 (Z : State) (so : Addr) (vc : Addr) (kc : ClassId) (cs : Int32) (x0 : Int32) (x1 : Int32) (h0 : Heap) (n0 : Nat) (v : Option Value) (h : Heap) (L : List Loc) : Prop := ∃ tb : Addr, ∃ kb : ClassId, (v = none) ∧ (Fr n0 L) ∧ (Keep h0 h [so]) ∧ (Exa Z h so "java/lang/String") ∧ (Fd_5 Z h so (.ref tb)) ∧ (Fd_6 Z h so (.int 0)) ∧ (Arv Z h tb kb .byte (2 : Int32) [(.int (x0.toInt8.toInt32)), (.int (x1.toInt8.toInt32))] (.int 0))
theorem rmNS2 (l : Launch) (Z : State) (a0 : Array Value) (hw : HW a0 Z) (ws : List Jvm.Cond) (so : Addr) (vc : Addr) (kc : ClassId) (cs : Int32) (x0 : Int32) (x1 : Int32) (h0 : Heap) (n0 : Nat) (O : Old Z n0 h0) (S_CS : Sa_0 Z (.int cs)) (E_so : Exa Z h0 so "java/lang/String") (F_v : Fd_5 Z h0 so .null) (F_c : Fd_6 Z h0 so (.int 0)) (V_vc : Arv Z h0 vc kc .char (2 : Int32) [(.int x0), (.int x1)] (.int 0)) (g_so : n0 ≤ so) (hcs : ¬ (cs = (0 : Int32))) (u0 : ¬ ((255 : Int32) < x0)) (u1 : ¬ ((255 : Int32) < x1)) :
    Mt l Z y_4 jdk_42_method_3_code 2 none ws rm_rmNS2 #[(.ref so), (.ref vc)] h0 (Q_rmNS2 Z so vc kc cs x0 x1 h0 n0) := by
 refine own_met "java/lang/String" (plainFor_of_name pn_java_lang_String) #[rv so, rv vc] (fun m => rfl) (fun p e s m below meth c s₁ Bd hx hby hml hZ hown hnm X0 e0 => ?_)
 have N0 := Fr.nil n0
 have K := Keep.refl h0 [so]
 refine Go.step (S' := s₁.setTop (mkF m 4 #[rv so, rv vc] [(.ref vc), (.int 0), (.ref vc), (.ref so)])) (fun t k => ?_) ?_
 · refine XS.aloadN X0.here hx rfl (hb hby d1_0) rfl rfl ?_
   refine XS.aloadN X0.here hx rfl (hb hby d1_1) rfl rfl ?_
   refine XS.iconst X0.here hx rfl (hb hby d1_2) ?_
   refine XS.aloadN X0.here hx rfl (hb hby d1_3) rfl rfl ?_
   exact k
 refine Go.len X0 hx hZ e0 V_vc (hb hby d1_4) ?_
 refine Go.step (S' := s₁.setTop (mkF m 6 #[rv so, rv vc] [.null, (.int 2), (.int 0), (.ref vc), (.ref so)])) (fun t k => ?_) ?_
 · refine XS.aconstNull X0.here hx rfl (hb hby d1_5) ?_
   exact k
 refine Go.cI X0 hx hml hown hZ (own_w hw 9 rfl) (own_w hw 10 rfl) (own_w hw 5 rfl) (own_w hw 12 rfl) (rmN4_2 l Z a0 hw [] so vc kc cs x0 x1 h0 n0 O S_CS E_so F_v F_c V_vc (by assumption) hcs u0 u1) 0 [] pd__28_5bCIILjava_2flang_2fVoid_3b_29V (hb hby d1_6) e0 (fun _ T1 L1 X1 hQ1 => ?_)
 obtain ⟨tb_1, kb_1, rfl, Nq1, K1, P1_E, P1_Fv, P1_Fc, P1_V⟩ := hQ1
 have N1 := Fr.app N0 Nq1
 have ne_vc_so : vc ≠ so := Ne.symm (Exa.neArv E_so V_vc (own_w hw 4 rfl))
 have O := O.keep K1 (allS g_so all0)
 have E_so := E_so.keep K1
 have V_vc := V_vc.keep K1 (ninS ne_vc_so nin0)
 have K := K.trans K1 (allS (Or.inl (List.mem_of_getElem? (i := 0) rfl)) all0)
 have E_1 := P1_E
 have Fv_1 := P1_Fv
 have Fc_1 := P1_Fc
 have V_1 := P1_V
 exact Go.rv X1 hx Bd (hb hby d1_9) (Eq.refl T1.heap) ⟨tb_1, kb_1, rfl, N1, K, E_so, Fv_1, Fc_1, V_1⟩
abbrev rm_rmCl3 : Room := ({ frames := 0, cells := 0, slots := 0, locals := 0 } : Room)
def Q_rmCl3 (Z : State) (vc : Addr) (db : Addr) (kc : ClassId) (kb : ClassId) (x0 : Int32) (x1 : Int32) (x2 : Int32) (h0 : Heap) (n0 : Nat) (v : Option Value) (h : Heap) (L : List Loc) : Prop := (v = some (.int 3)) ∧ (Fr n0 L) ∧ (Keep h0 h [db]) ∧ (Arv Z h db kb .byte (3 : Int32) [(.int (x0.toInt8.toInt32)), (.int (x1.toInt8.toInt32)), (.int (x2.toInt8.toInt32))] (.int 0))
theorem rmCl3 (l : Launch) (Z : State) (a0 : Array Value) (hw : HW a0 Z) (ws : List Jvm.Cond) (vc : Addr) (db : Addr) (kc : ClassId) (kb : ClassId) (x0 : Int32) (x1 : Int32) (x2 : Int32) (h0 : Heap) (n0 : Nat) (O : Old Z n0 h0) (V_vc : Arv Z h0 vc kc .char (3 : Int32) [(.int x0), (.int x1), (.int x2)] (.int 0)) (V_db : Arv Z h0 db kb .byte (3 : Int32) [(.int 0), (.int 0), (.int 0)] (.int 0)) (g_db : n0 ≤ db) (ne_vc_db : vc ≠ db) (u0 : ¬ ((255 : Int32) < x0)) (u1 : ¬ ((255 : Int32) < x1)) (u2 : ¬ ((255 : Int32) < x2)) :
    Mt l Z y_0 jdk_52_method_21_code 7 (some .int) ws rm_rmCl3 #[(.ref vc), (.int 0), (.ref db), (.int 0), (.int 3)] h0 (Q_rmCl3 Z vc db kc kb x0 x1 x2 h0 n0) := by
 refine own_met "java/lang/StringUTF16" (plainFor_of_name pn_java_lang_StringUTF16) #[rv vc, iv 0, rv db, iv 0, iv 3, u_, u_] (fun m => rfl) (fun p e s m below meth c s₁ Bd hx hby hml hZ hown hnm X0 e0 => ?_)
 have N0 := Fr.nil n0
 have K := Keep.refl h0 [db]
 refine Go.step (S' := s₁.setTop (mkF m 12 #[rv vc, iv 0, rv db, iv 0, iv 3, iv 0, u_] [(.int 0), (.ref vc)])) (fun t k => ?_) ?_
 · refine XS.iconst X0.here hx rfl (hb hby d15_0) ?_
   refine XS.istore X0.here hx rfl (hb hby d15_1) rfl (l' := #[rv vc, iv 0, rv db, iv 0, iv 3, iv 0, u_]) rfl ?_
   refine XS.iload X0.here hx rfl (hb hby d15_3) rfl ?_
   refine XS.iload X0.here hx rfl (hb hby d15_5) rfl ?_
   refine XS.icmpNo X0.here hx rfl (hb hby d15_7) rfl (tlt ((by decide) : (0 : Int32) < (3 : Int32))).2.1 ?_
   refine XS.aloadN X0.here hx rfl (hb hby d15_10) rfl rfl ?_
   show Steps p.tables e below (s₁.setTop (mkF m 11 #[rv vc, iv 0, rv db, iv 0, iv 3, iv 0, u_] [(.ref vc)])) _
   refine XS.iloadN X0.here hx rfl (hb hby d15_11) rfl ?_
   exact k
 refine Go.cal X0 hx hZ e0 V_vc (hb hby d15_12) (v := (.int x0)) rfl ?_
 refine Go.step (S' := s₁.setTop (mkF m 31 #[rv vc, iv 0, rv db, iv 0, iv 3, iv 0, iv x0] [(.int (x0.toInt8.toInt32)), (.int 0), (.ref db)])) (fun t k => ?_) ?_
 · refine XS.istore X0.here hx rfl (hb hby d15_13) rfl (l' := #[rv vc, iv 0, rv db, iv 0, iv 3, iv 0, iv x0]) rfl ?_
   refine XS.iload X0.here hx rfl (hb hby d15_15) rfl ?_
   refine XS.sipush X0.here hx rfl (hb hby d15_17) ?_
   refine XS.icmpYes X0.here hx rfl (pc0 := 20) (pc' := 26) rfl (hb hby d15_20) rfl (flt (u0 : ¬ ((255 : Int32) < x0))).2.2.2 (by decide) (by decide) ?_
   refine XS.aloadN X0.here hx rfl (hb hby d15_26) rfl rfl ?_
   refine XS.iloadN X0.here hx rfl (hb hby d15_27) rfl ?_
   show Steps p.tables e below (s₁.setTop (mkF m 28 #[rv vc, iv 0, rv db, iv 0, iv 3, iv 0, iv x0] [(.int 0), (.ref db)])) _
   refine XS.iload X0.here hx rfl (hb hby d15_28) rfl ?_
   refine XS.i2b X0.here hx rfl (hb hby d15_30) rfl ?_
   exact k
 obtain ⟨cl2, Ar2, q2, S2, N2_, H2, G2⟩ := V_db
 have hin2 : ¬ ((0 : Int32) < 0 ∨ cl2.slots.size ≤ ((0 : Int32)).toNatClampNeg) := inb_of S2 ⟨by decide, by decide⟩
 obtain ⟨T2, h2, X2, e2, W2, st2⟩ := stB X0 hx hZ e0 Ar2 (j := (0 : Int32)) hin2 (g := (mkF m 31 #[rv vc, iv 0, rv db, iv 0, iv 3, iv 0, iv x0] [(.int (x0.toInt8.toInt32)), (.int 0), (.ref db)])) rfl rfl (hb hby d15_31)
 have O := O.wr W2 g_db
 have V_vc := V_vc.other W2 ne_vc_db
 have K := K.wr W2 (Or.inl (List.mem_of_getElem? (i := 0) rfl))
 have V_db : Arv Z h2 db kb .byte (3 : Int32) [(.int ((x0.toInt8.toInt32).toInt8.toInt32)), (.int 0), (.int 0)] (.int 0) := Arv.set Ar2 q2 S2 N2_ H2 G2 (fits_nar_byte _) W2 0 rfl (Nat.le_of_ble_eq_true rfl)
 rw [(own_b2 x0 : ((x0.toInt8.toInt32).toInt8.toInt32) = (x0.toInt8.toInt32))] at V_db
 have N2 := Fr.snoc X2 N0 g_db
 refine Go.step st2 ?_
 refine Go.step (S' := T2.setTop (mkF m 12 #[rv vc, iv 1, rv db, iv 1, iv 3, iv 1, iv x0] [(.int 1), (.ref vc)])) (fun t k => ?_) ?_
 · refine XS.iinc X2.here hx rfl (hb hby d15_32) rfl (l' := #[rv vc, iv 1, rv db, iv 0, iv 3, iv 0, iv x0]) rfl ?_
   refine XS.iinc X2.here hx rfl (hb hby d15_35) rfl (l' := #[rv vc, iv 1, rv db, iv 1, iv 3, iv 0, iv x0]) rfl ?_
   refine XS.iinc X2.here hx rfl (hb hby d15_38) rfl (l' := #[rv vc, iv 1, rv db, iv 1, iv 3, iv 1, iv x0]) rfl ?_
   refine XS.goto X2.here hx rfl (pc0 := 41) (pc' := 3) rfl (hb hby d15_41) (by decide) (by decide) ?_
   refine XS.iload X2.here hx rfl (hb hby d15_3) rfl ?_
   refine XS.iload X2.here hx rfl (hb hby d15_5) rfl ?_
   show Steps p.tables e below (T2.setTop (mkF m 7 #[rv vc, iv 1, rv db, iv 1, iv 3, iv 1, iv x0] [(.int 3), (.int 1)])) _
   refine XS.icmpNo X2.here hx rfl (hb hby d15_7) rfl (tlt ((by decide) : (1 : Int32) < (3 : Int32))).2.1 ?_
   refine XS.aloadN X2.here hx rfl (hb hby d15_10) rfl rfl ?_
   refine XS.iloadN X2.here hx rfl (hb hby d15_11) rfl ?_
   exact k
 refine Go.cal X2 hx hZ e2 V_vc (hb hby d15_12) (v := (.int x1)) rfl ?_
 refine Go.step (S' := T2.setTop (mkF m 31 #[rv vc, iv 1, rv db, iv 1, iv 3, iv 1, iv x1] [(.int (x1.toInt8.toInt32)), (.int 1), (.ref db)])) (fun t k => ?_) ?_
 · refine XS.istore X2.here hx rfl (hb hby d15_13) rfl (l' := #[rv vc, iv 1, rv db, iv 1, iv 3, iv 1, iv x1]) rfl ?_
   refine XS.iload X2.here hx rfl (hb hby d15_15) rfl ?_
   refine XS.sipush X2.here hx rfl (hb hby d15_17) ?_
   refine XS.icmpYes X2.here hx rfl (pc0 := 20) (pc' := 26) rfl (hb hby d15_20) rfl (flt (u1 : ¬ ((255 : Int32) < x1))).2.2.2 (by decide) (by decide) ?_
   refine XS.aloadN X2.here hx rfl (hb hby d15_26) rfl rfl ?_
   refine XS.iloadN X2.here hx rfl (hb hby d15_27) rfl ?_
   show Steps p.tables e below (T2.setTop (mkF m 28 #[rv vc, iv 1, rv db, iv 1, iv 3, iv 1, iv x1] [(.int 1), (.ref db)])) _
   refine XS.iload X2.here hx rfl (hb hby d15_28) rfl ?_
   refine XS.i2b X2.here hx rfl (hb hby d15_30) rfl ?_
   exact k
 obtain ⟨cl4, Ar4, q4, S4, N4_, H4, G4⟩ := V_db
 have hin4 : ¬ ((1 : Int32) < 0 ∨ cl4.slots.size ≤ ((1 : Int32)).toNatClampNeg) := inb_of S4 ⟨by decide, by decide⟩
 obtain ⟨T4, h4, X4, e4, W4, st4⟩ := stB X2 hx hZ e2 Ar4 (j := (1 : Int32)) hin4 (g := (mkF m 31 #[rv vc, iv 1, rv db, iv 1, iv 3, iv 1, iv x1] [(.int (x1.toInt8.toInt32)), (.int 1), (.ref db)])) rfl rfl (hb hby d15_31)
 have O := O.wr W4 g_db
 have V_vc := V_vc.other W4 ne_vc_db
 have K := K.wr W4 (Or.inl (List.mem_of_getElem? (i := 0) rfl))
 have V_db : Arv Z h4 db kb .byte (3 : Int32) [(.int (x0.toInt8.toInt32)), (.int ((x1.toInt8.toInt32).toInt8.toInt32)), (.int 0)] (.int 0) := Arv.set Ar4 q4 S4 N4_ H4 G4 (fits_nar_byte _) W4 1 rfl (Nat.le_of_ble_eq_true rfl)
 rw [(own_b2 x1 : ((x1.toInt8.toInt32).toInt8.toInt32) = (x1.toInt8.toInt32))] at V_db
 have N4 := Fr.snoc X4 N2 g_db
 refine Go.step st4 ?_
 refine Go.step (S' := T4.setTop (mkF m 12 #[rv vc, iv 2, rv db, iv 2, iv 3, iv 2, iv x1] [(.int 2), (.ref vc)])) (fun t k => ?_) ?_
 · refine XS.iinc X4.here hx rfl (hb hby d15_32) rfl (l' := #[rv vc, iv 2, rv db, iv 1, iv 3, iv 1, iv x1]) rfl ?_
   refine XS.iinc X4.here hx rfl (hb hby d15_35) rfl (l' := #[rv vc, iv 2, rv db, iv 2, iv 3, iv 1, iv x1]) rfl ?_
   refine XS.iinc X4.here hx rfl (hb hby d15_38) rfl (l' := #[rv vc, iv 2, rv db, iv 2, iv 3, iv 2, iv x1]) rfl ?_
   refine XS.goto X4.here hx rfl (pc0 := 41) (pc' := 3) rfl (hb hby d15_41) (by decide) (by decide) ?_
   refine XS.iload X4.here hx rfl (hb hby d15_3) rfl ?_
   refine XS.iload X4.here hx rfl (hb hby d15_5) rfl ?_
   show Steps p.tables e below (T4.setTop (mkF m 7 #[rv vc, iv 2, rv db, iv 2, iv 3, iv 2, iv x1] [(.int 3), (.int 2)])) _
   refine XS.icmpNo X4.here hx rfl (hb hby d15_7) rfl (tlt ((by decide) : (2 : Int32) < (3 : Int32))).2.1 ?_
   refine XS.aloadN X4.here hx rfl (hb hby d15_10) rfl rfl ?_
   refine XS.iloadN X4.here hx rfl (hb hby d15_11) rfl ?_
   exact k
 refine Go.cal X4 hx hZ e4 V_vc (hb hby d15_12) (v := (.int x2)) rfl ?_
 refine Go.step (S' := T4.setTop (mkF m 31 #[rv vc, iv 2, rv db, iv 2, iv 3, iv 2, iv x2] [(.int (x2.toInt8.toInt32)), (.int 2), (.ref db)])) (fun t k => ?_) ?_
 · refine XS.istore X4.here hx rfl (hb hby d15_13) rfl (l' := #[rv vc, iv 2, rv db, iv 2, iv 3, iv 2, iv x2]) rfl ?_
   refine XS.iload X4.here hx rfl (hb hby d15_15) rfl ?_
   refine XS.sipush X4.here hx rfl (hb hby d15_17) ?_
   refine XS.icmpYes X4.here hx rfl (pc0 := 20) (pc' := 26) rfl (hb hby d15_20) rfl (flt (u2 : ¬ ((255 : Int32) < x2))).2.2.2 (by decide) (by decide) ?_
   refine XS.aloadN X4.here hx rfl (hb hby d15_26) rfl rfl ?_
   refine XS.iloadN X4.here hx rfl (hb hby d15_27) rfl ?_
   show Steps p.tables e below (T4.setTop (mkF m 28 #[rv vc, iv 2, rv db, iv 2, iv 3, iv 2, iv x2] [(.int 2), (.ref db)])) _
   refine XS.iload X4.here hx rfl (hb hby d15_28) rfl ?_
   refine XS.i2b X4.here hx rfl (hb hby d15_30) rfl ?_
   exact k
 obtain ⟨cl6, Ar6, q6, S6, N6_, H6, G6⟩ := V_db
 have hin6 : ¬ ((2 : Int32) < 0 ∨ cl6.slots.size ≤ ((2 : Int32)).toNatClampNeg) := inb_of S6 ⟨by decide, by decide⟩
 obtain ⟨T6, h6, X6, e6, W6, st6⟩ := stB X4 hx hZ e4 Ar6 (j := (2 : Int32)) hin6 (g := (mkF m 31 #[rv vc, iv 2, rv db, iv 2, iv 3, iv 2, iv x2] [(.int (x2.toInt8.toInt32)), (.int 2), (.ref db)])) rfl rfl (hb hby d15_31)
 have O := O.wr W6 g_db
 have V_vc := V_vc.other W6 ne_vc_db
 have K := K.wr W6 (Or.inl (List.mem_of_getElem? (i := 0) rfl))
 have V_db : Arv Z h6 db kb .byte (3 : Int32) [(.int (x0.toInt8.toInt32)), (.int (x1.toInt8.toInt32)), (.int ((x2.toInt8.toInt32).toInt8.toInt32))] (.int 0) := Arv.set Ar6 q6 S6 N6_ H6 G6 (fits_nar_byte _) W6 2 rfl (Nat.le_of_ble_eq_true rfl)
 rw [(own_b2 x2 : ((x2.toInt8.toInt32).toInt8.toInt32) = (x2.toInt8.toInt32))] at V_db
 have N6 := Fr.snoc X6 N4 g_db
 refine Go.step st6 ?_
 refine Go.step (S' := T6.setTop (mkF m 46 #[rv vc, iv 3, rv db, iv 3, iv 3, iv 3, iv x2] [(.int 3)])) (fun t k => ?_) ?_
 · refine XS.iinc X6.here hx rfl (hb hby d15_32) rfl (l' := #[rv vc, iv 3, rv db, iv 2, iv 3, iv 2, iv x2]) rfl ?_
   refine XS.iinc X6.here hx rfl (hb hby d15_35) rfl (l' := #[rv vc, iv 3, rv db, iv 3, iv 3, iv 2, iv x2]) rfl ?_
   refine XS.iinc X6.here hx rfl (hb hby d15_38) rfl (l' := #[rv vc, iv 3, rv db, iv 3, iv 3, iv 3, iv x2]) rfl ?_
   refine XS.goto X6.here hx rfl (pc0 := 41) (pc' := 3) rfl (hb hby d15_41) (by decide) (by decide) ?_
   refine XS.iload X6.here hx rfl (hb hby d15_3) rfl ?_
   refine XS.iload X6.here hx rfl (hb hby d15_5) rfl ?_
   show Steps p.tables e below (T6.setTop (mkF m 7 #[rv vc, iv 3, rv db, iv 3, iv 3, iv 3, iv x2] [(.int 3), (.int 3)])) _
   refine XS.icmpYes X6.here hx rfl (pc0 := 7) (pc' := 44) rfl (hb hby d15_7) rfl (flt ((by decide) : ¬ ((3 : Int32) < (3 : Int32)))).2.1 (by decide) (by decide) ?_
   refine XS.iload X6.here hx rfl (hb hby d15_44) rfl ?_
   exact k
 exact Go.rt X6 hx Bd (w := (.int 3)) rfl (Or.inl ⟨rfl, Or.inl rfl, _, rfl⟩) (hb hby d15_46) e6 ⟨rfl, N6, K, V_db⟩
abbrev rm_rmCm3 : Room := ({ frames := 1, cells := 1, slots := 3, locals := 18 } : Room)
def Q_rmCm3 (Z : State) (vc : Addr) (kc : ClassId) (x0 : Int32) (x1 : Int32) (x2 : Int32) (h0 : Heap) (n0 : Nat) (v : Option Value) (h : Heap) (L : List Loc) : Prop := ∃ b : Addr, ∃ kb : ClassId, (v = some (.ref b)) ∧ (Fr n0 L) ∧ (Keep h0 h []) ∧ (Arv Z h b kb .byte (3 : Int32) [(.int (x0.toInt8.toInt32)), (.int (x1.toInt8.toInt32)), (.int (x2.toInt8.toInt32))] (.int 0))
theorem rmCm3 (l : Launch) (Z : State) (a0 : Array Value) (hw : HW a0 Z) (ws : List Jvm.Cond) (vc : Addr) (kc : ClassId) (x0 : Int32) (x1 : Int32) (x2 : Int32) (h0 : Heap) (n0 : Nat) (O : Old Z n0 h0) (V_vc : Arv Z h0 vc kc .char (3 : Int32) [(.int x0), (.int x1), (.int x2)] (.int 0)) (u0 : ¬ ((255 : Int32) < x0)) (u1 : ¬ ((255 : Int32) < x1)) (u2 : ¬ ((255 : Int32) < x2)) :
    Mt l Z y_1 jdk_52_method_16_code 6 (some (.array .byte)) ws rm_rmCm3 #[(.ref vc), (.int 0), (.int 3)] h0 (Q_rmCm3 Z vc kc x0 x1 x2 h0 n0) := by
 refine own_met "java/lang/StringUTF16" (plainFor_of_name pn_java_lang_StringUTF16) #[rv vc, iv 0, iv 3, u_, u_, u_] (fun m => rfl) (fun p e s m below meth c s₁ Bd hx hby hml hZ hown hnm X0 e0 => ?_)
 have N0 := Fr.nil n0
 have K := Keep.refl h0 []
 refine Go.step (S' := s₁.setTop (mkF m 1 #[rv vc, iv 0, iv 3, u_, u_, u_] [(.int 3)])) (fun t k => ?_) ?_
 · refine XS.iloadN X0.here hx rfl (hb hby d14_0) rfl ?_
   exact k
 obtain ⟨T1, h1, k1, X1, e1, E1, A1, st1⟩ := newP X0 hx hZ (own_w hw 17 rfl) e0 (g := (mkF m 1 #[rv vc, iv 0, iv 3, u_, u_, u_] [(.int 3)])) rfl (hb hby d14_1) rfl (by decide) (cap := 3) (by decide) (by decide) (by decide) (by decide)
 obtain ⟨b1, g1⟩ : ∃ z, z = Array.size h0 := ⟨_, rfl⟩
 have g_b1 : n0 ≤ b1 := Nat.le_trans (old_le O) (Nat.le_of_eq g1.symm)
 have sz_b1 : h0.size ≤ b1 := Nat.le_trans K.1 (Nat.le_of_eq g1.symm)
 have ne_vc_b1 : vc ≠ b1 := Nat.ne_of_lt (Nat.lt_of_lt_of_le V_vc.lt (Nat.le_of_eq g1.symm))
 rw [← g1] at A1 st1
 have O := O.ext E1
 have V_vc := V_vc.ext E1
 have K := K.ext E1
 have V_b1 : Arv Z h1 b1 k1 .byte (3 : Int32) [(.int 0), (.int 0), (.int 0)] (.int 0) := (Arv.new A1 (by decide)).pad (pad_rep [] (.int 0) 3)
 refine Go.step st1 ?_
 refine Go.step (S' := T1.setTop (mkF m 9 #[rv vc, iv 0, iv 3, rv b1, u_, u_] [(.int 3), (.int 0), (.ref b1), (.int 0), (.ref vc)])) (fun t k => ?_) ?_
 · refine XS.astoreN X1.here hx rfl (hb hby d14_3) rfl rfl (l' := #[rv vc, iv 0, iv 3, rv b1, u_, u_]) rfl ?_
   refine XS.aloadN X1.here hx rfl (hb hby d14_4) rfl rfl ?_
   refine XS.iloadN X1.here hx rfl (hb hby d14_5) rfl ?_
   refine XS.aloadN X1.here hx rfl (hb hby d14_6) rfl rfl ?_
   refine XS.iconst X1.here hx rfl (hb hby d14_7) ?_
   refine XS.iloadN X1.here hx rfl (hb hby d14_8) rfl ?_
   exact k
 refine Go.cS X1 hx hml hown hZ (own_w hw 72 rfl) (own_w hw 73 rfl) (own_w hw 70 rfl) (own_w hw 74 rfl) (rmCl3 l Z a0 hw [] vc b1 kc k1 x0 x1 x2 h1 n0 O V_vc V_b1 (by assumption) ne_vc_b1 u0 u1 u2) 0 [] pd__28_5bCI_5bBII_29I (hb hby d14_9) e1 (fun _ T2 L2 X2 hQ2 => ?_)
 obtain ⟨rfl, Nq2, K2, P2_V⟩ := hQ2
 have N2 := Fr.app N0 Nq2
 have O := O.keep K2 (allS g_b1 all0)
 have V_vc := V_vc.keep K2 (ninS ne_vc_b1 nin0)
 have K := K.trans K2 (allS (Or.inr sz_b1) all0)
 have V_2 := P2_V
 refine Go.step (S' := T2.setTop (mkF m 58 #[rv vc, iv 0, iv 3, rv b1, iv 3, u_] [(.ref b1)])) (fun t k => ?_) ?_
 · refine XS.istore X2.here hx rfl (hb hby d14_12) rfl (l' := #[rv vc, iv 0, iv 3, rv b1, iv 3, u_]) rfl ?_
   refine XS.iload X2.here hx rfl (hb hby d14_14) rfl ?_
   refine XS.iloadN X2.here hx rfl (hb hby d14_16) rfl ?_
   refine XS.icmpYes X2.here hx rfl (pc0 := 17) (pc' := 57) rfl (hb hby d14_17) rfl (teq ((by decide) : (3 : Int32) = (3 : Int32))).1 (by decide) (by decide) ?_
   refine XS.aloadN X2.here hx rfl (hb hby d14_57) rfl rfl ?_
   exact k
 exact Go.rt X2 hx Bd (w := (.ref b1)) rfl (Or.inr (Or.inr (Or.inr (Or.inr ⟨rfl, rfl, rfl⟩)))) (hb hby d14_58) (Eq.refl T2.heap) ⟨b1, k1, rfl, N2, K, V_2⟩
abbrev rm_rmCf3 : Room := ({ frames := 0, cells := 0, slots := 0, locals := 0 } : Room)
def Q_rmCf3 (Z : State) (tb : Addr) (kb : ClassId) (x0 : Int32) (x1 : Int32) (x2 : Int32) (h0 : Heap) (n0 : Nat) (v : Option Value) (h : Heap) (L : List Loc) : Prop := (v = some (.int 0)) ∧ (Fr n0 L) ∧ (h = h0)
theorem rmCf3 (l : Launch) (Z : State) (a0 : Array Value) (hw : HW a0 Z) (ws : List Jvm.Cond) (tb : Addr) (kb : ClassId) (x0 : Int32) (x1 : Int32) (x2 : Int32) (h0 : Heap) (n0 : Nat) (O : Old Z n0 h0) (V_tb : Arv Z h0 tb kb .byte (3 : Int32) [(.int (x0.toInt8.toInt32)), (.int (x1.toInt8.toInt32)), (.int (x2.toInt8.toInt32))] (.int 0)) :
    Mt l Z y_2 jdk_52_method_15_code 2 (some .byte) ws rm_rmCf3 #[(.ref tb), (.int 3)] h0 (Q_rmCf3 Z tb kb x0 x1 x2 h0 n0) := by
 refine own_met "java/lang/StringUTF16" (plainFor_of_name pn_java_lang_StringUTF16) #[rv tb, iv 3] (fun m => rfl) (fun p e s m below meth c s₁ Bd hx hby hml hZ hown hnm X0 e0 => ?_)
 have N0 := Fr.nil n0
 refine Go.step (S' := s₁.setTop (mkF m 2 #[rv tb, iv 3] [(.ref tb), (.int 3)])) (fun t k => ?_) ?_
 · refine XS.iloadN X0.here hx rfl (hb hby d16_0) rfl ?_
   refine XS.aloadN X0.here hx rfl (hb hby d16_1) rfl rfl ?_
   exact k
 refine Go.len X0 hx hZ e0 V_tb (hb hby d16_2) ?_
 refine Go.step (S' := s₁.setTop (mkF m 8 #[rv tb, iv 3] [(.int 0)])) (fun t k => ?_) ?_
 · refine XS.isub X0.here hx rfl (hb hby d16_3) rfl ?_
   refine XS.bipush X0.here hx rfl (hb hby d16_4) ?_
   refine XS.iushr X0.here hx rfl (hb hby d16_6) rfl ?_
   refine XS.i2b X0.here hx rfl (hb hby d16_7) rfl ?_
   exact k
 exact Go.rt X0 hx Bd (w := (.int 0)) (by decide) (Or.inl ⟨rfl, Or.inr (Or.inr (Or.inl rfl)), _, rfl⟩) (hb hby d16_8) e0 ⟨rfl, N0, rfl⟩
abbrev rm_rmN4_3 : Room := ({ frames := 2, cells := 1, slots := 3, locals := 35 } : Room)
def Q_rmN4_3 (Z : State) (so : Addr) (vc : Addr) (kc : ClassId) (cs : Int32) (x0 : Int32) (x1 : Int32) (x2 : Int32) (h0 : Heap) (n0 : Nat) (v : Option Value) (h : Heap) (L : List Loc) : Prop := ∃ tb : Addr, ∃ kb : ClassId, (v = none) ∧ (Fr n0 L) ∧ (Keep h0 h [so]) ∧ (Exa Z h so "java/lang/String") ∧ (Fd_5 Z h so (.ref tb)) ∧ (Fd_6 Z h so (.int 0)) ∧ (Arv Z h tb kb .byte (3 : Int32) [(.int (x0.toInt8.toInt32)), (.int (x1.toInt8.toInt32)), (.int (x2.toInt8.toInt32))] (.int 0))
theorem rmN4_3 (l : Launch) (Z : State) (a0 : Array Value) (hw : HW a0 Z) (ws : List Jvm.Cond) (so : Addr) (vc : Addr) (kc : ClassId) (cs : Int32) (x0 : Int32) (x1 : Int32) (x2 : Int32) (h0 : Heap) (n0 : Nat) (O : Old Z n0 h0) (S_CS : Sa_0 Z (.int cs)) (E_so : Exa Z h0 so "java/lang/String") (F_v : Fd_5 Z h0 so .null) (F_c : Fd_6 Z h0 so (.int 0)) (V_vc : Arv Z h0 vc kc .char (3 : Int32) [(.int x0), (.int x1), (.int x2)] (.int 0)) (g_so : n0 ≤ so) (hcs : ¬ (cs = (0 : Int32))) (u0 : ¬ ((255 : Int32) < x0)) (u1 : ¬ ((255 : Int32) < x1)) (u2 : ¬ ((255 : Int32) < x2)) :
    Mt l Z y_3 jdk_42_method_149_code 6 none ws rm_rmN4_3 #[(.ref so), (.ref vc), (.int 0), (.int 3), .null] h0 (Q_rmN4_3 Z so vc kc cs x0 x1 x2 h0 n0) := by
 refine own_met "java/lang/String" (plainFor_of_name pn_java_lang_String) #[rv so, rv vc, iv 0, iv 3, .val .null, u_] (fun m => rfl) (fun p e s m below meth c s₁ Bd hx hby hml hZ hown hnm X0 e0 => ?_)
 have N0 := Fr.nil n0
 have K := Keep.refl h0 [so]
 refine Go.step (S' := s₁.setTop (mkF m 1 #[rv so, rv vc, iv 0, iv 3, .val .null, u_] [(.ref so)])) (fun t k => ?_) ?_
 · refine XS.aloadN X0.here hx rfl (hb hby d2_0) rfl rfl ?_
   exact k
 obtain ⟨T1, X1, e1, st1⟩ := initO X0 hx hZ hown (own_w hw 13 rfl) (own_w hw 14 rfl) (own_w hw 15 rfl) e0 (g := (mkF m 1 #[rv so, rv vc, iv 0, iv 3, .val .null, u_] [(.ref so)])) rfl (by rw [hml]; rfl) rfl (hb hby d2_1) (by decide) (W := 0) (by show 2 * 0 + _ ≤ _; exact Nat.le_of_eq rfl) (by decide)
 refine Go.step st1 ?_
 refine Go.step (S' := T1.setTop (mkF m 27 #[rv so, rv vc, iv 0, iv 3, .val .null, u_] [])) (fun t k => ?_) ?_
 · refine XS.iloadN X1.here hx rfl (hb hby d2_4) rfl ?_
   refine XS.ifYes X1.here hx rfl (pc0 := 5) (pc' := 27) rfl (hb hby d2_5) rfl ((if0 _ _).trans (feq ((by decide) : ¬ ((3 : Int32) = (0 : Int32)))).2) (by decide) (by decide) ?_
   exact k
 refine Go.gS X1 hx hZ hown (host := "") (Or.inl (own_w hw 43 rfl)) Via.refl e1 (S_CS.ext O.2) (hb hby d2_27) (fun T2 X2 e2 => ?_)
 refine Go.step (S' := T2.setTop (mkF m 36 #[rv so, rv vc, iv 0, iv 3, .val .null, u_] [(.int 3), (.int 0), (.ref vc)])) (fun t k => ?_) ?_
 · refine XS.ifNo X2.here hx rfl (hb hby d2_30) rfl ((if0 _ _).trans (feq (hcs : ¬ (cs = (0 : Int32)))).1) ?_
   refine XS.aloadN X2.here hx rfl (hb hby d2_33) rfl rfl ?_
   refine XS.iloadN X2.here hx rfl (hb hby d2_34) rfl ?_
   refine XS.iloadN X2.here hx rfl (hb hby d2_35) rfl ?_
   exact k
 refine Go.cS X2 hx hml hown hZ (own_w hw 68 rfl) (own_w hw 69 rfl) (own_w hw 70 rfl) (own_w hw 71 rfl) (rmCm3 l Z a0 hw [] vc kc x0 x1 x2 h0 n0 O V_vc u0 u1 u2) 0 [] pd__28_5bCII_29_5bB (hb hby d2_36) e2 (fun _ T3 L3 X3 hQ3 => ?_)
 obtain ⟨b_3, kb_3, rfl, Nq3, K3, P3_V⟩ := hQ3
 have N3 := Fr.app N0 Nq3
 have O := O.keep K3 all0
 have E_so := E_so.keep K3
 have F_v := F_v.keep K3 nin0
 have F_c := F_c.keep K3 nin0
 have V_vc := V_vc.keep K3 nin0
 have K := K.trans K3 all0
 have V_3 := P3_V
 refine Go.step (S' := T3.setTop (mkF m 45 #[rv so, rv vc, iv 0, iv 3, .val .null, rv b_3] [(.int 3), (.ref b_3), (.ref so)])) (fun t k => ?_) ?_
 · refine XS.astore X3.here hx rfl (hb hby d2_39) rfl rfl (l' := #[rv so, rv vc, iv 0, iv 3, .val .null, rv b_3]) rfl ?_
   refine XS.aloadN X3.here hx rfl (hb hby d2_41) rfl rfl ?_
   refine XS.aload X3.here hx rfl (hb hby d2_42) rfl rfl ?_
   refine XS.iloadN X3.here hx rfl (hb hby d2_44) rfl ?_
   exact k
 refine Go.cS X3 hx hml hown hZ (own_w hw 75 rfl) (own_w hw 76 rfl) (own_w hw 70 rfl) (own_w hw 77 rfl) (rmCf3 l Z a0 hw [] b_3 kb_3 x0 x1 x2 T3.heap n0 O V_3) 1 [(.ref so)] pd__28_5bBI_29B (hb hby d2_45) (Eq.refl T3.heap) (fun _ T4 L4 X4 hQ4 => ?_)
 obtain ⟨rfl, Nq4, e4⟩ := hQ4
 have N4 := Fr.app N3 Nq4
 obtain ⟨T5, h5, X5, e5, W5, st5⟩ := putFN X4 hx hZ hown (own_w hw 23 rfl) Via.refl e4 F_c E_so (Or.inr ⟨(own_w hw 19 rfl), rfl, hnm⟩) (own_w hw 4 rfl) (ty := .byte) (v' := (.int 0)) (by decide) rfl rfl (g := (mkF m 48 #[rv so, rv vc, iv 0, iv 3, .val .null, rv b_3] [(.int 0), (.ref so)])) rfl rfl (hb hby d2_48)
 have ne_vc_so : vc ≠ so := Ne.symm (Exa.neArv E_so V_vc (own_w hw 4 rfl))
 have ne_b_3_so : b_3 ≠ so := Ne.symm (Exa.neArv E_so V_3 (own_w hw 4 rfl))
 have O := O.wr W5 g_so
 have E_so := E_so.wr W5
 have F_v := F_v.other W5 (Or.inr (slot_ne (Or.inr (own_w hw 18 rfl)) (Or.inr (own_w hw 19 rfl)) (by decide) (t := (.array .byte)) (t' := .byte) (by decide) (by decide)))
 have F_c := F_c.same W5
 have V_vc := V_vc.other W5 ne_vc_so
 have K := K.wr W5 (Or.inl (List.mem_of_getElem? (i := 0) rfl))
 have V_3 := V_3.other W5 ne_b_3_so
 have N5 := Fr.snoc X5 N4 g_so
 refine Go.step st5 ?_
 refine Go.step (S' := T5.setTop (mkF m 54 #[rv so, rv vc, iv 0, iv 3, .val .null, rv b_3] [(.ref b_3), (.ref so)])) (fun t k => ?_) ?_
 · refine XS.aloadN X5.here hx rfl (hb hby d2_51) rfl rfl ?_
   refine XS.aload X5.here hx rfl (hb hby d2_52) rfl rfl ?_
   exact k
 obtain ⟨T6, h6, X6, e6, W6, st6⟩ := putF X5 hx hZ hown (host := "") (Or.inl (own_w hw 22 rfl)) Via.refl e5 F_v E_so (Or.inr ⟨(own_w hw 18 rfl), rfl, hnm⟩) (own_w hw 4 rfl) (ty := (.array .byte)) (by decide) rfl rfl (g := (mkF m 54 #[rv so, rv vc, iv 0, iv 3, .val .null, rv b_3] [(.ref b_3), (.ref so)])) rfl rfl (hb hby d2_54)
 have O := O.wr W6 g_so
 have E_so := E_so.wr W6
 have F_v := F_v.same W6
 have F_c := F_c.other W6 (Or.inr (slot_ne (Or.inr (own_w hw 19 rfl)) (Or.inr (own_w hw 18 rfl)) (by decide) (t := .byte) (t' := (.array .byte)) (by decide) (by decide)))
 have V_vc := V_vc.other W6 ne_vc_so
 have K := K.wr W6 (Or.inl (List.mem_of_getElem? (i := 0) rfl))
 have V_3 := V_3.other W6 ne_b_3_so
 have N6 := Fr.snoc X6 N5 g_so
 refine Go.step st6 ?_
 exact Go.rv X6 hx Bd (hb hby d2_57) e6 ⟨b_3, kb_3, rfl, N6, K, E_so, F_v, F_c, V_3⟩
abbrev rm_rmNS3 : Room := ({ frames := 3, cells := 1, slots := 3, locals := 52 } : Room)
def Q_rmNS3 (Z : State) (so : Addr) (vc : Addr) (kc : ClassId) (cs : Int32) (x0 : Int32) (x1 : Int32) (x2 : Int32) (h0 : Heap) (n0 : Nat) (v : Option Value) (h : Heap) (L : List Loc) : Prop := ∃ tb : Addr, ∃ kb : ClassId, (v = none) ∧ (Fr n0 L) ∧ (Keep h0 h [so]) ∧ (Exa Z h so "java/lang/String") ∧ (Fd_5 Z h so (.ref tb)) ∧ (Fd_6 Z h so (.int 0)) ∧ (Arv Z h tb kb .byte (3 : Int32) [(.int (x0.toInt8.toInt32)), (.int (x1.toInt8.toInt32)), (.int (x2.toInt8.toInt32))] (.int 0))
theorem rmNS3 (l : Launch) (Z : State) (a0 : Array Value) (hw : HW a0 Z) (ws : List Jvm.Cond) (so : Addr) (vc : Addr) (kc : ClassId) (cs : Int32) (x0 : Int32) (x1 : Int32) (x2 : Int32) (h0 : Heap) (n0 : Nat) (O : Old Z n0 h0) (S_CS : Sa_0 Z (.int cs)) (E_so : Exa Z h0 so "java/lang/String") (F_v : Fd_5 Z h0 so .null) (F_c : Fd_6 Z h0 so (.int 0)) (V_vc : Arv Z h0 vc kc .char (3 : Int32) [(.int x0), (.int x1), (.int x2)] (.int 0)) (g_so : n0 ≤ so) (hcs : ¬ (cs = (0 : Int32))) (u0 : ¬ ((255 : Int32) < x0)) (u1 : ¬ ((255 : Int32) < x1)) (u2 : ¬ ((255 : Int32) < x2)) :
    Mt l Z y_4 jdk_42_method_3_code 2 none ws rm_rmNS3 #[(.ref so), (.ref vc)] h0 (Q_rmNS3 Z so vc kc cs x0 x1 x2 h0 n0) := by
 refine own_met "java/lang/String" (plainFor_of_name pn_java_lang_String) #[rv so, rv vc] (fun m => rfl) (fun p e s m below meth c s₁ Bd hx hby hml hZ hown hnm X0 e0 => ?_)
 have N0 := Fr.nil n0
 have K := Keep.refl h0 [so]
 refine Go.step (S' := s₁.setTop (mkF m 4 #[rv so, rv vc] [(.ref vc), (.int 0), (.ref vc), (.ref so)])) (fun t k => ?_) ?_
 · refine XS.aloadN X0.here hx rfl (hb hby d1_0) rfl rfl ?_
   refine XS.aloadN X0.here hx rfl (hb hby d1_1) rfl rfl ?_
   refine XS.iconst X0.here hx rfl (hb hby d1_2) ?_
   refine XS.aloadN X0.here hx rfl (hb hby d1_3) rfl rfl ?_
   exact k
 refine Go.len X0 hx hZ e0 V_vc (hb hby d1_4) ?_
 refine Go.step (S' := s₁.setTop (mkF m 6 #[rv so, rv vc] [.null, (.int 3), (.int 0), (.ref vc), (.ref so)])) (fun t k => ?_) ?_
 · refine XS.aconstNull X0.here hx rfl (hb hby d1_5) ?_
   exact k
 refine Go.cI X0 hx hml hown hZ (own_w hw 9 rfl) (own_w hw 10 rfl) (own_w hw 5 rfl) (own_w hw 12 rfl) (rmN4_3 l Z a0 hw [] so vc kc cs x0 x1 x2 h0 n0 O S_CS E_so F_v F_c V_vc (by assumption) hcs u0 u1 u2) 0 [] pd__28_5bCIILjava_2flang_2fVoid_3b_29V (hb hby d1_6) e0 (fun _ T1 L1 X1 hQ1 => ?_)
 obtain ⟨tb_1, kb_1, rfl, Nq1, K1, P1_E, P1_Fv, P1_Fc, P1_V⟩ := hQ1
 have N1 := Fr.app N0 Nq1
 have ne_vc_so : vc ≠ so := Ne.symm (Exa.neArv E_so V_vc (own_w hw 4 rfl))
 have O := O.keep K1 (allS g_so all0)
 have E_so := E_so.keep K1
 have V_vc := V_vc.keep K1 (ninS ne_vc_so nin0)
 have K := K.trans K1 (allS (Or.inl (List.mem_of_getElem? (i := 0) rfl)) all0)
 have E_1 := P1_E
 have Fv_1 := P1_Fv
 have Fc_1 := P1_Fc
 have V_1 := P1_V
 exact Go.rv X1 hx Bd (hb hby d1_9) (Eq.refl T1.heap) ⟨tb_1, kb_1, rfl, N1, K, E_so, Fv_1, Fc_1, V_1⟩
abbrev rm_rmCl4 : Room := ({ frames := 0, cells := 0, slots := 0, locals := 0 } : Room)
def Q_rmCl4 (Z : State) (vc : Addr) (db : Addr) (kc : ClassId) (kb : ClassId) (x0 : Int32) (x1 : Int32) (x2 : Int32) (x3 : Int32) (h0 : Heap) (n0 : Nat) (v : Option Value) (h : Heap) (L : List Loc) : Prop := (v = some (.int 4)) ∧ (Fr n0 L) ∧ (Keep h0 h [db]) ∧ (Arv Z h db kb .byte (4 : Int32) [(.int (x0.toInt8.toInt32)), (.int (x1.toInt8.toInt32)), (.int (x2.toInt8.toInt32)), (.int (x3.toInt8.toInt32))] (.int 0))
theorem rmCl4 (l : Launch) (Z : State) (a0 : Array Value) (hw : HW a0 Z) (ws : List Jvm.Cond) (vc : Addr) (db : Addr) (kc : ClassId) (kb : ClassId) (x0 : Int32) (x1 : Int32) (x2 : Int32) (x3 : Int32) (h0 : Heap) (n0 : Nat) (O : Old Z n0 h0) (V_vc : Arv Z h0 vc kc .char (4 : Int32) [(.int x0), (.int x1), (.int x2), (.int x3)] (.int 0)) (V_db : Arv Z h0 db kb .byte (4 : Int32) [(.int 0), (.int 0), (.int 0), (.int 0)] (.int 0)) (g_db : n0 ≤ db) (ne_vc_db : vc ≠ db) (u0 : ¬ ((255 : Int32) < x0)) (u1 : ¬ ((255 : Int32) < x1)) (u2 : ¬ ((255 : Int32) < x2)) (u3 : ¬ ((255 : Int32) < x3)) :
    Mt l Z y_0 jdk_52_method_21_code 7 (some .int) ws rm_rmCl4 #[(.ref vc), (.int 0), (.ref db), (.int 0), (.int 4)] h0 (Q_rmCl4 Z vc db kc kb x0 x1 x2 x3 h0 n0) := by
 refine own_met "java/lang/StringUTF16" (plainFor_of_name pn_java_lang_StringUTF16) #[rv vc, iv 0, rv db, iv 0, iv 4, u_, u_] (fun m => rfl) (fun p e s m below meth c s₁ Bd hx hby hml hZ hown hnm X0 e0 => ?_)
 have N0 := Fr.nil n0
 have K := Keep.refl h0 [db]
 refine Go.step (S' := s₁.setTop (mkF m 12 #[rv vc, iv 0, rv db, iv 0, iv 4, iv 0, u_] [(.int 0), (.ref vc)])) (fun t k => ?_) ?_
 · refine XS.iconst X0.here hx rfl (hb hby d15_0) ?_
   refine XS.istore X0.here hx rfl (hb hby d15_1) rfl (l' := #[rv vc, iv 0, rv db, iv 0, iv 4, iv 0, u_]) rfl ?_
   refine XS.iload X0.here hx rfl (hb hby d15_3) rfl ?_
   refine XS.iload X0.here hx rfl (hb hby d15_5) rfl ?_
   refine XS.icmpNo X0.here hx rfl (hb hby d15_7) rfl (tlt ((by decide) : (0 : Int32) < (4 : Int32))).2.1 ?_
   refine XS.aloadN X0.here hx rfl (hb hby d15_10) rfl rfl ?_
   show Steps p.tables e below (s₁.setTop (mkF m 11 #[rv vc, iv 0, rv db, iv 0, iv 4, iv 0, u_] [(.ref vc)])) _
   refine XS.iloadN X0.here hx rfl (hb hby d15_11) rfl ?_
   exact k
 refine Go.cal X0 hx hZ e0 V_vc (hb hby d15_12) (v := (.int x0)) rfl ?_
 refine Go.step (S' := s₁.setTop (mkF m 31 #[rv vc, iv 0, rv db, iv 0, iv 4, iv 0, iv x0] [(.int (x0.toInt8.toInt32)), (.int 0), (.ref db)])) (fun t k => ?_) ?_
 · refine XS.istore X0.here hx rfl (hb hby d15_13) rfl (l' := #[rv vc, iv 0, rv db, iv 0, iv 4, iv 0, iv x0]) rfl ?_
   refine XS.iload X0.here hx rfl (hb hby d15_15) rfl ?_
   refine XS.sipush X0.here hx rfl (hb hby d15_17) ?_
   refine XS.icmpYes X0.here hx rfl (pc0 := 20) (pc' := 26) rfl (hb hby d15_20) rfl (flt (u0 : ¬ ((255 : Int32) < x0))).2.2.2 (by decide) (by decide) ?_
   refine XS.aloadN X0.here hx rfl (hb hby d15_26) rfl rfl ?_
   refine XS.iloadN X0.here hx rfl (hb hby d15_27) rfl ?_
   show Steps p.tables e below (s₁.setTop (mkF m 28 #[rv vc, iv 0, rv db, iv 0, iv 4, iv 0, iv x0] [(.int 0), (.ref db)])) _
   refine XS.iload X0.here hx rfl (hb hby d15_28) rfl ?_
   refine XS.i2b X0.here hx rfl (hb hby d15_30) rfl ?_
   exact k
 obtain ⟨cl2, Ar2, q2, S2, N2_, H2, G2⟩ := V_db
 have hin2 : ¬ ((0 : Int32) < 0 ∨ cl2.slots.size ≤ ((0 : Int32)).toNatClampNeg) := inb_of S2 ⟨by decide, by decide⟩
 obtain ⟨T2, h2, X2, e2, W2, st2⟩ := stB X0 hx hZ e0 Ar2 (j := (0 : Int32)) hin2 (g := (mkF m 31 #[rv vc, iv 0, rv db, iv 0, iv 4, iv 0, iv x0] [(.int (x0.toInt8.toInt32)), (.int 0), (.ref db)])) rfl rfl (hb hby d15_31)
 have O := O.wr W2 g_db
 have V_vc := V_vc.other W2 ne_vc_db
 have K := K.wr W2 (Or.inl (List.mem_of_getElem? (i := 0) rfl))
 have V_db : Arv Z h2 db kb .byte (4 : Int32) [(.int ((x0.toInt8.toInt32).toInt8.toInt32)), (.int 0), (.int 0), (.int 0)] (.int 0) := Arv.set Ar2 q2 S2 N2_ H2 G2 (fits_nar_byte _) W2 0 rfl (Nat.le_of_ble_eq_true rfl)
 rw [(own_b2 x0 : ((x0.toInt8.toInt32).toInt8.toInt32) = (x0.toInt8.toInt32))] at V_db
 have N2 := Fr.snoc X2 N0 g_db
 refine Go.step st2 ?_
 refine Go.step (S' := T2.setTop (mkF m 12 #[rv vc, iv 1, rv db, iv 1, iv 4, iv 1, iv x0] [(.int 1), (.ref vc)])) (fun t k => ?_) ?_
 · refine XS.iinc X2.here hx rfl (hb hby d15_32) rfl (l' := #[rv vc, iv 1, rv db, iv 0, iv 4, iv 0, iv x0]) rfl ?_
   refine XS.iinc X2.here hx rfl (hb hby d15_35) rfl (l' := #[rv vc, iv 1, rv db, iv 1, iv 4, iv 0, iv x0]) rfl ?_
   refine XS.iinc X2.here hx rfl (hb hby d15_38) rfl (l' := #[rv vc, iv 1, rv db, iv 1, iv 4, iv 1, iv x0]) rfl ?_
   refine XS.goto X2.here hx rfl (pc0 := 41) (pc' := 3) rfl (hb hby d15_41) (by decide) (by decide) ?_
   refine XS.iload X2.here hx rfl (hb hby d15_3) rfl ?_
   refine XS.iload X2.here hx rfl (hb hby d15_5) rfl ?_
   show Steps p.tables e below (T2.setTop (mkF m 7 #[rv vc, iv 1, rv db, iv 1, iv 4, iv 1, iv x0] [(.int 4), (.int 1)])) _
   refine XS.icmpNo X2.here hx rfl (hb hby d15_7) rfl (tlt ((by decide) : (1 : Int32) < (4 : Int32))).2.1 ?_
   refine XS.aloadN X2.here hx rfl (hb hby d15_10) rfl rfl ?_
   refine XS.iloadN X2.here hx rfl (hb hby d15_11) rfl ?_
   exact k
 refine Go.cal X2 hx hZ e2 V_vc (hb hby d15_12) (v := (.int x1)) rfl ?_
 refine Go.step (S' := T2.setTop (mkF m 31 #[rv vc, iv 1, rv db, iv 1, iv 4, iv 1, iv x1] [(.int (x1.toInt8.toInt32)), (.int 1), (.ref db)])) (fun t k => ?_) ?_
 · refine XS.istore X2.here hx rfl (hb hby d15_13) rfl (l' := #[rv vc, iv 1, rv db, iv 1, iv 4, iv 1, iv x1]) rfl ?_
   refine XS.iload X2.here hx rfl (hb hby d15_15) rfl ?_
   refine XS.sipush X2.here hx rfl (hb hby d15_17) ?_
   refine XS.icmpYes X2.here hx rfl (pc0 := 20) (pc' := 26) rfl (hb hby d15_20) rfl (flt (u1 : ¬ ((255 : Int32) < x1))).2.2.2 (by decide) (by decide) ?_
   refine XS.aloadN X2.here hx rfl (hb hby d15_26) rfl rfl ?_
   refine XS.iloadN X2.here hx rfl (hb hby d15_27) rfl ?_
   show Steps p.tables e below (T2.setTop (mkF m 28 #[rv vc, iv 1, rv db, iv 1, iv 4, iv 1, iv x1] [(.int 1), (.ref db)])) _
   refine XS.iload X2.here hx rfl (hb hby d15_28) rfl ?_
   refine XS.i2b X2.here hx rfl (hb hby d15_30) rfl ?_
   exact k
 obtain ⟨cl4, Ar4, q4, S4, N4_, H4, G4⟩ := V_db
 have hin4 : ¬ ((1 : Int32) < 0 ∨ cl4.slots.size ≤ ((1 : Int32)).toNatClampNeg) := inb_of S4 ⟨by decide, by decide⟩
 obtain ⟨T4, h4, X4, e4, W4, st4⟩ := stB X2 hx hZ e2 Ar4 (j := (1 : Int32)) hin4 (g := (mkF m 31 #[rv vc, iv 1, rv db, iv 1, iv 4, iv 1, iv x1] [(.int (x1.toInt8.toInt32)), (.int 1), (.ref db)])) rfl rfl (hb hby d15_31)
 have O := O.wr W4 g_db
 have V_vc := V_vc.other W4 ne_vc_db
 have K := K.wr W4 (Or.inl (List.mem_of_getElem? (i := 0) rfl))
 have V_db : Arv Z h4 db kb .byte (4 : Int32) [(.int (x0.toInt8.toInt32)), (.int ((x1.toInt8.toInt32).toInt8.toInt32)), (.int 0), (.int 0)] (.int 0) := Arv.set Ar4 q4 S4 N4_ H4 G4 (fits_nar_byte _) W4 1 rfl (Nat.le_of_ble_eq_true rfl)
 rw [(own_b2 x1 : ((x1.toInt8.toInt32).toInt8.toInt32) = (x1.toInt8.toInt32))] at V_db
 have N4 := Fr.snoc X4 N2 g_db
 refine Go.step st4 ?_
 refine Go.step (S' := T4.setTop (mkF m 12 #[rv vc, iv 2, rv db, iv 2, iv 4, iv 2, iv x1] [(.int 2), (.ref vc)])) (fun t k => ?_) ?_
 · refine XS.iinc X4.here hx rfl (hb hby d15_32) rfl (l' := #[rv vc, iv 2, rv db, iv 1, iv 4, iv 1, iv x1]) rfl ?_
   refine XS.iinc X4.here hx rfl (hb hby d15_35) rfl (l' := #[rv vc, iv 2, rv db, iv 2, iv 4, iv 1, iv x1]) rfl ?_
   refine XS.iinc X4.here hx rfl (hb hby d15_38) rfl (l' := #[rv vc, iv 2, rv db, iv 2, iv 4, iv 2, iv x1]) rfl ?_
   refine XS.goto X4.here hx rfl (pc0 := 41) (pc' := 3) rfl (hb hby d15_41) (by decide) (by decide) ?_
   refine XS.iload X4.here hx rfl (hb hby d15_3) rfl ?_
   refine XS.iload X4.here hx rfl (hb hby d15_5) rfl ?_
   show Steps p.tables e below (T4.setTop (mkF m 7 #[rv vc, iv 2, rv db, iv 2, iv 4, iv 2, iv x1] [(.int 4), (.int 2)])) _
   refine XS.icmpNo X4.here hx rfl (hb hby d15_7) rfl (tlt ((by decide) : (2 : Int32) < (4 : Int32))).2.1 ?_
   refine XS.aloadN X4.here hx rfl (hb hby d15_10) rfl rfl ?_
   refine XS.iloadN X4.here hx rfl (hb hby d15_11) rfl ?_
   exact k
 refine Go.cal X4 hx hZ e4 V_vc (hb hby d15_12) (v := (.int x2)) rfl ?_
 refine Go.step (S' := T4.setTop (mkF m 31 #[rv vc, iv 2, rv db, iv 2, iv 4, iv 2, iv x2] [(.int (x2.toInt8.toInt32)), (.int 2), (.ref db)])) (fun t k => ?_) ?_
 · refine XS.istore X4.here hx rfl (hb hby d15_13) rfl (l' := #[rv vc, iv 2, rv db, iv 2, iv 4, iv 2, iv x2]) rfl ?_
   refine XS.iload X4.here hx rfl (hb hby d15_15) rfl ?_
   refine XS.sipush X4.here hx rfl (hb hby d15_17) ?_
   refine XS.icmpYes X4.here hx rfl (pc0 := 20) (pc' := 26) rfl (hb hby d15_20) rfl (flt (u2 : ¬ ((255 : Int32) < x2))).2.2.2 (by decide) (by decide) ?_
   refine XS.aloadN X4.here hx rfl (hb hby d15_26) rfl rfl ?_
   refine XS.iloadN X4.here hx rfl (hb hby d15_27) rfl ?_
   show Steps p.tables e below (T4.setTop (mkF m 28 #[rv vc, iv 2, rv db, iv 2, iv 4, iv 2, iv x2] [(.int 2), (.ref db)])) _
   refine XS.iload X4.here hx rfl (hb hby d15_28) rfl ?_
   refine XS.i2b X4.here hx rfl (hb hby d15_30) rfl ?_
   exact k
 obtain ⟨cl6, Ar6, q6, S6, N6_, H6, G6⟩ := V_db
 have hin6 : ¬ ((2 : Int32) < 0 ∨ cl6.slots.size ≤ ((2 : Int32)).toNatClampNeg) := inb_of S6 ⟨by decide, by decide⟩
 obtain ⟨T6, h6, X6, e6, W6, st6⟩ := stB X4 hx hZ e4 Ar6 (j := (2 : Int32)) hin6 (g := (mkF m 31 #[rv vc, iv 2, rv db, iv 2, iv 4, iv 2, iv x2] [(.int (x2.toInt8.toInt32)), (.int 2), (.ref db)])) rfl rfl (hb hby d15_31)
 have O := O.wr W6 g_db
 have V_vc := V_vc.other W6 ne_vc_db
 have K := K.wr W6 (Or.inl (List.mem_of_getElem? (i := 0) rfl))
 have V_db : Arv Z h6 db kb .byte (4 : Int32) [(.int (x0.toInt8.toInt32)), (.int (x1.toInt8.toInt32)), (.int ((x2.toInt8.toInt32).toInt8.toInt32)), (.int 0)] (.int 0) := Arv.set Ar6 q6 S6 N6_ H6 G6 (fits_nar_byte _) W6 2 rfl (Nat.le_of_ble_eq_true rfl)
 rw [(own_b2 x2 : ((x2.toInt8.toInt32).toInt8.toInt32) = (x2.toInt8.toInt32))] at V_db
 have N6 := Fr.snoc X6 N4 g_db
 refine Go.step st6 ?_
 refine Go.step (S' := T6.setTop (mkF m 12 #[rv vc, iv 3, rv db, iv 3, iv 4, iv 3, iv x2] [(.int 3), (.ref vc)])) (fun t k => ?_) ?_
 · refine XS.iinc X6.here hx rfl (hb hby d15_32) rfl (l' := #[rv vc, iv 3, rv db, iv 2, iv 4, iv 2, iv x2]) rfl ?_
   refine XS.iinc X6.here hx rfl (hb hby d15_35) rfl (l' := #[rv vc, iv 3, rv db, iv 3, iv 4, iv 2, iv x2]) rfl ?_
   refine XS.iinc X6.here hx rfl (hb hby d15_38) rfl (l' := #[rv vc, iv 3, rv db, iv 3, iv 4, iv 3, iv x2]) rfl ?_
   refine XS.goto X6.here hx rfl (pc0 := 41) (pc' := 3) rfl (hb hby d15_41) (by decide) (by decide) ?_
   refine XS.iload X6.here hx rfl (hb hby d15_3) rfl ?_
   refine XS.iload X6.here hx rfl (hb hby d15_5) rfl ?_
   show Steps p.tables e below (T6.setTop (mkF m 7 #[rv vc, iv 3, rv db, iv 3, iv 4, iv 3, iv x2] [(.int 4), (.int 3)])) _
   refine XS.icmpNo X6.here hx rfl (hb hby d15_7) rfl (tlt ((by decide) : (3 : Int32) < (4 : Int32))).2.1 ?_
   refine XS.aloadN X6.here hx rfl (hb hby d15_10) rfl rfl ?_
   refine XS.iloadN X6.here hx rfl (hb hby d15_11) rfl ?_
   exact k
 refine Go.cal X6 hx hZ e6 V_vc (hb hby d15_12) (v := (.int x3)) rfl ?_
 refine Go.step (S' := T6.setTop (mkF m 31 #[rv vc, iv 3, rv db, iv 3, iv 4, iv 3, iv x3] [(.int (x3.toInt8.toInt32)), (.int 3), (.ref db)])) (fun t k => ?_) ?_
 · refine XS.istore X6.here hx rfl (hb hby d15_13) rfl (l' := #[rv vc, iv 3, rv db, iv 3, iv 4, iv 3, iv x3]) rfl ?_
   refine XS.iload X6.here hx rfl (hb hby d15_15) rfl ?_
   refine XS.sipush X6.here hx rfl (hb hby d15_17) ?_
   refine XS.icmpYes X6.here hx rfl (pc0 := 20) (pc' := 26) rfl (hb hby d15_20) rfl (flt (u3 : ¬ ((255 : Int32) < x3))).2.2.2 (by decide) (by decide) ?_
   refine XS.aloadN X6.here hx rfl (hb hby d15_26) rfl rfl ?_
   refine XS.iloadN X6.here hx rfl (hb hby d15_27) rfl ?_
   show Steps p.tables e below (T6.setTop (mkF m 28 #[rv vc, iv 3, rv db, iv 3, iv 4, iv 3, iv x3] [(.int 3), (.ref db)])) _
   refine XS.iload X6.here hx rfl (hb hby d15_28) rfl ?_
   refine XS.i2b X6.here hx rfl (hb hby d15_30) rfl ?_
   exact k
 obtain ⟨cl8, Ar8, q8, S8, N8_, H8, G8⟩ := V_db
 have hin8 : ¬ ((3 : Int32) < 0 ∨ cl8.slots.size ≤ ((3 : Int32)).toNatClampNeg) := inb_of S8 ⟨by decide, by decide⟩
 obtain ⟨T8, h8, X8, e8, W8, st8⟩ := stB X6 hx hZ e6 Ar8 (j := (3 : Int32)) hin8 (g := (mkF m 31 #[rv vc, iv 3, rv db, iv 3, iv 4, iv 3, iv x3] [(.int (x3.toInt8.toInt32)), (.int 3), (.ref db)])) rfl rfl (hb hby d15_31)
 have O := O.wr W8 g_db
 have V_vc := V_vc.other W8 ne_vc_db
 have K := K.wr W8 (Or.inl (List.mem_of_getElem? (i := 0) rfl))
 have V_db : Arv Z h8 db kb .byte (4 : Int32) [(.int (x0.toInt8.toInt32)), (.int (x1.toInt8.toInt32)), (.int (x2.toInt8.toInt32)), (.int ((x3.toInt8.toInt32).toInt8.toInt32))] (.int 0) := Arv.set Ar8 q8 S8 N8_ H8 G8 (fits_nar_byte _) W8 3 rfl (Nat.le_of_ble_eq_true rfl)
 rw [(own_b2 x3 : ((x3.toInt8.toInt32).toInt8.toInt32) = (x3.toInt8.toInt32))] at V_db
 have N8 := Fr.snoc X8 N6 g_db
 refine Go.step st8 ?_
 refine Go.step (S' := T8.setTop (mkF m 46 #[rv vc, iv 4, rv db, iv 4, iv 4, iv 4, iv x3] [(.int 4)])) (fun t k => ?_) ?_
 · refine XS.iinc X8.here hx rfl (hb hby d15_32) rfl (l' := #[rv vc, iv 4, rv db, iv 3, iv 4, iv 3, iv x3]) rfl ?_
   refine XS.iinc X8.here hx rfl (hb hby d15_35) rfl (l' := #[rv vc, iv 4, rv db, iv 4, iv 4, iv 3, iv x3]) rfl ?_
   refine XS.iinc X8.here hx rfl (hb hby d15_38) rfl (l' := #[rv vc, iv 4, rv db, iv 4, iv 4, iv 4, iv x3]) rfl ?_
   refine XS.goto X8.here hx rfl (pc0 := 41) (pc' := 3) rfl (hb hby d15_41) (by decide) (by decide) ?_
   refine XS.iload X8.here hx rfl (hb hby d15_3) rfl ?_
   refine XS.iload X8.here hx rfl (hb hby d15_5) rfl ?_
   show Steps p.tables e below (T8.setTop (mkF m 7 #[rv vc, iv 4, rv db, iv 4, iv 4, iv 4, iv x3] [(.int 4), (.int 4)])) _
   refine XS.icmpYes X8.here hx rfl (pc0 := 7) (pc' := 44) rfl (hb hby d15_7) rfl (flt ((by decide) : ¬ ((4 : Int32) < (4 : Int32)))).2.1 (by decide) (by decide) ?_
   refine XS.iload X8.here hx rfl (hb hby d15_44) rfl ?_
   exact k
 exact Go.rt X8 hx Bd (w := (.int 4)) rfl (Or.inl ⟨rfl, Or.inl rfl, _, rfl⟩) (hb hby d15_46) e8 ⟨rfl, N8, K, V_db⟩
abbrev rm_rmCm4 : Room := ({ frames := 1, cells := 1, slots := 4, locals := 18 } : Room)
def Q_rmCm4 (Z : State) (vc : Addr) (kc : ClassId) (x0 : Int32) (x1 : Int32) (x2 : Int32) (x3 : Int32) (h0 : Heap) (n0 : Nat) (v : Option Value) (h : Heap) (L : List Loc) : Prop := ∃ b : Addr, ∃ kb : ClassId, (v = some (.ref b)) ∧ (Fr n0 L) ∧ (Keep h0 h []) ∧ (Arv Z h b kb .byte (4 : Int32) [(.int (x0.toInt8.toInt32)), (.int (x1.toInt8.toInt32)), (.int (x2.toInt8.toInt32)), (.int (x3.toInt8.toInt32))] (.int 0))
theorem rmCm4 (l : Launch) (Z : State) (a0 : Array Value) (hw : HW a0 Z) (ws : List Jvm.Cond) (vc : Addr) (kc : ClassId) (x0 : Int32) (x1 : Int32) (x2 : Int32) (x3 : Int32) (h0 : Heap) (n0 : Nat) (O : Old Z n0 h0) (V_vc : Arv Z h0 vc kc .char (4 : Int32) [(.int x0), (.int x1), (.int x2), (.int x3)] (.int 0)) (u0 : ¬ ((255 : Int32) < x0)) (u1 : ¬ ((255 : Int32) < x1)) (u2 : ¬ ((255 : Int32) < x2)) (u3 : ¬ ((255 : Int32) < x3)) :
    Mt l Z y_1 jdk_52_method_16_code 6 (some (.array .byte)) ws rm_rmCm4 #[(.ref vc), (.int 0), (.int 4)] h0 (Q_rmCm4 Z vc kc x0 x1 x2 x3 h0 n0) := by
 refine own_met "java/lang/StringUTF16" (plainFor_of_name pn_java_lang_StringUTF16) #[rv vc, iv 0, iv 4, u_, u_, u_] (fun m => rfl) (fun p e s m below meth c s₁ Bd hx hby hml hZ hown hnm X0 e0 => ?_)
 have N0 := Fr.nil n0
 have K := Keep.refl h0 []
 refine Go.step (S' := s₁.setTop (mkF m 1 #[rv vc, iv 0, iv 4, u_, u_, u_] [(.int 4)])) (fun t k => ?_) ?_
 · refine XS.iloadN X0.here hx rfl (hb hby d14_0) rfl ?_
   exact k
 obtain ⟨T1, h1, k1, X1, e1, E1, A1, st1⟩ := newP X0 hx hZ (own_w hw 17 rfl) e0 (g := (mkF m 1 #[rv vc, iv 0, iv 4, u_, u_, u_] [(.int 4)])) rfl (hb hby d14_1) rfl (by decide) (cap := 4) (by decide) (by decide) (by decide) (by decide)
 obtain ⟨b1, g1⟩ : ∃ z, z = Array.size h0 := ⟨_, rfl⟩
 have g_b1 : n0 ≤ b1 := Nat.le_trans (old_le O) (Nat.le_of_eq g1.symm)
 have sz_b1 : h0.size ≤ b1 := Nat.le_trans K.1 (Nat.le_of_eq g1.symm)
 have ne_vc_b1 : vc ≠ b1 := Nat.ne_of_lt (Nat.lt_of_lt_of_le V_vc.lt (Nat.le_of_eq g1.symm))
 rw [← g1] at A1 st1
 have O := O.ext E1
 have V_vc := V_vc.ext E1
 have K := K.ext E1
 have V_b1 : Arv Z h1 b1 k1 .byte (4 : Int32) [(.int 0), (.int 0), (.int 0), (.int 0)] (.int 0) := (Arv.new A1 (by decide)).pad (pad_rep [] (.int 0) 4)
 refine Go.step st1 ?_
 refine Go.step (S' := T1.setTop (mkF m 9 #[rv vc, iv 0, iv 4, rv b1, u_, u_] [(.int 4), (.int 0), (.ref b1), (.int 0), (.ref vc)])) (fun t k => ?_) ?_
 · refine XS.astoreN X1.here hx rfl (hb hby d14_3) rfl rfl (l' := #[rv vc, iv 0, iv 4, rv b1, u_, u_]) rfl ?_
   refine XS.aloadN X1.here hx rfl (hb hby d14_4) rfl rfl ?_
   refine XS.iloadN X1.here hx rfl (hb hby d14_5) rfl ?_
   refine XS.aloadN X1.here hx rfl (hb hby d14_6) rfl rfl ?_
   refine XS.iconst X1.here hx rfl (hb hby d14_7) ?_
   refine XS.iloadN X1.here hx rfl (hb hby d14_8) rfl ?_
   exact k
 refine Go.cS X1 hx hml hown hZ (own_w hw 72 rfl) (own_w hw 73 rfl) (own_w hw 70 rfl) (own_w hw 74 rfl) (rmCl4 l Z a0 hw [] vc b1 kc k1 x0 x1 x2 x3 h1 n0 O V_vc V_b1 (by assumption) ne_vc_b1 u0 u1 u2 u3) 0 [] pd__28_5bCI_5bBII_29I (hb hby d14_9) e1 (fun _ T2 L2 X2 hQ2 => ?_)
 obtain ⟨rfl, Nq2, K2, P2_V⟩ := hQ2
 have N2 := Fr.app N0 Nq2
 have O := O.keep K2 (allS g_b1 all0)
 have V_vc := V_vc.keep K2 (ninS ne_vc_b1 nin0)
 have K := K.trans K2 (allS (Or.inr sz_b1) all0)
 have V_2 := P2_V
 refine Go.step (S' := T2.setTop (mkF m 58 #[rv vc, iv 0, iv 4, rv b1, iv 4, u_] [(.ref b1)])) (fun t k => ?_) ?_
 · refine XS.istore X2.here hx rfl (hb hby d14_12) rfl (l' := #[rv vc, iv 0, iv 4, rv b1, iv 4, u_]) rfl ?_
   refine XS.iload X2.here hx rfl (hb hby d14_14) rfl ?_
   refine XS.iloadN X2.here hx rfl (hb hby d14_16) rfl ?_
   refine XS.icmpYes X2.here hx rfl (pc0 := 17) (pc' := 57) rfl (hb hby d14_17) rfl (teq ((by decide) : (4 : Int32) = (4 : Int32))).1 (by decide) (by decide) ?_
   refine XS.aloadN X2.here hx rfl (hb hby d14_57) rfl rfl ?_
   exact k
 exact Go.rt X2 hx Bd (w := (.ref b1)) rfl (Or.inr (Or.inr (Or.inr (Or.inr ⟨rfl, rfl, rfl⟩)))) (hb hby d14_58) (Eq.refl T2.heap) ⟨b1, k1, rfl, N2, K, V_2⟩
abbrev rm_rmCf4 : Room := ({ frames := 0, cells := 0, slots := 0, locals := 0 } : Room)
def Q_rmCf4 (Z : State) (tb : Addr) (kb : ClassId) (x0 : Int32) (x1 : Int32) (x2 : Int32) (x3 : Int32) (h0 : Heap) (n0 : Nat) (v : Option Value) (h : Heap) (L : List Loc) : Prop := (v = some (.int 0)) ∧ (Fr n0 L) ∧ (h = h0)
theorem rmCf4 (l : Launch) (Z : State) (a0 : Array Value) (hw : HW a0 Z) (ws : List Jvm.Cond) (tb : Addr) (kb : ClassId) (x0 : Int32) (x1 : Int32) (x2 : Int32) (x3 : Int32) (h0 : Heap) (n0 : Nat) (O : Old Z n0 h0) (V_tb : Arv Z h0 tb kb .byte (4 : Int32) [(.int (x0.toInt8.toInt32)), (.int (x1.toInt8.toInt32)), (.int (x2.toInt8.toInt32)), (.int (x3.toInt8.toInt32))] (.int 0)) :
    Mt l Z y_2 jdk_52_method_15_code 2 (some .byte) ws rm_rmCf4 #[(.ref tb), (.int 4)] h0 (Q_rmCf4 Z tb kb x0 x1 x2 x3 h0 n0) := by
 refine own_met "java/lang/StringUTF16" (plainFor_of_name pn_java_lang_StringUTF16) #[rv tb, iv 4] (fun m => rfl) (fun p e s m below meth c s₁ Bd hx hby hml hZ hown hnm X0 e0 => ?_)
 have N0 := Fr.nil n0
 refine Go.step (S' := s₁.setTop (mkF m 2 #[rv tb, iv 4] [(.ref tb), (.int 4)])) (fun t k => ?_) ?_
 · refine XS.iloadN X0.here hx rfl (hb hby d16_0) rfl ?_
   refine XS.aloadN X0.here hx rfl (hb hby d16_1) rfl rfl ?_
   exact k
 refine Go.len X0 hx hZ e0 V_tb (hb hby d16_2) ?_
 refine Go.step (S' := s₁.setTop (mkF m 8 #[rv tb, iv 4] [(.int 0)])) (fun t k => ?_) ?_
 · refine XS.isub X0.here hx rfl (hb hby d16_3) rfl ?_
   refine XS.bipush X0.here hx rfl (hb hby d16_4) ?_
   refine XS.iushr X0.here hx rfl (hb hby d16_6) rfl ?_
   refine XS.i2b X0.here hx rfl (hb hby d16_7) rfl ?_
   exact k
 exact Go.rt X0 hx Bd (w := (.int 0)) (by decide) (Or.inl ⟨rfl, Or.inr (Or.inr (Or.inl rfl)), _, rfl⟩) (hb hby d16_8) e0 ⟨rfl, N0, rfl⟩
abbrev rm_rmN4_4 : Room := ({ frames := 2, cells := 1, slots := 4, locals := 35 } : Room)
def Q_rmN4_4 (Z : State) (so : Addr) (vc : Addr) (kc : ClassId) (cs : Int32) (x0 : Int32) (x1 : Int32) (x2 : Int32) (x3 : Int32) (h0 : Heap) (n0 : Nat) (v : Option Value) (h : Heap) (L : List Loc) : Prop := ∃ tb : Addr, ∃ kb : ClassId, (v = none) ∧ (Fr n0 L) ∧ (Keep h0 h [so]) ∧ (Exa Z h so "java/lang/String") ∧ (Fd_5 Z h so (.ref tb)) ∧ (Fd_6 Z h so (.int 0)) ∧ (Arv Z h tb kb .byte (4 : Int32) [(.int (x0.toInt8.toInt32)), (.int (x1.toInt8.toInt32)), (.int (x2.toInt8.toInt32)), (.int (x3.toInt8.toInt32))] (.int 0))
theorem rmN4_4 (l : Launch) (Z : State) (a0 : Array Value) (hw : HW a0 Z) (ws : List Jvm.Cond) (so : Addr) (vc : Addr) (kc : ClassId) (cs : Int32) (x0 : Int32) (x1 : Int32) (x2 : Int32) (x3 : Int32) (h0 : Heap) (n0 : Nat) (O : Old Z n0 h0) (S_CS : Sa_0 Z (.int cs)) (E_so : Exa Z h0 so "java/lang/String") (F_v : Fd_5 Z h0 so .null) (F_c : Fd_6 Z h0 so (.int 0)) (V_vc : Arv Z h0 vc kc .char (4 : Int32) [(.int x0), (.int x1), (.int x2), (.int x3)] (.int 0)) (g_so : n0 ≤ so) (hcs : ¬ (cs = (0 : Int32))) (u0 : ¬ ((255 : Int32) < x0)) (u1 : ¬ ((255 : Int32) < x1)) (u2 : ¬ ((255 : Int32) < x2)) (u3 : ¬ ((255 : Int32) < x3)) :
    Mt l Z y_3 jdk_42_method_149_code 6 none ws rm_rmN4_4 #[(.ref so), (.ref vc), (.int 0), (.int 4), .null] h0 (Q_rmN4_4 Z so vc kc cs x0 x1 x2 x3 h0 n0) := by
 refine own_met "java/lang/String" (plainFor_of_name pn_java_lang_String) #[rv so, rv vc, iv 0, iv 4, .val .null, u_] (fun m => rfl) (fun p e s m below meth c s₁ Bd hx hby hml hZ hown hnm X0 e0 => ?_)
 have N0 := Fr.nil n0
 have K := Keep.refl h0 [so]
 refine Go.step (S' := s₁.setTop (mkF m 1 #[rv so, rv vc, iv 0, iv 4, .val .null, u_] [(.ref so)])) (fun t k => ?_) ?_
 · refine XS.aloadN X0.here hx rfl (hb hby d2_0) rfl rfl ?_
   exact k
 obtain ⟨T1, X1, e1, st1⟩ := initO X0 hx hZ hown (own_w hw 13 rfl) (own_w hw 14 rfl) (own_w hw 15 rfl) e0 (g := (mkF m 1 #[rv so, rv vc, iv 0, iv 4, .val .null, u_] [(.ref so)])) rfl (by rw [hml]; rfl) rfl (hb hby d2_1) (by decide) (W := 0) (by show 2 * 0 + _ ≤ _; exact Nat.le_of_eq rfl) (by decide)
 refine Go.step st1 ?_
 refine Go.step (S' := T1.setTop (mkF m 27 #[rv so, rv vc, iv 0, iv 4, .val .null, u_] [])) (fun t k => ?_) ?_
 · refine XS.iloadN X1.here hx rfl (hb hby d2_4) rfl ?_
   refine XS.ifYes X1.here hx rfl (pc0 := 5) (pc' := 27) rfl (hb hby d2_5) rfl ((if0 _ _).trans (feq ((by decide) : ¬ ((4 : Int32) = (0 : Int32)))).2) (by decide) (by decide) ?_
   exact k
 refine Go.gS X1 hx hZ hown (host := "") (Or.inl (own_w hw 43 rfl)) Via.refl e1 (S_CS.ext O.2) (hb hby d2_27) (fun T2 X2 e2 => ?_)
 refine Go.step (S' := T2.setTop (mkF m 36 #[rv so, rv vc, iv 0, iv 4, .val .null, u_] [(.int 4), (.int 0), (.ref vc)])) (fun t k => ?_) ?_
 · refine XS.ifNo X2.here hx rfl (hb hby d2_30) rfl ((if0 _ _).trans (feq (hcs : ¬ (cs = (0 : Int32)))).1) ?_
   refine XS.aloadN X2.here hx rfl (hb hby d2_33) rfl rfl ?_
   refine XS.iloadN X2.here hx rfl (hb hby d2_34) rfl ?_
   refine XS.iloadN X2.here hx rfl (hb hby d2_35) rfl ?_
   exact k
 refine Go.cS X2 hx hml hown hZ (own_w hw 68 rfl) (own_w hw 69 rfl) (own_w hw 70 rfl) (own_w hw 71 rfl) (rmCm4 l Z a0 hw [] vc kc x0 x1 x2 x3 h0 n0 O V_vc u0 u1 u2 u3) 0 [] pd__28_5bCII_29_5bB (hb hby d2_36) e2 (fun _ T3 L3 X3 hQ3 => ?_)
 obtain ⟨b_3, kb_3, rfl, Nq3, K3, P3_V⟩ := hQ3
 have N3 := Fr.app N0 Nq3
 have O := O.keep K3 all0
 have E_so := E_so.keep K3
 have F_v := F_v.keep K3 nin0
 have F_c := F_c.keep K3 nin0
 have V_vc := V_vc.keep K3 nin0
 have K := K.trans K3 all0
 have V_3 := P3_V
 refine Go.step (S' := T3.setTop (mkF m 45 #[rv so, rv vc, iv 0, iv 4, .val .null, rv b_3] [(.int 4), (.ref b_3), (.ref so)])) (fun t k => ?_) ?_
 · refine XS.astore X3.here hx rfl (hb hby d2_39) rfl rfl (l' := #[rv so, rv vc, iv 0, iv 4, .val .null, rv b_3]) rfl ?_
   refine XS.aloadN X3.here hx rfl (hb hby d2_41) rfl rfl ?_
   refine XS.aload X3.here hx rfl (hb hby d2_42) rfl rfl ?_
   refine XS.iloadN X3.here hx rfl (hb hby d2_44) rfl ?_
   exact k
 refine Go.cS X3 hx hml hown hZ (own_w hw 75 rfl) (own_w hw 76 rfl) (own_w hw 70 rfl) (own_w hw 77 rfl) (rmCf4 l Z a0 hw [] b_3 kb_3 x0 x1 x2 x3 T3.heap n0 O V_3) 1 [(.ref so)] pd__28_5bBI_29B (hb hby d2_45) (Eq.refl T3.heap) (fun _ T4 L4 X4 hQ4 => ?_)
 obtain ⟨rfl, Nq4, e4⟩ := hQ4
 have N4 := Fr.app N3 Nq4
 obtain ⟨T5, h5, X5, e5, W5, st5⟩ := putFN X4 hx hZ hown (own_w hw 23 rfl) Via.refl e4 F_c E_so (Or.inr ⟨(own_w hw 19 rfl), rfl, hnm⟩) (own_w hw 4 rfl) (ty := .byte) (v' := (.int 0)) (by decide) rfl rfl (g := (mkF m 48 #[rv so, rv vc, iv 0, iv 4, .val .null, rv b_3] [(.int 0), (.ref so)])) rfl rfl (hb hby d2_48)
 have ne_vc_so : vc ≠ so := Ne.symm (Exa.neArv E_so V_vc (own_w hw 4 rfl))
 have ne_b_3_so : b_3 ≠ so := Ne.symm (Exa.neArv E_so V_3 (own_w hw 4 rfl))
 have O := O.wr W5 g_so
 have E_so := E_so.wr W5
 have F_v := F_v.other W5 (Or.inr (slot_ne (Or.inr (own_w hw 18 rfl)) (Or.inr (own_w hw 19 rfl)) (by decide) (t := (.array .byte)) (t' := .byte) (by decide) (by decide)))
 have F_c := F_c.same W5
 have V_vc := V_vc.other W5 ne_vc_so
 have K := K.wr W5 (Or.inl (List.mem_of_getElem? (i := 0) rfl))
 have V_3 := V_3.other W5 ne_b_3_so
 have N5 := Fr.snoc X5 N4 g_so
 refine Go.step st5 ?_
 refine Go.step (S' := T5.setTop (mkF m 54 #[rv so, rv vc, iv 0, iv 4, .val .null, rv b_3] [(.ref b_3), (.ref so)])) (fun t k => ?_) ?_
 · refine XS.aloadN X5.here hx rfl (hb hby d2_51) rfl rfl ?_
   refine XS.aload X5.here hx rfl (hb hby d2_52) rfl rfl ?_
   exact k
 obtain ⟨T6, h6, X6, e6, W6, st6⟩ := putF X5 hx hZ hown (host := "") (Or.inl (own_w hw 22 rfl)) Via.refl e5 F_v E_so (Or.inr ⟨(own_w hw 18 rfl), rfl, hnm⟩) (own_w hw 4 rfl) (ty := (.array .byte)) (by decide) rfl rfl (g := (mkF m 54 #[rv so, rv vc, iv 0, iv 4, .val .null, rv b_3] [(.ref b_3), (.ref so)])) rfl rfl (hb hby d2_54)
 have O := O.wr W6 g_so
 have E_so := E_so.wr W6
 have F_v := F_v.same W6
 have F_c := F_c.other W6 (Or.inr (slot_ne (Or.inr (own_w hw 19 rfl)) (Or.inr (own_w hw 18 rfl)) (by decide) (t := .byte) (t' := (.array .byte)) (by decide) (by decide)))
 have V_vc := V_vc.other W6 ne_vc_so
 have K := K.wr W6 (Or.inl (List.mem_of_getElem? (i := 0) rfl))
 have V_3 := V_3.other W6 ne_b_3_so
 have N6 := Fr.snoc X6 N5 g_so
 refine Go.step st6 ?_
 exact Go.rv X6 hx Bd (hb hby d2_57) e6 ⟨b_3, kb_3, rfl, N6, K, E_so, F_v, F_c, V_3⟩
abbrev rm_rmNS4 : Room := ({ frames := 3, cells := 1, slots := 4, locals := 52 } : Room)
def Q_rmNS4 (Z : State) (so : Addr) (vc : Addr) (kc : ClassId) (cs : Int32) (x0 : Int32) (x1 : Int32) (x2 : Int32) (x3 : Int32) (h0 : Heap) (n0 : Nat) (v : Option Value) (h : Heap) (L : List Loc) : Prop := ∃ tb : Addr, ∃ kb : ClassId, (v = none) ∧ (Fr n0 L) ∧ (Keep h0 h [so]) ∧ (Exa Z h so "java/lang/String") ∧ (Fd_5 Z h so (.ref tb)) ∧ (Fd_6 Z h so (.int 0)) ∧ (Arv Z h tb kb .byte (4 : Int32) [(.int (x0.toInt8.toInt32)), (.int (x1.toInt8.toInt32)), (.int (x2.toInt8.toInt32)), (.int (x3.toInt8.toInt32))] (.int 0))
theorem rmNS4 (l : Launch) (Z : State) (a0 : Array Value) (hw : HW a0 Z) (ws : List Jvm.Cond) (so : Addr) (vc : Addr) (kc : ClassId) (cs : Int32) (x0 : Int32) (x1 : Int32) (x2 : Int32) (x3 : Int32) (h0 : Heap) (n0 : Nat) (O : Old Z n0 h0) (S_CS : Sa_0 Z (.int cs)) (E_so : Exa Z h0 so "java/lang/String") (F_v : Fd_5 Z h0 so .null) (F_c : Fd_6 Z h0 so (.int 0)) (V_vc : Arv Z h0 vc kc .char (4 : Int32) [(.int x0), (.int x1), (.int x2), (.int x3)] (.int 0)) (g_so : n0 ≤ so) (hcs : ¬ (cs = (0 : Int32))) (u0 : ¬ ((255 : Int32) < x0)) (u1 : ¬ ((255 : Int32) < x1)) (u2 : ¬ ((255 : Int32) < x2)) (u3 : ¬ ((255 : Int32) < x3)) :
    Mt l Z y_4 jdk_42_method_3_code 2 none ws rm_rmNS4 #[(.ref so), (.ref vc)] h0 (Q_rmNS4 Z so vc kc cs x0 x1 x2 x3 h0 n0) := by
 refine own_met "java/lang/String" (plainFor_of_name pn_java_lang_String) #[rv so, rv vc] (fun m => rfl) (fun p e s m below meth c s₁ Bd hx hby hml hZ hown hnm X0 e0 => ?_)
 have N0 := Fr.nil n0
 have K := Keep.refl h0 [so]
 refine Go.step (S' := s₁.setTop (mkF m 4 #[rv so, rv vc] [(.ref vc), (.int 0), (.ref vc), (.ref so)])) (fun t k => ?_) ?_
 · refine XS.aloadN X0.here hx rfl (hb hby d1_0) rfl rfl ?_
   refine XS.aloadN X0.here hx rfl (hb hby d1_1) rfl rfl ?_
   refine XS.iconst X0.here hx rfl (hb hby d1_2) ?_
   refine XS.aloadN X0.here hx rfl (hb hby d1_3) rfl rfl ?_
   exact k
 refine Go.len X0 hx hZ e0 V_vc (hb hby d1_4) ?_
 refine Go.step (S' := s₁.setTop (mkF m 6 #[rv so, rv vc] [.null, (.int 4), (.int 0), (.ref vc), (.ref so)])) (fun t k => ?_) ?_
 · refine XS.aconstNull X0.here hx rfl (hb hby d1_5) ?_
   exact k
 refine Go.cI X0 hx hml hown hZ (own_w hw 9 rfl) (own_w hw 10 rfl) (own_w hw 5 rfl) (own_w hw 12 rfl) (rmN4_4 l Z a0 hw [] so vc kc cs x0 x1 x2 x3 h0 n0 O S_CS E_so F_v F_c V_vc (by assumption) hcs u0 u1 u2 u3) 0 [] pd__28_5bCIILjava_2flang_2fVoid_3b_29V (hb hby d1_6) e0 (fun _ T1 L1 X1 hQ1 => ?_)
 obtain ⟨tb_1, kb_1, rfl, Nq1, K1, P1_E, P1_Fv, P1_Fc, P1_V⟩ := hQ1
 have N1 := Fr.app N0 Nq1
 have ne_vc_so : vc ≠ so := Ne.symm (Exa.neArv E_so V_vc (own_w hw 4 rfl))
 have O := O.keep K1 (allS g_so all0)
 have E_so := E_so.keep K1
 have V_vc := V_vc.keep K1 (ninS ne_vc_so nin0)
 have K := K.trans K1 (allS (Or.inl (List.mem_of_getElem? (i := 0) rfl)) all0)
 have E_1 := P1_E
 have Fv_1 := P1_Fv
 have Fc_1 := P1_Fc
 have V_1 := P1_V
 exact Go.rv X1 hx Bd (hb hby d1_9) (Eq.refl T1.heap) ⟨tb_1, kb_1, rfl, N1, K, E_so, Fv_1, Fc_1, V_1⟩
theorem d2_8 : decode jdk_42_method_149_code 8 = .ok (.aload_n 0, 1) := by decide +kernel
theorem d2_9 : decode jdk_42_method_149_code 9 = .ok (.ldc 7, 2) := by decide +kernel
theorem d2_11 : decode jdk_42_method_149_code 11 = .ok (.getfield 9, 3) := by decide +kernel
theorem d2_14 : decode jdk_42_method_149_code 14 = .ok (.putfield 9, 3) := by decide +kernel
theorem d2_17 : decode jdk_42_method_149_code 17 = .ok (.aload_n 0, 1) := by decide +kernel
theorem d2_18 : decode jdk_42_method_149_code 18 = .ok (.ldc 7, 2) := by decide +kernel
theorem d2_20 : decode jdk_42_method_149_code 20 = .ok (.getfield 15, 3) := by decide +kernel
theorem d2_23 : decode jdk_42_method_149_code 23 = .ok (.putfield 15, 3) := by decide +kernel
theorem d2_26 : decode jdk_42_method_149_code 26 = .ok (.return_, 1) := by decide +kernel
theorem ef_rmN4_0 (m : MethodId) (so : Addr) (vc : Addr) : entryFrame m #[(.ref so), (.ref vc), (.int 0), (.int 0), .null] 6 = mkF m 0 #[.val (.ref so), .val (.ref vc), .val (.int 0), .val (.int 0), .val .null, .unset] [] := by first | (simp [entryFrame, mkF, argsToLocals, Value.category]; done) | rfl
abbrev rm_rmN4_0 : Room := ({ frames := 1, cells := 2, slots := 4, locals := 12 } : Room)
def Q_rmN4_0 (Z : State) (so : Addr) (vc : Addr) (h0 : Heap) (n0 : Nat) (v : Option Value) (h : Heap) (L : List Loc) : Prop := ∃ tb : Addr, ∃ kb : ClassId, (v = none) ∧ (Fr n0 L) ∧ (Keep h0 h [so]) ∧ (Exa Z h so "java/lang/String") ∧ (Fd_5 Z h so (.ref tb)) ∧ (Fd_6 Z h so (.int 0)) ∧ (Arv Z h tb kb .byte (0 : Int32) [] (.int 0))
theorem rmN4_0 (l : Launch) (Z : State) (a0 : Array Value) (hw : ∀ d ∈ tables_1, d.before a0 Z = true) (ws : List Jvm.Cond) (so : Addr) (vc : Addr) (h0 : Heap) (n0 : Nat) (O : Old Z n0 h0) (E_so : Exa Z h0 so "java/lang/String") (F_v : Fd_5 Z h0 so .null) (F_c : Fd_6 Z h0 so (.int 0)) (g_so : n0 ≤ so) :
    MetFree l y_3 (head1 (Jvm.Cond.code y_3 jdk_42_method_149_code 6 none :: ws) rm_rmN4_0) (fun A_ U => A_ = #[(.ref so), (.ref vc), (.int 0), (.int 0), .null] ∧ Z.Warmed39 U.vm ∧ U.heap = h0 ∧ CHv Z EL_ U.vm h0) (fun _ _ _ _ _ => True) (fun _ U o U' => ∃ v L, o = .returned v ∧ Q_rmN4_0 Z so vc h0 n0 v U'.heap L ∧ ReturnedEndW U o U' L rm_rmN4_0.cells rm_rmN4_0.slots) := by
 refine MetFree.of_bodySF (plainFor_of_name pn_java_lang_String) hisR ?_
 intro p e s m args below meth c s₁ Bd hml0 hP hK
 obtain ⟨rfl, hZ, hh, CH⟩ := hP
 have hx := Bd.exec
 have hby := Bd.bytes
 have hml : c.maxLocals = 6 := hml0
 have hown : s.vm.findClass "java/lang/String" = some m.cls := findClass_of_methodNamed Bd.named
 have hnm := (name_of_methodNamed Bd.named Bd.method).1
 have X0 : Stand p l e rm_rmN4_0 (s.setVm s.vm) m #[(.ref so), (.ref vc), (.int 0), (.int 0), .null] below meth c s₁ [] 0 0 := Stand.of_body Bd
 have e0 : s₁.heap = h0 := by rw [← hh, Bd.state]; rfl
 have N0 := Fr.nil n0
 have K := Keep.refl h0 [so]
 have hS : s.Since s.vm 0 := (State.WarmedH.refl s).since 0
 have hk : 0 ≤ h0.size := Nat.zero_le _
 have wS := own_wS hw
 refine Go.step (p := p) (e := e) (below := below) (G := fun o U' => ∃ v L, o = .returned v ∧ Q_rmN4_0 Z so vc h0 n0 v U'.heap L ∧ ReturnedEndW s o U' L rm_rmN4_0.cells rm_rmN4_0.slots) (S' := s₁.setTop (mkF m 0 #[rv so, rv vc, iv 0, iv 0, .val .null, u_] [])) (fun t k => castTop (ef_rmN4_0 m so vc) k) ?_
 refine Go.step (S' := s₁.setTop (mkF m 1 #[rv so, rv vc, iv 0, iv 0, .val .null, u_] [(.ref so)])) (fun t k => ?_) ?_
 · refine XS.aloadN X0.here hx rfl (hb hby d2_0) rfl rfl ?_
   exact k
 obtain ⟨T1, X1, e1, st1⟩ := initO X0 hx hZ hown (own_w hw 13 rfl) (own_w hw 14 rfl) (own_w hw 15 rfl) e0 (g := (mkF m 1 #[rv so, rv vc, iv 0, iv 0, .val .null, u_] [(.ref so)])) rfl (by rw [hml]; rfl) rfl (hb hby d2_1) (by decide) (W := 0) (by show 2 * 0 + _ ≤ _; exact Nat.le_of_eq rfl) (by decide)
 refine Go.step st1 ?_
 refine Go.step (S' := T1.setTop (mkF m 9 #[rv so, rv vc, iv 0, iv 0, .val .null, u_] [(.ref so)])) (fun t k => ?_) ?_
 · refine XS.iloadN X1.here hx rfl (hb hby d2_4) rfl ?_
   refine XS.ifNo X1.here hx rfl (hb hby d2_5) rfl ((if0 _ _).trans (teq ((by decide) : (0 : Int32) = (0 : Int32))).2) ?_
   refine XS.aloadN X1.here hx rfl (hb hby d2_8) rfl rfl ?_
   exact k
 obtain ⟨a2, T2, h2, k2, b2, kb2, X2, e2, E2, hS, hk, hZ, hown, Ea2, Fc2, Fv2, Va2, -, -, -, LIT, -, st2⟩ := ldcCH X1 hx hZ hown (own_w hw 16 rfl) wS e1 hS hk (own_EW hw) (List.mem_of_getElem? (i := 0) rfl) CH (vs := []) (z := (0 : Int32)) ⟨by decide, rfl⟩ (by decide) rfl (g := (mkF m 9 #[rv so, rv vc, iv 0, iv 0, .val .null, u_] [(.ref so)])) rfl (hb hby d2_9) (n := 0) (by decide) (by decide) (by decide) (by decide)
 have O := O.ext E2
 have E_so := E_so.ext E2
 have F_v := F_v.ext E2
 have F_c := F_c.ext E2
 have K := K.ext E2
 refine Go.step st2 ?_
 refine Go.gF X2 hx hZ hown (host := "") (Or.inl (own_w hw 22 rfl)) Via.refl e2 Fv2 (hb hby d2_11) (fun T3 X3 e3 => ?_)
 obtain ⟨T4, h4, X4, e4, W4, st4⟩ := putF X3 hx hZ hown (host := "") (Or.inl (own_w hw 22 rfl)) Via.refl e3 F_v E_so (Or.inr ⟨(own_w hw 18 rfl), rfl, hnm⟩) (own_w hw 4 rfl) (ty := (.array .byte)) (by decide) rfl rfl (g := (mkF m 14 #[rv so, rv vc, iv 0, iv 0, .val .null, u_] [(.ref b2), (.ref so)])) rfl rfl (hb hby d2_14)
 have ne_a2_so : a2 ≠ so := Fld.ne Fv2 F_v nofun
 have ne_b2_so : b2 ≠ so := Ne.symm (Exa.neArv E_so Va2 (own_w hw 4 rfl))
 have O := O.wr W4 g_so
 have E_so := E_so.wr W4
 have F_v := F_v.same W4
 have F_c := F_c.other W4 (Or.inr (slot_ne (Or.inr (own_w hw 19 rfl)) (Or.inr (own_w hw 18 rfl)) (by decide) (t := .byte) (t' := (.array .byte)) (by decide) (by decide)))
 have K := K.wr W4 (Or.inl (List.mem_of_getElem? (i := 0) rfl))
 have hk := Nat.le_trans hk (Keep.of_wr W4).1
 have Ea2 := Ea2.wr W4
 have Fc2 := Fc2.other W4 (Or.inl ne_a2_so)
 have Fv2 := Fv2.other W4 (Or.inl ne_a2_so)
 have Va2 := Va2.other W4 ne_b2_so
 have N4 := Fr.snoc X4 N0 g_so
 refine Go.step st4 ?_
 refine Go.step (S' := T4.setTop (mkF m 18 #[rv so, rv vc, iv 0, iv 0, .val .null, u_] [(.ref so)])) (fun t k => ?_) ?_
 · refine XS.aloadN X4.here hx rfl (hb hby d2_17) rfl rfl ?_
   exact k
 refine Go.step (S' := T4.setTop (mkF m 20 #[rv so, rv vc, iv 0, iv 0, .val .null, u_] [(.ref a2), (.ref so)])) (ldcAgain X4 hx hZ hown (own_w hw 16 rfl) LIT (g := (mkF m 18 #[rv so, rv vc, iv 0, iv 0, .val .null, u_] [(.ref so)])) rfl (hb hby d2_18)) ?_
 refine Go.gF X4 hx hZ hown (host := "") (Or.inl (own_w hw 23 rfl)) Via.refl e4 Fc2 (hb hby d2_20) (fun T5 X5 e5 => ?_)
 obtain ⟨T6, h6, X6, e6, W6, st6⟩ := putFN X5 hx hZ hown (own_w hw 23 rfl) Via.refl e5 F_c E_so (Or.inr ⟨(own_w hw 19 rfl), rfl, hnm⟩) (own_w hw 4 rfl) (ty := .byte) (v' := (.int 0)) (by decide) rfl rfl (g := (mkF m 23 #[rv so, rv vc, iv 0, iv 0, .val .null, u_] [(.int 0), (.ref so)])) rfl rfl (hb hby d2_23)
 have O := O.wr W6 g_so
 have E_so := E_so.wr W6
 have F_v := F_v.other W6 (Or.inr (slot_ne (Or.inr (own_w hw 18 rfl)) (Or.inr (own_w hw 19 rfl)) (by decide) (t := (.array .byte)) (t' := .byte) (by decide) (by decide)))
 have F_c := F_c.same W6
 have K := K.wr W6 (Or.inl (List.mem_of_getElem? (i := 0) rfl))
 have hk := Nat.le_trans hk (Keep.of_wr W6).1
 have Ea2 := Ea2.wr W6
 have Fc2 := Fc2.other W6 (Or.inl ne_a2_so)
 have Fv2 := Fv2.other W6 (Or.inl ne_a2_so)
 have Va2 := Va2.other W6 ne_b2_so
 have N6 := Fr.snoc X6 N4 g_so
 refine Go.step st6 ?_
 obtain ⟨fs, hr, hrun, hended, hR⟩ := X6.leaveW hS (by rw [e6]; exact hk) (v := none) (fun _ => rfl)
 refine Go.fin (S' := T6.setFrames fs) ?_ hrun hended ⟨_, _, rfl, ?_, hR.1, hR.2.1, hR.2.2.1, hR.2.2.2.mono (by decide) (by decide)⟩
 · exact X6.returnOut hx Bd.returns (hb hby d2_26) hr
 · show Q_rmN4_0 Z so vc h0 n0 (none) T6.heap _
   rw [e6]
   exact ⟨b2, kb2, rfl, N6, K, E_so, F_v, F_c, Va2⟩
theorem ef_rmNS0 (m : MethodId) (so : Addr) (vc : Addr) : entryFrame m #[(.ref so), (.ref vc)] 2 = mkF m 0 #[.val (.ref so), .val (.ref vc)] [] := by first | (simp [entryFrame, mkF, argsToLocals, Value.category]; done) | rfl
abbrev rm_rmNS0 : Room := ({ frames := 2, cells := 2, slots := 4, locals := 29 } : Room)
def Q_rmNS0 (Z : State) (so : Addr) (vc : Addr) (kc : ClassId) (h0 : Heap) (n0 : Nat) (v : Option Value) (h : Heap) (L : List Loc) : Prop := ∃ tb : Addr, ∃ kb : ClassId, (v = none) ∧ (Fr n0 L) ∧ (Keep h0 h [so]) ∧ (Exa Z h so "java/lang/String") ∧ (Fd_5 Z h so (.ref tb)) ∧ (Fd_6 Z h so (.int 0)) ∧ (Arv Z h tb kb .byte (0 : Int32) [] (.int 0))
theorem rmNS0 (l : Launch) (Z : State) (a0 : Array Value) (hw : ∀ d ∈ tables_1, d.before a0 Z = true) (ws : List Jvm.Cond) (so : Addr) (vc : Addr) (kc : ClassId) (h0 : Heap) (n0 : Nat) (O : Old Z n0 h0) (E_so : Exa Z h0 so "java/lang/String") (F_v : Fd_5 Z h0 so .null) (F_c : Fd_6 Z h0 so (.int 0)) (V_vc : Arv Z h0 vc kc .char (0 : Int32) [] (.int 0)) (g_so : n0 ≤ so) :
    MetFree l y_4 (head1 (Jvm.Cond.code y_4 jdk_42_method_3_code 2 none :: ws) rm_rmNS0) (fun A_ U => A_ = #[(.ref so), (.ref vc)] ∧ Z.Warmed39 U.vm ∧ U.heap = h0 ∧ CHv Z EL_ U.vm h0) (fun _ _ _ _ _ => True) (fun _ U o U' => ∃ v L, o = .returned v ∧ Q_rmNS0 Z so vc kc h0 n0 v U'.heap L ∧ ReturnedEndW U o U' L rm_rmNS0.cells rm_rmNS0.slots) := by
 refine MetFree.of_bodySF (plainFor_of_name pn_java_lang_String) hisR ?_
 intro p e s m args below meth c s₁ Bd hml0 hP hK
 obtain ⟨rfl, hZ, hh, CH⟩ := hP
 have hx := Bd.exec
 have hby := Bd.bytes
 have hml : c.maxLocals = 2 := hml0
 have hown : s.vm.findClass "java/lang/String" = some m.cls := findClass_of_methodNamed Bd.named
 have hnm := (name_of_methodNamed Bd.named Bd.method).1
 have X0 : Stand p l e rm_rmNS0 (s.setVm s.vm) m #[(.ref so), (.ref vc)] below meth c s₁ [] 0 0 := Stand.of_body Bd
 have e0 : s₁.heap = h0 := by rw [← hh, Bd.state]; rfl
 have N0 := Fr.nil n0
 have K := Keep.refl h0 [so]
 have hS : s.Since s.vm 0 := (State.WarmedH.refl s).since 0
 have hk : 0 ≤ h0.size := Nat.zero_le _
 have wS := own_wS hw
 refine Go.step (p := p) (e := e) (below := below) (G := fun o U' => ∃ v L, o = .returned v ∧ Q_rmNS0 Z so vc kc h0 n0 v U'.heap L ∧ ReturnedEndW s o U' L rm_rmNS0.cells rm_rmNS0.slots) (S' := s₁.setTop (mkF m 0 #[rv so, rv vc] [])) (fun t k => castTop (ef_rmNS0 m so vc) k) ?_
 refine Go.step (S' := s₁.setTop (mkF m 4 #[rv so, rv vc] [(.ref vc), (.int 0), (.ref vc), (.ref so)])) (fun t k => ?_) ?_
 · refine XS.aloadN X0.here hx rfl (hb hby d1_0) rfl rfl ?_
   refine XS.aloadN X0.here hx rfl (hb hby d1_1) rfl rfl ?_
   refine XS.iconst X0.here hx rfl (hb hby d1_2) ?_
   refine XS.aloadN X0.here hx rfl (hb hby d1_3) rfl rfl ?_
   exact k
 refine Go.len X0 hx hZ e0 V_vc (hb hby d1_4) ?_
 refine Go.step (S' := s₁.setTop (mkF m 6 #[rv so, rv vc] [.null, (.int 0), (.int 0), (.ref vc), (.ref so)])) (fun t k => ?_) ?_
 · refine XS.aconstNull X0.here hx rfl (hb hby d1_5) ?_
   exact k
 obtain ⟨_, _, ⟨T1, L1, k1, n1⟩, -, X1, hS1, hgr1, ⟨Lc1, hQ1, l1, y1, z1⟩, st1⟩ := X0.specialBackS hx (y := y_3) rfl hown (mvT hZ (own_w hw 9 rfl)) (mvT hZ (own_w hw 10 rfl)) (mvT hZ (own_w hw 12 rfl)) (by decide) (own_backX (W := 0) (rmN4_0 l Z a0 hw [] so vc h0 n0 O E_so F_v F_c (by assumption)) hZ (own_w hw 12 rfl) (own_w hw 5 rfl) (by decide) (by decide) (fun vm' hvm => own_CHw hZ (own_EW hw) hvm CH)) (g := (mkF m 6 #[rv so, rv vc] [.null, (.int 0), (.int 0), (.ref vc), (.ref so)])) rfl (by rw [hml]; rfl) (Steps.refl _) (a := so) (argsL := [(.ref vc), (.int 0), (.int 0), .null]) (rest := []) (lenOf pd__28_5bCIILjava_2flang_2fVoid_3b_29V rfl) rfl (Nat.le_of_eq rfl) (hb hby d1_6) (fun _ _ => ⟨rfl, e0, (by decide : 0 + 2 ≤ _), (by decide : 0 + 4 ≤ _)⟩)
 dsimp only [Pt.U, Pt.locs, Pt.cells, Pt.slots] at X1 l1 y1 z1 st1 hQ1 hS1 hgr1
 subst l1 y1 z1
 have hS := foldS hS (by rw [e0]; exact hk) hS1 hgr1
 have hown : (s.setVm T1.vm).vm.findClass "java/lang/String" = some m.cls := by show T1.vm.findClass _ = _; rw [hS1.1.alike.findClass]; exact hown
 have hZ : Z.Warmed39 (s.setVm T1.vm).vm := State.Warmed39.trans hZ hS1.1
 have X1 : Stand p l e rm_rmNS0 (s.setVm T1.vm) m #[(.ref so), (.ref vc)] below meth c T1 _ _ _ := X1
 obtain ⟨tb_1, kb_1, rfl, Nq1, K1, P1_E, P1_Fv, P1_Fc, P1_V⟩ := hQ1
 have N1 := Fr.app N0 Nq1
 have ne_vc_so : vc ≠ so := Ne.symm (Exa.neArv E_so V_vc (own_w hw 4 rfl))
 have O := O.keep K1 (allS g_so all0)
 have E_so := E_so.keep K1
 have V_vc := V_vc.keep K1 (ninS ne_vc_so nin0)
 have K := K.trans K1 (allS (Or.inl (List.mem_of_getElem? (i := 0) rfl)) all0)
 have E_1 := P1_E
 have Fv_1 := P1_Fv
 have Fc_1 := P1_Fc
 have V_1 := P1_V
 have hk : T1.heap.size ≤ (T1.heap).size := Nat.le_refl _
 refine Go.step (fun t k => st1.trans k) ?_
 obtain ⟨fs, hr, hrun, hended, hR⟩ := X1.leaveW hS (by exact hk) (v := none) (fun _ => rfl)
 refine Go.fin (S' := T1.setFrames fs) ?_ hrun hended ⟨_, _, rfl, ?_, hR.1, hR.2.1, hR.2.2.1, hR.2.2.2.mono (by decide) (by decide)⟩
 · exact X1.returnOut hx Bd.returns (hb hby d1_9) hr
 · show Q_rmNS0 Z so vc kc h0 n0 (none) T1.heap _
   exact ⟨tb_1, kb_1, rfl, N1, K, E_so, Fv_1, Fc_1, V_1⟩
def own_lo (x : Int32) : Int32 := ((x >>> ((0 : Int32) &&& 31)).toInt8.toInt32)
def own_hi (x : Int32) : Int32 := ((x >>> ((8 : Int32) &&& 31)).toInt8.toInt32)
def own_gl (y : Int32) : Int32 := ((y &&& (255 : Int32)) <<< ((0 : Int32) &&& 31))
def own_gh (y : Int32) : Int32 := ((y &&& (255 : Int32)) <<< ((8 : Int32) &&& 31))
theorem own_glv (y : Int32) : (own_gl y).toInt = y.toInt % 256 := by
  have h1 := c_mask y 255 8 (by decide) (by decide)
  have h2 := c_ishl (y &&& 255) 0 0 (by decide)
  have h3 := rng32 ((y &&& 255) <<< ((0 : Int32) &&& 31))
  unfold own_gl
  omega
theorem own_ghv (y : Int32) : (own_gh y).toInt = y.toInt % 256 * 256 := by
  have h1 := c_mask y 255 8 (by decide) (by decide)
  have h2 := c_ishl (y &&& 255) 8 8 (by decide)
  have h3 := rng32 ((y &&& 255) <<< ((8 : Int32) &&& 31))
  unfold own_gh
  omega
theorem own_lov (x : Int32) : ((own_lo x).toInt - x.toInt) % 256 = 0 := by
  have h1 := c_ishr x 0 0 (by decide)
  have h2 := (c_i2b (x >>> ((0 : Int32) &&& 31))).1
  unfold own_lo
  omega
theorem own_hiv (x : Int32) : ((own_hi x).toInt - x.toInt / 256) % 256 = 0 := by
  have h1 := c_ishr x 8 8 (by decide)
  have h2 := (c_i2b (x >>> ((8 : Int32) &&& 31))).1
  unfold own_hi
  omega
theorem own_gc {x : Int32} (h0 : ¬ (x < (0 : Int32))) (h1 : ¬ ((65535 : Int32) < x)) : ((((own_lo x) &&& (255 : Int32)) <<< ((0 : Int32) &&& 31)) ||| (((own_hi x) &&& (255 : Int32)) <<< ((8 : Int32) &&& 31))).toUInt32.toUInt16.toUInt32.toInt32 = x := by
  show ((own_gl (own_lo x)) ||| (own_gh (own_hi x))).toUInt32.toUInt16.toUInt32.toInt32 = x
  have a := own_glv (own_lo x)
  have b := own_ghv (own_hi x)
  have e1 := own_lov x
  have e2 := own_hiv x
  generalize own_gl (own_lo x) = u at *
  generalize own_gh (own_hi x) = w at *
  simp only [Int32.lt_iff_toInt_lt, show (0 : Int32).toInt = 0 from rfl, show (65535 : Int32).toInt = 65535 from rfl] at h0 h1
  have h2 := c_or' u w 8 (by decide) 256 rfl (by omega) (by omega) (by omega)
  have h3 := rng32 (u ||| w)
  have h4 := c_i2c (u ||| w)
  rw [← Int32.toInt_inj]
  omega
theorem own_ch {p x : Int32} (h : ((p &&& (65535 : Int32)).toUInt32.toUInt16.toUInt32.toInt32) = x) : ¬ (x < (0 : Int32)) ∧ ¬ ((65535 : Int32) < x) := by
  subst h
  have := c_i2c (p &&& (65535 : Int32))
  simp only [Int32.lt_iff_toInt_lt, show (0 : Int32).toInt = 0 from rfl, show (65535 : Int32).toInt = 65535 from rfl]
  omega
theorem own_cx {x : Int32} (h0 : ¬ (x < (0 : Int32))) (h1 : ¬ ((65535 : Int32) < x)) : (x.toUInt32.toUInt16.toUInt32.toInt32) = x := by
  rw [← Int32.toInt_inj]
  have := c_i2c x
  simp only [Int32.lt_iff_toInt_lt, show (0 : Int32).toInt = 0 from rfl, show (65535 : Int32).toInt = 65535 from rfl] at h0 h1
  omega
theorem own_gt0 {x : Int32} (h : (255 : Int32) < x) : ¬ (x = (0 : Int32)) := fun q => by subst q; exact absurd h (by decide)
theorem own_bz {x : Int32} (h0 : ¬ (x < (0 : Int32))) (h1 : ¬ ((255 : Int32) < x)) (h2 : ¬ (x = (0 : Int32))) : ¬ ((x.toInt8.toInt32) = (0 : Int32)) := fun q => by
  have := c_i2b x
  rw [q] at this
  rw [← Int32.toInt_inj] at h2
  simp only [Int32.lt_iff_toInt_lt, show (0 : Int32).toInt = 0 from rfl, show (255 : Int32).toInt = 255 from rfl] at *
  omega
theorem own_bz0 {x : Int32} (h : x = (0 : Int32)) : (x.toInt8.toInt32) = (0 : Int32) := by subst h; decide
theorem own_mod5 (p : Int32) : ((p &&& (2147483647 : Int32)) % (5 : Int32)) = (0 : Int32) ∨ ((p &&& (2147483647 : Int32)) % (5 : Int32)) = (1 : Int32) ∨ ((p &&& (2147483647 : Int32)) % (5 : Int32)) = (2 : Int32) ∨ ((p &&& (2147483647 : Int32)) % (5 : Int32)) = (3 : Int32) ∨ ((p &&& (2147483647 : Int32)) % (5 : Int32)) = (4 : Int32) := by
  have h1 := c_mask p 2147483647 31 (by decide) (by decide)
  generalize (p &&& (2147483647 : Int32)) = w at *
  have h2 := c_irem w 5 5 (by decide)
  simp only [← Int32.toInt_inj, show (0 : Int32).toInt = 0 from rfl, show (1 : Int32).toInt = 1 from rfl, show (2 : Int32).toInt = 2 from rfl, show (3 : Int32).toInt = 3 from rfl, show (4 : Int32).toInt = 4 from rfl]
  omega
abbrev y_5 : MethodName := ⟨"java/lang/Math", "max", "(II)I"⟩
theorem d12_0 : decode jdk_29_method_65_code 0 = .ok (.iload_n 0, 1) := by decide +kernel
theorem d12_1 : decode jdk_29_method_65_code 1 = .ok (.iload_n 1, 1) := by decide +kernel
theorem d12_2 : decode jdk_29_method_65_code 2 = .ok (.if_icmp .lt 7, 3) := by decide +kernel
theorem d12_9 : decode jdk_29_method_65_code 9 = .ok (.iload_n 1, 1) := by decide +kernel
theorem d12_10 : decode jdk_29_method_65_code 10 = .ok (.ireturn, 1) := by decide +kernel
abbrev rm_rmMxB : Room := ({ frames := 0, cells := 0, slots := 0, locals := 0 } : Room)
def Q_rmMxB (Z : State) (a : Int32) (b : Int32) (h0 : Heap) (n0 : Nat) (v : Option Value) (h : Heap) (L : List Loc) : Prop := (v = some (.int b)) ∧ (Fr n0 L) ∧ (h = h0)
theorem rmMxB (l : Launch) (Z : State) (a0 : Array Value) (hw : HW a0 Z) (ws : List Jvm.Cond) (a : Int32) (b : Int32) (h0 : Heap) (n0 : Nat) (O : Old Z n0 h0) (hq : a < b) :
    Mt l Z y_5 jdk_29_method_65_code 2 (some .int) ws rm_rmMxB #[(.int a), (.int b)] h0 (Q_rmMxB Z a b h0 n0) := by
 refine own_met "java/lang/Math" (Jvm.Free.JP.mathPlain rfl (by decide +kernel)) #[iv a, iv b] (fun m => rfl) (fun p e s m below meth c s₁ Bd hx hby hml hZ hown hnm X0 e0 => ?_)
 have N0 := Fr.nil n0
 refine Go.step (S' := s₁.setTop (mkF m 10 #[iv a, iv b] [(.int b)])) (fun t k => ?_) ?_
 · refine XS.iloadN X0.here hx rfl (hb hby d12_0) rfl ?_
   refine XS.iloadN X0.here hx rfl (hb hby d12_1) rfl ?_
   refine XS.icmpYes X0.here hx rfl (pc0 := 2) (pc' := 9) rfl (hb hby d12_2) rfl (tlt (hq : a < b)).1 (by decide) (by decide) ?_
   refine XS.iloadN X0.here hx rfl (hb hby d12_9) rfl ?_
   exact k
 exact Go.rt X0 hx Bd (w := (.int b)) rfl (Or.inl ⟨rfl, Or.inl rfl, _, rfl⟩) (hb hby d12_10) e0 ⟨rfl, N0, rfl⟩
theorem d12_5 : decode jdk_29_method_65_code 5 = .ok (.iload_n 0, 1) := by decide +kernel
theorem d12_6 : decode jdk_29_method_65_code 6 = .ok (.goto 4, 3) := by decide +kernel
abbrev rm_rmMxA : Room := ({ frames := 0, cells := 0, slots := 0, locals := 0 } : Room)
def Q_rmMxA (Z : State) (a : Int32) (b : Int32) (h0 : Heap) (n0 : Nat) (v : Option Value) (h : Heap) (L : List Loc) : Prop := (v = some (.int a)) ∧ (Fr n0 L) ∧ (h = h0)
theorem rmMxA (l : Launch) (Z : State) (a0 : Array Value) (hw : HW a0 Z) (ws : List Jvm.Cond) (a : Int32) (b : Int32) (h0 : Heap) (n0 : Nat) (O : Old Z n0 h0) (hq : ¬ (a < b)) :
    Mt l Z y_5 jdk_29_method_65_code 2 (some .int) ws rm_rmMxA #[(.int a), (.int b)] h0 (Q_rmMxA Z a b h0 n0) := by
 refine own_met "java/lang/Math" (Jvm.Free.JP.mathPlain rfl (by decide +kernel)) #[iv a, iv b] (fun m => rfl) (fun p e s m below meth c s₁ Bd hx hby hml hZ hown hnm X0 e0 => ?_)
 have N0 := Fr.nil n0
 refine Go.step (S' := s₁.setTop (mkF m 10 #[iv a, iv b] [(.int a)])) (fun t k => ?_) ?_
 · refine XS.iloadN X0.here hx rfl (hb hby d12_0) rfl ?_
   refine XS.iloadN X0.here hx rfl (hb hby d12_1) rfl ?_
   refine XS.icmpNo X0.here hx rfl (hb hby d12_2) rfl (flt (hq : ¬ (a < b))).1 ?_
   refine XS.iloadN X0.here hx rfl (hb hby d12_5) rfl ?_
   refine XS.goto X0.here hx rfl (pc0 := 6) (pc' := 10) rfl (hb hby d12_6) (by decide) (by decide) ?_
   exact k
 exact Go.rt X0 hx Bd (w := (.int a)) rfl (Or.inl ⟨rfl, Or.inl rfl, _, rfl⟩) (hb hby d12_10) e0 ⟨rfl, N0, rfl⟩
abbrev y_6 : MethodName := ⟨"java/lang/Math", "min", "(II)I"⟩
theorem d13_0 : decode jdk_29_method_69_code 0 = .ok (.iload_n 0, 1) := by decide +kernel
theorem d13_1 : decode jdk_29_method_69_code 1 = .ok (.iload_n 1, 1) := by decide +kernel
theorem d13_2 : decode jdk_29_method_69_code 2 = .ok (.if_icmp .gt 7, 3) := by decide +kernel
theorem d13_9 : decode jdk_29_method_69_code 9 = .ok (.iload_n 1, 1) := by decide +kernel
theorem d13_10 : decode jdk_29_method_69_code 10 = .ok (.ireturn, 1) := by decide +kernel
abbrev rm_rmMnB : Room := ({ frames := 0, cells := 0, slots := 0, locals := 0 } : Room)
def Q_rmMnB (Z : State) (a : Int32) (b : Int32) (h0 : Heap) (n0 : Nat) (v : Option Value) (h : Heap) (L : List Loc) : Prop := (v = some (.int b)) ∧ (Fr n0 L) ∧ (h = h0)
theorem rmMnB (l : Launch) (Z : State) (a0 : Array Value) (hw : HW a0 Z) (ws : List Jvm.Cond) (a : Int32) (b : Int32) (h0 : Heap) (n0 : Nat) (O : Old Z n0 h0) (hq : b < a) :
    Mt l Z y_6 jdk_29_method_69_code 2 (some .int) ws rm_rmMnB #[(.int a), (.int b)] h0 (Q_rmMnB Z a b h0 n0) := by
 refine own_met "java/lang/Math" (Jvm.Free.JP.mathPlain rfl (by decide +kernel)) #[iv a, iv b] (fun m => rfl) (fun p e s m below meth c s₁ Bd hx hby hml hZ hown hnm X0 e0 => ?_)
 have N0 := Fr.nil n0
 refine Go.step (S' := s₁.setTop (mkF m 10 #[iv a, iv b] [(.int b)])) (fun t k => ?_) ?_
 · refine XS.iloadN X0.here hx rfl (hb hby d13_0) rfl ?_
   refine XS.iloadN X0.here hx rfl (hb hby d13_1) rfl ?_
   refine XS.icmpYes X0.here hx rfl (pc0 := 2) (pc' := 9) rfl (hb hby d13_2) rfl (tlt (hq : b < a)).2.2.1 (by decide) (by decide) ?_
   refine XS.iloadN X0.here hx rfl (hb hby d13_9) rfl ?_
   exact k
 exact Go.rt X0 hx Bd (w := (.int b)) rfl (Or.inl ⟨rfl, Or.inl rfl, _, rfl⟩) (hb hby d13_10) e0 ⟨rfl, N0, rfl⟩
theorem d13_5 : decode jdk_29_method_69_code 5 = .ok (.iload_n 0, 1) := by decide +kernel
theorem d13_6 : decode jdk_29_method_69_code 6 = .ok (.goto 4, 3) := by decide +kernel
abbrev rm_rmMnA : Room := ({ frames := 0, cells := 0, slots := 0, locals := 0 } : Room)
def Q_rmMnA (Z : State) (a : Int32) (b : Int32) (h0 : Heap) (n0 : Nat) (v : Option Value) (h : Heap) (L : List Loc) : Prop := (v = some (.int a)) ∧ (Fr n0 L) ∧ (h = h0)
theorem rmMnA (l : Launch) (Z : State) (a0 : Array Value) (hw : HW a0 Z) (ws : List Jvm.Cond) (a : Int32) (b : Int32) (h0 : Heap) (n0 : Nat) (O : Old Z n0 h0) (hq : ¬ (b < a)) :
    Mt l Z y_6 jdk_29_method_69_code 2 (some .int) ws rm_rmMnA #[(.int a), (.int b)] h0 (Q_rmMnA Z a b h0 n0) := by
 refine own_met "java/lang/Math" (Jvm.Free.JP.mathPlain rfl (by decide +kernel)) #[iv a, iv b] (fun m => rfl) (fun p e s m below meth c s₁ Bd hx hby hml hZ hown hnm X0 e0 => ?_)
 have N0 := Fr.nil n0
 refine Go.step (S' := s₁.setTop (mkF m 10 #[iv a, iv b] [(.int a)])) (fun t k => ?_) ?_
 · refine XS.iloadN X0.here hx rfl (hb hby d13_0) rfl ?_
   refine XS.iloadN X0.here hx rfl (hb hby d13_1) rfl ?_
   refine XS.icmpNo X0.here hx rfl (hb hby d13_2) rfl (flt (hq : ¬ (b < a))).2.2.1 ?_
   refine XS.iloadN X0.here hx rfl (hb hby d13_5) rfl ?_
   refine XS.goto X0.here hx rfl (pc0 := 6) (pc' := 10) rfl (hb hby d13_6) (by decide) (by decide) ?_
   exact k
 exact Go.rt X0 hx Bd (w := (.int a)) rfl (Or.inl ⟨rfl, Or.inl rfl, _, rfl⟩) (hb hby d13_10) e0 ⟨rfl, N0, rfl⟩
abbrev y_7 : MethodName := ⟨"java/lang/StringLatin1", "canEncode", "(I)Z"⟩
theorem pn_java_lang_StringLatin1 : plainName "java/lang/StringLatin1" = true := by first | (simp [plainName, overriddenIn]; done) | decide +kernel
theorem d11_0 : decode jdk_43_method_4_code 0 = .ok (.iload_n 0, 1) := by decide +kernel
theorem d11_1 : decode jdk_43_method_4_code 1 = .ok (.ifCond .lt 14, 3) := by decide +kernel
theorem d11_4 : decode jdk_43_method_4_code 4 = .ok (.iload_n 0, 1) := by decide +kernel
theorem d11_5 : decode jdk_43_method_4_code 5 = .ok (.sipush 255, 3) := by decide +kernel
theorem d11_8 : decode jdk_43_method_4_code 8 = .ok (.if_icmp .gt 7, 3) := by decide +kernel
theorem d11_11 : decode jdk_43_method_4_code 11 = .ok (.iconst 1, 1) := by decide +kernel
theorem d11_12 : decode jdk_43_method_4_code 12 = .ok (.goto 4, 3) := by decide +kernel
theorem d11_16 : decode jdk_43_method_4_code 16 = .ok (.ireturn, 1) := by decide +kernel
abbrev rm_rmCan : Room := ({ frames := 0, cells := 0, slots := 0, locals := 0 } : Room)
def Q_rmCan (Z : State)  (h0 : Heap) (n0 : Nat) (v : Option Value) (h : Heap) (L : List Loc) : Prop := (v = some (.int 1)) ∧ (Fr n0 L) ∧ (h = h0)
theorem rmCan (l : Launch) (Z : State) (a0 : Array Value) (hw : HW a0 Z) (ws : List Jvm.Cond)  (h0 : Heap) (n0 : Nat) (O : Old Z n0 h0) :
    Mt l Z y_7 jdk_43_method_4_code 1 (some .boolean) ws rm_rmCan #[(.int 0)] h0 (Q_rmCan Z  h0 n0) := by
 refine own_met "java/lang/StringLatin1" (plainFor_of_name pn_java_lang_StringLatin1) #[iv 0] (fun m => rfl) (fun p e s m below meth c s₁ Bd hx hby hml hZ hown hnm X0 e0 => ?_)
 have N0 := Fr.nil n0
 refine Go.step (S' := s₁.setTop (mkF m 16 #[iv 0] [(.int 1)])) (fun t k => ?_) ?_
 · refine XS.iloadN X0.here hx rfl (hb hby d11_0) rfl ?_
   refine XS.ifNo X0.here hx rfl (hb hby d11_1) rfl ((if0 _ _).trans (flt ((by decide) : ¬ ((0 : Int32) < (0 : Int32)))).1) ?_
   refine XS.iloadN X0.here hx rfl (hb hby d11_4) rfl ?_
   refine XS.sipush X0.here hx rfl (hb hby d11_5) ?_
   refine XS.icmpNo X0.here hx rfl (hb hby d11_8) rfl (flt ((by decide) : ¬ ((255 : Int32) < (0 : Int32)))).2.2.1 ?_
   refine XS.iconst X0.here hx rfl (hb hby d11_11) ?_
   show Steps p.tables e below (s₁.setTop (mkF m 12 #[iv 0] [(.int 1)])) _
   refine XS.goto X0.here hx rfl (pc0 := 12) (pc' := 16) rfl (hb hby d11_12) (by decide) (by decide) ?_
   exact k
 exact Go.rt X0 hx Bd (w := (.int 1)) (by decide) (Or.inl ⟨rfl, Or.inr (Or.inl rfl), _, rfl⟩) (hb hby d11_16) e0 ⟨rfl, N0, rfl⟩
abbrev y_8 : MethodName := ⟨"java/lang/String", "coder", "()B"⟩
theorem d9_0 : decode jdk_42_method_152_code 0 = .ok (.getstatic 38, 3) := by decide +kernel
theorem d9_3 : decode jdk_42_method_152_code 3 = .ok (.ifCond .eq 10, 3) := by decide +kernel
theorem d9_6 : decode jdk_42_method_152_code 6 = .ok (.aload_n 0, 1) := by decide +kernel
theorem d9_7 : decode jdk_42_method_152_code 7 = .ok (.getfield 15, 3) := by decide +kernel
theorem d9_10 : decode jdk_42_method_152_code 10 = .ok (.goto 4, 3) := by decide +kernel
theorem d9_14 : decode jdk_42_method_152_code 14 = .ok (.ireturn, 1) := by decide +kernel
abbrev rm_rmCod0 : Room := ({ frames := 0, cells := 0, slots := 0, locals := 0 } : Room)
def Q_rmCod0 (Z : State) (so : Addr) (cs : Int32) (h0 : Heap) (n0 : Nat) (v : Option Value) (h : Heap) (L : List Loc) : Prop := (v = some (.int 0)) ∧ (Fr n0 L) ∧ (h = h0)
theorem rmCod0 (l : Launch) (Z : State) (a0 : Array Value) (hw : HW a0 Z) (ws : List Jvm.Cond) (so : Addr) (cs : Int32) (h0 : Heap) (n0 : Nat) (O : Old Z n0 h0) (S_CS : Sa_0 Z (.int cs)) (F_c : Fd_6 Z h0 so (.int 0)) (hcs : ¬ (cs = (0 : Int32))) :
    Mt l Z y_8 jdk_42_method_152_code 1 (some .byte) ws rm_rmCod0 #[(.ref so)] h0 (Q_rmCod0 Z so cs h0 n0) := by
 refine own_met "java/lang/String" (plainFor_of_name pn_java_lang_String) #[rv so] (fun m => rfl) (fun p e s m below meth c s₁ Bd hx hby hml hZ hown hnm X0 e0 => ?_)
 have N0 := Fr.nil n0
 refine Go.gS X0 hx hZ hown (host := "") (Or.inl (own_w hw 43 rfl)) Via.refl e0 (S_CS.ext O.2) (hb hby d9_0) (fun T1 X1 e1 => ?_)
 refine Go.step (S' := T1.setTop (mkF m 7 #[rv so] [(.ref so)])) (fun t k => ?_) ?_
 · refine XS.ifNo X1.here hx rfl (hb hby d9_3) rfl ((if0 _ _).trans (feq (hcs : ¬ (cs = (0 : Int32)))).1) ?_
   refine XS.aloadN X1.here hx rfl (hb hby d9_6) rfl rfl ?_
   exact k
 refine Go.gF X1 hx hZ hown (host := "") (Or.inl (own_w hw 23 rfl)) Via.refl e1 F_c (hb hby d9_7) (fun T2 X2 e2 => ?_)
 refine Go.step (S' := T2.setTop (mkF m 14 #[rv so] [(.int 0)])) (fun t k => ?_) ?_
 · refine XS.goto X2.here hx rfl (pc0 := 10) (pc' := 14) rfl (hb hby d9_10) (by decide) (by decide) ?_
   exact k
 exact Go.rt X2 hx Bd (w := (.int 0)) (by decide) (Or.inl ⟨rfl, Or.inr (Or.inr (Or.inl rfl)), _, rfl⟩) (hb hby d9_14) e2 ⟨rfl, N0, rfl⟩
abbrev y_9 : MethodName := ⟨"java/lang/String", "isLatin1", "()Z"⟩
theorem d7_0 : decode jdk_42_method_154_code 0 = .ok (.getstatic 38, 3) := by decide +kernel
theorem d7_3 : decode jdk_42_method_154_code 3 = .ok (.ifCond .eq 14, 3) := by decide +kernel
theorem d7_6 : decode jdk_42_method_154_code 6 = .ok (.aload_n 0, 1) := by decide +kernel
theorem d7_7 : decode jdk_42_method_154_code 7 = .ok (.getfield 15, 3) := by decide +kernel
theorem d7_10 : decode jdk_42_method_154_code 10 = .ok (.ifCond .ne 7, 3) := by decide +kernel
theorem d7_13 : decode jdk_42_method_154_code 13 = .ok (.iconst 1, 1) := by decide +kernel
theorem d7_14 : decode jdk_42_method_154_code 14 = .ok (.goto 4, 3) := by decide +kernel
theorem d7_18 : decode jdk_42_method_154_code 18 = .ok (.ireturn, 1) := by decide +kernel
abbrev rm_rmLat0 : Room := ({ frames := 0, cells := 0, slots := 0, locals := 0 } : Room)
def Q_rmLat0 (Z : State) (so : Addr) (cs : Int32) (h0 : Heap) (n0 : Nat) (v : Option Value) (h : Heap) (L : List Loc) : Prop := (v = some (.int 1)) ∧ (Fr n0 L) ∧ (h = h0)
theorem rmLat0 (l : Launch) (Z : State) (a0 : Array Value) (hw : HW a0 Z) (ws : List Jvm.Cond) (so : Addr) (cs : Int32) (h0 : Heap) (n0 : Nat) (O : Old Z n0 h0) (S_CS : Sa_0 Z (.int cs)) (F_c : Fd_6 Z h0 so (.int 0)) (hcs : ¬ (cs = (0 : Int32))) :
    Mt l Z y_9 jdk_42_method_154_code 1 (some .boolean) ws rm_rmLat0 #[(.ref so)] h0 (Q_rmLat0 Z so cs h0 n0) := by
 refine own_met "java/lang/String" (plainFor_of_name pn_java_lang_String) #[rv so] (fun m => rfl) (fun p e s m below meth c s₁ Bd hx hby hml hZ hown hnm X0 e0 => ?_)
 have N0 := Fr.nil n0
 refine Go.gS X0 hx hZ hown (host := "") (Or.inl (own_w hw 43 rfl)) Via.refl e0 (S_CS.ext O.2) (hb hby d7_0) (fun T1 X1 e1 => ?_)
 refine Go.step (S' := T1.setTop (mkF m 7 #[rv so] [(.ref so)])) (fun t k => ?_) ?_
 · refine XS.ifNo X1.here hx rfl (hb hby d7_3) rfl ((if0 _ _).trans (feq (hcs : ¬ (cs = (0 : Int32)))).1) ?_
   refine XS.aloadN X1.here hx rfl (hb hby d7_6) rfl rfl ?_
   exact k
 refine Go.gF X1 hx hZ hown (host := "") (Or.inl (own_w hw 23 rfl)) Via.refl e1 F_c (hb hby d7_7) (fun T2 X2 e2 => ?_)
 refine Go.step (S' := T2.setTop (mkF m 18 #[rv so] [(.int 1)])) (fun t k => ?_) ?_
 · refine XS.ifNo X2.here hx rfl (hb hby d7_10) rfl ((if0 _ _).trans (teq ((by decide) : (0 : Int32) = (0 : Int32))).2) ?_
   refine XS.iconst X2.here hx rfl (hb hby d7_13) ?_
   refine XS.goto X2.here hx rfl (pc0 := 14) (pc' := 18) rfl (hb hby d7_14) (by decide) (by decide) ?_
   exact k
 exact Go.rt X2 hx Bd (w := (.int 1)) (by decide) (Or.inl ⟨rfl, Or.inr (Or.inl rfl), _, rfl⟩) (hb hby d7_18) e2 ⟨rfl, N0, rfl⟩
abbrev rm_rmCod1 : Room := ({ frames := 0, cells := 0, slots := 0, locals := 0 } : Room)
def Q_rmCod1 (Z : State) (so : Addr) (cs : Int32) (h0 : Heap) (n0 : Nat) (v : Option Value) (h : Heap) (L : List Loc) : Prop := (v = some (.int 1)) ∧ (Fr n0 L) ∧ (h = h0)
theorem rmCod1 (l : Launch) (Z : State) (a0 : Array Value) (hw : HW a0 Z) (ws : List Jvm.Cond) (so : Addr) (cs : Int32) (h0 : Heap) (n0 : Nat) (O : Old Z n0 h0) (S_CS : Sa_0 Z (.int cs)) (F_c : Fd_6 Z h0 so (.int 1)) (hcs : ¬ (cs = (0 : Int32))) :
    Mt l Z y_8 jdk_42_method_152_code 1 (some .byte) ws rm_rmCod1 #[(.ref so)] h0 (Q_rmCod1 Z so cs h0 n0) := by
 refine own_met "java/lang/String" (plainFor_of_name pn_java_lang_String) #[rv so] (fun m => rfl) (fun p e s m below meth c s₁ Bd hx hby hml hZ hown hnm X0 e0 => ?_)
 have N0 := Fr.nil n0
 refine Go.gS X0 hx hZ hown (host := "") (Or.inl (own_w hw 43 rfl)) Via.refl e0 (S_CS.ext O.2) (hb hby d9_0) (fun T1 X1 e1 => ?_)
 refine Go.step (S' := T1.setTop (mkF m 7 #[rv so] [(.ref so)])) (fun t k => ?_) ?_
 · refine XS.ifNo X1.here hx rfl (hb hby d9_3) rfl ((if0 _ _).trans (feq (hcs : ¬ (cs = (0 : Int32)))).1) ?_
   refine XS.aloadN X1.here hx rfl (hb hby d9_6) rfl rfl ?_
   exact k
 refine Go.gF X1 hx hZ hown (host := "") (Or.inl (own_w hw 23 rfl)) Via.refl e1 F_c (hb hby d9_7) (fun T2 X2 e2 => ?_)
 refine Go.step (S' := T2.setTop (mkF m 14 #[rv so] [(.int 1)])) (fun t k => ?_) ?_
 · refine XS.goto X2.here hx rfl (pc0 := 10) (pc' := 14) rfl (hb hby d9_10) (by decide) (by decide) ?_
   exact k
 exact Go.rt X2 hx Bd (w := (.int 1)) (by decide) (Or.inl ⟨rfl, Or.inr (Or.inr (Or.inl rfl)), _, rfl⟩) (hb hby d9_14) e2 ⟨rfl, N0, rfl⟩
theorem d7_17 : decode jdk_42_method_154_code 17 = .ok (.iconst 0, 1) := by decide +kernel
abbrev rm_rmLat1 : Room := ({ frames := 0, cells := 0, slots := 0, locals := 0 } : Room)
def Q_rmLat1 (Z : State) (so : Addr) (cs : Int32) (h0 : Heap) (n0 : Nat) (v : Option Value) (h : Heap) (L : List Loc) : Prop := (v = some (.int 0)) ∧ (Fr n0 L) ∧ (h = h0)
theorem rmLat1 (l : Launch) (Z : State) (a0 : Array Value) (hw : HW a0 Z) (ws : List Jvm.Cond) (so : Addr) (cs : Int32) (h0 : Heap) (n0 : Nat) (O : Old Z n0 h0) (S_CS : Sa_0 Z (.int cs)) (F_c : Fd_6 Z h0 so (.int 1)) (hcs : ¬ (cs = (0 : Int32))) :
    Mt l Z y_9 jdk_42_method_154_code 1 (some .boolean) ws rm_rmLat1 #[(.ref so)] h0 (Q_rmLat1 Z so cs h0 n0) := by
 refine own_met "java/lang/String" (plainFor_of_name pn_java_lang_String) #[rv so] (fun m => rfl) (fun p e s m below meth c s₁ Bd hx hby hml hZ hown hnm X0 e0 => ?_)
 have N0 := Fr.nil n0
 refine Go.gS X0 hx hZ hown (host := "") (Or.inl (own_w hw 43 rfl)) Via.refl e0 (S_CS.ext O.2) (hb hby d7_0) (fun T1 X1 e1 => ?_)
 refine Go.step (S' := T1.setTop (mkF m 7 #[rv so] [(.ref so)])) (fun t k => ?_) ?_
 · refine XS.ifNo X1.here hx rfl (hb hby d7_3) rfl ((if0 _ _).trans (feq (hcs : ¬ (cs = (0 : Int32)))).1) ?_
   refine XS.aloadN X1.here hx rfl (hb hby d7_6) rfl rfl ?_
   exact k
 refine Go.gF X1 hx hZ hown (host := "") (Or.inl (own_w hw 23 rfl)) Via.refl e1 F_c (hb hby d7_7) (fun T2 X2 e2 => ?_)
 refine Go.step (S' := T2.setTop (mkF m 18 #[rv so] [(.int 0)])) (fun t k => ?_) ?_
 · refine XS.ifYes X2.here hx rfl (pc0 := 10) (pc' := 17) rfl (hb hby d7_10) rfl ((if0 _ _).trans (feq ((by decide) : ¬ ((1 : Int32) = (0 : Int32)))).2) (by decide) (by decide) ?_
   refine XS.iconst X2.here hx rfl (hb hby d7_17) ?_
   exact k
 exact Go.rt X2 hx Bd (w := (.int 0)) (by decide) (Or.inl ⟨rfl, Or.inr (Or.inl rfl), _, rfl⟩) (hb hby d7_18) e2 ⟨rfl, N0, rfl⟩
abbrev y_10 : MethodName := ⟨"java/lang/StringUTF16", "newBytesLength", "(I)I"⟩
theorem d20_0 : decode jdk_52_method_3_code 0 = .ok (.iload_n 0, 1) := by decide +kernel
theorem d20_1 : decode jdk_52_method_3_code 1 = .ok (.ifCond .ge 11, 3) := by decide +kernel
theorem d20_12 : decode jdk_52_method_3_code 12 = .ok (.iload_n 0, 1) := by decide +kernel
theorem d20_13 : decode jdk_52_method_3_code 13 = .ok (.ldc 20, 2) := by decide +kernel
theorem d20_15 : decode jdk_52_method_3_code 15 = .ok (.if_icmp .lt 40, 3) := by decide +kernel
theorem d20_55 : decode jdk_52_method_3_code 55 = .ok (.iload_n 0, 1) := by decide +kernel
theorem d20_56 : decode jdk_52_method_3_code 56 = .ok (.iconst 1, 1) := by decide +kernel
theorem d20_57 : decode jdk_52_method_3_code 57 = .ok (.ishl, 1) := by decide +kernel
theorem d20_58 : decode jdk_52_method_3_code 58 = .ok (.ireturn, 1) := by decide +kernel
abbrev rm_rmNL1 : Room := ({ frames := 0, cells := 0, slots := 0, locals := 0 } : Room)
def Q_rmNL1 (Z : State)  (h0 : Heap) (n0 : Nat) (v : Option Value) (h : Heap) (L : List Loc) : Prop := (v = some (.int 2)) ∧ (Fr n0 L) ∧ (h = h0)
theorem rmNL1 (l : Launch) (Z : State) (a0 : Array Value) (hw : HW a0 Z) (ws : List Jvm.Cond)  (h0 : Heap) (n0 : Nat) (O : Old Z n0 h0) :
    Mt l Z y_10 jdk_52_method_3_code 1 (some .int) ws rm_rmNL1 #[(.int 1)] h0 (Q_rmNL1 Z  h0 n0) := by
 refine own_met "java/lang/StringUTF16" (plainFor_of_name pn_java_lang_StringUTF16) #[iv 1] (fun m => rfl) (fun p e s m below meth c s₁ Bd hx hby hml hZ hown hnm X0 e0 => ?_)
 have N0 := Fr.nil n0
 refine Go.step (S' := s₁.setTop (mkF m 58 #[iv 1] [(.int 2)])) (fun t k => ?_) ?_
 · refine XS.iloadN X0.here hx rfl (hb hby d20_0) rfl ?_
   refine XS.ifYes X0.here hx rfl (pc0 := 1) (pc' := 12) rfl (hb hby d20_1) rfl ((if0 _ _).trans (flt ((by decide) : ¬ ((1 : Int32) < (0 : Int32)))).2.1) (by decide) (by decide) ?_
   refine XS.iloadN X0.here hx rfl (hb hby d20_12) rfl ?_
   refine X0.ldcInt hx hown (mvT hZ (own_w hw 90 rfl)) (g := (mkF m 13 #[iv 1] [(.int 1)])) rfl (hb hby d20_13) _ ?_
   refine XS.icmpYes X0.here hx rfl (pc0 := 15) (pc' := 55) rfl (hb hby d20_15) rfl (tlt ((by decide) : (1 : Int32) < (1073741823 : Int32))).1 (by decide) (by decide) ?_
   refine XS.iloadN X0.here hx rfl (hb hby d20_55) rfl ?_
   show Steps p.tables e below (s₁.setTop (mkF m 56 #[iv 1] [(.int 1)])) _
   refine XS.iconst X0.here hx rfl (hb hby d20_56) ?_
   refine XS.ishl X0.here hx rfl (hb hby d20_57) rfl ?_
   exact k
 exact Go.rt X0 hx Bd (w := (.int 2)) rfl (Or.inl ⟨rfl, Or.inl rfl, _, rfl⟩) (hb hby d20_58) e0 ⟨rfl, N0, rfl⟩
abbrev y_11 : MethodName := ⟨"java/lang/StringUTF16", "newBytesFor", "(I)[B"⟩
theorem d19_0 : decode jdk_52_method_2_code 0 = .ok (.iload_n 0, 1) := by decide +kernel
theorem d19_1 : decode jdk_52_method_2_code 1 = .ok (.invokestatic 11, 3) := by decide +kernel
theorem pd__28I_29I : parseMethodDescriptor "(I)I" = some ⟨[.int], some .int⟩ := by decide +kernel
theorem d19_4 : decode jdk_52_method_2_code 4 = .ok (.newarray .byte, 2) := by decide +kernel
theorem d19_6 : decode jdk_52_method_2_code 6 = .ok (.areturn, 1) := by decide +kernel
abbrev rm_rmNB1 : Room := ({ frames := 1, cells := 1, slots := 2, locals := 12 } : Room)
def Q_rmNB1 (Z : State)  (h0 : Heap) (n0 : Nat) (v : Option Value) (h : Heap) (L : List Loc) : Prop := ∃ b : Addr, ∃ kb : ClassId, (v = some (.ref b)) ∧ (Fr n0 L) ∧ (Keep h0 h []) ∧ (Arv Z h b kb .byte (2 : Int32) [(.int 0), (.int 0)] (.int 0)) ∧ (n0 ≤ b) ∧ (h0.size ≤ b)
theorem rmNB1 (l : Launch) (Z : State) (a0 : Array Value) (hw : HW a0 Z) (ws : List Jvm.Cond)  (h0 : Heap) (n0 : Nat) (O : Old Z n0 h0) :
    Mt l Z y_11 jdk_52_method_2_code 1 (some (.array .byte)) ws rm_rmNB1 #[(.int 1)] h0 (Q_rmNB1 Z  h0 n0) := by
 refine own_met "java/lang/StringUTF16" (plainFor_of_name pn_java_lang_StringUTF16) #[iv 1] (fun m => rfl) (fun p e s m below meth c s₁ Bd hx hby hml hZ hown hnm X0 e0 => ?_)
 have N0 := Fr.nil n0
 have K := Keep.refl h0 []
 refine Go.step (S' := s₁.setTop (mkF m 1 #[iv 1] [(.int 1)])) (fun t k => ?_) ?_
 · refine XS.iloadN X0.here hx rfl (hb hby d19_0) rfl ?_
   exact k
 refine Go.cS X0 hx hml hown hZ (own_w hw 87 rfl) (own_w hw 88 rfl) (own_w hw 70 rfl) (own_w hw 89 rfl) (rmNL1 l Z a0 hw []  h0 n0 O ) 0 [] pd__28I_29I (hb hby d19_1) e0 (fun _ T1 L1 X1 hQ1 => ?_)
 obtain ⟨rfl, Nq1, e1⟩ := hQ1
 have N1 := Fr.app N0 Nq1
 obtain ⟨T2, h2, k2, X2, e2, E2, A2, st2⟩ := newP X1 hx hZ (own_w hw 17 rfl) e1 (g := (mkF m 4 #[iv 1] [(.int 2)])) rfl (hb hby d19_4) rfl (by decide) (cap := 2) (by decide) (by decide) (by decide) (by decide)
 obtain ⟨b2, g2⟩ : ∃ z, z = Array.size h0 := ⟨_, rfl⟩
 have g_b2 : n0 ≤ b2 := Nat.le_trans (old_le O) (Nat.le_of_eq g2.symm)
 have sz_b2 : h0.size ≤ b2 := Nat.le_trans K.1 (Nat.le_of_eq g2.symm)
 rw [← g2] at A2 st2
 have O := O.ext E2
 have K := K.ext E2
 have V_b2 : Arv Z h2 b2 k2 .byte (2 : Int32) [(.int 0), (.int 0)] (.int 0) := (Arv.new A2 (by decide)).pad (pad_rep [] (.int 0) 2)
 refine Go.step st2 ?_
 exact Go.rt X2 hx Bd (w := (.ref b2)) rfl (Or.inr (Or.inr (Or.inr (Or.inr ⟨rfl, rfl, rfl⟩)))) (hb hby d19_6) e2 ⟨b2, k2, rfl, N1, K, V_b2, g_b2, sz_b2⟩
abbrev y_12 : MethodName := ⟨"java/lang/StringUTF16", "putChar", "([BII)V"⟩
theorem d21_0 : decode jdk_52_method_4_code 0 = .ok (.getstatic 44, 3) := by decide +kernel
theorem d21_3 : decode jdk_52_method_4_code 3 = .ok (.ifCond .ne 25, 3) := by decide +kernel
theorem d21_28 : decode jdk_52_method_4_code 28 = .ok (.iload_n 1, 1) := by decide +kernel
theorem d21_29 : decode jdk_52_method_4_code 29 = .ok (.iconst 1, 1) := by decide +kernel
theorem d21_30 : decode jdk_52_method_4_code 30 = .ok (.ishl, 1) := by decide +kernel
theorem d21_31 : decode jdk_52_method_4_code 31 = .ok (.istore_n 1, 1) := by decide +kernel
theorem d21_32 : decode jdk_52_method_4_code 32 = .ok (.aload_n 0, 1) := by decide +kernel
theorem d21_33 : decode jdk_52_method_4_code 33 = .ok (.iload_n 1, 1) := by decide +kernel
theorem d21_34 : decode jdk_52_method_4_code 34 = .ok (.iinc 1 1, 3) := by decide +kernel
theorem d21_37 : decode jdk_52_method_4_code 37 = .ok (.iload_n 2, 1) := by decide +kernel
theorem d21_38 : decode jdk_52_method_4_code 38 = .ok (.getstatic 59, 3) := by decide +kernel
theorem d21_41 : decode jdk_52_method_4_code 41 = .ok (.ishr, 1) := by decide +kernel
theorem d21_42 : decode jdk_52_method_4_code 42 = .ok (.i2b, 1) := by decide +kernel
theorem d21_43 : decode jdk_52_method_4_code 43 = .ok (.bastore, 1) := by decide +kernel
theorem d21_44 : decode jdk_52_method_4_code 44 = .ok (.aload_n 0, 1) := by decide +kernel
theorem d21_45 : decode jdk_52_method_4_code 45 = .ok (.iload_n 1, 1) := by decide +kernel
theorem d21_46 : decode jdk_52_method_4_code 46 = .ok (.iload_n 2, 1) := by decide +kernel
theorem d21_47 : decode jdk_52_method_4_code 47 = .ok (.getstatic 63, 3) := by decide +kernel
theorem d21_50 : decode jdk_52_method_4_code 50 = .ok (.ishr, 1) := by decide +kernel
theorem d21_51 : decode jdk_52_method_4_code 51 = .ok (.i2b, 1) := by decide +kernel
theorem d21_52 : decode jdk_52_method_4_code 52 = .ok (.bastore, 1) := by decide +kernel
theorem d21_53 : decode jdk_52_method_4_code 53 = .ok (.return_, 1) := by decide +kernel
abbrev rm_rmPC1_0 : Room := ({ frames := 0, cells := 0, slots := 0, locals := 0 } : Room)
def Q_rmPC1_0 (Z : State) (ub : Addr) (x0 : Int32) (ku : ClassId) (h0 : Heap) (n0 : Nat) (v : Option Value) (h : Heap) (L : List Loc) : Prop := (v = none) ∧ (Fr n0 L) ∧ (Keep h0 h [ub]) ∧ (Arv Z h ub ku .byte (2 : Int32) [(.int (own_lo x0)), (.int (own_hi x0))] (.int 0))
theorem rmPC1_0 (l : Launch) (Z : State) (a0 : Array Value) (hw : HW a0 Z) (ws : List Jvm.Cond) (ub : Addr) (x0 : Int32) (ku : ClassId) (h0 : Heap) (n0 : Nat) (O : Old Z n0 h0) (S_AD : Sa_1 Z (.int 1)) (S_HI : Sa_2 Z (.int 0)) (S_LO : Sa_3 Z (.int 8)) (V_ub : Arv Z h0 ub ku .byte (2 : Int32) [(.int 0), (.int 0)] (.int 0)) (g_ub : n0 ≤ ub) :
    Mt l Z y_12 jdk_52_method_4_code 3 none ws rm_rmPC1_0 #[(.ref ub), (.int 0), (.int x0)] h0 (Q_rmPC1_0 Z ub x0 ku h0 n0) := by
 refine own_met "java/lang/StringUTF16" (plainFor_of_name pn_java_lang_StringUTF16) #[rv ub, iv 0, iv x0] (fun m => rfl) (fun p e s m below meth c s₁ Bd hx hby hml hZ hown hnm X0 e0 => ?_)
 have N0 := Fr.nil n0
 have K := Keep.refl h0 [ub]
 refine Go.gS X0 hx hZ hown (host := "") (Or.inl (own_w hw 94 rfl)) Via.refl e0 (S_AD.ext O.2) (hb hby d21_0) (fun T1 X1 e1 => ?_)
 refine Go.step (S' := T1.setTop (mkF m 38 #[rv ub, iv 1, iv x0] [(.int x0), (.int 0), (.ref ub)])) (fun t k => ?_) ?_
 · refine XS.ifYes X1.here hx rfl (pc0 := 3) (pc' := 28) rfl (hb hby d21_3) rfl ((if0 _ _).trans (feq ((by decide) : ¬ ((1 : Int32) = (0 : Int32)))).2) (by decide) (by decide) ?_
   refine XS.iloadN X1.here hx rfl (hb hby d21_28) rfl ?_
   refine XS.iconst X1.here hx rfl (hb hby d21_29) ?_
   refine XS.ishl X1.here hx rfl (hb hby d21_30) rfl ?_
   refine XS.istoreN X1.here hx rfl (hb hby d21_31) rfl (l' := #[rv ub, iv 0, iv x0]) rfl ?_
   refine XS.aloadN X1.here hx rfl (hb hby d21_32) rfl rfl ?_
   show Steps p.tables e below (T1.setTop (mkF m 33 #[rv ub, iv 0, iv x0] [(.ref ub)])) _
   refine XS.iloadN X1.here hx rfl (hb hby d21_33) rfl ?_
   refine XS.iinc X1.here hx rfl (hb hby d21_34) rfl (l' := #[rv ub, iv 1, iv x0]) rfl ?_
   refine XS.iloadN X1.here hx rfl (hb hby d21_37) rfl ?_
   exact k
 refine Go.gS X1 hx hZ hown (host := "") (Or.inl (own_w hw 95 rfl)) Via.refl e1 (S_HI.ext O.2) (hb hby d21_38) (fun T2 X2 e2 => ?_)
 refine Go.step (S' := T2.setTop (mkF m 43 #[rv ub, iv 1, iv x0] [(.int ((x0 >>> ((0 : Int32) &&& 31)).toInt8.toInt32)), (.int 0), (.ref ub)])) (fun t k => ?_) ?_
 · refine XS.ishr X2.here hx rfl (hb hby d21_41) rfl ?_
   refine XS.i2b X2.here hx rfl (hb hby d21_42) rfl ?_
   exact k
 obtain ⟨cl3, Ar3, q3, S3, N3_, H3, G3⟩ := V_ub
 have hin3 : ¬ ((0 : Int32) < 0 ∨ cl3.slots.size ≤ ((0 : Int32)).toNatClampNeg) := inb_of S3 ⟨by decide, by decide⟩
 obtain ⟨T3, h3, X3, e3, W3, st3⟩ := stB X2 hx hZ e2 Ar3 (j := (0 : Int32)) hin3 (g := (mkF m 43 #[rv ub, iv 1, iv x0] [(.int ((x0 >>> ((0 : Int32) &&& 31)).toInt8.toInt32)), (.int 0), (.ref ub)])) rfl rfl (hb hby d21_43)
 have O := O.wr W3 g_ub
 have K := K.wr W3 (Or.inl (List.mem_of_getElem? (i := 0) rfl))
 have V_ub : Arv Z h3 ub ku .byte (2 : Int32) [(.int (((x0 >>> ((0 : Int32) &&& 31)).toInt8.toInt32).toInt8.toInt32)), (.int 0)] (.int 0) := Arv.set Ar3 q3 S3 N3_ H3 G3 (fits_nar_byte _) W3 0 rfl (Nat.le_of_ble_eq_true rfl)
 rw [(own_b2 _ : (((x0 >>> ((0 : Int32) &&& 31)).toInt8.toInt32).toInt8.toInt32) = (own_lo x0))] at V_ub
 have N3 := Fr.snoc X3 N0 g_ub
 refine Go.step st3 ?_
 refine Go.step (S' := T3.setTop (mkF m 47 #[rv ub, iv 1, iv x0] [(.int x0), (.int 1), (.ref ub)])) (fun t k => ?_) ?_
 · refine XS.aloadN X3.here hx rfl (hb hby d21_44) rfl rfl ?_
   refine XS.iloadN X3.here hx rfl (hb hby d21_45) rfl ?_
   refine XS.iloadN X3.here hx rfl (hb hby d21_46) rfl ?_
   exact k
 refine Go.gS X3 hx hZ hown (host := "") (Or.inl (own_w hw 96 rfl)) Via.refl e3 (S_LO.ext O.2) (hb hby d21_47) (fun T4 X4 e4 => ?_)
 refine Go.step (S' := T4.setTop (mkF m 52 #[rv ub, iv 1, iv x0] [(.int ((x0 >>> ((8 : Int32) &&& 31)).toInt8.toInt32)), (.int 1), (.ref ub)])) (fun t k => ?_) ?_
 · refine XS.ishr X4.here hx rfl (hb hby d21_50) rfl ?_
   refine XS.i2b X4.here hx rfl (hb hby d21_51) rfl ?_
   exact k
 obtain ⟨cl5, Ar5, q5, S5, N5_, H5, G5⟩ := V_ub
 have hin5 : ¬ ((1 : Int32) < 0 ∨ cl5.slots.size ≤ ((1 : Int32)).toNatClampNeg) := inb_of S5 ⟨by decide, by decide⟩
 obtain ⟨T5, h5, X5, e5, W5, st5⟩ := stB X4 hx hZ e4 Ar5 (j := (1 : Int32)) hin5 (g := (mkF m 52 #[rv ub, iv 1, iv x0] [(.int ((x0 >>> ((8 : Int32) &&& 31)).toInt8.toInt32)), (.int 1), (.ref ub)])) rfl rfl (hb hby d21_52)
 have O := O.wr W5 g_ub
 have K := K.wr W5 (Or.inl (List.mem_of_getElem? (i := 0) rfl))
 have V_ub : Arv Z h5 ub ku .byte (2 : Int32) [(.int (own_lo x0)), (.int (((x0 >>> ((8 : Int32) &&& 31)).toInt8.toInt32).toInt8.toInt32))] (.int 0) := Arv.set Ar5 q5 S5 N5_ H5 G5 (fits_nar_byte _) W5 1 rfl (Nat.le_of_ble_eq_true rfl)
 rw [(own_b2 _ : (((x0 >>> ((8 : Int32) &&& 31)).toInt8.toInt32).toInt8.toInt32) = (own_hi x0))] at V_ub
 have N5 := Fr.snoc X5 N3 g_ub
 refine Go.step st5 ?_
 exact Go.rv X5 hx Bd (hb hby d21_53) e5 ⟨rfl, N5, K, V_ub⟩
abbrev y_13 : MethodName := ⟨"java/lang/StringUTF16", "getChar", "([BI)C"⟩
theorem d22_0 : decode jdk_52_method_5_code 0 = .ok (.getstatic 44, 3) := by decide +kernel
theorem d22_3 : decode jdk_52_method_5_code 3 = .ok (.ifCond .ne 25, 3) := by decide +kernel
theorem d22_28 : decode jdk_52_method_5_code 28 = .ok (.iload_n 1, 1) := by decide +kernel
theorem d22_29 : decode jdk_52_method_5_code 29 = .ok (.iconst 1, 1) := by decide +kernel
theorem d22_30 : decode jdk_52_method_5_code 30 = .ok (.ishl, 1) := by decide +kernel
theorem d22_31 : decode jdk_52_method_5_code 31 = .ok (.istore_n 1, 1) := by decide +kernel
theorem d22_32 : decode jdk_52_method_5_code 32 = .ok (.aload_n 0, 1) := by decide +kernel
theorem d22_33 : decode jdk_52_method_5_code 33 = .ok (.iload_n 1, 1) := by decide +kernel
theorem d22_34 : decode jdk_52_method_5_code 34 = .ok (.iinc 1 1, 3) := by decide +kernel
theorem d22_37 : decode jdk_52_method_5_code 37 = .ok (.baload, 1) := by decide +kernel
theorem d22_38 : decode jdk_52_method_5_code 38 = .ok (.sipush 255, 3) := by decide +kernel
theorem d22_41 : decode jdk_52_method_5_code 41 = .ok (.iand, 1) := by decide +kernel
theorem d22_42 : decode jdk_52_method_5_code 42 = .ok (.getstatic 59, 3) := by decide +kernel
theorem d22_45 : decode jdk_52_method_5_code 45 = .ok (.ishl, 1) := by decide +kernel
theorem d22_46 : decode jdk_52_method_5_code 46 = .ok (.aload_n 0, 1) := by decide +kernel
theorem d22_47 : decode jdk_52_method_5_code 47 = .ok (.iload_n 1, 1) := by decide +kernel
theorem d22_48 : decode jdk_52_method_5_code 48 = .ok (.baload, 1) := by decide +kernel
theorem d22_49 : decode jdk_52_method_5_code 49 = .ok (.sipush 255, 3) := by decide +kernel
theorem d22_52 : decode jdk_52_method_5_code 52 = .ok (.iand, 1) := by decide +kernel
theorem d22_53 : decode jdk_52_method_5_code 53 = .ok (.getstatic 63, 3) := by decide +kernel
theorem d22_56 : decode jdk_52_method_5_code 56 = .ok (.ishl, 1) := by decide +kernel
theorem d22_57 : decode jdk_52_method_5_code 57 = .ok (.ior, 1) := by decide +kernel
theorem d22_58 : decode jdk_52_method_5_code 58 = .ok (.i2c, 1) := by decide +kernel
theorem d22_59 : decode jdk_52_method_5_code 59 = .ok (.ireturn, 1) := by decide +kernel
abbrev rm_rmGC1_0 : Room := ({ frames := 0, cells := 0, slots := 0, locals := 0 } : Room)
def Q_rmGC1_0 (Z : State) (ub : Addr) (ku : ClassId) (x0 : Int32) (h0 : Heap) (n0 : Nat) (v : Option Value) (h : Heap) (L : List Loc) : Prop := (v = some (.int x0)) ∧ (Fr n0 L) ∧ (h = h0)
theorem rmGC1_0 (l : Launch) (Z : State) (a0 : Array Value) (hw : HW a0 Z) (ws : List Jvm.Cond) (ub : Addr) (ku : ClassId) (x0 : Int32) (h0 : Heap) (n0 : Nat) (O : Old Z n0 h0) (S_AD : Sa_1 Z (.int 1)) (S_HI : Sa_2 Z (.int 0)) (S_LO : Sa_3 Z (.int 8)) (V_ub : Arv Z h0 ub ku .byte (2 : Int32) [(.int (own_lo x0)), (.int (own_hi x0))] (.int 0)) (rax0 : ¬ (x0 < (0 : Int32))) (rbx0 : ¬ ((65535 : Int32) < x0)) :
    Mt l Z y_13 jdk_52_method_5_code 2 (some .char) ws rm_rmGC1_0 #[(.ref ub), (.int 0)] h0 (Q_rmGC1_0 Z ub ku x0 h0 n0) := by
 refine own_met "java/lang/StringUTF16" (plainFor_of_name pn_java_lang_StringUTF16) #[rv ub, iv 0] (fun m => rfl) (fun p e s m below meth c s₁ Bd hx hby hml hZ hown hnm X0 e0 => ?_)
 have N0 := Fr.nil n0
 refine Go.gS X0 hx hZ hown (host := "") (Or.inl (own_w hw 94 rfl)) Via.refl e0 (S_AD.ext O.2) (hb hby d22_0) (fun T1 X1 e1 => ?_)
 refine Go.step (S' := T1.setTop (mkF m 37 #[rv ub, iv 1] [(.int 0), (.ref ub)])) (fun t k => ?_) ?_
 · refine XS.ifYes X1.here hx rfl (pc0 := 3) (pc' := 28) rfl (hb hby d22_3) rfl ((if0 _ _).trans (feq ((by decide) : ¬ ((1 : Int32) = (0 : Int32)))).2) (by decide) (by decide) ?_
   refine XS.iloadN X1.here hx rfl (hb hby d22_28) rfl ?_
   refine XS.iconst X1.here hx rfl (hb hby d22_29) ?_
   refine XS.ishl X1.here hx rfl (hb hby d22_30) rfl ?_
   refine XS.istoreN X1.here hx rfl (hb hby d22_31) rfl (l' := #[rv ub, iv 0]) rfl ?_
   refine XS.aloadN X1.here hx rfl (hb hby d22_32) rfl rfl ?_
   show Steps p.tables e below (T1.setTop (mkF m 33 #[rv ub, iv 0] [(.ref ub)])) _
   refine XS.iloadN X1.here hx rfl (hb hby d22_33) rfl ?_
   refine XS.iinc X1.here hx rfl (hb hby d22_34) rfl (l' := #[rv ub, iv 1]) rfl ?_
   exact k
 refine Go.bal X1 hx hZ e1 V_ub (hb hby d22_37) (v := (.int (own_lo x0))) rfl ?_
 refine Go.step (S' := T1.setTop (mkF m 42 #[rv ub, iv 1] [(.int ((own_lo x0) &&& (255 : Int32)))])) (fun t k => ?_) ?_
 · refine XS.sipush X1.here hx rfl (hb hby d22_38) ?_
   refine XS.iand X1.here hx rfl (hb hby d22_41) rfl ?_
   exact k
 refine Go.gS X1 hx hZ hown (host := "") (Or.inl (own_w hw 95 rfl)) Via.refl e1 (S_HI.ext O.2) (hb hby d22_42) (fun T3 X3 e3 => ?_)
 refine Go.step (S' := T3.setTop (mkF m 48 #[rv ub, iv 1] [(.int 1), (.ref ub), (.int (((own_lo x0) &&& (255 : Int32)) <<< ((0 : Int32) &&& 31)))])) (fun t k => ?_) ?_
 · refine XS.ishl X3.here hx rfl (hb hby d22_45) rfl ?_
   refine XS.aloadN X3.here hx rfl (hb hby d22_46) rfl rfl ?_
   refine XS.iloadN X3.here hx rfl (hb hby d22_47) rfl ?_
   exact k
 refine Go.bal X3 hx hZ e3 V_ub (hb hby d22_48) (v := (.int (own_hi x0))) rfl ?_
 refine Go.step (S' := T3.setTop (mkF m 53 #[rv ub, iv 1] [(.int ((own_hi x0) &&& (255 : Int32))), (.int (((own_lo x0) &&& (255 : Int32)) <<< ((0 : Int32) &&& 31)))])) (fun t k => ?_) ?_
 · refine XS.sipush X3.here hx rfl (hb hby d22_49) ?_
   refine XS.iand X3.here hx rfl (hb hby d22_52) rfl ?_
   exact k
 refine Go.gS X3 hx hZ hown (host := "") (Or.inl (own_w hw 96 rfl)) Via.refl e3 (S_LO.ext O.2) (hb hby d22_53) (fun T5 X5 e5 => ?_)
 refine Go.step (S' := T5.setTop (mkF m 59 #[rv ub, iv 1] [(.int (((((own_lo x0) &&& (255 : Int32)) <<< ((0 : Int32) &&& 31)) ||| (((own_hi x0) &&& (255 : Int32)) <<< ((8 : Int32) &&& 31))).toUInt32.toUInt16.toUInt32.toInt32))])) (fun t k => ?_) ?_
 · refine XS.ishl X5.here hx rfl (hb hby d22_56) rfl ?_
   refine XS.ior X5.here hx rfl (hb hby d22_57) rfl ?_
   refine XS.i2c X5.here hx rfl (hb hby d22_58) rfl ?_
   exact k
 exact Go.rt X5 hx Bd (w := (.int (((((own_lo x0) &&& (255 : Int32)) <<< ((0 : Int32) &&& 31)) ||| (((own_hi x0) &&& (255 : Int32)) <<< ((8 : Int32) &&& 31))).toUInt32.toUInt16.toUInt32.toInt32))) (Jvm.Free.XT.narrow_c _) (Or.inl ⟨rfl, Or.inr (Or.inr (Or.inr (Or.inl rfl))), _, rfl⟩) (hb hby d22_59) e5 ⟨(congrArg (fun z => some (Value.int z)) (own_gc rax0 rbx0)), N0, rfl⟩
abbrev y_14 : MethodName := ⟨"java/lang/StringUTF16", "toBytes", "([CII)[B"⟩
theorem d18_0 : decode jdk_52_method_14_code 0 = .ok (.iload_n 2, 1) := by decide +kernel
theorem d18_1 : decode jdk_52_method_14_code 1 = .ok (.invokestatic 107, 3) := by decide +kernel
theorem pd__28I_29_5bB : parseMethodDescriptor "(I)[B" = some ⟨[.int], some (.array .byte)⟩ := by decide +kernel
theorem d18_4 : decode jdk_52_method_14_code 4 = .ok (.astore_n 3, 1) := by decide +kernel
theorem d18_5 : decode jdk_52_method_14_code 5 = .ok (.iconst 0, 1) := by decide +kernel
theorem d18_6 : decode jdk_52_method_14_code 6 = .ok (.istore 4, 2) := by decide +kernel
theorem d18_8 : decode jdk_52_method_14_code 8 = .ok (.iload 4, 2) := by decide +kernel
theorem d18_10 : decode jdk_52_method_14_code 10 = .ok (.iload_n 2, 1) := by decide +kernel
theorem d18_11 : decode jdk_52_method_14_code 11 = .ok (.if_icmp .ge 21, 3) := by decide +kernel
theorem d18_14 : decode jdk_52_method_14_code 14 = .ok (.aload_n 3, 1) := by decide +kernel
theorem d18_15 : decode jdk_52_method_14_code 15 = .ok (.iload 4, 2) := by decide +kernel
theorem d18_17 : decode jdk_52_method_14_code 17 = .ok (.aload_n 0, 1) := by decide +kernel
theorem d18_18 : decode jdk_52_method_14_code 18 = .ok (.iload_n 1, 1) := by decide +kernel
theorem d18_19 : decode jdk_52_method_14_code 19 = .ok (.caload, 1) := by decide +kernel
theorem d18_20 : decode jdk_52_method_14_code 20 = .ok (.invokestatic 111, 3) := by decide +kernel
theorem pd__28_5bBII_29V : parseMethodDescriptor "([BII)V" = some ⟨[(.array .byte), .int, .int], none⟩ := by decide +kernel
theorem d18_23 : decode jdk_52_method_14_code 23 = .ok (.iinc 1 1, 3) := by decide +kernel
theorem d18_26 : decode jdk_52_method_14_code 26 = .ok (.iinc 4 1, 3) := by decide +kernel
theorem d18_29 : decode jdk_52_method_14_code 29 = .ok (.goto (-21), 3) := by decide +kernel
theorem d18_32 : decode jdk_52_method_14_code 32 = .ok (.aload_n 3, 1) := by decide +kernel
theorem d18_33 : decode jdk_52_method_14_code 33 = .ok (.areturn, 1) := by decide +kernel
abbrev rm_rmTo1 : Room := ({ frames := 2, cells := 1, slots := 2, locals := 24 } : Room)
def Q_rmTo1 (Z : State) (vc : Addr) (kc : ClassId) (x0 : Int32) (h0 : Heap) (n0 : Nat) (v : Option Value) (h : Heap) (L : List Loc) : Prop := ∃ b : Addr, ∃ kb : ClassId, (v = some (.ref b)) ∧ (Fr n0 L) ∧ (Keep h0 h []) ∧ (Arv Z h b kb .byte (2 : Int32) [(.int (own_lo x0)), (.int (own_hi x0))] (.int 0))
theorem rmTo1 (l : Launch) (Z : State) (a0 : Array Value) (hw : HW a0 Z) (ws : List Jvm.Cond) (vc : Addr) (kc : ClassId) (x0 : Int32) (h0 : Heap) (n0 : Nat) (O : Old Z n0 h0) (S_AD : Sa_1 Z (.int 1)) (S_HI : Sa_2 Z (.int 0)) (S_LO : Sa_3 Z (.int 8)) (V_vc : Arv Z h0 vc kc .char (1 : Int32) [(.int x0)] (.int 0)) :
    Mt l Z y_14 jdk_52_method_14_code 5 (some (.array .byte)) ws rm_rmTo1 #[(.ref vc), (.int 0), (.int 1)] h0 (Q_rmTo1 Z vc kc x0 h0 n0) := by
 refine own_met "java/lang/StringUTF16" (plainFor_of_name pn_java_lang_StringUTF16) #[rv vc, iv 0, iv 1, u_, u_] (fun m => rfl) (fun p e s m below meth c s₁ Bd hx hby hml hZ hown hnm X0 e0 => ?_)
 have N0 := Fr.nil n0
 have K := Keep.refl h0 []
 refine Go.step (S' := s₁.setTop (mkF m 1 #[rv vc, iv 0, iv 1, u_, u_] [(.int 1)])) (fun t k => ?_) ?_
 · refine XS.iloadN X0.here hx rfl (hb hby d18_0) rfl ?_
   exact k
 refine Go.cS X0 hx hml hown hZ (own_w hw 84 rfl) (own_w hw 85 rfl) (own_w hw 70 rfl) (own_w hw 86 rfl) (rmNB1 l Z a0 hw []  h0 n0 O ) 0 [] pd__28I_29_5bB (hb hby d18_1) e0 (fun _ T1 L1 X1 hQ1 => ?_)
 obtain ⟨b_1, kb_1, rfl, Nq1, K1, P1_V, gb_1, sb_1⟩ := hQ1
 have N1 := Fr.app N0 Nq1
 have sz_b_1 : h0.size ≤ b_1 := Nat.le_trans K.1 sb_1
 have ne_vc_b_1 : vc ≠ b_1 := Nat.ne_of_lt (Nat.lt_of_lt_of_le V_vc.lt sb_1)
 have O := O.keep K1 all0
 have V_vc := V_vc.keep K1 nin0
 have K := K.trans K1 all0
 have V_1 := P1_V
 have g_b_1 := gb_1
 refine Go.step (S' := T1.setTop (mkF m 19 #[rv vc, iv 0, iv 1, rv b_1, iv 0] [(.int 0), (.ref vc), (.int 0), (.ref b_1)])) (fun t k => ?_) ?_
 · refine XS.astoreN X1.here hx rfl (hb hby d18_4) rfl rfl (l' := #[rv vc, iv 0, iv 1, rv b_1, u_]) rfl ?_
   refine XS.iconst X1.here hx rfl (hb hby d18_5) ?_
   refine XS.istore X1.here hx rfl (hb hby d18_6) rfl (l' := #[rv vc, iv 0, iv 1, rv b_1, iv 0]) rfl ?_
   refine XS.iload X1.here hx rfl (hb hby d18_8) rfl ?_
   refine XS.iloadN X1.here hx rfl (hb hby d18_10) rfl ?_
   refine XS.icmpNo X1.here hx rfl (hb hby d18_11) rfl (tlt ((by decide) : (0 : Int32) < (1 : Int32))).2.1 ?_
   show Steps p.tables e below (T1.setTop (mkF m 14 #[rv vc, iv 0, iv 1, rv b_1, iv 0] [])) _
   refine XS.aloadN X1.here hx rfl (hb hby d18_14) rfl rfl ?_
   refine XS.iload X1.here hx rfl (hb hby d18_15) rfl ?_
   refine XS.aloadN X1.here hx rfl (hb hby d18_17) rfl rfl ?_
   refine XS.iloadN X1.here hx rfl (hb hby d18_18) rfl ?_
   exact k
 refine Go.cal X1 hx hZ (Eq.refl T1.heap) V_vc (hb hby d18_19) (v := (.int x0)) rfl ?_
 refine Go.cS X1 hx hml hown hZ (own_w hw 91 rfl) (own_w hw 92 rfl) (own_w hw 70 rfl) (own_w hw 93 rfl) (rmPC1_0 l Z a0 hw [] b_1 x0 kb_1 T1.heap n0 O S_AD S_HI S_LO V_1 gb_1) 0 [] pd__28_5bBII_29V (hb hby d18_20) (Eq.refl T1.heap) (fun _ T3 L3 X3 hQ3 => ?_)
 obtain ⟨rfl, Nq3, K3, P3_V⟩ := hQ3
 have N3 := Fr.app N1 Nq3
 have O := O.keep K3 (allS g_b_1 all0)
 have V_vc := V_vc.keep K3 (ninS ne_vc_b_1 nin0)
 have K := K.trans K3 (allS (Or.inr sz_b_1) all0)
 have V_3 := P3_V
 refine Go.step (S' := T3.setTop (mkF m 33 #[rv vc, iv 1, iv 1, rv b_1, iv 1] [(.ref b_1)])) (fun t k => ?_) ?_
 · refine XS.iinc X3.here hx rfl (hb hby d18_23) rfl (l' := #[rv vc, iv 1, iv 1, rv b_1, iv 0]) rfl ?_
   refine XS.iinc X3.here hx rfl (hb hby d18_26) rfl (l' := #[rv vc, iv 1, iv 1, rv b_1, iv 1]) rfl ?_
   refine XS.goto X3.here hx rfl (pc0 := 29) (pc' := 8) rfl (hb hby d18_29) (by decide) (by decide) ?_
   refine XS.iload X3.here hx rfl (hb hby d18_8) rfl ?_
   refine XS.iloadN X3.here hx rfl (hb hby d18_10) rfl ?_
   refine XS.icmpYes X3.here hx rfl (pc0 := 11) (pc' := 32) rfl (hb hby d18_11) rfl (flt ((by decide) : ¬ ((1 : Int32) < (1 : Int32)))).2.1 (by decide) (by decide) ?_
   show Steps p.tables e below (T3.setTop (mkF m 32 #[rv vc, iv 1, iv 1, rv b_1, iv 1] [])) _
   refine XS.aloadN X3.here hx rfl (hb hby d18_32) rfl rfl ?_
   exact k
 exact Go.rt X3 hx Bd (w := (.ref b_1)) rfl (Or.inr (Or.inr (Or.inr (Or.inr ⟨rfl, rfl, rfl⟩)))) (hb hby d18_33) (Eq.refl T3.heap) ⟨b_1, kb_1, rfl, N3, K, V_3⟩
abbrev rm_rmCfu1 : Room := ({ frames := 0, cells := 0, slots := 0, locals := 0 } : Room)
def Q_rmCfu1 (Z : State) (tb : Addr) (kb : ClassId) (x0 : Int32) (h0 : Heap) (n0 : Nat) (v : Option Value) (h : Heap) (L : List Loc) : Prop := (v = some (.int 1)) ∧ (Fr n0 L) ∧ (h = h0)
theorem rmCfu1 (l : Launch) (Z : State) (a0 : Array Value) (hw : HW a0 Z) (ws : List Jvm.Cond) (tb : Addr) (kb : ClassId) (x0 : Int32) (h0 : Heap) (n0 : Nat) (O : Old Z n0 h0) (V_t : Arv Z h0 tb kb .byte (2 : Int32) [(.int (own_lo x0)), (.int (own_hi x0))] (.int 0)) :
    Mt l Z y_2 jdk_52_method_15_code 2 (some .byte) ws rm_rmCfu1 #[(.ref tb), (.int 1)] h0 (Q_rmCfu1 Z tb kb x0 h0 n0) := by
 refine own_met "java/lang/StringUTF16" (plainFor_of_name pn_java_lang_StringUTF16) #[rv tb, iv 1] (fun m => rfl) (fun p e s m below meth c s₁ Bd hx hby hml hZ hown hnm X0 e0 => ?_)
 have N0 := Fr.nil n0
 refine Go.step (S' := s₁.setTop (mkF m 2 #[rv tb, iv 1] [(.ref tb), (.int 1)])) (fun t k => ?_) ?_
 · refine XS.iloadN X0.here hx rfl (hb hby d16_0) rfl ?_
   refine XS.aloadN X0.here hx rfl (hb hby d16_1) rfl rfl ?_
   exact k
 refine Go.len X0 hx hZ e0 V_t (hb hby d16_2) ?_
 refine Go.step (S' := s₁.setTop (mkF m 8 #[rv tb, iv 1] [(.int 1)])) (fun t k => ?_) ?_
 · refine XS.isub X0.here hx rfl (hb hby d16_3) rfl ?_
   refine XS.bipush X0.here hx rfl (hb hby d16_4) ?_
   refine XS.iushr X0.here hx rfl (hb hby d16_6) rfl ?_
   refine XS.i2b X0.here hx rfl (hb hby d16_7) rfl ?_
   exact k
 exact Go.rt X0 hx Bd (w := (.int 1)) (by decide) (Or.inl ⟨rfl, Or.inr (Or.inr (Or.inl rfl)), _, rfl⟩) (hb hby d16_8) e0 ⟨rfl, N0, rfl⟩
theorem d15_23 : decode jdk_52_method_21_code 23 = .ok (.iload 5, 2) := by decide +kernel
theorem d15_25 : decode jdk_52_method_21_code 25 = .ok (.ireturn, 1) := by decide +kernel
abbrev rm_rmClU1 : Room := ({ frames := 0, cells := 0, slots := 0, locals := 0 } : Room)
def Q_rmClU1 (Z : State) (vc : Addr) (db : Addr) (kc : ClassId) (kb : ClassId) (x0 : Int32) (h0 : Heap) (n0 : Nat) (v : Option Value) (h : Heap) (L : List Loc) : Prop := ∃ r : Int32, (v = some (.int r)) ∧ (Fr n0 L) ∧ (Keep h0 h [db]) ∧ (¬ (r = (1 : Int32))) ∧ (r = (0 : Int32) ∧ (255 : Int32) < x0)
theorem rmClU1 (l : Launch) (Z : State) (a0 : Array Value) (hw : HW a0 Z) (ws : List Jvm.Cond) (vc : Addr) (db : Addr) (kc : ClassId) (kb : ClassId) (x0 : Int32) (h0 : Heap) (n0 : Nat) (O : Old Z n0 h0) (V_vc : Arv Z h0 vc kc .char (1 : Int32) [(.int x0)] (.int 0)) (V_db : Arv Z h0 db kb .byte (1 : Int32) [(.int 0)] (.int 0)) (g_db : n0 ≤ db) (ne_vc_db : vc ≠ db) (hu : (255 : Int32) < x0) :
    Mt l Z y_0 jdk_52_method_21_code 7 (some .int) ws rm_rmClU1 #[(.ref vc), (.int 0), (.ref db), (.int 0), (.int 1)] h0 (Q_rmClU1 Z vc db kc kb x0 h0 n0) := by
 refine own_met "java/lang/StringUTF16" (plainFor_of_name pn_java_lang_StringUTF16) #[rv vc, iv 0, rv db, iv 0, iv 1, u_, u_] (fun m => rfl) (fun p e s m below meth c s₁ Bd hx hby hml hZ hown hnm X0 e0 => ?_)
 have N0 := Fr.nil n0
 have K := Keep.refl h0 [db]
 refine Go.step (S' := s₁.setTop (mkF m 12 #[rv vc, iv 0, rv db, iv 0, iv 1, iv 0, u_] [(.int 0), (.ref vc)])) (fun t k => ?_) ?_
 · refine XS.iconst X0.here hx rfl (hb hby d15_0) ?_
   refine XS.istore X0.here hx rfl (hb hby d15_1) rfl (l' := #[rv vc, iv 0, rv db, iv 0, iv 1, iv 0, u_]) rfl ?_
   refine XS.iload X0.here hx rfl (hb hby d15_3) rfl ?_
   refine XS.iload X0.here hx rfl (hb hby d15_5) rfl ?_
   refine XS.icmpNo X0.here hx rfl (hb hby d15_7) rfl (tlt ((by decide) : (0 : Int32) < (1 : Int32))).2.1 ?_
   refine XS.aloadN X0.here hx rfl (hb hby d15_10) rfl rfl ?_
   show Steps p.tables e below (s₁.setTop (mkF m 11 #[rv vc, iv 0, rv db, iv 0, iv 1, iv 0, u_] [(.ref vc)])) _
   refine XS.iloadN X0.here hx rfl (hb hby d15_11) rfl ?_
   exact k
 refine Go.cal X0 hx hZ e0 V_vc (hb hby d15_12) (v := (.int x0)) rfl ?_
 refine Go.step (S' := s₁.setTop (mkF m 25 #[rv vc, iv 0, rv db, iv 0, iv 1, iv 0, iv x0] [(.int 0)])) (fun t k => ?_) ?_
 · refine XS.istore X0.here hx rfl (hb hby d15_13) rfl (l' := #[rv vc, iv 0, rv db, iv 0, iv 1, iv 0, iv x0]) rfl ?_
   refine XS.iload X0.here hx rfl (hb hby d15_15) rfl ?_
   refine XS.sipush X0.here hx rfl (hb hby d15_17) ?_
   refine XS.icmpNo X0.here hx rfl (hb hby d15_20) rfl (tlt (hu : (255 : Int32) < x0)).2.2.2 ?_
   refine XS.iload X0.here hx rfl (hb hby d15_23) rfl ?_
   exact k
 exact Go.rt X0 hx Bd (w := (.int 0)) rfl (Or.inl ⟨rfl, Or.inl rfl, _, rfl⟩) (hb hby d15_25) e0 ⟨(0 : Int32), rfl, N0, K, (by decide), ⟨rfl, hu⟩⟩
theorem d14_20 : decode jdk_52_method_16_code 20 = .ok (.aload_n 0, 1) := by decide +kernel
theorem d14_21 : decode jdk_52_method_16_code 21 = .ok (.iload_n 1, 1) := by decide +kernel
theorem d14_22 : decode jdk_52_method_16_code 22 = .ok (.iload_n 2, 1) := by decide +kernel
theorem d14_23 : decode jdk_52_method_16_code 23 = .ok (.invokestatic 119, 3) := by decide +kernel
theorem d14_26 : decode jdk_52_method_16_code 26 = .ok (.astore 5, 2) := by decide +kernel
theorem d14_28 : decode jdk_52_method_16_code 28 = .ok (.aload 5, 2) := by decide +kernel
theorem d14_30 : decode jdk_52_method_16_code 30 = .ok (.iload 4, 2) := by decide +kernel
theorem d14_32 : decode jdk_52_method_16_code 32 = .ok (.invokestatic 71, 3) := by decide +kernel
theorem pd__28_5bBI_29C : parseMethodDescriptor "([BI)C" = some ⟨[(.array .byte), .int], some .char⟩ := by decide +kernel
theorem d14_35 : decode jdk_52_method_16_code 35 = .ok (.sipush 255, 3) := by decide +kernel
theorem d14_38 : decode jdk_52_method_16_code 38 = .ok (.if_icmp .gt 16, 3) := by decide +kernel
theorem d14_54 : decode jdk_52_method_16_code 54 = .ok (.aload 5, 2) := by decide +kernel
theorem d14_56 : decode jdk_52_method_16_code 56 = .ok (.areturn, 1) := by decide +kernel
abbrev rm_rmCmU1 : Room := ({ frames := 3, cells := 2, slots := 3, locals := 40 } : Room)
def Q_rmCmU1 (Z : State) (vc : Addr) (kc : ClassId) (x0 : Int32) (h0 : Heap) (n0 : Nat) (v : Option Value) (h : Heap) (L : List Loc) : Prop := ∃ b : Addr, ∃ kb : ClassId, (v = some (.ref b)) ∧ (Fr n0 L) ∧ (Keep h0 h []) ∧ (Arv Z h b kb .byte (2 : Int32) [(.int (own_lo x0)), (.int (own_hi x0))] (.int 0))
theorem rmCmU1 (l : Launch) (Z : State) (a0 : Array Value) (hw : HW a0 Z) (ws : List Jvm.Cond) (vc : Addr) (kc : ClassId) (x0 : Int32) (h0 : Heap) (n0 : Nat) (O : Old Z n0 h0) (S_AD : Sa_1 Z (.int 1)) (S_HI : Sa_2 Z (.int 0)) (S_LO : Sa_3 Z (.int 8)) (V_vc : Arv Z h0 vc kc .char (1 : Int32) [(.int x0)] (.int 0)) (hu : (255 : Int32) < x0) (rax0 : ¬ (x0 < (0 : Int32))) (rbx0 : ¬ ((65535 : Int32) < x0)) :
    Mt l Z y_1 jdk_52_method_16_code 6 (some (.array .byte)) ws rm_rmCmU1 #[(.ref vc), (.int 0), (.int 1)] h0 (Q_rmCmU1 Z vc kc x0 h0 n0) := by
 refine own_met "java/lang/StringUTF16" (plainFor_of_name pn_java_lang_StringUTF16) #[rv vc, iv 0, iv 1, u_, u_, u_] (fun m => rfl) (fun p e s m below meth c s₁ Bd hx hby hml hZ hown hnm X0 e0 => ?_)
 have N0 := Fr.nil n0
 have K := Keep.refl h0 []
 refine Go.step (S' := s₁.setTop (mkF m 1 #[rv vc, iv 0, iv 1, u_, u_, u_] [(.int 1)])) (fun t k => ?_) ?_
 · refine XS.iloadN X0.here hx rfl (hb hby d14_0) rfl ?_
   exact k
 obtain ⟨T1, h1, k1, X1, e1, E1, A1, st1⟩ := newP X0 hx hZ (own_w hw 17 rfl) e0 (g := (mkF m 1 #[rv vc, iv 0, iv 1, u_, u_, u_] [(.int 1)])) rfl (hb hby d14_1) rfl (by decide) (cap := 1) (by decide) (by decide) (by decide) (by decide)
 obtain ⟨b1, g1⟩ : ∃ z, z = Array.size h0 := ⟨_, rfl⟩
 have g_b1 : n0 ≤ b1 := Nat.le_trans (old_le O) (Nat.le_of_eq g1.symm)
 have sz_b1 : h0.size ≤ b1 := Nat.le_trans K.1 (Nat.le_of_eq g1.symm)
 have ne_vc_b1 : vc ≠ b1 := Nat.ne_of_lt (Nat.lt_of_lt_of_le V_vc.lt (Nat.le_of_eq g1.symm))
 rw [← g1] at A1 st1
 have O := O.ext E1
 have V_vc := V_vc.ext E1
 have K := K.ext E1
 have V_b1 : Arv Z h1 b1 k1 .byte (1 : Int32) [(.int 0)] (.int 0) := (Arv.new A1 (by decide)).pad (pad_rep [] (.int 0) 1)
 refine Go.step st1 ?_
 refine Go.step (S' := T1.setTop (mkF m 9 #[rv vc, iv 0, iv 1, rv b1, u_, u_] [(.int 1), (.int 0), (.ref b1), (.int 0), (.ref vc)])) (fun t k => ?_) ?_
 · refine XS.astoreN X1.here hx rfl (hb hby d14_3) rfl rfl (l' := #[rv vc, iv 0, iv 1, rv b1, u_, u_]) rfl ?_
   refine XS.aloadN X1.here hx rfl (hb hby d14_4) rfl rfl ?_
   refine XS.iloadN X1.here hx rfl (hb hby d14_5) rfl ?_
   refine XS.aloadN X1.here hx rfl (hb hby d14_6) rfl rfl ?_
   refine XS.iconst X1.here hx rfl (hb hby d14_7) ?_
   refine XS.iloadN X1.here hx rfl (hb hby d14_8) rfl ?_
   exact k
 refine Go.cS X1 hx hml hown hZ (own_w hw 72 rfl) (own_w hw 73 rfl) (own_w hw 70 rfl) (own_w hw 74 rfl) (rmClU1 l Z a0 hw [] vc b1 kc k1 x0 h1 n0 O V_vc V_b1 (by assumption) ne_vc_b1 hu) 0 [] pd__28_5bCI_5bBII_29I (hb hby d14_9) e1 (fun _ T2 L2 X2 hQ2 => ?_)
 obtain ⟨r_2, rfl, Nq2, K2, kn_2, kr_2⟩ := hQ2
 have N2 := Fr.app N0 Nq2
 have O := O.keep K2 (allS g_b1 all0)
 have V_vc := V_vc.keep K2 (ninS ne_vc_b1 nin0)
 have K := K.trans K2 (allS (Or.inr sz_b1) all0)
 refine Go.step (S' := T2.setTop (mkF m 23 #[rv vc, iv 0, iv 1, rv b1, iv r_2, u_] [(.int 1), (.int 0), (.ref vc)])) (fun t k => ?_) ?_
 · refine XS.istore X2.here hx rfl (hb hby d14_12) rfl (l' := #[rv vc, iv 0, iv 1, rv b1, iv r_2, u_]) rfl ?_
   refine XS.iload X2.here hx rfl (hb hby d14_14) rfl ?_
   refine XS.iloadN X2.here hx rfl (hb hby d14_16) rfl ?_
   refine XS.icmpNo X2.here hx rfl (hb hby d14_17) rfl (feq (kn_2 : ¬ (r_2 = (1 : Int32)))).1 ?_
   refine XS.aloadN X2.here hx rfl (hb hby d14_20) rfl rfl ?_
   refine XS.iloadN X2.here hx rfl (hb hby d14_21) rfl ?_
   show Steps p.tables e below (T2.setTop (mkF m 22 #[rv vc, iv 0, iv 1, rv b1, iv r_2, u_] [(.int 0), (.ref vc)])) _
   refine XS.iloadN X2.here hx rfl (hb hby d14_22) rfl ?_
   exact k
 refine Go.cS X2 hx hml hown hZ (own_w hw 81 rfl) (own_w hw 82 rfl) (own_w hw 70 rfl) (own_w hw 83 rfl) (rmTo1 l Z a0 hw [] vc kc x0 T2.heap n0 O S_AD S_HI S_LO V_vc) 0 [] pd__28_5bCII_29_5bB (hb hby d14_23) (Eq.refl T2.heap) (fun _ T3 L3 X3 hQ3 => ?_)
 obtain ⟨b_3, kb_3, rfl, Nq3, K3, P3_V⟩ := hQ3
 have N3 := Fr.app N2 Nq3
 have O := O.keep K3 all0
 have V_vc := V_vc.keep K3 nin0
 have K := K.trans K3 all0
 have V_3 := P3_V
 refine Go.step (S' := T3.setTop (mkF m 28 #[rv vc, iv 0, iv 1, rv b1, iv r_2, rv b_3] [])) (fun t k => ?_) ?_
 · refine XS.astore X3.here hx rfl (hb hby d14_26) rfl rfl (l' := #[rv vc, iv 0, iv 1, rv b1, iv r_2, rv b_3]) rfl ?_
   exact k
 obtain ⟨rfl, hf⟩ := kr_2
 refine Go.step (S' := T3.setTop (mkF m 32 #[rv vc, iv 0, iv 1, rv b1, iv 0, rv b_3] [(.int 0), (.ref b_3)])) (fun t k => ?_) ?_
 · refine XS.aload X3.here hx rfl (hb hby d14_28) rfl rfl ?_
   refine XS.iload X3.here hx rfl (hb hby d14_30) rfl ?_
   exact k
 refine Go.cS X3 hx hml hown hZ (own_w hw 97 rfl) (own_w hw 98 rfl) (own_w hw 70 rfl) (own_w hw 99 rfl) (rmGC1_0 l Z a0 hw [] b_3 kb_3 x0 T3.heap n0 O S_AD S_HI S_LO V_3 rax0 rbx0) 0 [] pd__28_5bBI_29C (hb hby d14_32) (Eq.refl T3.heap) (fun _ T4 L4 X4 hQ4 => ?_)
 obtain ⟨rfl, Nq4, e4⟩ := hQ4
 have N4 := Fr.app N3 Nq4
 refine Go.step (S' := T4.setTop (mkF m 56 #[rv vc, iv 0, iv 1, rv b1, iv 0, rv b_3] [(.ref b_3)])) (fun t k => ?_) ?_
 · refine XS.sipush X4.here hx rfl (hb hby d14_35) ?_
   refine XS.icmpYes X4.here hx rfl (pc0 := 38) (pc' := 54) rfl (hb hby d14_38) rfl (tlt (hf : (255 : Int32) < x0)).2.2.1 (by decide) (by decide) ?_
   refine XS.aload X4.here hx rfl (hb hby d14_54) rfl rfl ?_
   exact k
 exact Go.rt X4 hx Bd (w := (.ref b_3)) rfl (Or.inr (Or.inr (Or.inr (Or.inr ⟨rfl, rfl, rfl⟩)))) (hb hby d14_56) e4 ⟨b_3, kb_3, rfl, N4, K, V_3⟩
abbrev rm_rmNU4_1 : Room := ({ frames := 4, cells := 2, slots := 3, locals := 57 } : Room)
def Q_rmNU4_1 (Z : State) (so : Addr) (vc : Addr) (kc : ClassId) (cs : Int32) (x0 : Int32) (h0 : Heap) (n0 : Nat) (v : Option Value) (h : Heap) (L : List Loc) : Prop := ∃ tb : Addr, ∃ kb : ClassId, (v = none) ∧ (Fr n0 L) ∧ (Keep h0 h [so]) ∧ (Exa Z h so "java/lang/String") ∧ (Fd_5 Z h so (.ref tb)) ∧ (Fd_6 Z h so (.int 1)) ∧ (Arv Z h tb kb .byte (2 : Int32) [(.int (own_lo x0)), (.int (own_hi x0))] (.int 0))
theorem rmNU4_1 (l : Launch) (Z : State) (a0 : Array Value) (hw : HW a0 Z) (ws : List Jvm.Cond) (so : Addr) (vc : Addr) (kc : ClassId) (cs : Int32) (x0 : Int32) (h0 : Heap) (n0 : Nat) (O : Old Z n0 h0) (S_CS : Sa_0 Z (.int cs)) (S_AD : Sa_1 Z (.int 1)) (S_HI : Sa_2 Z (.int 0)) (S_LO : Sa_3 Z (.int 8)) (E_so : Exa Z h0 so "java/lang/String") (F_v : Fd_5 Z h0 so .null) (F_c : Fd_6 Z h0 so (.int 0)) (V_vc : Arv Z h0 vc kc .char (1 : Int32) [(.int x0)] (.int 0)) (g_so : n0 ≤ so) (hcs : ¬ (cs = (0 : Int32))) (hu : (255 : Int32) < x0) (rax0 : ¬ (x0 < (0 : Int32))) (rbx0 : ¬ ((65535 : Int32) < x0)) :
    Mt l Z y_3 jdk_42_method_149_code 6 none ws rm_rmNU4_1 #[(.ref so), (.ref vc), (.int 0), (.int 1), .null] h0 (Q_rmNU4_1 Z so vc kc cs x0 h0 n0) := by
 refine own_met "java/lang/String" (plainFor_of_name pn_java_lang_String) #[rv so, rv vc, iv 0, iv 1, .val .null, u_] (fun m => rfl) (fun p e s m below meth c s₁ Bd hx hby hml hZ hown hnm X0 e0 => ?_)
 have N0 := Fr.nil n0
 have K := Keep.refl h0 [so]
 refine Go.step (S' := s₁.setTop (mkF m 1 #[rv so, rv vc, iv 0, iv 1, .val .null, u_] [(.ref so)])) (fun t k => ?_) ?_
 · refine XS.aloadN X0.here hx rfl (hb hby d2_0) rfl rfl ?_
   exact k
 obtain ⟨T1, X1, e1, st1⟩ := initO X0 hx hZ hown (own_w hw 13 rfl) (own_w hw 14 rfl) (own_w hw 15 rfl) e0 (g := (mkF m 1 #[rv so, rv vc, iv 0, iv 1, .val .null, u_] [(.ref so)])) rfl (by rw [hml]; rfl) rfl (hb hby d2_1) (by decide) (W := 0) (by show 2 * 0 + _ ≤ _; exact Nat.le_of_eq rfl) (by decide)
 refine Go.step st1 ?_
 refine Go.step (S' := T1.setTop (mkF m 27 #[rv so, rv vc, iv 0, iv 1, .val .null, u_] [])) (fun t k => ?_) ?_
 · refine XS.iloadN X1.here hx rfl (hb hby d2_4) rfl ?_
   refine XS.ifYes X1.here hx rfl (pc0 := 5) (pc' := 27) rfl (hb hby d2_5) rfl ((if0 _ _).trans (feq ((by decide) : ¬ ((1 : Int32) = (0 : Int32)))).2) (by decide) (by decide) ?_
   exact k
 refine Go.gS X1 hx hZ hown (host := "") (Or.inl (own_w hw 43 rfl)) Via.refl e1 (S_CS.ext O.2) (hb hby d2_27) (fun T2 X2 e2 => ?_)
 refine Go.step (S' := T2.setTop (mkF m 36 #[rv so, rv vc, iv 0, iv 1, .val .null, u_] [(.int 1), (.int 0), (.ref vc)])) (fun t k => ?_) ?_
 · refine XS.ifNo X2.here hx rfl (hb hby d2_30) rfl ((if0 _ _).trans (feq (hcs : ¬ (cs = (0 : Int32)))).1) ?_
   refine XS.aloadN X2.here hx rfl (hb hby d2_33) rfl rfl ?_
   refine XS.iloadN X2.here hx rfl (hb hby d2_34) rfl ?_
   refine XS.iloadN X2.here hx rfl (hb hby d2_35) rfl ?_
   exact k
 refine Go.cS X2 hx hml hown hZ (own_w hw 68 rfl) (own_w hw 69 rfl) (own_w hw 70 rfl) (own_w hw 71 rfl) (rmCmU1 l Z a0 hw [] vc kc x0 h0 n0 O S_AD S_HI S_LO V_vc hu rax0 rbx0) 0 [] pd__28_5bCII_29_5bB (hb hby d2_36) e2 (fun _ T3 L3 X3 hQ3 => ?_)
 obtain ⟨b_3, kb_3, rfl, Nq3, K3, P3_V⟩ := hQ3
 have N3 := Fr.app N0 Nq3
 have O := O.keep K3 all0
 have E_so := E_so.keep K3
 have F_v := F_v.keep K3 nin0
 have F_c := F_c.keep K3 nin0
 have V_vc := V_vc.keep K3 nin0
 have K := K.trans K3 all0
 have V_3 := P3_V
 refine Go.step (S' := T3.setTop (mkF m 45 #[rv so, rv vc, iv 0, iv 1, .val .null, rv b_3] [(.int 1), (.ref b_3), (.ref so)])) (fun t k => ?_) ?_
 · refine XS.astore X3.here hx rfl (hb hby d2_39) rfl rfl (l' := #[rv so, rv vc, iv 0, iv 1, .val .null, rv b_3]) rfl ?_
   refine XS.aloadN X3.here hx rfl (hb hby d2_41) rfl rfl ?_
   refine XS.aload X3.here hx rfl (hb hby d2_42) rfl rfl ?_
   refine XS.iloadN X3.here hx rfl (hb hby d2_44) rfl ?_
   exact k
 refine Go.cS X3 hx hml hown hZ (own_w hw 75 rfl) (own_w hw 76 rfl) (own_w hw 70 rfl) (own_w hw 77 rfl) (rmCfu1 l Z a0 hw [] b_3 kb_3 x0 T3.heap n0 O V_3) 1 [(.ref so)] pd__28_5bBI_29B (hb hby d2_45) (Eq.refl T3.heap) (fun _ T4 L4 X4 hQ4 => ?_)
 obtain ⟨rfl, Nq4, e4⟩ := hQ4
 have N4 := Fr.app N3 Nq4
 obtain ⟨T5, h5, X5, e5, W5, st5⟩ := putFN X4 hx hZ hown (own_w hw 23 rfl) Via.refl e4 F_c E_so (Or.inr ⟨(own_w hw 19 rfl), rfl, hnm⟩) (own_w hw 4 rfl) (ty := .byte) (v' := (.int 1)) (by decide) rfl rfl (g := (mkF m 48 #[rv so, rv vc, iv 0, iv 1, .val .null, rv b_3] [(.int 1), (.ref so)])) rfl rfl (hb hby d2_48)
 have ne_vc_so : vc ≠ so := Ne.symm (Exa.neArv E_so V_vc (own_w hw 4 rfl))
 have ne_b_3_so : b_3 ≠ so := Ne.symm (Exa.neArv E_so V_3 (own_w hw 4 rfl))
 have O := O.wr W5 g_so
 have E_so := E_so.wr W5
 have F_v := F_v.other W5 (Or.inr (slot_ne (Or.inr (own_w hw 18 rfl)) (Or.inr (own_w hw 19 rfl)) (by decide) (t := (.array .byte)) (t' := .byte) (by decide) (by decide)))
 have F_c := F_c.same W5
 have V_vc := V_vc.other W5 ne_vc_so
 have K := K.wr W5 (Or.inl (List.mem_of_getElem? (i := 0) rfl))
 have V_3 := V_3.other W5 ne_b_3_so
 have N5 := Fr.snoc X5 N4 g_so
 refine Go.step st5 ?_
 refine Go.step (S' := T5.setTop (mkF m 54 #[rv so, rv vc, iv 0, iv 1, .val .null, rv b_3] [(.ref b_3), (.ref so)])) (fun t k => ?_) ?_
 · refine XS.aloadN X5.here hx rfl (hb hby d2_51) rfl rfl ?_
   refine XS.aload X5.here hx rfl (hb hby d2_52) rfl rfl ?_
   exact k
 obtain ⟨T6, h6, X6, e6, W6, st6⟩ := putF X5 hx hZ hown (host := "") (Or.inl (own_w hw 22 rfl)) Via.refl e5 F_v E_so (Or.inr ⟨(own_w hw 18 rfl), rfl, hnm⟩) (own_w hw 4 rfl) (ty := (.array .byte)) (by decide) rfl rfl (g := (mkF m 54 #[rv so, rv vc, iv 0, iv 1, .val .null, rv b_3] [(.ref b_3), (.ref so)])) rfl rfl (hb hby d2_54)
 have O := O.wr W6 g_so
 have E_so := E_so.wr W6
 have F_v := F_v.same W6
 have F_c := F_c.other W6 (Or.inr (slot_ne (Or.inr (own_w hw 19 rfl)) (Or.inr (own_w hw 18 rfl)) (by decide) (t := .byte) (t' := (.array .byte)) (by decide) (by decide)))
 have V_vc := V_vc.other W6 ne_vc_so
 have K := K.wr W6 (Or.inl (List.mem_of_getElem? (i := 0) rfl))
 have V_3 := V_3.other W6 ne_b_3_so
 have N6 := Fr.snoc X6 N5 g_so
 refine Go.step st6 ?_
 exact Go.rv X6 hx Bd (hb hby d2_57) e6 ⟨b_3, kb_3, rfl, N6, K, E_so, F_v, F_c, V_3⟩
abbrev rm_rmNSU1 : Room := ({ frames := 5, cells := 2, slots := 3, locals := 74 } : Room)
def Q_rmNSU1 (Z : State) (so : Addr) (vc : Addr) (kc : ClassId) (cs : Int32) (x0 : Int32) (h0 : Heap) (n0 : Nat) (v : Option Value) (h : Heap) (L : List Loc) : Prop := ∃ tb : Addr, ∃ kb : ClassId, (v = none) ∧ (Fr n0 L) ∧ (Keep h0 h [so]) ∧ (Exa Z h so "java/lang/String") ∧ (Fd_5 Z h so (.ref tb)) ∧ (Fd_6 Z h so (.int 1)) ∧ (Arv Z h tb kb .byte (2 : Int32) [(.int (own_lo x0)), (.int (own_hi x0))] (.int 0))
theorem rmNSU1 (l : Launch) (Z : State) (a0 : Array Value) (hw : HW a0 Z) (ws : List Jvm.Cond) (so : Addr) (vc : Addr) (kc : ClassId) (cs : Int32) (x0 : Int32) (h0 : Heap) (n0 : Nat) (O : Old Z n0 h0) (S_CS : Sa_0 Z (.int cs)) (S_AD : Sa_1 Z (.int 1)) (S_HI : Sa_2 Z (.int 0)) (S_LO : Sa_3 Z (.int 8)) (E_so : Exa Z h0 so "java/lang/String") (F_v : Fd_5 Z h0 so .null) (F_c : Fd_6 Z h0 so (.int 0)) (V_vc : Arv Z h0 vc kc .char (1 : Int32) [(.int x0)] (.int 0)) (g_so : n0 ≤ so) (hcs : ¬ (cs = (0 : Int32))) (hu : (255 : Int32) < x0) (rax0 : ¬ (x0 < (0 : Int32))) (rbx0 : ¬ ((65535 : Int32) < x0)) :
    Mt l Z y_4 jdk_42_method_3_code 2 none ws rm_rmNSU1 #[(.ref so), (.ref vc)] h0 (Q_rmNSU1 Z so vc kc cs x0 h0 n0) := by
 refine own_met "java/lang/String" (plainFor_of_name pn_java_lang_String) #[rv so, rv vc] (fun m => rfl) (fun p e s m below meth c s₁ Bd hx hby hml hZ hown hnm X0 e0 => ?_)
 have N0 := Fr.nil n0
 have K := Keep.refl h0 [so]
 refine Go.step (S' := s₁.setTop (mkF m 4 #[rv so, rv vc] [(.ref vc), (.int 0), (.ref vc), (.ref so)])) (fun t k => ?_) ?_
 · refine XS.aloadN X0.here hx rfl (hb hby d1_0) rfl rfl ?_
   refine XS.aloadN X0.here hx rfl (hb hby d1_1) rfl rfl ?_
   refine XS.iconst X0.here hx rfl (hb hby d1_2) ?_
   refine XS.aloadN X0.here hx rfl (hb hby d1_3) rfl rfl ?_
   exact k
 refine Go.len X0 hx hZ e0 V_vc (hb hby d1_4) ?_
 refine Go.step (S' := s₁.setTop (mkF m 6 #[rv so, rv vc] [.null, (.int 1), (.int 0), (.ref vc), (.ref so)])) (fun t k => ?_) ?_
 · refine XS.aconstNull X0.here hx rfl (hb hby d1_5) ?_
   exact k
 refine Go.cI X0 hx hml hown hZ (own_w hw 9 rfl) (own_w hw 10 rfl) (own_w hw 5 rfl) (own_w hw 12 rfl) (rmNU4_1 l Z a0 hw [] so vc kc cs x0 h0 n0 O S_CS S_AD S_HI S_LO E_so F_v F_c V_vc (by assumption) hcs hu rax0 rbx0) 0 [] pd__28_5bCIILjava_2flang_2fVoid_3b_29V (hb hby d1_6) e0 (fun _ T1 L1 X1 hQ1 => ?_)
 obtain ⟨tb_1, kb_1, rfl, Nq1, K1, P1_E, P1_Fv, P1_Fc, P1_V⟩ := hQ1
 have N1 := Fr.app N0 Nq1
 have ne_vc_so : vc ≠ so := Ne.symm (Exa.neArv E_so V_vc (own_w hw 4 rfl))
 have O := O.keep K1 (allS g_so all0)
 have E_so := E_so.keep K1
 have V_vc := V_vc.keep K1 (ninS ne_vc_so nin0)
 have K := K.trans K1 (allS (Or.inl (List.mem_of_getElem? (i := 0) rfl)) all0)
 have E_1 := P1_E
 have Fv_1 := P1_Fv
 have Fc_1 := P1_Fc
 have V_1 := P1_V
 exact Go.rv X1 hx Bd (hb hby d1_9) (Eq.refl T1.heap) ⟨tb_1, kb_1, rfl, N1, K, E_so, Fv_1, Fc_1, V_1⟩
abbrev y_15 : MethodName := ⟨"java/lang/StringUTF16", "length", "([B)I"⟩
theorem d26_0 : decode jdk_52_method_6_code 0 = .ok (.aload_n 0, 1) := by decide +kernel
theorem d26_1 : decode jdk_52_method_6_code 1 = .ok (.arraylength, 1) := by decide +kernel
theorem d26_2 : decode jdk_52_method_6_code 2 = .ok (.iconst 1, 1) := by decide +kernel
theorem d26_3 : decode jdk_52_method_6_code 3 = .ok (.ishr, 1) := by decide +kernel
theorem d26_4 : decode jdk_52_method_6_code 4 = .ok (.ireturn, 1) := by decide +kernel
abbrev rm_rmUL1 : Room := ({ frames := 0, cells := 0, slots := 0, locals := 0 } : Room)
def Q_rmUL1 (Z : State) (ub : Addr) (ku : ClassId) (x0 : Int32) (h0 : Heap) (n0 : Nat) (v : Option Value) (h : Heap) (L : List Loc) : Prop := (v = some (.int 1)) ∧ (Fr n0 L) ∧ (h = h0)
theorem rmUL1 (l : Launch) (Z : State) (a0 : Array Value) (hw : HW a0 Z) (ws : List Jvm.Cond) (ub : Addr) (ku : ClassId) (x0 : Int32) (h0 : Heap) (n0 : Nat) (O : Old Z n0 h0) (V_ub : Arv Z h0 ub ku .byte (2 : Int32) [(.int (own_lo x0)), (.int (own_hi x0))] (.int 0)) :
    Mt l Z y_15 jdk_52_method_6_code 1 (some .int) ws rm_rmUL1 #[(.ref ub)] h0 (Q_rmUL1 Z ub ku x0 h0 n0) := by
 refine own_met "java/lang/StringUTF16" (plainFor_of_name pn_java_lang_StringUTF16) #[rv ub] (fun m => rfl) (fun p e s m below meth c s₁ Bd hx hby hml hZ hown hnm X0 e0 => ?_)
 have N0 := Fr.nil n0
 refine Go.step (S' := s₁.setTop (mkF m 1 #[rv ub] [(.ref ub)])) (fun t k => ?_) ?_
 · refine XS.aloadN X0.here hx rfl (hb hby d26_0) rfl rfl ?_
   exact k
 refine Go.len X0 hx hZ e0 V_ub (hb hby d26_1) ?_
 refine Go.step (S' := s₁.setTop (mkF m 4 #[rv ub] [(.int 1)])) (fun t k => ?_) ?_
 · refine XS.iconst X0.here hx rfl (hb hby d26_2) ?_
   refine XS.ishr X0.here hx rfl (hb hby d26_3) rfl ?_
   exact k
 exact Go.rt X0 hx Bd (w := (.int 1)) rfl (Or.inl ⟨rfl, Or.inl rfl, _, rfl⟩) (hb hby d26_4) e0 ⟨rfl, N0, rfl⟩
abbrev y_16 : MethodName := ⟨"jdk/internal/util/Preconditions", "checkFromToIndex", "(IIILjava/util/function/BiFunction;)I"⟩
theorem pn_jdk_internal_util_Preconditions : plainName "jdk/internal/util/Preconditions" = true := by first | (simp [plainName, overriddenIn]; done) | decide +kernel
theorem d28_0 : decode jdk_41_method_12_code 0 = .ok (.iload_n 0, 1) := by decide +kernel
theorem d28_1 : decode jdk_41_method_12_code 1 = .ok (.ifCond .lt 13, 3) := by decide +kernel
theorem d28_4 : decode jdk_41_method_12_code 4 = .ok (.iload_n 0, 1) := by decide +kernel
theorem d28_5 : decode jdk_41_method_12_code 5 = .ok (.iload_n 1, 1) := by decide +kernel
theorem d28_6 : decode jdk_41_method_12_code 6 = .ok (.if_icmp .gt 8, 3) := by decide +kernel
theorem d28_9 : decode jdk_41_method_12_code 9 = .ok (.iload_n 1, 1) := by decide +kernel
theorem d28_10 : decode jdk_41_method_12_code 10 = .ok (.iload_n 2, 1) := by decide +kernel
theorem d28_11 : decode jdk_41_method_12_code 11 = .ok (.if_icmp .le 11, 3) := by decide +kernel
theorem d28_22 : decode jdk_41_method_12_code 22 = .ok (.iload_n 0, 1) := by decide +kernel
theorem d28_23 : decode jdk_41_method_12_code 23 = .ok (.ireturn, 1) := by decide +kernel
abbrev rm_rmFn1 : Room := ({ frames := 0, cells := 0, slots := 0, locals := 0 } : Room)
def Q_rmFn1 (Z : State)  (h0 : Heap) (n0 : Nat) (v : Option Value) (h : Heap) (L : List Loc) : Prop := (v = some (.int 0)) ∧ (Fr n0 L) ∧ (h = h0)
theorem rmFn1 (l : Launch) (Z : State) (a0 : Array Value) (hw : HW a0 Z) (ws : List Jvm.Cond)  (h0 : Heap) (n0 : Nat) (O : Old Z n0 h0) :
    Mt l Z y_16 jdk_41_method_12_code 4 (some .int) ws rm_rmFn1 #[(.int 0), (.int 1), (.int 1), .null] h0 (Q_rmFn1 Z  h0 n0) := by
 refine own_met "jdk/internal/util/Preconditions" (plainFor_of_name pn_jdk_internal_util_Preconditions) #[iv 0, iv 1, iv 1, .val .null] (fun m => rfl) (fun p e s m below meth c s₁ Bd hx hby hml hZ hown hnm X0 e0 => ?_)
 have N0 := Fr.nil n0
 refine Go.step (S' := s₁.setTop (mkF m 23 #[iv 0, iv 1, iv 1, .val .null] [(.int 0)])) (fun t k => ?_) ?_
 · refine XS.iloadN X0.here hx rfl (hb hby d28_0) rfl ?_
   refine XS.ifNo X0.here hx rfl (hb hby d28_1) rfl ((if0 _ _).trans (flt ((by decide) : ¬ ((0 : Int32) < (0 : Int32)))).1) ?_
   refine XS.iloadN X0.here hx rfl (hb hby d28_4) rfl ?_
   refine XS.iloadN X0.here hx rfl (hb hby d28_5) rfl ?_
   refine XS.icmpNo X0.here hx rfl (hb hby d28_6) rfl (flt ((by decide) : ¬ ((1 : Int32) < (0 : Int32)))).2.2.1 ?_
   refine XS.iloadN X0.here hx rfl (hb hby d28_9) rfl ?_
   show Steps p.tables e below (s₁.setTop (mkF m 10 #[iv 0, iv 1, iv 1, .val .null] [(.int 1)])) _
   refine XS.iloadN X0.here hx rfl (hb hby d28_10) rfl ?_
   refine XS.icmpYes X0.here hx rfl (pc0 := 11) (pc' := 22) rfl (hb hby d28_11) rfl (flt ((by decide) : ¬ ((1 : Int32) < (1 : Int32)))).2.2.2 (by decide) (by decide) ?_
   refine XS.iloadN X0.here hx rfl (hb hby d28_22) rfl ?_
   exact k
 exact Go.rt X0 hx Bd (w := (.int 0)) rfl (Or.inl ⟨rfl, Or.inl rfl, _, rfl⟩) (hb hby d28_23) e0 ⟨rfl, N0, rfl⟩
abbrev rm_rmFr1 : Room := ({ frames := 0, cells := 0, slots := 0, locals := 0 } : Room)
def Q_rmFr1 (Z : State) (f : Addr) (h0 : Heap) (n0 : Nat) (v : Option Value) (h : Heap) (L : List Loc) : Prop := (v = some (.int 0)) ∧ (Fr n0 L) ∧ (h = h0)
theorem rmFr1 (l : Launch) (Z : State) (a0 : Array Value) (hw : HW a0 Z) (ws : List Jvm.Cond) (f : Addr) (h0 : Heap) (n0 : Nat) (O : Old Z n0 h0) :
    Mt l Z y_16 jdk_41_method_12_code 4 (some .int) ws rm_rmFr1 #[(.int 0), (.int 1), (.int 1), (.ref f)] h0 (Q_rmFr1 Z f h0 n0) := by
 refine own_met "jdk/internal/util/Preconditions" (plainFor_of_name pn_jdk_internal_util_Preconditions) #[iv 0, iv 1, iv 1, rv f] (fun m => rfl) (fun p e s m below meth c s₁ Bd hx hby hml hZ hown hnm X0 e0 => ?_)
 have N0 := Fr.nil n0
 refine Go.step (S' := s₁.setTop (mkF m 23 #[iv 0, iv 1, iv 1, rv f] [(.int 0)])) (fun t k => ?_) ?_
 · refine XS.iloadN X0.here hx rfl (hb hby d28_0) rfl ?_
   refine XS.ifNo X0.here hx rfl (hb hby d28_1) rfl ((if0 _ _).trans (flt ((by decide) : ¬ ((0 : Int32) < (0 : Int32)))).1) ?_
   refine XS.iloadN X0.here hx rfl (hb hby d28_4) rfl ?_
   refine XS.iloadN X0.here hx rfl (hb hby d28_5) rfl ?_
   refine XS.icmpNo X0.here hx rfl (hb hby d28_6) rfl (flt ((by decide) : ¬ ((1 : Int32) < (0 : Int32)))).2.2.1 ?_
   refine XS.iloadN X0.here hx rfl (hb hby d28_9) rfl ?_
   show Steps p.tables e below (s₁.setTop (mkF m 10 #[iv 0, iv 1, iv 1, rv f] [(.int 1)])) _
   refine XS.iloadN X0.here hx rfl (hb hby d28_10) rfl ?_
   refine XS.icmpYes X0.here hx rfl (pc0 := 11) (pc' := 22) rfl (hb hby d28_11) rfl (flt ((by decide) : ¬ ((1 : Int32) < (1 : Int32)))).2.2.2 (by decide) (by decide) ?_
   refine XS.iloadN X0.here hx rfl (hb hby d28_22) rfl ?_
   exact k
 exact Go.rt X0 hx Bd (w := (.int 0)) rfl (Or.inl ⟨rfl, Or.inl rfl, _, rfl⟩) (hb hby d28_23) e0 ⟨rfl, N0, rfl⟩
abbrev y_17 : MethodName := ⟨"java/lang/String", "checkBoundsBeginEnd", "(III)V"⟩
theorem d27_0 : decode jdk_42_method_158_code 0 = .ok (.iload_n 0, 1) := by decide +kernel
theorem d27_1 : decode jdk_42_method_158_code 1 = .ok (.iload_n 1, 1) := by decide +kernel
theorem d27_2 : decode jdk_42_method_158_code 2 = .ok (.iload_n 2, 1) := by decide +kernel
theorem d27_3 : decode jdk_42_method_158_code 3 = .ok (.getstatic 1053, 3) := by decide +kernel
theorem d27_6 : decode jdk_42_method_158_code 6 = .ok (.invokestatic 1062, 3) := by decide +kernel
theorem pd__28IIILjava_2futil_2ffunction_2fBiFunction_3b_29I : parseMethodDescriptor "(IIILjava/util/function/BiFunction;)I" = some ⟨[.int, .int, .int, (.object "java/util/function/BiFunction")], some .int⟩ := by decide +kernel
theorem d27_9 : decode jdk_42_method_158_code 9 = .ok (.pop, 1) := by decide +kernel
theorem d27_10 : decode jdk_42_method_158_code 10 = .ok (.return_, 1) := by decide +kernel
abbrev rm_rmBB1 : Room := ({ frames := 1, cells := 0, slots := 0, locals := 15 } : Room)
def Q_rmBB1 (Z : State) (sf : Value) (h0 : Heap) (n0 : Nat) (v : Option Value) (h : Heap) (L : List Loc) : Prop := (v = none) ∧ (Fr n0 L) ∧ (h = h0)
theorem rmBB1 (l : Launch) (Z : State) (a0 : Array Value) (hw : HW a0 Z) (ws : List Jvm.Cond) (sf : Value) (h0 : Heap) (n0 : Nat) (O : Old Z n0 h0) (S_FM : Sa_4 Z sf) (hsf : sf.isRef = true) :
    Mt l Z y_17 jdk_42_method_158_code 3 none ws rm_rmBB1 #[(.int 0), (.int 1), (.int 1)] h0 (Q_rmBB1 Z sf h0 n0) := by
 refine own_met "java/lang/String" (plainFor_of_name pn_java_lang_String) #[iv 0, iv 1, iv 1] (fun m => rfl) (fun p e s m below meth c s₁ Bd hx hby hml hZ hown hnm X0 e0 => ?_)
 have N0 := Fr.nil n0
 rcases ref_cases hsf with hsn | ⟨wf, hsn⟩
 ·skip
  rw [hsn] at S_FM
  refine Go.step (S' := s₁.setTop (mkF m 3 #[iv 0, iv 1, iv 1] [(.int 1), (.int 1), (.int 0)])) (fun t k => ?_) ?_
  · refine XS.iloadN X0.here hx rfl (hb hby d27_0) rfl ?_
    refine XS.iloadN X0.here hx rfl (hb hby d27_1) rfl ?_
    refine XS.iloadN X0.here hx rfl (hb hby d27_2) rfl ?_
    exact k
  refine Go.gS X0 hx hZ hown (host := "") (Or.inl (own_w hw 118 rfl)) Via.refl e0 (S_FM.ext O.2) (hb hby d27_3) (fun T1 X1 e1 => ?_)
  refine Go.cS X1 hx hml hown hZ (own_w hw 120 rfl) (own_w hw 121 rfl) (own_w hw 119 rfl) (own_w hw 122 rfl) (rmFn1 l Z a0 hw []  h0 n0 O ) 0 [] pd__28IIILjava_2futil_2ffunction_2fBiFunction_3b_29I (hb hby d27_6) e1 (fun _ T2 L2 X2 hQ2 => ?_)
  obtain ⟨rfl, Nq2, e2⟩ := hQ2
  have N2 := Fr.app N0 Nq2
  refine Go.step (S' := T2.setTop (mkF m 10 #[iv 0, iv 1, iv 1] [])) (fun t k => ?_) ?_
  · refine XS.pop X2.here hx rfl (hb hby d27_9) rfl rfl ?_
    exact k
  exact Go.rv X2 hx Bd (hb hby d27_10) e2 ⟨rfl, N2, rfl⟩
 ·skip
  rw [hsn] at S_FM
  refine Go.step (S' := s₁.setTop (mkF m 3 #[iv 0, iv 1, iv 1] [(.int 1), (.int 1), (.int 0)])) (fun t k => ?_) ?_
  · refine XS.iloadN X0.here hx rfl (hb hby d27_0) rfl ?_
    refine XS.iloadN X0.here hx rfl (hb hby d27_1) rfl ?_
    refine XS.iloadN X0.here hx rfl (hb hby d27_2) rfl ?_
    exact k
  refine Go.gS X0 hx hZ hown (host := "") (Or.inl (own_w hw 118 rfl)) Via.refl e0 (S_FM.ext O.2) (hb hby d27_3) (fun T3 X3 e3 => ?_)
  refine Go.cS X3 hx hml hown hZ (own_w hw 120 rfl) (own_w hw 121 rfl) (own_w hw 119 rfl) (own_w hw 122 rfl) (rmFr1 l Z a0 hw [] wf h0 n0 O ) 0 [] pd__28IIILjava_2futil_2ffunction_2fBiFunction_3b_29I (hb hby d27_6) e3 (fun _ T4 L4 X4 hQ4 => ?_)
  obtain ⟨rfl, Nq4, e4⟩ := hQ4
  have N4 := Fr.app N0 Nq4
  refine Go.step (S' := T4.setTop (mkF m 10 #[iv 0, iv 1, iv 1] [])) (fun t k => ?_) ?_
  · refine XS.pop X4.here hx rfl (hb hby d27_9) rfl rfl ?_
    exact k
  exact Go.rv X4 hx Bd (hb hby d27_10) e4 ⟨rfl, N4, rfl⟩
abbrev y_18 : MethodName := ⟨"java/lang/StringUTF16", "checkBoundsBeginEnd", "(II[B)V"⟩
theorem d25_0 : decode jdk_52_method_93_code 0 = .ok (.iload_n 0, 1) := by decide +kernel
theorem d25_1 : decode jdk_52_method_93_code 1 = .ok (.iload_n 1, 1) := by decide +kernel
theorem d25_2 : decode jdk_52_method_93_code 2 = .ok (.aload_n 2, 1) := by decide +kernel
theorem d25_3 : decode jdk_52_method_93_code 3 = .ok (.invokestatic 48, 3) := by decide +kernel
theorem pd__28_5bB_29I : parseMethodDescriptor "([B)I" = some ⟨[(.array .byte)], some .int⟩ := by decide +kernel
theorem d25_6 : decode jdk_52_method_93_code 6 = .ok (.invokestatic 241, 3) := by decide +kernel
theorem pd__28III_29V : parseMethodDescriptor "(III)V" = some ⟨[.int, .int, .int], none⟩ := by decide +kernel
theorem d25_9 : decode jdk_52_method_93_code 9 = .ok (.return_, 1) := by decide +kernel
abbrev rm_rmBU1 : Room := ({ frames := 2, cells := 0, slots := 0, locals := 29 } : Room)
def Q_rmBU1 (Z : State) (ub : Addr) (ku : ClassId) (sf : Value) (x0 : Int32) (h0 : Heap) (n0 : Nat) (v : Option Value) (h : Heap) (L : List Loc) : Prop := (v = none) ∧ (Fr n0 L) ∧ (h = h0)
theorem rmBU1 (l : Launch) (Z : State) (a0 : Array Value) (hw : HW a0 Z) (ws : List Jvm.Cond) (ub : Addr) (ku : ClassId) (sf : Value) (x0 : Int32) (h0 : Heap) (n0 : Nat) (O : Old Z n0 h0) (S_FM : Sa_4 Z sf) (V_ub : Arv Z h0 ub ku .byte (2 : Int32) [(.int (own_lo x0)), (.int (own_hi x0))] (.int 0)) (hsf : sf.isRef = true) :
    Mt l Z y_18 jdk_52_method_93_code 3 none ws rm_rmBU1 #[(.int 0), (.int 1), (.ref ub)] h0 (Q_rmBU1 Z ub ku sf x0 h0 n0) := by
 refine own_met "java/lang/StringUTF16" (plainFor_of_name pn_java_lang_StringUTF16) #[iv 0, iv 1, rv ub] (fun m => rfl) (fun p e s m below meth c s₁ Bd hx hby hml hZ hown hnm X0 e0 => ?_)
 have N0 := Fr.nil n0
 refine Go.step (S' := s₁.setTop (mkF m 3 #[iv 0, iv 1, rv ub] [(.ref ub), (.int 1), (.int 0)])) (fun t k => ?_) ?_
 · refine XS.iloadN X0.here hx rfl (hb hby d25_0) rfl ?_
   refine XS.iloadN X0.here hx rfl (hb hby d25_1) rfl ?_
   refine XS.aloadN X0.here hx rfl (hb hby d25_2) rfl rfl ?_
   exact k
 refine Go.cS X0 hx hml hown hZ (own_w hw 112 rfl) (own_w hw 113 rfl) (own_w hw 70 rfl) (own_w hw 114 rfl) (rmUL1 l Z a0 hw [] ub ku x0 h0 n0 O V_ub) 2 [(.int 1), (.int 0)] pd__28_5bB_29I (hb hby d25_3) e0 (fun _ T1 L1 X1 hQ1 => ?_)
 obtain ⟨rfl, Nq1, e1⟩ := hQ1
 have N1 := Fr.app N0 Nq1
 refine Go.cS X1 hx hml hown hZ (own_w hw 115 rfl) (own_w hw 116 rfl) (own_w hw 5 rfl) (own_w hw 117 rfl) (rmBB1 l Z a0 hw [] sf h0 n0 O S_FM hsf) 0 [] pd__28III_29V (hb hby d25_6) e1 (fun _ T2 L2 X2 hQ2 => ?_)
 obtain ⟨rfl, Nq2, e2⟩ := hQ2
 have N2 := Fr.app N1 Nq2
 exact Go.rv X2 hx Bd (hb hby d25_9) e2 ⟨rfl, N2, rfl⟩
abbrev y_19 : MethodName := ⟨"java/lang/StringUTF16", "indexOfCharUnsafe", "([BIII)I"⟩
theorem d29_0 : decode jdk_52_method_48_code 0 = .ok (.iload_n 2, 1) := by decide +kernel
theorem d29_1 : decode jdk_52_method_48_code 1 = .ok (.istore 4, 2) := by decide +kernel
theorem d29_3 : decode jdk_52_method_48_code 3 = .ok (.iload 4, 2) := by decide +kernel
theorem d29_5 : decode jdk_52_method_48_code 5 = .ok (.iload_n 3, 1) := by decide +kernel
theorem d29_6 : decode jdk_52_method_48_code 6 = .ok (.if_icmp .ge 22, 3) := by decide +kernel
theorem d29_9 : decode jdk_52_method_48_code 9 = .ok (.aload_n 0, 1) := by decide +kernel
theorem d29_10 : decode jdk_52_method_48_code 10 = .ok (.iload 4, 2) := by decide +kernel
theorem d29_12 : decode jdk_52_method_48_code 12 = .ok (.invokestatic 71, 3) := by decide +kernel
theorem d29_15 : decode jdk_52_method_48_code 15 = .ok (.iload_n 1, 1) := by decide +kernel
theorem d29_16 : decode jdk_52_method_48_code 16 = .ok (.if_icmp .ne 6, 3) := by decide +kernel
theorem d29_19 : decode jdk_52_method_48_code 19 = .ok (.iload 4, 2) := by decide +kernel
theorem d29_21 : decode jdk_52_method_48_code 21 = .ok (.ireturn, 1) := by decide +kernel
theorem d29_22 : decode jdk_52_method_48_code 22 = .ok (.iinc 4 1, 3) := by decide +kernel
theorem d29_25 : decode jdk_52_method_48_code 25 = .ok (.goto (-22), 3) := by decide +kernel
theorem d29_28 : decode jdk_52_method_48_code 28 = .ok (.iconst (-1), 1) := by decide +kernel
theorem d29_29 : decode jdk_52_method_48_code 29 = .ok (.ireturn, 1) := by decide +kernel
abbrev rm_rmIU1 : Room := ({ frames := 1, cells := 0, slots := 0, locals := 13 } : Room)
def Q_rmIU1 (Z : State) (ub : Addr) (ku : ClassId) (x0 : Int32) (h0 : Heap) (n0 : Nat) (v : Option Value) (h : Heap) (L : List Loc) : Prop := ∃ r : Int32, (v = some (.int r)) ∧ (Fr n0 L) ∧ (h = h0) ∧ (r < (0 : Int32) ↔ (¬ (x0 = (0 : Int32))))
theorem rmIU1 (l : Launch) (Z : State) (a0 : Array Value) (hw : HW a0 Z) (ws : List Jvm.Cond) (ub : Addr) (ku : ClassId) (x0 : Int32) (h0 : Heap) (n0 : Nat) (O : Old Z n0 h0) (S_AD : Sa_1 Z (.int 1)) (S_HI : Sa_2 Z (.int 0)) (S_LO : Sa_3 Z (.int 8)) (V_ub : Arv Z h0 ub ku .byte (2 : Int32) [(.int (own_lo x0)), (.int (own_hi x0))] (.int 0)) (rax0 : ¬ (x0 < (0 : Int32))) (rbx0 : ¬ ((65535 : Int32) < x0)) :
    Mt l Z y_19 jdk_52_method_48_code 5 (some .int) ws rm_rmIU1 #[(.ref ub), (.int 0), (.int 0), (.int 1)] h0 (Q_rmIU1 Z ub ku x0 h0 n0) := by
 refine own_met "java/lang/StringUTF16" (plainFor_of_name pn_java_lang_StringUTF16) #[rv ub, iv 0, iv 0, iv 1, u_] (fun m => rfl) (fun p e s m below meth c s₁ Bd hx hby hml hZ hown hnm X0 e0 => ?_)
 have N0 := Fr.nil n0
 refine Go.step (S' := s₁.setTop (mkF m 12 #[rv ub, iv 0, iv 0, iv 1, iv 0] [(.int 0), (.ref ub)])) (fun t k => ?_) ?_
 · refine XS.iloadN X0.here hx rfl (hb hby d29_0) rfl ?_
   refine XS.istore X0.here hx rfl (hb hby d29_1) rfl (l' := #[rv ub, iv 0, iv 0, iv 1, iv 0]) rfl ?_
   refine XS.iload X0.here hx rfl (hb hby d29_3) rfl ?_
   refine XS.iloadN X0.here hx rfl (hb hby d29_5) rfl ?_
   refine XS.icmpNo X0.here hx rfl (hb hby d29_6) rfl (tlt ((by decide) : (0 : Int32) < (1 : Int32))).2.1 ?_
   refine XS.aloadN X0.here hx rfl (hb hby d29_9) rfl rfl ?_
   show Steps p.tables e below (s₁.setTop (mkF m 10 #[rv ub, iv 0, iv 0, iv 1, iv 0] [(.ref ub)])) _
   refine XS.iload X0.here hx rfl (hb hby d29_10) rfl ?_
   exact k
 refine Go.cS X0 hx hml hown hZ (own_w hw 97 rfl) (own_w hw 98 rfl) (own_w hw 70 rfl) (own_w hw 99 rfl) (rmGC1_0 l Z a0 hw [] ub ku x0 h0 n0 O S_AD S_HI S_LO V_ub rax0 rbx0) 0 [] pd__28_5bBI_29C (hb hby d29_12) e0 (fun _ T1 L1 X1 hQ1 => ?_)
 obtain ⟨rfl, Nq1, e1⟩ := hQ1
 have N1 := Fr.app N0 Nq1
 refine Go.step (S' := T1.setTop (mkF m 16 #[rv ub, iv 0, iv 0, iv 1, iv 0] [(.int 0), (.int x0)])) (fun t k => ?_) ?_
 · refine XS.iloadN X1.here hx rfl (hb hby d29_15) rfl ?_
   exact k
 by_cases hc16 : x0 = (0 : Int32)
 ·skip
  refine Go.step (S' := T1.setTop (mkF m 21 #[rv ub, iv 0, iv 0, iv 1, iv 0] [(.int 0)])) (fun t k => ?_) ?_
  · refine XS.icmpNo X1.here hx rfl (hb hby d29_16) rfl (teq (hc16 : x0 = (0 : Int32))).2 ?_
    refine XS.iload X1.here hx rfl (hb hby d29_19) rfl ?_
    exact k
  exact Go.rt X1 hx Bd (w := (.int 0)) rfl (Or.inl ⟨rfl, Or.inl rfl, _, rfl⟩) (hb hby d29_21) e1 ⟨(0 : Int32), rfl, N1, rfl, ⟨fun q => absurd q (by decide), fun q => absurd hc16 q⟩⟩
 ·skip
  refine Go.step (S' := T1.setTop (mkF m 29 #[rv ub, iv 0, iv 0, iv 1, iv 1] [(.int (-1))])) (fun t k => ?_) ?_
  · refine XS.icmpYes X1.here hx rfl (pc0 := 16) (pc' := 22) rfl (hb hby d29_16) rfl (feq (hc16 : ¬ (x0 = (0 : Int32)))).2 (by decide) (by decide) ?_
    refine XS.iinc X1.here hx rfl (hb hby d29_22) rfl (l' := #[rv ub, iv 0, iv 0, iv 1, iv 1]) rfl ?_
    refine XS.goto X1.here hx rfl (pc0 := 25) (pc' := 3) rfl (hb hby d29_25) (by decide) (by decide) ?_
    refine XS.iload X1.here hx rfl (hb hby d29_3) rfl ?_
    refine XS.iloadN X1.here hx rfl (hb hby d29_5) rfl ?_
    refine XS.icmpYes X1.here hx rfl (pc0 := 6) (pc' := 28) rfl (hb hby d29_6) rfl (flt ((by decide) : ¬ ((1 : Int32) < (1 : Int32)))).2.1 (by decide) (by decide) ?_
    show Steps p.tables e below (T1.setTop (mkF m 28 #[rv ub, iv 0, iv 0, iv 1, iv 1] [])) _
    refine XS.iconst X1.here hx rfl (hb hby d29_28) ?_
    exact k
  exact Go.rt X1 hx Bd (w := (.int (-1))) rfl (Or.inl ⟨rfl, Or.inl rfl, _, rfl⟩) (hb hby d29_29) e1 ⟨(-1 : Int32), rfl, N1, rfl, ⟨fun _ => hc16, fun _ => by decide⟩⟩
abbrev y_20 : MethodName := ⟨"java/lang/StringUTF16", "indexOfChar", "([BIII)I"⟩
theorem d24_0 : decode jdk_52_method_47_code 0 = .ok (.iload_n 2, 1) := by decide +kernel
theorem d24_1 : decode jdk_52_method_47_code 1 = .ok (.iload_n 3, 1) := by decide +kernel
theorem d24_2 : decode jdk_52_method_47_code 2 = .ok (.aload_n 0, 1) := by decide +kernel
theorem d24_3 : decode jdk_52_method_47_code 3 = .ok (.invokestatic 96, 3) := by decide +kernel
theorem pd__28II_5bB_29V : parseMethodDescriptor "(II[B)V" = some ⟨[.int, .int, (.array .byte)], none⟩ := by decide +kernel
theorem d24_6 : decode jdk_52_method_47_code 6 = .ok (.aload_n 0, 1) := by decide +kernel
theorem d24_7 : decode jdk_52_method_47_code 7 = .ok (.iload_n 1, 1) := by decide +kernel
theorem d24_8 : decode jdk_52_method_47_code 8 = .ok (.iload_n 2, 1) := by decide +kernel
theorem d24_9 : decode jdk_52_method_47_code 9 = .ok (.iload_n 3, 1) := by decide +kernel
theorem d24_10 : decode jdk_52_method_47_code 10 = .ok (.invokestatic 244, 3) := by decide +kernel
theorem pd__28_5bBIII_29I : parseMethodDescriptor "([BIII)I" = some ⟨[(.array .byte), .int, .int, .int], some .int⟩ := by decide +kernel
theorem d24_13 : decode jdk_52_method_47_code 13 = .ok (.ireturn, 1) := by decide +kernel
abbrev rm_rmIC1 : Room := ({ frames := 3, cells := 0, slots := 0, locals := 43 } : Room)
def Q_rmIC1 (Z : State) (ub : Addr) (ku : ClassId) (sf : Value) (x0 : Int32) (h0 : Heap) (n0 : Nat) (v : Option Value) (h : Heap) (L : List Loc) : Prop := ∃ r : Int32, (v = some (.int r)) ∧ (Fr n0 L) ∧ (h = h0) ∧ (r < (0 : Int32) ↔ (¬ (x0 = (0 : Int32))))
theorem rmIC1 (l : Launch) (Z : State) (a0 : Array Value) (hw : HW a0 Z) (ws : List Jvm.Cond) (ub : Addr) (ku : ClassId) (sf : Value) (x0 : Int32) (h0 : Heap) (n0 : Nat) (O : Old Z n0 h0) (S_AD : Sa_1 Z (.int 1)) (S_HI : Sa_2 Z (.int 0)) (S_LO : Sa_3 Z (.int 8)) (V_ub : Arv Z h0 ub ku .byte (2 : Int32) [(.int (own_lo x0)), (.int (own_hi x0))] (.int 0)) (S_FM : Sa_4 Z sf) (hsf : sf.isRef = true) (rax0 : ¬ (x0 < (0 : Int32))) (rbx0 : ¬ ((65535 : Int32) < x0)) :
    Mt l Z y_20 jdk_52_method_47_code 4 (some .int) ws rm_rmIC1 #[(.ref ub), (.int 0), (.int 0), (.int 1)] h0 (Q_rmIC1 Z ub ku sf x0 h0 n0) := by
 refine own_met "java/lang/StringUTF16" (plainFor_of_name pn_java_lang_StringUTF16) #[rv ub, iv 0, iv 0, iv 1] (fun m => rfl) (fun p e s m below meth c s₁ Bd hx hby hml hZ hown hnm X0 e0 => ?_)
 have N0 := Fr.nil n0
 refine Go.step (S' := s₁.setTop (mkF m 3 #[rv ub, iv 0, iv 0, iv 1] [(.ref ub), (.int 1), (.int 0)])) (fun t k => ?_) ?_
 · refine XS.iloadN X0.here hx rfl (hb hby d24_0) rfl ?_
   refine XS.iloadN X0.here hx rfl (hb hby d24_1) rfl ?_
   refine XS.aloadN X0.here hx rfl (hb hby d24_2) rfl rfl ?_
   exact k
 refine Go.cS X0 hx hml hown hZ (own_w hw 109 rfl) (own_w hw 110 rfl) (own_w hw 70 rfl) (own_w hw 111 rfl) (rmBU1 l Z a0 hw [] ub ku sf x0 h0 n0 O S_FM V_ub hsf) 0 [] pd__28II_5bB_29V (hb hby d24_3) e0 (fun _ T1 L1 X1 hQ1 => ?_)
 obtain ⟨rfl, Nq1, e1⟩ := hQ1
 have N1 := Fr.app N0 Nq1
 refine Go.step (S' := T1.setTop (mkF m 10 #[rv ub, iv 0, iv 0, iv 1] [(.int 1), (.int 0), (.int 0), (.ref ub)])) (fun t k => ?_) ?_
 · refine XS.aloadN X1.here hx rfl (hb hby d24_6) rfl rfl ?_
   refine XS.iloadN X1.here hx rfl (hb hby d24_7) rfl ?_
   refine XS.iloadN X1.here hx rfl (hb hby d24_8) rfl ?_
   refine XS.iloadN X1.here hx rfl (hb hby d24_9) rfl ?_
   exact k
 refine Go.cS X1 hx hml hown hZ (own_w hw 123 rfl) (own_w hw 124 rfl) (own_w hw 70 rfl) (own_w hw 125 rfl) (rmIU1 l Z a0 hw [] ub ku x0 h0 n0 O S_AD S_HI S_LO V_ub rax0 rbx0) 0 [] pd__28_5bBIII_29I (hb hby d24_10) e1 (fun _ T2 L2 X2 hQ2 => ?_)
 obtain ⟨r_2, rfl, Nq2, e2, kr_2⟩ := hQ2
 have N2 := Fr.app N1 Nq2
 exact Go.rt X2 hx Bd (w := (.int r_2)) rfl (Or.inl ⟨rfl, Or.inl rfl, _, rfl⟩) (hb hby d24_13) e2 ⟨r_2, rfl, N2, rfl, (by assumption)⟩
abbrev y_21 : MethodName := ⟨"java/lang/StringUTF16", "indexOf", "([BIII)I"⟩
theorem d23_0 : decode jdk_52_method_40_code 0 = .ok (.iload_n 2, 1) := by decide +kernel
theorem d23_1 : decode jdk_52_method_40_code 1 = .ok (.iconst 0, 1) := by decide +kernel
theorem d23_2 : decode jdk_52_method_40_code 2 = .ok (.invokestatic 224, 3) := by decide +kernel
theorem pd__28II_29I : parseMethodDescriptor "(II)I" = some ⟨[.int, .int], some .int⟩ := by decide +kernel
theorem d23_5 : decode jdk_52_method_40_code 5 = .ok (.istore_n 2, 1) := by decide +kernel
theorem d23_6 : decode jdk_52_method_40_code 6 = .ok (.iload_n 3, 1) := by decide +kernel
theorem d23_7 : decode jdk_52_method_40_code 7 = .ok (.aload_n 0, 1) := by decide +kernel
theorem d23_8 : decode jdk_52_method_40_code 8 = .ok (.arraylength, 1) := by decide +kernel
theorem d23_9 : decode jdk_52_method_40_code 9 = .ok (.iconst 1, 1) := by decide +kernel
theorem d23_10 : decode jdk_52_method_40_code 10 = .ok (.ishr, 1) := by decide +kernel
theorem d23_11 : decode jdk_52_method_40_code 11 = .ok (.invokestatic 183, 3) := by decide +kernel
theorem d23_14 : decode jdk_52_method_40_code 14 = .ok (.istore_n 3, 1) := by decide +kernel
theorem d23_15 : decode jdk_52_method_40_code 15 = .ok (.iload_n 2, 1) := by decide +kernel
theorem d23_16 : decode jdk_52_method_40_code 16 = .ok (.iload_n 3, 1) := by decide +kernel
theorem d23_17 : decode jdk_52_method_40_code 17 = .ok (.if_icmp .lt 5, 3) := by decide +kernel
theorem d23_22 : decode jdk_52_method_40_code 22 = .ok (.iload_n 1, 1) := by decide +kernel
theorem d23_23 : decode jdk_52_method_40_code 23 = .ok (.ldc 227, 2) := by decide +kernel
theorem d23_25 : decode jdk_52_method_40_code 25 = .ok (.if_icmp .ge 11, 3) := by decide +kernel
theorem d23_28 : decode jdk_52_method_40_code 28 = .ok (.aload_n 0, 1) := by decide +kernel
theorem d23_29 : decode jdk_52_method_40_code 29 = .ok (.iload_n 1, 1) := by decide +kernel
theorem d23_30 : decode jdk_52_method_40_code 30 = .ok (.iload_n 2, 1) := by decide +kernel
theorem d23_31 : decode jdk_52_method_40_code 31 = .ok (.iload_n 3, 1) := by decide +kernel
theorem d23_32 : decode jdk_52_method_40_code 32 = .ok (.invokestatic 228, 3) := by decide +kernel
theorem d23_35 : decode jdk_52_method_40_code 35 = .ok (.ireturn, 1) := by decide +kernel
abbrev rm_rmIX1 : Room := ({ frames := 4, cells := 0, slots := 0, locals := 58 } : Room)
def Q_rmIX1 (Z : State) (ub : Addr) (ku : ClassId) (sf : Value) (x0 : Int32) (h0 : Heap) (n0 : Nat) (v : Option Value) (h : Heap) (L : List Loc) : Prop := ∃ r : Int32, (v = some (.int r)) ∧ (Fr n0 L) ∧ (h = h0) ∧ (r < (0 : Int32) ↔ (¬ (x0 = (0 : Int32))))
theorem rmIX1 (l : Launch) (Z : State) (a0 : Array Value) (hw : HW a0 Z) (ws : List Jvm.Cond) (ub : Addr) (ku : ClassId) (sf : Value) (x0 : Int32) (h0 : Heap) (n0 : Nat) (O : Old Z n0 h0) (S_AD : Sa_1 Z (.int 1)) (S_HI : Sa_2 Z (.int 0)) (S_LO : Sa_3 Z (.int 8)) (V_ub : Arv Z h0 ub ku .byte (2 : Int32) [(.int (own_lo x0)), (.int (own_hi x0))] (.int 0)) (S_FM : Sa_4 Z sf) (hsf : sf.isRef = true) (rax0 : ¬ (x0 < (0 : Int32))) (rbx0 : ¬ ((65535 : Int32) < x0)) :
    Mt l Z y_21 jdk_52_method_40_code 4 (some .int) ws rm_rmIX1 #[(.ref ub), (.int 0), (.int 0), (.int 1)] h0 (Q_rmIX1 Z ub ku sf x0 h0 n0) := by
 refine own_met "java/lang/StringUTF16" (plainFor_of_name pn_java_lang_StringUTF16) #[rv ub, iv 0, iv 0, iv 1] (fun m => rfl) (fun p e s m below meth c s₁ Bd hx hby hml hZ hown hnm X0 e0 => ?_)
 have N0 := Fr.nil n0
 refine Go.step (S' := s₁.setTop (mkF m 2 #[rv ub, iv 0, iv 0, iv 1] [(.int 0), (.int 0)])) (fun t k => ?_) ?_
 · refine XS.iloadN X0.here hx rfl (hb hby d23_0) rfl ?_
   refine XS.iconst X0.here hx rfl (hb hby d23_1) ?_
   exact k
 refine Go.cS X0 hx hml hown hZ (own_w hw 103 rfl) (own_w hw 62 rfl) (own_w hw 63 rfl) (own_w hw 64 rfl) (rmMxA l Z a0 hw [] (0 : Int32) (0 : Int32) h0 n0 O (by decide)) 0 [] pd__28II_29I (hb hby d23_2) e0 (fun _ T1 L1 X1 hQ1 => ?_)
 obtain ⟨rfl, Nq1, e1⟩ := hQ1
 have N1 := Fr.app N0 Nq1
 refine Go.step (S' := T1.setTop (mkF m 8 #[rv ub, iv 0, iv 0, iv 1] [(.ref ub), (.int 1)])) (fun t k => ?_) ?_
 · refine XS.istoreN X1.here hx rfl (hb hby d23_5) rfl (l' := #[rv ub, iv 0, iv 0, iv 1]) rfl ?_
   refine XS.iloadN X1.here hx rfl (hb hby d23_6) rfl ?_
   refine XS.aloadN X1.here hx rfl (hb hby d23_7) rfl rfl ?_
   exact k
 refine Go.len X1 hx hZ e1 V_ub (hb hby d23_8) ?_
 refine Go.step (S' := T1.setTop (mkF m 11 #[rv ub, iv 0, iv 0, iv 1] [(.int 1), (.int 1)])) (fun t k => ?_) ?_
 · refine XS.iconst X1.here hx rfl (hb hby d23_9) ?_
   refine XS.ishr X1.here hx rfl (hb hby d23_10) rfl ?_
   exact k
 refine Go.cS X1 hx hml hown hZ (own_w hw 104 rfl) (own_w hw 66 rfl) (own_w hw 63 rfl) (own_w hw 67 rfl) (rmMnA l Z a0 hw [] (1 : Int32) (1 : Int32) h0 n0 O (by decide)) 0 [] pd__28II_29I (hb hby d23_11) e1 (fun _ T2 L2 X2 hQ2 => ?_)
 obtain ⟨rfl, Nq2, e2⟩ := hQ2
 have N2 := Fr.app N1 Nq2
 refine Go.step (S' := T2.setTop (mkF m 32 #[rv ub, iv 0, iv 0, iv 1] [(.int 1), (.int 0), (.int 0), (.ref ub)])) (fun t k => ?_) ?_
 · refine XS.istoreN X2.here hx rfl (hb hby d23_14) rfl (l' := #[rv ub, iv 0, iv 0, iv 1]) rfl ?_
   refine XS.iloadN X2.here hx rfl (hb hby d23_15) rfl ?_
   refine XS.iloadN X2.here hx rfl (hb hby d23_16) rfl ?_
   refine XS.icmpYes X2.here hx rfl (pc0 := 17) (pc' := 22) rfl (hb hby d23_17) rfl (tlt ((by decide) : (0 : Int32) < (1 : Int32))).1 (by decide) (by decide) ?_
   refine XS.iloadN X2.here hx rfl (hb hby d23_22) rfl ?_
   refine X2.ldcInt hx hown (mvT hZ (own_w hw 105 rfl)) (g := (mkF m 23 #[rv ub, iv 0, iv 0, iv 1] [(.int 0)])) rfl (hb hby d23_23) _ ?_
   show Steps p.tables e below (T2.setTop (mkF m 25 #[rv ub, iv 0, iv 0, iv 1] [(.int 65536), (.int 0)])) _
   refine XS.icmpNo X2.here hx rfl (hb hby d23_25) rfl (tlt ((by decide) : (0 : Int32) < (65536 : Int32))).2.1 ?_
   refine XS.aloadN X2.here hx rfl (hb hby d23_28) rfl rfl ?_
   refine XS.iloadN X2.here hx rfl (hb hby d23_29) rfl ?_
   refine XS.iloadN X2.here hx rfl (hb hby d23_30) rfl ?_
   refine XS.iloadN X2.here hx rfl (hb hby d23_31) rfl ?_
   exact k
 refine Go.cS X2 hx hml hown hZ (own_w hw 106 rfl) (own_w hw 107 rfl) (own_w hw 70 rfl) (own_w hw 108 rfl) (rmIC1 l Z a0 hw [] ub ku sf x0 h0 n0 O S_AD S_HI S_LO V_ub S_FM hsf rax0 rbx0) 0 [] pd__28_5bBIII_29I (hb hby d23_32) e2 (fun _ T3 L3 X3 hQ3 => ?_)
 obtain ⟨r_3, rfl, Nq3, e3, kr_3⟩ := hQ3
 have N3 := Fr.app N2 Nq3
 exact Go.rt X3 hx Bd (w := (.int r_3)) rfl (Or.inl ⟨rfl, Or.inl rfl, _, rfl⟩) (hb hby d23_35) e3 ⟨r_3, rfl, N3, rfl, (by assumption)⟩
abbrev rm_rmNL2 : Room := ({ frames := 0, cells := 0, slots := 0, locals := 0 } : Room)
def Q_rmNL2 (Z : State)  (h0 : Heap) (n0 : Nat) (v : Option Value) (h : Heap) (L : List Loc) : Prop := (v = some (.int 4)) ∧ (Fr n0 L) ∧ (h = h0)
theorem rmNL2 (l : Launch) (Z : State) (a0 : Array Value) (hw : HW a0 Z) (ws : List Jvm.Cond)  (h0 : Heap) (n0 : Nat) (O : Old Z n0 h0) :
    Mt l Z y_10 jdk_52_method_3_code 1 (some .int) ws rm_rmNL2 #[(.int 2)] h0 (Q_rmNL2 Z  h0 n0) := by
 refine own_met "java/lang/StringUTF16" (plainFor_of_name pn_java_lang_StringUTF16) #[iv 2] (fun m => rfl) (fun p e s m below meth c s₁ Bd hx hby hml hZ hown hnm X0 e0 => ?_)
 have N0 := Fr.nil n0
 refine Go.step (S' := s₁.setTop (mkF m 58 #[iv 2] [(.int 4)])) (fun t k => ?_) ?_
 · refine XS.iloadN X0.here hx rfl (hb hby d20_0) rfl ?_
   refine XS.ifYes X0.here hx rfl (pc0 := 1) (pc' := 12) rfl (hb hby d20_1) rfl ((if0 _ _).trans (flt ((by decide) : ¬ ((2 : Int32) < (0 : Int32)))).2.1) (by decide) (by decide) ?_
   refine XS.iloadN X0.here hx rfl (hb hby d20_12) rfl ?_
   refine X0.ldcInt hx hown (mvT hZ (own_w hw 90 rfl)) (g := (mkF m 13 #[iv 2] [(.int 2)])) rfl (hb hby d20_13) _ ?_
   refine XS.icmpYes X0.here hx rfl (pc0 := 15) (pc' := 55) rfl (hb hby d20_15) rfl (tlt ((by decide) : (2 : Int32) < (1073741823 : Int32))).1 (by decide) (by decide) ?_
   refine XS.iloadN X0.here hx rfl (hb hby d20_55) rfl ?_
   show Steps p.tables e below (s₁.setTop (mkF m 56 #[iv 2] [(.int 2)])) _
   refine XS.iconst X0.here hx rfl (hb hby d20_56) ?_
   refine XS.ishl X0.here hx rfl (hb hby d20_57) rfl ?_
   exact k
 exact Go.rt X0 hx Bd (w := (.int 4)) rfl (Or.inl ⟨rfl, Or.inl rfl, _, rfl⟩) (hb hby d20_58) e0 ⟨rfl, N0, rfl⟩
abbrev rm_rmNB2 : Room := ({ frames := 1, cells := 1, slots := 4, locals := 12 } : Room)
def Q_rmNB2 (Z : State)  (h0 : Heap) (n0 : Nat) (v : Option Value) (h : Heap) (L : List Loc) : Prop := ∃ b : Addr, ∃ kb : ClassId, (v = some (.ref b)) ∧ (Fr n0 L) ∧ (Keep h0 h []) ∧ (Arv Z h b kb .byte (4 : Int32) [(.int 0), (.int 0), (.int 0), (.int 0)] (.int 0)) ∧ (n0 ≤ b) ∧ (h0.size ≤ b)
theorem rmNB2 (l : Launch) (Z : State) (a0 : Array Value) (hw : HW a0 Z) (ws : List Jvm.Cond)  (h0 : Heap) (n0 : Nat) (O : Old Z n0 h0) :
    Mt l Z y_11 jdk_52_method_2_code 1 (some (.array .byte)) ws rm_rmNB2 #[(.int 2)] h0 (Q_rmNB2 Z  h0 n0) := by
 refine own_met "java/lang/StringUTF16" (plainFor_of_name pn_java_lang_StringUTF16) #[iv 2] (fun m => rfl) (fun p e s m below meth c s₁ Bd hx hby hml hZ hown hnm X0 e0 => ?_)
 have N0 := Fr.nil n0
 have K := Keep.refl h0 []
 refine Go.step (S' := s₁.setTop (mkF m 1 #[iv 2] [(.int 2)])) (fun t k => ?_) ?_
 · refine XS.iloadN X0.here hx rfl (hb hby d19_0) rfl ?_
   exact k
 refine Go.cS X0 hx hml hown hZ (own_w hw 87 rfl) (own_w hw 88 rfl) (own_w hw 70 rfl) (own_w hw 89 rfl) (rmNL2 l Z a0 hw []  h0 n0 O ) 0 [] pd__28I_29I (hb hby d19_1) e0 (fun _ T1 L1 X1 hQ1 => ?_)
 obtain ⟨rfl, Nq1, e1⟩ := hQ1
 have N1 := Fr.app N0 Nq1
 obtain ⟨T2, h2, k2, X2, e2, E2, A2, st2⟩ := newP X1 hx hZ (own_w hw 17 rfl) e1 (g := (mkF m 4 #[iv 2] [(.int 4)])) rfl (hb hby d19_4) rfl (by decide) (cap := 4) (by decide) (by decide) (by decide) (by decide)
 obtain ⟨b2, g2⟩ : ∃ z, z = Array.size h0 := ⟨_, rfl⟩
 have g_b2 : n0 ≤ b2 := Nat.le_trans (old_le O) (Nat.le_of_eq g2.symm)
 have sz_b2 : h0.size ≤ b2 := Nat.le_trans K.1 (Nat.le_of_eq g2.symm)
 rw [← g2] at A2 st2
 have O := O.ext E2
 have K := K.ext E2
 have V_b2 : Arv Z h2 b2 k2 .byte (4 : Int32) [(.int 0), (.int 0), (.int 0), (.int 0)] (.int 0) := (Arv.new A2 (by decide)).pad (pad_rep [] (.int 0) 4)
 refine Go.step st2 ?_
 exact Go.rt X2 hx Bd (w := (.ref b2)) rfl (Or.inr (Or.inr (Or.inr (Or.inr ⟨rfl, rfl, rfl⟩)))) (hb hby d19_6) e2 ⟨b2, k2, rfl, N1, K, V_b2, g_b2, sz_b2⟩
abbrev rm_rmPC2_0 : Room := ({ frames := 0, cells := 0, slots := 0, locals := 0 } : Room)
def Q_rmPC2_0 (Z : State) (ub : Addr) (x0 : Int32) (ku : ClassId) (h0 : Heap) (n0 : Nat) (v : Option Value) (h : Heap) (L : List Loc) : Prop := (v = none) ∧ (Fr n0 L) ∧ (Keep h0 h [ub]) ∧ (Arv Z h ub ku .byte (4 : Int32) [(.int (own_lo x0)), (.int (own_hi x0)), (.int 0), (.int 0)] (.int 0))
theorem rmPC2_0 (l : Launch) (Z : State) (a0 : Array Value) (hw : HW a0 Z) (ws : List Jvm.Cond) (ub : Addr) (x0 : Int32) (ku : ClassId) (h0 : Heap) (n0 : Nat) (O : Old Z n0 h0) (S_AD : Sa_1 Z (.int 1)) (S_HI : Sa_2 Z (.int 0)) (S_LO : Sa_3 Z (.int 8)) (V_ub : Arv Z h0 ub ku .byte (4 : Int32) [(.int 0), (.int 0), (.int 0), (.int 0)] (.int 0)) (g_ub : n0 ≤ ub) :
    Mt l Z y_12 jdk_52_method_4_code 3 none ws rm_rmPC2_0 #[(.ref ub), (.int 0), (.int x0)] h0 (Q_rmPC2_0 Z ub x0 ku h0 n0) := by
 refine own_met "java/lang/StringUTF16" (plainFor_of_name pn_java_lang_StringUTF16) #[rv ub, iv 0, iv x0] (fun m => rfl) (fun p e s m below meth c s₁ Bd hx hby hml hZ hown hnm X0 e0 => ?_)
 have N0 := Fr.nil n0
 have K := Keep.refl h0 [ub]
 refine Go.gS X0 hx hZ hown (host := "") (Or.inl (own_w hw 94 rfl)) Via.refl e0 (S_AD.ext O.2) (hb hby d21_0) (fun T1 X1 e1 => ?_)
 refine Go.step (S' := T1.setTop (mkF m 38 #[rv ub, iv 1, iv x0] [(.int x0), (.int 0), (.ref ub)])) (fun t k => ?_) ?_
 · refine XS.ifYes X1.here hx rfl (pc0 := 3) (pc' := 28) rfl (hb hby d21_3) rfl ((if0 _ _).trans (feq ((by decide) : ¬ ((1 : Int32) = (0 : Int32)))).2) (by decide) (by decide) ?_
   refine XS.iloadN X1.here hx rfl (hb hby d21_28) rfl ?_
   refine XS.iconst X1.here hx rfl (hb hby d21_29) ?_
   refine XS.ishl X1.here hx rfl (hb hby d21_30) rfl ?_
   refine XS.istoreN X1.here hx rfl (hb hby d21_31) rfl (l' := #[rv ub, iv 0, iv x0]) rfl ?_
   refine XS.aloadN X1.here hx rfl (hb hby d21_32) rfl rfl ?_
   show Steps p.tables e below (T1.setTop (mkF m 33 #[rv ub, iv 0, iv x0] [(.ref ub)])) _
   refine XS.iloadN X1.here hx rfl (hb hby d21_33) rfl ?_
   refine XS.iinc X1.here hx rfl (hb hby d21_34) rfl (l' := #[rv ub, iv 1, iv x0]) rfl ?_
   refine XS.iloadN X1.here hx rfl (hb hby d21_37) rfl ?_
   exact k
 refine Go.gS X1 hx hZ hown (host := "") (Or.inl (own_w hw 95 rfl)) Via.refl e1 (S_HI.ext O.2) (hb hby d21_38) (fun T2 X2 e2 => ?_)
 refine Go.step (S' := T2.setTop (mkF m 43 #[rv ub, iv 1, iv x0] [(.int ((x0 >>> ((0 : Int32) &&& 31)).toInt8.toInt32)), (.int 0), (.ref ub)])) (fun t k => ?_) ?_
 · refine XS.ishr X2.here hx rfl (hb hby d21_41) rfl ?_
   refine XS.i2b X2.here hx rfl (hb hby d21_42) rfl ?_
   exact k
 obtain ⟨cl3, Ar3, q3, S3, N3_, H3, G3⟩ := V_ub
 have hin3 : ¬ ((0 : Int32) < 0 ∨ cl3.slots.size ≤ ((0 : Int32)).toNatClampNeg) := inb_of S3 ⟨by decide, by decide⟩
 obtain ⟨T3, h3, X3, e3, W3, st3⟩ := stB X2 hx hZ e2 Ar3 (j := (0 : Int32)) hin3 (g := (mkF m 43 #[rv ub, iv 1, iv x0] [(.int ((x0 >>> ((0 : Int32) &&& 31)).toInt8.toInt32)), (.int 0), (.ref ub)])) rfl rfl (hb hby d21_43)
 have O := O.wr W3 g_ub
 have K := K.wr W3 (Or.inl (List.mem_of_getElem? (i := 0) rfl))
 have V_ub : Arv Z h3 ub ku .byte (4 : Int32) [(.int (((x0 >>> ((0 : Int32) &&& 31)).toInt8.toInt32).toInt8.toInt32)), (.int 0), (.int 0), (.int 0)] (.int 0) := Arv.set Ar3 q3 S3 N3_ H3 G3 (fits_nar_byte _) W3 0 rfl (Nat.le_of_ble_eq_true rfl)
 rw [(own_b2 _ : (((x0 >>> ((0 : Int32) &&& 31)).toInt8.toInt32).toInt8.toInt32) = (own_lo x0))] at V_ub
 have N3 := Fr.snoc X3 N0 g_ub
 refine Go.step st3 ?_
 refine Go.step (S' := T3.setTop (mkF m 47 #[rv ub, iv 1, iv x0] [(.int x0), (.int 1), (.ref ub)])) (fun t k => ?_) ?_
 · refine XS.aloadN X3.here hx rfl (hb hby d21_44) rfl rfl ?_
   refine XS.iloadN X3.here hx rfl (hb hby d21_45) rfl ?_
   refine XS.iloadN X3.here hx rfl (hb hby d21_46) rfl ?_
   exact k
 refine Go.gS X3 hx hZ hown (host := "") (Or.inl (own_w hw 96 rfl)) Via.refl e3 (S_LO.ext O.2) (hb hby d21_47) (fun T4 X4 e4 => ?_)
 refine Go.step (S' := T4.setTop (mkF m 52 #[rv ub, iv 1, iv x0] [(.int ((x0 >>> ((8 : Int32) &&& 31)).toInt8.toInt32)), (.int 1), (.ref ub)])) (fun t k => ?_) ?_
 · refine XS.ishr X4.here hx rfl (hb hby d21_50) rfl ?_
   refine XS.i2b X4.here hx rfl (hb hby d21_51) rfl ?_
   exact k
 obtain ⟨cl5, Ar5, q5, S5, N5_, H5, G5⟩ := V_ub
 have hin5 : ¬ ((1 : Int32) < 0 ∨ cl5.slots.size ≤ ((1 : Int32)).toNatClampNeg) := inb_of S5 ⟨by decide, by decide⟩
 obtain ⟨T5, h5, X5, e5, W5, st5⟩ := stB X4 hx hZ e4 Ar5 (j := (1 : Int32)) hin5 (g := (mkF m 52 #[rv ub, iv 1, iv x0] [(.int ((x0 >>> ((8 : Int32) &&& 31)).toInt8.toInt32)), (.int 1), (.ref ub)])) rfl rfl (hb hby d21_52)
 have O := O.wr W5 g_ub
 have K := K.wr W5 (Or.inl (List.mem_of_getElem? (i := 0) rfl))
 have V_ub : Arv Z h5 ub ku .byte (4 : Int32) [(.int (own_lo x0)), (.int (((x0 >>> ((8 : Int32) &&& 31)).toInt8.toInt32).toInt8.toInt32)), (.int 0), (.int 0)] (.int 0) := Arv.set Ar5 q5 S5 N5_ H5 G5 (fits_nar_byte _) W5 1 rfl (Nat.le_of_ble_eq_true rfl)
 rw [(own_b2 _ : (((x0 >>> ((8 : Int32) &&& 31)).toInt8.toInt32).toInt8.toInt32) = (own_hi x0))] at V_ub
 have N5 := Fr.snoc X5 N3 g_ub
 refine Go.step st5 ?_
 exact Go.rv X5 hx Bd (hb hby d21_53) e5 ⟨rfl, N5, K, V_ub⟩
abbrev rm_rmGC2_0 : Room := ({ frames := 0, cells := 0, slots := 0, locals := 0 } : Room)
def Q_rmGC2_0 (Z : State) (ub : Addr) (ku : ClassId) (x0 : Int32) (x1 : Int32) (h0 : Heap) (n0 : Nat) (v : Option Value) (h : Heap) (L : List Loc) : Prop := (v = some (.int x0)) ∧ (Fr n0 L) ∧ (h = h0)
theorem rmGC2_0 (l : Launch) (Z : State) (a0 : Array Value) (hw : HW a0 Z) (ws : List Jvm.Cond) (ub : Addr) (ku : ClassId) (x0 : Int32) (x1 : Int32) (h0 : Heap) (n0 : Nat) (O : Old Z n0 h0) (S_AD : Sa_1 Z (.int 1)) (S_HI : Sa_2 Z (.int 0)) (S_LO : Sa_3 Z (.int 8)) (V_ub : Arv Z h0 ub ku .byte (4 : Int32) [(.int (own_lo x0)), (.int (own_hi x0)), (.int (own_lo x1)), (.int (own_hi x1))] (.int 0)) (rax0 : ¬ (x0 < (0 : Int32))) (rbx0 : ¬ ((65535 : Int32) < x0)) :
    Mt l Z y_13 jdk_52_method_5_code 2 (some .char) ws rm_rmGC2_0 #[(.ref ub), (.int 0)] h0 (Q_rmGC2_0 Z ub ku x0 x1 h0 n0) := by
 refine own_met "java/lang/StringUTF16" (plainFor_of_name pn_java_lang_StringUTF16) #[rv ub, iv 0] (fun m => rfl) (fun p e s m below meth c s₁ Bd hx hby hml hZ hown hnm X0 e0 => ?_)
 have N0 := Fr.nil n0
 refine Go.gS X0 hx hZ hown (host := "") (Or.inl (own_w hw 94 rfl)) Via.refl e0 (S_AD.ext O.2) (hb hby d22_0) (fun T1 X1 e1 => ?_)
 refine Go.step (S' := T1.setTop (mkF m 37 #[rv ub, iv 1] [(.int 0), (.ref ub)])) (fun t k => ?_) ?_
 · refine XS.ifYes X1.here hx rfl (pc0 := 3) (pc' := 28) rfl (hb hby d22_3) rfl ((if0 _ _).trans (feq ((by decide) : ¬ ((1 : Int32) = (0 : Int32)))).2) (by decide) (by decide) ?_
   refine XS.iloadN X1.here hx rfl (hb hby d22_28) rfl ?_
   refine XS.iconst X1.here hx rfl (hb hby d22_29) ?_
   refine XS.ishl X1.here hx rfl (hb hby d22_30) rfl ?_
   refine XS.istoreN X1.here hx rfl (hb hby d22_31) rfl (l' := #[rv ub, iv 0]) rfl ?_
   refine XS.aloadN X1.here hx rfl (hb hby d22_32) rfl rfl ?_
   show Steps p.tables e below (T1.setTop (mkF m 33 #[rv ub, iv 0] [(.ref ub)])) _
   refine XS.iloadN X1.here hx rfl (hb hby d22_33) rfl ?_
   refine XS.iinc X1.here hx rfl (hb hby d22_34) rfl (l' := #[rv ub, iv 1]) rfl ?_
   exact k
 refine Go.bal X1 hx hZ e1 V_ub (hb hby d22_37) (v := (.int (own_lo x0))) rfl ?_
 refine Go.step (S' := T1.setTop (mkF m 42 #[rv ub, iv 1] [(.int ((own_lo x0) &&& (255 : Int32)))])) (fun t k => ?_) ?_
 · refine XS.sipush X1.here hx rfl (hb hby d22_38) ?_
   refine XS.iand X1.here hx rfl (hb hby d22_41) rfl ?_
   exact k
 refine Go.gS X1 hx hZ hown (host := "") (Or.inl (own_w hw 95 rfl)) Via.refl e1 (S_HI.ext O.2) (hb hby d22_42) (fun T3 X3 e3 => ?_)
 refine Go.step (S' := T3.setTop (mkF m 48 #[rv ub, iv 1] [(.int 1), (.ref ub), (.int (((own_lo x0) &&& (255 : Int32)) <<< ((0 : Int32) &&& 31)))])) (fun t k => ?_) ?_
 · refine XS.ishl X3.here hx rfl (hb hby d22_45) rfl ?_
   refine XS.aloadN X3.here hx rfl (hb hby d22_46) rfl rfl ?_
   refine XS.iloadN X3.here hx rfl (hb hby d22_47) rfl ?_
   exact k
 refine Go.bal X3 hx hZ e3 V_ub (hb hby d22_48) (v := (.int (own_hi x0))) rfl ?_
 refine Go.step (S' := T3.setTop (mkF m 53 #[rv ub, iv 1] [(.int ((own_hi x0) &&& (255 : Int32))), (.int (((own_lo x0) &&& (255 : Int32)) <<< ((0 : Int32) &&& 31)))])) (fun t k => ?_) ?_
 · refine XS.sipush X3.here hx rfl (hb hby d22_49) ?_
   refine XS.iand X3.here hx rfl (hb hby d22_52) rfl ?_
   exact k
 refine Go.gS X3 hx hZ hown (host := "") (Or.inl (own_w hw 96 rfl)) Via.refl e3 (S_LO.ext O.2) (hb hby d22_53) (fun T5 X5 e5 => ?_)
 refine Go.step (S' := T5.setTop (mkF m 59 #[rv ub, iv 1] [(.int (((((own_lo x0) &&& (255 : Int32)) <<< ((0 : Int32) &&& 31)) ||| (((own_hi x0) &&& (255 : Int32)) <<< ((8 : Int32) &&& 31))).toUInt32.toUInt16.toUInt32.toInt32))])) (fun t k => ?_) ?_
 · refine XS.ishl X5.here hx rfl (hb hby d22_56) rfl ?_
   refine XS.ior X5.here hx rfl (hb hby d22_57) rfl ?_
   refine XS.i2c X5.here hx rfl (hb hby d22_58) rfl ?_
   exact k
 exact Go.rt X5 hx Bd (w := (.int (((((own_lo x0) &&& (255 : Int32)) <<< ((0 : Int32) &&& 31)) ||| (((own_hi x0) &&& (255 : Int32)) <<< ((8 : Int32) &&& 31))).toUInt32.toUInt16.toUInt32.toInt32))) (Jvm.Free.XT.narrow_c _) (Or.inl ⟨rfl, Or.inr (Or.inr (Or.inr (Or.inl rfl))), _, rfl⟩) (hb hby d22_59) e5 ⟨(congrArg (fun z => some (Value.int z)) (own_gc rax0 rbx0)), N0, rfl⟩
abbrev rm_rmPC2_1 : Room := ({ frames := 0, cells := 0, slots := 0, locals := 0 } : Room)
def Q_rmPC2_1 (Z : State) (ub : Addr) (x1 : Int32) (ku : ClassId) (x0 : Int32) (h0 : Heap) (n0 : Nat) (v : Option Value) (h : Heap) (L : List Loc) : Prop := (v = none) ∧ (Fr n0 L) ∧ (Keep h0 h [ub]) ∧ (Arv Z h ub ku .byte (4 : Int32) [(.int (own_lo x0)), (.int (own_hi x0)), (.int (own_lo x1)), (.int (own_hi x1))] (.int 0))
theorem rmPC2_1 (l : Launch) (Z : State) (a0 : Array Value) (hw : HW a0 Z) (ws : List Jvm.Cond) (ub : Addr) (x1 : Int32) (ku : ClassId) (x0 : Int32) (h0 : Heap) (n0 : Nat) (O : Old Z n0 h0) (S_AD : Sa_1 Z (.int 1)) (S_HI : Sa_2 Z (.int 0)) (S_LO : Sa_3 Z (.int 8)) (V_ub : Arv Z h0 ub ku .byte (4 : Int32) [(.int (own_lo x0)), (.int (own_hi x0)), (.int 0), (.int 0)] (.int 0)) (g_ub : n0 ≤ ub) :
    Mt l Z y_12 jdk_52_method_4_code 3 none ws rm_rmPC2_1 #[(.ref ub), (.int 1), (.int x1)] h0 (Q_rmPC2_1 Z ub x1 ku x0 h0 n0) := by
 refine own_met "java/lang/StringUTF16" (plainFor_of_name pn_java_lang_StringUTF16) #[rv ub, iv 1, iv x1] (fun m => rfl) (fun p e s m below meth c s₁ Bd hx hby hml hZ hown hnm X0 e0 => ?_)
 have N0 := Fr.nil n0
 have K := Keep.refl h0 [ub]
 refine Go.gS X0 hx hZ hown (host := "") (Or.inl (own_w hw 94 rfl)) Via.refl e0 (S_AD.ext O.2) (hb hby d21_0) (fun T1 X1 e1 => ?_)
 refine Go.step (S' := T1.setTop (mkF m 38 #[rv ub, iv 3, iv x1] [(.int x1), (.int 2), (.ref ub)])) (fun t k => ?_) ?_
 · refine XS.ifYes X1.here hx rfl (pc0 := 3) (pc' := 28) rfl (hb hby d21_3) rfl ((if0 _ _).trans (feq ((by decide) : ¬ ((1 : Int32) = (0 : Int32)))).2) (by decide) (by decide) ?_
   refine XS.iloadN X1.here hx rfl (hb hby d21_28) rfl ?_
   refine XS.iconst X1.here hx rfl (hb hby d21_29) ?_
   refine XS.ishl X1.here hx rfl (hb hby d21_30) rfl ?_
   refine XS.istoreN X1.here hx rfl (hb hby d21_31) rfl (l' := #[rv ub, iv 2, iv x1]) rfl ?_
   refine XS.aloadN X1.here hx rfl (hb hby d21_32) rfl rfl ?_
   show Steps p.tables e below (T1.setTop (mkF m 33 #[rv ub, iv 2, iv x1] [(.ref ub)])) _
   refine XS.iloadN X1.here hx rfl (hb hby d21_33) rfl ?_
   refine XS.iinc X1.here hx rfl (hb hby d21_34) rfl (l' := #[rv ub, iv 3, iv x1]) rfl ?_
   refine XS.iloadN X1.here hx rfl (hb hby d21_37) rfl ?_
   exact k
 refine Go.gS X1 hx hZ hown (host := "") (Or.inl (own_w hw 95 rfl)) Via.refl e1 (S_HI.ext O.2) (hb hby d21_38) (fun T2 X2 e2 => ?_)
 refine Go.step (S' := T2.setTop (mkF m 43 #[rv ub, iv 3, iv x1] [(.int ((x1 >>> ((0 : Int32) &&& 31)).toInt8.toInt32)), (.int 2), (.ref ub)])) (fun t k => ?_) ?_
 · refine XS.ishr X2.here hx rfl (hb hby d21_41) rfl ?_
   refine XS.i2b X2.here hx rfl (hb hby d21_42) rfl ?_
   exact k
 obtain ⟨cl3, Ar3, q3, S3, N3_, H3, G3⟩ := V_ub
 have hin3 : ¬ ((2 : Int32) < 0 ∨ cl3.slots.size ≤ ((2 : Int32)).toNatClampNeg) := inb_of S3 ⟨by decide, by decide⟩
 obtain ⟨T3, h3, X3, e3, W3, st3⟩ := stB X2 hx hZ e2 Ar3 (j := (2 : Int32)) hin3 (g := (mkF m 43 #[rv ub, iv 3, iv x1] [(.int ((x1 >>> ((0 : Int32) &&& 31)).toInt8.toInt32)), (.int 2), (.ref ub)])) rfl rfl (hb hby d21_43)
 have O := O.wr W3 g_ub
 have K := K.wr W3 (Or.inl (List.mem_of_getElem? (i := 0) rfl))
 have V_ub : Arv Z h3 ub ku .byte (4 : Int32) [(.int (own_lo x0)), (.int (own_hi x0)), (.int (((x1 >>> ((0 : Int32) &&& 31)).toInt8.toInt32).toInt8.toInt32)), (.int 0)] (.int 0) := Arv.set Ar3 q3 S3 N3_ H3 G3 (fits_nar_byte _) W3 2 rfl (Nat.le_of_ble_eq_true rfl)
 rw [(own_b2 _ : (((x1 >>> ((0 : Int32) &&& 31)).toInt8.toInt32).toInt8.toInt32) = (own_lo x1))] at V_ub
 have N3 := Fr.snoc X3 N0 g_ub
 refine Go.step st3 ?_
 refine Go.step (S' := T3.setTop (mkF m 47 #[rv ub, iv 3, iv x1] [(.int x1), (.int 3), (.ref ub)])) (fun t k => ?_) ?_
 · refine XS.aloadN X3.here hx rfl (hb hby d21_44) rfl rfl ?_
   refine XS.iloadN X3.here hx rfl (hb hby d21_45) rfl ?_
   refine XS.iloadN X3.here hx rfl (hb hby d21_46) rfl ?_
   exact k
 refine Go.gS X3 hx hZ hown (host := "") (Or.inl (own_w hw 96 rfl)) Via.refl e3 (S_LO.ext O.2) (hb hby d21_47) (fun T4 X4 e4 => ?_)
 refine Go.step (S' := T4.setTop (mkF m 52 #[rv ub, iv 3, iv x1] [(.int ((x1 >>> ((8 : Int32) &&& 31)).toInt8.toInt32)), (.int 3), (.ref ub)])) (fun t k => ?_) ?_
 · refine XS.ishr X4.here hx rfl (hb hby d21_50) rfl ?_
   refine XS.i2b X4.here hx rfl (hb hby d21_51) rfl ?_
   exact k
 obtain ⟨cl5, Ar5, q5, S5, N5_, H5, G5⟩ := V_ub
 have hin5 : ¬ ((3 : Int32) < 0 ∨ cl5.slots.size ≤ ((3 : Int32)).toNatClampNeg) := inb_of S5 ⟨by decide, by decide⟩
 obtain ⟨T5, h5, X5, e5, W5, st5⟩ := stB X4 hx hZ e4 Ar5 (j := (3 : Int32)) hin5 (g := (mkF m 52 #[rv ub, iv 3, iv x1] [(.int ((x1 >>> ((8 : Int32) &&& 31)).toInt8.toInt32)), (.int 3), (.ref ub)])) rfl rfl (hb hby d21_52)
 have O := O.wr W5 g_ub
 have K := K.wr W5 (Or.inl (List.mem_of_getElem? (i := 0) rfl))
 have V_ub : Arv Z h5 ub ku .byte (4 : Int32) [(.int (own_lo x0)), (.int (own_hi x0)), (.int (own_lo x1)), (.int (((x1 >>> ((8 : Int32) &&& 31)).toInt8.toInt32).toInt8.toInt32))] (.int 0) := Arv.set Ar5 q5 S5 N5_ H5 G5 (fits_nar_byte _) W5 3 rfl (Nat.le_of_ble_eq_true rfl)
 rw [(own_b2 _ : (((x1 >>> ((8 : Int32) &&& 31)).toInt8.toInt32).toInt8.toInt32) = (own_hi x1))] at V_ub
 have N5 := Fr.snoc X5 N3 g_ub
 refine Go.step st5 ?_
 exact Go.rv X5 hx Bd (hb hby d21_53) e5 ⟨rfl, N5, K, V_ub⟩
abbrev rm_rmGC2_1 : Room := ({ frames := 0, cells := 0, slots := 0, locals := 0 } : Room)
def Q_rmGC2_1 (Z : State) (ub : Addr) (ku : ClassId) (x0 : Int32) (x1 : Int32) (h0 : Heap) (n0 : Nat) (v : Option Value) (h : Heap) (L : List Loc) : Prop := (v = some (.int x1)) ∧ (Fr n0 L) ∧ (h = h0)
theorem rmGC2_1 (l : Launch) (Z : State) (a0 : Array Value) (hw : HW a0 Z) (ws : List Jvm.Cond) (ub : Addr) (ku : ClassId) (x0 : Int32) (x1 : Int32) (h0 : Heap) (n0 : Nat) (O : Old Z n0 h0) (S_AD : Sa_1 Z (.int 1)) (S_HI : Sa_2 Z (.int 0)) (S_LO : Sa_3 Z (.int 8)) (V_ub : Arv Z h0 ub ku .byte (4 : Int32) [(.int (own_lo x0)), (.int (own_hi x0)), (.int (own_lo x1)), (.int (own_hi x1))] (.int 0)) (rax1 : ¬ (x1 < (0 : Int32))) (rbx1 : ¬ ((65535 : Int32) < x1)) :
    Mt l Z y_13 jdk_52_method_5_code 2 (some .char) ws rm_rmGC2_1 #[(.ref ub), (.int 1)] h0 (Q_rmGC2_1 Z ub ku x0 x1 h0 n0) := by
 refine own_met "java/lang/StringUTF16" (plainFor_of_name pn_java_lang_StringUTF16) #[rv ub, iv 1] (fun m => rfl) (fun p e s m below meth c s₁ Bd hx hby hml hZ hown hnm X0 e0 => ?_)
 have N0 := Fr.nil n0
 refine Go.gS X0 hx hZ hown (host := "") (Or.inl (own_w hw 94 rfl)) Via.refl e0 (S_AD.ext O.2) (hb hby d22_0) (fun T1 X1 e1 => ?_)
 refine Go.step (S' := T1.setTop (mkF m 37 #[rv ub, iv 3] [(.int 2), (.ref ub)])) (fun t k => ?_) ?_
 · refine XS.ifYes X1.here hx rfl (pc0 := 3) (pc' := 28) rfl (hb hby d22_3) rfl ((if0 _ _).trans (feq ((by decide) : ¬ ((1 : Int32) = (0 : Int32)))).2) (by decide) (by decide) ?_
   refine XS.iloadN X1.here hx rfl (hb hby d22_28) rfl ?_
   refine XS.iconst X1.here hx rfl (hb hby d22_29) ?_
   refine XS.ishl X1.here hx rfl (hb hby d22_30) rfl ?_
   refine XS.istoreN X1.here hx rfl (hb hby d22_31) rfl (l' := #[rv ub, iv 2]) rfl ?_
   refine XS.aloadN X1.here hx rfl (hb hby d22_32) rfl rfl ?_
   show Steps p.tables e below (T1.setTop (mkF m 33 #[rv ub, iv 2] [(.ref ub)])) _
   refine XS.iloadN X1.here hx rfl (hb hby d22_33) rfl ?_
   refine XS.iinc X1.here hx rfl (hb hby d22_34) rfl (l' := #[rv ub, iv 3]) rfl ?_
   exact k
 refine Go.bal X1 hx hZ e1 V_ub (hb hby d22_37) (v := (.int (own_lo x1))) rfl ?_
 refine Go.step (S' := T1.setTop (mkF m 42 #[rv ub, iv 3] [(.int ((own_lo x1) &&& (255 : Int32)))])) (fun t k => ?_) ?_
 · refine XS.sipush X1.here hx rfl (hb hby d22_38) ?_
   refine XS.iand X1.here hx rfl (hb hby d22_41) rfl ?_
   exact k
 refine Go.gS X1 hx hZ hown (host := "") (Or.inl (own_w hw 95 rfl)) Via.refl e1 (S_HI.ext O.2) (hb hby d22_42) (fun T3 X3 e3 => ?_)
 refine Go.step (S' := T3.setTop (mkF m 48 #[rv ub, iv 3] [(.int 3), (.ref ub), (.int (((own_lo x1) &&& (255 : Int32)) <<< ((0 : Int32) &&& 31)))])) (fun t k => ?_) ?_
 · refine XS.ishl X3.here hx rfl (hb hby d22_45) rfl ?_
   refine XS.aloadN X3.here hx rfl (hb hby d22_46) rfl rfl ?_
   refine XS.iloadN X3.here hx rfl (hb hby d22_47) rfl ?_
   exact k
 refine Go.bal X3 hx hZ e3 V_ub (hb hby d22_48) (v := (.int (own_hi x1))) rfl ?_
 refine Go.step (S' := T3.setTop (mkF m 53 #[rv ub, iv 3] [(.int ((own_hi x1) &&& (255 : Int32))), (.int (((own_lo x1) &&& (255 : Int32)) <<< ((0 : Int32) &&& 31)))])) (fun t k => ?_) ?_
 · refine XS.sipush X3.here hx rfl (hb hby d22_49) ?_
   refine XS.iand X3.here hx rfl (hb hby d22_52) rfl ?_
   exact k
 refine Go.gS X3 hx hZ hown (host := "") (Or.inl (own_w hw 96 rfl)) Via.refl e3 (S_LO.ext O.2) (hb hby d22_53) (fun T5 X5 e5 => ?_)
 refine Go.step (S' := T5.setTop (mkF m 59 #[rv ub, iv 3] [(.int (((((own_lo x1) &&& (255 : Int32)) <<< ((0 : Int32) &&& 31)) ||| (((own_hi x1) &&& (255 : Int32)) <<< ((8 : Int32) &&& 31))).toUInt32.toUInt16.toUInt32.toInt32))])) (fun t k => ?_) ?_
 · refine XS.ishl X5.here hx rfl (hb hby d22_56) rfl ?_
   refine XS.ior X5.here hx rfl (hb hby d22_57) rfl ?_
   refine XS.i2c X5.here hx rfl (hb hby d22_58) rfl ?_
   exact k
 exact Go.rt X5 hx Bd (w := (.int (((((own_lo x1) &&& (255 : Int32)) <<< ((0 : Int32) &&& 31)) ||| (((own_hi x1) &&& (255 : Int32)) <<< ((8 : Int32) &&& 31))).toUInt32.toUInt16.toUInt32.toInt32))) (Jvm.Free.XT.narrow_c _) (Or.inl ⟨rfl, Or.inr (Or.inr (Or.inr (Or.inl rfl))), _, rfl⟩) (hb hby d22_59) e5 ⟨(congrArg (fun z => some (Value.int z)) (own_gc rax1 rbx1)), N0, rfl⟩
abbrev rm_rmTo2 : Room := ({ frames := 2, cells := 1, slots := 4, locals := 24 } : Room)
def Q_rmTo2 (Z : State) (vc : Addr) (kc : ClassId) (x0 : Int32) (x1 : Int32) (h0 : Heap) (n0 : Nat) (v : Option Value) (h : Heap) (L : List Loc) : Prop := ∃ b : Addr, ∃ kb : ClassId, (v = some (.ref b)) ∧ (Fr n0 L) ∧ (Keep h0 h []) ∧ (Arv Z h b kb .byte (4 : Int32) [(.int (own_lo x0)), (.int (own_hi x0)), (.int (own_lo x1)), (.int (own_hi x1))] (.int 0))
theorem rmTo2 (l : Launch) (Z : State) (a0 : Array Value) (hw : HW a0 Z) (ws : List Jvm.Cond) (vc : Addr) (kc : ClassId) (x0 : Int32) (x1 : Int32) (h0 : Heap) (n0 : Nat) (O : Old Z n0 h0) (S_AD : Sa_1 Z (.int 1)) (S_HI : Sa_2 Z (.int 0)) (S_LO : Sa_3 Z (.int 8)) (V_vc : Arv Z h0 vc kc .char (2 : Int32) [(.int x0), (.int x1)] (.int 0)) :
    Mt l Z y_14 jdk_52_method_14_code 5 (some (.array .byte)) ws rm_rmTo2 #[(.ref vc), (.int 0), (.int 2)] h0 (Q_rmTo2 Z vc kc x0 x1 h0 n0) := by
 refine own_met "java/lang/StringUTF16" (plainFor_of_name pn_java_lang_StringUTF16) #[rv vc, iv 0, iv 2, u_, u_] (fun m => rfl) (fun p e s m below meth c s₁ Bd hx hby hml hZ hown hnm X0 e0 => ?_)
 have N0 := Fr.nil n0
 have K := Keep.refl h0 []
 refine Go.step (S' := s₁.setTop (mkF m 1 #[rv vc, iv 0, iv 2, u_, u_] [(.int 2)])) (fun t k => ?_) ?_
 · refine XS.iloadN X0.here hx rfl (hb hby d18_0) rfl ?_
   exact k
 refine Go.cS X0 hx hml hown hZ (own_w hw 84 rfl) (own_w hw 85 rfl) (own_w hw 70 rfl) (own_w hw 86 rfl) (rmNB2 l Z a0 hw []  h0 n0 O ) 0 [] pd__28I_29_5bB (hb hby d18_1) e0 (fun _ T1 L1 X1 hQ1 => ?_)
 obtain ⟨b_1, kb_1, rfl, Nq1, K1, P1_V, gb_1, sb_1⟩ := hQ1
 have N1 := Fr.app N0 Nq1
 have sz_b_1 : h0.size ≤ b_1 := Nat.le_trans K.1 sb_1
 have ne_vc_b_1 : vc ≠ b_1 := Nat.ne_of_lt (Nat.lt_of_lt_of_le V_vc.lt sb_1)
 have O := O.keep K1 all0
 have V_vc := V_vc.keep K1 nin0
 have K := K.trans K1 all0
 have V_1 := P1_V
 have g_b_1 := gb_1
 refine Go.step (S' := T1.setTop (mkF m 19 #[rv vc, iv 0, iv 2, rv b_1, iv 0] [(.int 0), (.ref vc), (.int 0), (.ref b_1)])) (fun t k => ?_) ?_
 · refine XS.astoreN X1.here hx rfl (hb hby d18_4) rfl rfl (l' := #[rv vc, iv 0, iv 2, rv b_1, u_]) rfl ?_
   refine XS.iconst X1.here hx rfl (hb hby d18_5) ?_
   refine XS.istore X1.here hx rfl (hb hby d18_6) rfl (l' := #[rv vc, iv 0, iv 2, rv b_1, iv 0]) rfl ?_
   refine XS.iload X1.here hx rfl (hb hby d18_8) rfl ?_
   refine XS.iloadN X1.here hx rfl (hb hby d18_10) rfl ?_
   refine XS.icmpNo X1.here hx rfl (hb hby d18_11) rfl (tlt ((by decide) : (0 : Int32) < (2 : Int32))).2.1 ?_
   show Steps p.tables e below (T1.setTop (mkF m 14 #[rv vc, iv 0, iv 2, rv b_1, iv 0] [])) _
   refine XS.aloadN X1.here hx rfl (hb hby d18_14) rfl rfl ?_
   refine XS.iload X1.here hx rfl (hb hby d18_15) rfl ?_
   refine XS.aloadN X1.here hx rfl (hb hby d18_17) rfl rfl ?_
   refine XS.iloadN X1.here hx rfl (hb hby d18_18) rfl ?_
   exact k
 refine Go.cal X1 hx hZ (Eq.refl T1.heap) V_vc (hb hby d18_19) (v := (.int x0)) rfl ?_
 refine Go.cS X1 hx hml hown hZ (own_w hw 91 rfl) (own_w hw 92 rfl) (own_w hw 70 rfl) (own_w hw 93 rfl) (rmPC2_0 l Z a0 hw [] b_1 x0 kb_1 T1.heap n0 O S_AD S_HI S_LO V_1 gb_1) 0 [] pd__28_5bBII_29V (hb hby d18_20) (Eq.refl T1.heap) (fun _ T3 L3 X3 hQ3 => ?_)
 obtain ⟨rfl, Nq3, K3, P3_V⟩ := hQ3
 have N3 := Fr.app N1 Nq3
 have O := O.keep K3 (allS g_b_1 all0)
 have V_vc := V_vc.keep K3 (ninS ne_vc_b_1 nin0)
 have K := K.trans K3 (allS (Or.inr sz_b_1) all0)
 have V_3 := P3_V
 refine Go.step (S' := T3.setTop (mkF m 19 #[rv vc, iv 1, iv 2, rv b_1, iv 1] [(.int 1), (.ref vc), (.int 1), (.ref b_1)])) (fun t k => ?_) ?_
 · refine XS.iinc X3.here hx rfl (hb hby d18_23) rfl (l' := #[rv vc, iv 1, iv 2, rv b_1, iv 0]) rfl ?_
   refine XS.iinc X3.here hx rfl (hb hby d18_26) rfl (l' := #[rv vc, iv 1, iv 2, rv b_1, iv 1]) rfl ?_
   refine XS.goto X3.here hx rfl (pc0 := 29) (pc' := 8) rfl (hb hby d18_29) (by decide) (by decide) ?_
   refine XS.iload X3.here hx rfl (hb hby d18_8) rfl ?_
   refine XS.iloadN X3.here hx rfl (hb hby d18_10) rfl ?_
   refine XS.icmpNo X3.here hx rfl (hb hby d18_11) rfl (tlt ((by decide) : (1 : Int32) < (2 : Int32))).2.1 ?_
   show Steps p.tables e below (T3.setTop (mkF m 14 #[rv vc, iv 1, iv 2, rv b_1, iv 1] [])) _
   refine XS.aloadN X3.here hx rfl (hb hby d18_14) rfl rfl ?_
   refine XS.iload X3.here hx rfl (hb hby d18_15) rfl ?_
   refine XS.aloadN X3.here hx rfl (hb hby d18_17) rfl rfl ?_
   refine XS.iloadN X3.here hx rfl (hb hby d18_18) rfl ?_
   exact k
 refine Go.cal X3 hx hZ (Eq.refl T3.heap) V_vc (hb hby d18_19) (v := (.int x1)) rfl ?_
 refine Go.cS X3 hx hml hown hZ (own_w hw 91 rfl) (own_w hw 92 rfl) (own_w hw 70 rfl) (own_w hw 93 rfl) (rmPC2_1 l Z a0 hw [] b_1 x1 kb_1 x0 T3.heap n0 O S_AD S_HI S_LO V_3 gb_1) 0 [] pd__28_5bBII_29V (hb hby d18_20) (Eq.refl T3.heap) (fun _ T5 L5 X5 hQ5 => ?_)
 obtain ⟨rfl, Nq5, K5, P5_V⟩ := hQ5
 have N5 := Fr.app N3 Nq5
 have O := O.keep K5 (allS g_b_1 all0)
 have V_vc := V_vc.keep K5 (ninS ne_vc_b_1 nin0)
 have K := K.trans K5 (allS (Or.inr sz_b_1) all0)
 have V_5 := P5_V
 refine Go.step (S' := T5.setTop (mkF m 33 #[rv vc, iv 2, iv 2, rv b_1, iv 2] [(.ref b_1)])) (fun t k => ?_) ?_
 · refine XS.iinc X5.here hx rfl (hb hby d18_23) rfl (l' := #[rv vc, iv 2, iv 2, rv b_1, iv 1]) rfl ?_
   refine XS.iinc X5.here hx rfl (hb hby d18_26) rfl (l' := #[rv vc, iv 2, iv 2, rv b_1, iv 2]) rfl ?_
   refine XS.goto X5.here hx rfl (pc0 := 29) (pc' := 8) rfl (hb hby d18_29) (by decide) (by decide) ?_
   refine XS.iload X5.here hx rfl (hb hby d18_8) rfl ?_
   refine XS.iloadN X5.here hx rfl (hb hby d18_10) rfl ?_
   refine XS.icmpYes X5.here hx rfl (pc0 := 11) (pc' := 32) rfl (hb hby d18_11) rfl (flt ((by decide) : ¬ ((2 : Int32) < (2 : Int32)))).2.1 (by decide) (by decide) ?_
   show Steps p.tables e below (T5.setTop (mkF m 32 #[rv vc, iv 2, iv 2, rv b_1, iv 2] [])) _
   refine XS.aloadN X5.here hx rfl (hb hby d18_32) rfl rfl ?_
   exact k
 exact Go.rt X5 hx Bd (w := (.ref b_1)) rfl (Or.inr (Or.inr (Or.inr (Or.inr ⟨rfl, rfl, rfl⟩)))) (hb hby d18_33) (Eq.refl T5.heap) ⟨b_1, kb_1, rfl, N5, K, V_5⟩
abbrev rm_rmCfu2 : Room := ({ frames := 0, cells := 0, slots := 0, locals := 0 } : Room)
def Q_rmCfu2 (Z : State) (tb : Addr) (kb : ClassId) (x0 : Int32) (x1 : Int32) (h0 : Heap) (n0 : Nat) (v : Option Value) (h : Heap) (L : List Loc) : Prop := (v = some (.int 1)) ∧ (Fr n0 L) ∧ (h = h0)
theorem rmCfu2 (l : Launch) (Z : State) (a0 : Array Value) (hw : HW a0 Z) (ws : List Jvm.Cond) (tb : Addr) (kb : ClassId) (x0 : Int32) (x1 : Int32) (h0 : Heap) (n0 : Nat) (O : Old Z n0 h0) (V_t : Arv Z h0 tb kb .byte (4 : Int32) [(.int (own_lo x0)), (.int (own_hi x0)), (.int (own_lo x1)), (.int (own_hi x1))] (.int 0)) :
    Mt l Z y_2 jdk_52_method_15_code 2 (some .byte) ws rm_rmCfu2 #[(.ref tb), (.int 2)] h0 (Q_rmCfu2 Z tb kb x0 x1 h0 n0) := by
 refine own_met "java/lang/StringUTF16" (plainFor_of_name pn_java_lang_StringUTF16) #[rv tb, iv 2] (fun m => rfl) (fun p e s m below meth c s₁ Bd hx hby hml hZ hown hnm X0 e0 => ?_)
 have N0 := Fr.nil n0
 refine Go.step (S' := s₁.setTop (mkF m 2 #[rv tb, iv 2] [(.ref tb), (.int 2)])) (fun t k => ?_) ?_
 · refine XS.iloadN X0.here hx rfl (hb hby d16_0) rfl ?_
   refine XS.aloadN X0.here hx rfl (hb hby d16_1) rfl rfl ?_
   exact k
 refine Go.len X0 hx hZ e0 V_t (hb hby d16_2) ?_
 refine Go.step (S' := s₁.setTop (mkF m 8 #[rv tb, iv 2] [(.int 1)])) (fun t k => ?_) ?_
 · refine XS.isub X0.here hx rfl (hb hby d16_3) rfl ?_
   refine XS.bipush X0.here hx rfl (hb hby d16_4) ?_
   refine XS.iushr X0.here hx rfl (hb hby d16_6) rfl ?_
   refine XS.i2b X0.here hx rfl (hb hby d16_7) rfl ?_
   exact k
 exact Go.rt X0 hx Bd (w := (.int 1)) (by decide) (Or.inl ⟨rfl, Or.inr (Or.inr (Or.inl rfl)), _, rfl⟩) (hb hby d16_8) e0 ⟨rfl, N0, rfl⟩
abbrev rm_rmClU2 : Room := ({ frames := 0, cells := 0, slots := 0, locals := 0 } : Room)
def Q_rmClU2 (Z : State) (vc : Addr) (db : Addr) (kc : ClassId) (kb : ClassId) (x0 : Int32) (x1 : Int32) (h0 : Heap) (n0 : Nat) (v : Option Value) (h : Heap) (L : List Loc) : Prop := ∃ r : Int32, (v = some (.int r)) ∧ (Fr n0 L) ∧ (Keep h0 h [db]) ∧ (¬ (r = (2 : Int32))) ∧ ((r = (0 : Int32) ∧ (255 : Int32) < x0) ∨ (r = (1 : Int32) ∧ (255 : Int32) < x1))
theorem rmClU2 (l : Launch) (Z : State) (a0 : Array Value) (hw : HW a0 Z) (ws : List Jvm.Cond) (vc : Addr) (db : Addr) (kc : ClassId) (kb : ClassId) (x0 : Int32) (x1 : Int32) (h0 : Heap) (n0 : Nat) (O : Old Z n0 h0) (V_vc : Arv Z h0 vc kc .char (2 : Int32) [(.int x0), (.int x1)] (.int 0)) (V_db : Arv Z h0 db kb .byte (2 : Int32) [(.int 0), (.int 0)] (.int 0)) (g_db : n0 ≤ db) (ne_vc_db : vc ≠ db) (hu : ((255 : Int32) < x0) ∨ ((255 : Int32) < x1)) :
    Mt l Z y_0 jdk_52_method_21_code 7 (some .int) ws rm_rmClU2 #[(.ref vc), (.int 0), (.ref db), (.int 0), (.int 2)] h0 (Q_rmClU2 Z vc db kc kb x0 x1 h0 n0) := by
 refine own_met "java/lang/StringUTF16" (plainFor_of_name pn_java_lang_StringUTF16) #[rv vc, iv 0, rv db, iv 0, iv 2, u_, u_] (fun m => rfl) (fun p e s m below meth c s₁ Bd hx hby hml hZ hown hnm X0 e0 => ?_)
 have N0 := Fr.nil n0
 have K := Keep.refl h0 [db]
 refine Go.step (S' := s₁.setTop (mkF m 12 #[rv vc, iv 0, rv db, iv 0, iv 2, iv 0, u_] [(.int 0), (.ref vc)])) (fun t k => ?_) ?_
 · refine XS.iconst X0.here hx rfl (hb hby d15_0) ?_
   refine XS.istore X0.here hx rfl (hb hby d15_1) rfl (l' := #[rv vc, iv 0, rv db, iv 0, iv 2, iv 0, u_]) rfl ?_
   refine XS.iload X0.here hx rfl (hb hby d15_3) rfl ?_
   refine XS.iload X0.here hx rfl (hb hby d15_5) rfl ?_
   refine XS.icmpNo X0.here hx rfl (hb hby d15_7) rfl (tlt ((by decide) : (0 : Int32) < (2 : Int32))).2.1 ?_
   refine XS.aloadN X0.here hx rfl (hb hby d15_10) rfl rfl ?_
   show Steps p.tables e below (s₁.setTop (mkF m 11 #[rv vc, iv 0, rv db, iv 0, iv 2, iv 0, u_] [(.ref vc)])) _
   refine XS.iloadN X0.here hx rfl (hb hby d15_11) rfl ?_
   exact k
 refine Go.cal X0 hx hZ e0 V_vc (hb hby d15_12) (v := (.int x0)) rfl ?_
 refine Go.step (S' := s₁.setTop (mkF m 20 #[rv vc, iv 0, rv db, iv 0, iv 2, iv 0, iv x0] [(.int 255), (.int x0)])) (fun t k => ?_) ?_
 · refine XS.istore X0.here hx rfl (hb hby d15_13) rfl (l' := #[rv vc, iv 0, rv db, iv 0, iv 2, iv 0, iv x0]) rfl ?_
   refine XS.iload X0.here hx rfl (hb hby d15_15) rfl ?_
   refine XS.sipush X0.here hx rfl (hb hby d15_17) ?_
   exact k
 by_cases hc20 : (255 : Int32) < x0
 ·skip
  refine Go.step (S' := s₁.setTop (mkF m 25 #[rv vc, iv 0, rv db, iv 0, iv 2, iv 0, iv x0] [(.int 0)])) (fun t k => ?_) ?_
  · refine XS.icmpNo X0.here hx rfl (hb hby d15_20) rfl (tlt (hc20 : (255 : Int32) < x0)).2.2.2 ?_
    refine XS.iload X0.here hx rfl (hb hby d15_23) rfl ?_
    exact k
  exact Go.rt X0 hx Bd (w := (.int 0)) rfl (Or.inl ⟨rfl, Or.inl rfl, _, rfl⟩) (hb hby d15_25) e0 ⟨(0 : Int32), rfl, N0, K, (by decide), (Or.inl ⟨rfl, hc20⟩)⟩
 ·skip
  refine Go.step (S' := s₁.setTop (mkF m 31 #[rv vc, iv 0, rv db, iv 0, iv 2, iv 0, iv x0] [(.int (x0.toInt8.toInt32)), (.int 0), (.ref db)])) (fun t k => ?_) ?_
  · refine XS.icmpYes X0.here hx rfl (pc0 := 20) (pc' := 26) rfl (hb hby d15_20) rfl (flt (hc20 : ¬ ((255 : Int32) < x0))).2.2.2 (by decide) (by decide) ?_
    refine XS.aloadN X0.here hx rfl (hb hby d15_26) rfl rfl ?_
    refine XS.iloadN X0.here hx rfl (hb hby d15_27) rfl ?_
    refine XS.iload X0.here hx rfl (hb hby d15_28) rfl ?_
    refine XS.i2b X0.here hx rfl (hb hby d15_30) rfl ?_
    exact k
  obtain ⟨cl2, Ar2, q2, S2, N2_, H2, G2⟩ := V_db
  have hin2 : ¬ ((0 : Int32) < 0 ∨ cl2.slots.size ≤ ((0 : Int32)).toNatClampNeg) := inb_of S2 ⟨by decide, by decide⟩
  obtain ⟨T2, h2, X2, e2, W2, st2⟩ := stB X0 hx hZ e0 Ar2 (j := (0 : Int32)) hin2 (g := (mkF m 31 #[rv vc, iv 0, rv db, iv 0, iv 2, iv 0, iv x0] [(.int (x0.toInt8.toInt32)), (.int 0), (.ref db)])) rfl rfl (hb hby d15_31)
  have O := O.wr W2 g_db
  have V_vc := V_vc.other W2 ne_vc_db
  have K := K.wr W2 (Or.inl (List.mem_of_getElem? (i := 0) rfl))
  have V_db : Arv Z h2 db kb .byte (2 : Int32) [(.int ((x0.toInt8.toInt32).toInt8.toInt32)), (.int 0)] (.int 0) := Arv.set Ar2 q2 S2 N2_ H2 G2 (fits_nar_byte _) W2 0 rfl (Nat.le_of_ble_eq_true rfl)
  rw [(own_b2 x0 : ((x0.toInt8.toInt32).toInt8.toInt32) = (x0.toInt8.toInt32))] at V_db
  have N2 := Fr.snoc X2 N0 g_db
  refine Go.step st2 ?_
  refine Go.step (S' := T2.setTop (mkF m 12 #[rv vc, iv 1, rv db, iv 1, iv 2, iv 1, iv x0] [(.int 1), (.ref vc)])) (fun t k => ?_) ?_
  · refine XS.iinc X2.here hx rfl (hb hby d15_32) rfl (l' := #[rv vc, iv 1, rv db, iv 0, iv 2, iv 0, iv x0]) rfl ?_
    refine XS.iinc X2.here hx rfl (hb hby d15_35) rfl (l' := #[rv vc, iv 1, rv db, iv 1, iv 2, iv 0, iv x0]) rfl ?_
    refine XS.iinc X2.here hx rfl (hb hby d15_38) rfl (l' := #[rv vc, iv 1, rv db, iv 1, iv 2, iv 1, iv x0]) rfl ?_
    refine XS.goto X2.here hx rfl (pc0 := 41) (pc' := 3) rfl (hb hby d15_41) (by decide) (by decide) ?_
    refine XS.iload X2.here hx rfl (hb hby d15_3) rfl ?_
    refine XS.iload X2.here hx rfl (hb hby d15_5) rfl ?_
    show Steps p.tables e below (T2.setTop (mkF m 7 #[rv vc, iv 1, rv db, iv 1, iv 2, iv 1, iv x0] [(.int 2), (.int 1)])) _
    refine XS.icmpNo X2.here hx rfl (hb hby d15_7) rfl (tlt ((by decide) : (1 : Int32) < (2 : Int32))).2.1 ?_
    refine XS.aloadN X2.here hx rfl (hb hby d15_10) rfl rfl ?_
    refine XS.iloadN X2.here hx rfl (hb hby d15_11) rfl ?_
    exact k
  refine Go.cal X2 hx hZ e2 V_vc (hb hby d15_12) (v := (.int x1)) rfl ?_
  refine Go.step (S' := T2.setTop (mkF m 20 #[rv vc, iv 1, rv db, iv 1, iv 2, iv 1, iv x1] [(.int 255), (.int x1)])) (fun t k => ?_) ?_
  · refine XS.istore X2.here hx rfl (hb hby d15_13) rfl (l' := #[rv vc, iv 1, rv db, iv 1, iv 2, iv 1, iv x1]) rfl ?_
    refine XS.iload X2.here hx rfl (hb hby d15_15) rfl ?_
    refine XS.sipush X2.here hx rfl (hb hby d15_17) ?_
    exact k
  by_cases hc20_1 : (255 : Int32) < x1
  ·skip
   refine Go.step (S' := T2.setTop (mkF m 25 #[rv vc, iv 1, rv db, iv 1, iv 2, iv 1, iv x1] [(.int 1)])) (fun t k => ?_) ?_
   · refine XS.icmpNo X2.here hx rfl (hb hby d15_20) rfl (tlt (hc20_1 : (255 : Int32) < x1)).2.2.2 ?_
     refine XS.iload X2.here hx rfl (hb hby d15_23) rfl ?_
     exact k
   exact Go.rt X2 hx Bd (w := (.int 1)) rfl (Or.inl ⟨rfl, Or.inl rfl, _, rfl⟩) (hb hby d15_25) e2 ⟨(1 : Int32), rfl, N2, K, (by decide), (Or.inr ⟨rfl, hc20_1⟩)⟩
  ·skip
   exact (hu.elim hc20 hc20_1 : False).elim
abbrev rm_rmCmU2 : Room := ({ frames := 3, cells := 2, slots := 6, locals := 40 } : Room)
def Q_rmCmU2 (Z : State) (vc : Addr) (kc : ClassId) (x0 : Int32) (x1 : Int32) (h0 : Heap) (n0 : Nat) (v : Option Value) (h : Heap) (L : List Loc) : Prop := ∃ b : Addr, ∃ kb : ClassId, (v = some (.ref b)) ∧ (Fr n0 L) ∧ (Keep h0 h []) ∧ (Arv Z h b kb .byte (4 : Int32) [(.int (own_lo x0)), (.int (own_hi x0)), (.int (own_lo x1)), (.int (own_hi x1))] (.int 0))
theorem rmCmU2 (l : Launch) (Z : State) (a0 : Array Value) (hw : HW a0 Z) (ws : List Jvm.Cond) (vc : Addr) (kc : ClassId) (x0 : Int32) (x1 : Int32) (h0 : Heap) (n0 : Nat) (O : Old Z n0 h0) (S_AD : Sa_1 Z (.int 1)) (S_HI : Sa_2 Z (.int 0)) (S_LO : Sa_3 Z (.int 8)) (V_vc : Arv Z h0 vc kc .char (2 : Int32) [(.int x0), (.int x1)] (.int 0)) (hu : ((255 : Int32) < x0) ∨ ((255 : Int32) < x1)) (rax0 : ¬ (x0 < (0 : Int32))) (rbx0 : ¬ ((65535 : Int32) < x0)) (rax1 : ¬ (x1 < (0 : Int32))) (rbx1 : ¬ ((65535 : Int32) < x1)) :
    Mt l Z y_1 jdk_52_method_16_code 6 (some (.array .byte)) ws rm_rmCmU2 #[(.ref vc), (.int 0), (.int 2)] h0 (Q_rmCmU2 Z vc kc x0 x1 h0 n0) := by
 refine own_met "java/lang/StringUTF16" (plainFor_of_name pn_java_lang_StringUTF16) #[rv vc, iv 0, iv 2, u_, u_, u_] (fun m => rfl) (fun p e s m below meth c s₁ Bd hx hby hml hZ hown hnm X0 e0 => ?_)
 have N0 := Fr.nil n0
 have K := Keep.refl h0 []
 refine Go.step (S' := s₁.setTop (mkF m 1 #[rv vc, iv 0, iv 2, u_, u_, u_] [(.int 2)])) (fun t k => ?_) ?_
 · refine XS.iloadN X0.here hx rfl (hb hby d14_0) rfl ?_
   exact k
 obtain ⟨T1, h1, k1, X1, e1, E1, A1, st1⟩ := newP X0 hx hZ (own_w hw 17 rfl) e0 (g := (mkF m 1 #[rv vc, iv 0, iv 2, u_, u_, u_] [(.int 2)])) rfl (hb hby d14_1) rfl (by decide) (cap := 2) (by decide) (by decide) (by decide) (by decide)
 obtain ⟨b1, g1⟩ : ∃ z, z = Array.size h0 := ⟨_, rfl⟩
 have g_b1 : n0 ≤ b1 := Nat.le_trans (old_le O) (Nat.le_of_eq g1.symm)
 have sz_b1 : h0.size ≤ b1 := Nat.le_trans K.1 (Nat.le_of_eq g1.symm)
 have ne_vc_b1 : vc ≠ b1 := Nat.ne_of_lt (Nat.lt_of_lt_of_le V_vc.lt (Nat.le_of_eq g1.symm))
 rw [← g1] at A1 st1
 have O := O.ext E1
 have V_vc := V_vc.ext E1
 have K := K.ext E1
 have V_b1 : Arv Z h1 b1 k1 .byte (2 : Int32) [(.int 0), (.int 0)] (.int 0) := (Arv.new A1 (by decide)).pad (pad_rep [] (.int 0) 2)
 refine Go.step st1 ?_
 refine Go.step (S' := T1.setTop (mkF m 9 #[rv vc, iv 0, iv 2, rv b1, u_, u_] [(.int 2), (.int 0), (.ref b1), (.int 0), (.ref vc)])) (fun t k => ?_) ?_
 · refine XS.astoreN X1.here hx rfl (hb hby d14_3) rfl rfl (l' := #[rv vc, iv 0, iv 2, rv b1, u_, u_]) rfl ?_
   refine XS.aloadN X1.here hx rfl (hb hby d14_4) rfl rfl ?_
   refine XS.iloadN X1.here hx rfl (hb hby d14_5) rfl ?_
   refine XS.aloadN X1.here hx rfl (hb hby d14_6) rfl rfl ?_
   refine XS.iconst X1.here hx rfl (hb hby d14_7) ?_
   refine XS.iloadN X1.here hx rfl (hb hby d14_8) rfl ?_
   exact k
 refine Go.cS X1 hx hml hown hZ (own_w hw 72 rfl) (own_w hw 73 rfl) (own_w hw 70 rfl) (own_w hw 74 rfl) (rmClU2 l Z a0 hw [] vc b1 kc k1 x0 x1 h1 n0 O V_vc V_b1 (by assumption) ne_vc_b1 hu) 0 [] pd__28_5bCI_5bBII_29I (hb hby d14_9) e1 (fun _ T2 L2 X2 hQ2 => ?_)
 obtain ⟨r_2, rfl, Nq2, K2, kn_2, kr_2⟩ := hQ2
 have N2 := Fr.app N0 Nq2
 have O := O.keep K2 (allS g_b1 all0)
 have V_vc := V_vc.keep K2 (ninS ne_vc_b1 nin0)
 have K := K.trans K2 (allS (Or.inr sz_b1) all0)
 refine Go.step (S' := T2.setTop (mkF m 23 #[rv vc, iv 0, iv 2, rv b1, iv r_2, u_] [(.int 2), (.int 0), (.ref vc)])) (fun t k => ?_) ?_
 · refine XS.istore X2.here hx rfl (hb hby d14_12) rfl (l' := #[rv vc, iv 0, iv 2, rv b1, iv r_2, u_]) rfl ?_
   refine XS.iload X2.here hx rfl (hb hby d14_14) rfl ?_
   refine XS.iloadN X2.here hx rfl (hb hby d14_16) rfl ?_
   refine XS.icmpNo X2.here hx rfl (hb hby d14_17) rfl (feq (kn_2 : ¬ (r_2 = (2 : Int32)))).1 ?_
   refine XS.aloadN X2.here hx rfl (hb hby d14_20) rfl rfl ?_
   refine XS.iloadN X2.here hx rfl (hb hby d14_21) rfl ?_
   show Steps p.tables e below (T2.setTop (mkF m 22 #[rv vc, iv 0, iv 2, rv b1, iv r_2, u_] [(.int 0), (.ref vc)])) _
   refine XS.iloadN X2.here hx rfl (hb hby d14_22) rfl ?_
   exact k
 refine Go.cS X2 hx hml hown hZ (own_w hw 81 rfl) (own_w hw 82 rfl) (own_w hw 70 rfl) (own_w hw 83 rfl) (rmTo2 l Z a0 hw [] vc kc x0 x1 T2.heap n0 O S_AD S_HI S_LO V_vc) 0 [] pd__28_5bCII_29_5bB (hb hby d14_23) (Eq.refl T2.heap) (fun _ T3 L3 X3 hQ3 => ?_)
 obtain ⟨b_3, kb_3, rfl, Nq3, K3, P3_V⟩ := hQ3
 have N3 := Fr.app N2 Nq3
 have O := O.keep K3 all0
 have V_vc := V_vc.keep K3 nin0
 have K := K.trans K3 all0
 have V_3 := P3_V
 refine Go.step (S' := T3.setTop (mkF m 28 #[rv vc, iv 0, iv 2, rv b1, iv r_2, rv b_3] [])) (fun t k => ?_) ?_
 · refine XS.astore X3.here hx rfl (hb hby d14_26) rfl rfl (l' := #[rv vc, iv 0, iv 2, rv b1, iv r_2, rv b_3]) rfl ?_
   exact k
 rcases kr_2 with ⟨rfl, hf⟩ | ⟨rfl, hf⟩
 ·skip
  refine Go.step (S' := T3.setTop (mkF m 32 #[rv vc, iv 0, iv 2, rv b1, iv 0, rv b_3] [(.int 0), (.ref b_3)])) (fun t k => ?_) ?_
  · refine XS.aload X3.here hx rfl (hb hby d14_28) rfl rfl ?_
    refine XS.iload X3.here hx rfl (hb hby d14_30) rfl ?_
    exact k
  refine Go.cS X3 hx hml hown hZ (own_w hw 97 rfl) (own_w hw 98 rfl) (own_w hw 70 rfl) (own_w hw 99 rfl) (rmGC2_0 l Z a0 hw [] b_3 kb_3 x0 x1 T3.heap n0 O S_AD S_HI S_LO V_3 rax0 rbx0) 0 [] pd__28_5bBI_29C (hb hby d14_32) (Eq.refl T3.heap) (fun _ T4 L4 X4 hQ4 => ?_)
  obtain ⟨rfl, Nq4, e4⟩ := hQ4
  have N4 := Fr.app N3 Nq4
  refine Go.step (S' := T4.setTop (mkF m 56 #[rv vc, iv 0, iv 2, rv b1, iv 0, rv b_3] [(.ref b_3)])) (fun t k => ?_) ?_
  · refine XS.sipush X4.here hx rfl (hb hby d14_35) ?_
    refine XS.icmpYes X4.here hx rfl (pc0 := 38) (pc' := 54) rfl (hb hby d14_38) rfl (tlt (hf : (255 : Int32) < x0)).2.2.1 (by decide) (by decide) ?_
    refine XS.aload X4.here hx rfl (hb hby d14_54) rfl rfl ?_
    exact k
  exact Go.rt X4 hx Bd (w := (.ref b_3)) rfl (Or.inr (Or.inr (Or.inr (Or.inr ⟨rfl, rfl, rfl⟩)))) (hb hby d14_56) e4 ⟨b_3, kb_3, rfl, N4, K, V_3⟩
 ·skip
  refine Go.step (S' := T3.setTop (mkF m 32 #[rv vc, iv 0, iv 2, rv b1, iv 1, rv b_3] [(.int 1), (.ref b_3)])) (fun t k => ?_) ?_
  · refine XS.aload X3.here hx rfl (hb hby d14_28) rfl rfl ?_
    refine XS.iload X3.here hx rfl (hb hby d14_30) rfl ?_
    exact k
  refine Go.cS X3 hx hml hown hZ (own_w hw 97 rfl) (own_w hw 98 rfl) (own_w hw 70 rfl) (own_w hw 99 rfl) (rmGC2_1 l Z a0 hw [] b_3 kb_3 x0 x1 T3.heap n0 O S_AD S_HI S_LO V_3 rax1 rbx1) 0 [] pd__28_5bBI_29C (hb hby d14_32) (Eq.refl T3.heap) (fun _ T5 L5 X5 hQ5 => ?_)
  obtain ⟨rfl, Nq5, e5⟩ := hQ5
  have N5 := Fr.app N3 Nq5
  refine Go.step (S' := T5.setTop (mkF m 56 #[rv vc, iv 0, iv 2, rv b1, iv 1, rv b_3] [(.ref b_3)])) (fun t k => ?_) ?_
  · refine XS.sipush X5.here hx rfl (hb hby d14_35) ?_
    refine XS.icmpYes X5.here hx rfl (pc0 := 38) (pc' := 54) rfl (hb hby d14_38) rfl (tlt (hf : (255 : Int32) < x1)).2.2.1 (by decide) (by decide) ?_
    refine XS.aload X5.here hx rfl (hb hby d14_54) rfl rfl ?_
    exact k
  exact Go.rt X5 hx Bd (w := (.ref b_3)) rfl (Or.inr (Or.inr (Or.inr (Or.inr ⟨rfl, rfl, rfl⟩)))) (hb hby d14_56) e5 ⟨b_3, kb_3, rfl, N5, K, V_3⟩
abbrev rm_rmNU4_2 : Room := ({ frames := 4, cells := 2, slots := 6, locals := 57 } : Room)
def Q_rmNU4_2 (Z : State) (so : Addr) (vc : Addr) (kc : ClassId) (cs : Int32) (x0 : Int32) (x1 : Int32) (h0 : Heap) (n0 : Nat) (v : Option Value) (h : Heap) (L : List Loc) : Prop := ∃ tb : Addr, ∃ kb : ClassId, (v = none) ∧ (Fr n0 L) ∧ (Keep h0 h [so]) ∧ (Exa Z h so "java/lang/String") ∧ (Fd_5 Z h so (.ref tb)) ∧ (Fd_6 Z h so (.int 1)) ∧ (Arv Z h tb kb .byte (4 : Int32) [(.int (own_lo x0)), (.int (own_hi x0)), (.int (own_lo x1)), (.int (own_hi x1))] (.int 0))
theorem rmNU4_2 (l : Launch) (Z : State) (a0 : Array Value) (hw : HW a0 Z) (ws : List Jvm.Cond) (so : Addr) (vc : Addr) (kc : ClassId) (cs : Int32) (x0 : Int32) (x1 : Int32) (h0 : Heap) (n0 : Nat) (O : Old Z n0 h0) (S_CS : Sa_0 Z (.int cs)) (S_AD : Sa_1 Z (.int 1)) (S_HI : Sa_2 Z (.int 0)) (S_LO : Sa_3 Z (.int 8)) (E_so : Exa Z h0 so "java/lang/String") (F_v : Fd_5 Z h0 so .null) (F_c : Fd_6 Z h0 so (.int 0)) (V_vc : Arv Z h0 vc kc .char (2 : Int32) [(.int x0), (.int x1)] (.int 0)) (g_so : n0 ≤ so) (hcs : ¬ (cs = (0 : Int32))) (hu : ((255 : Int32) < x0) ∨ ((255 : Int32) < x1)) (rax0 : ¬ (x0 < (0 : Int32))) (rbx0 : ¬ ((65535 : Int32) < x0)) (rax1 : ¬ (x1 < (0 : Int32))) (rbx1 : ¬ ((65535 : Int32) < x1)) :
    Mt l Z y_3 jdk_42_method_149_code 6 none ws rm_rmNU4_2 #[(.ref so), (.ref vc), (.int 0), (.int 2), .null] h0 (Q_rmNU4_2 Z so vc kc cs x0 x1 h0 n0) := by
 refine own_met "java/lang/String" (plainFor_of_name pn_java_lang_String) #[rv so, rv vc, iv 0, iv 2, .val .null, u_] (fun m => rfl) (fun p e s m below meth c s₁ Bd hx hby hml hZ hown hnm X0 e0 => ?_)
 have N0 := Fr.nil n0
 have K := Keep.refl h0 [so]
 refine Go.step (S' := s₁.setTop (mkF m 1 #[rv so, rv vc, iv 0, iv 2, .val .null, u_] [(.ref so)])) (fun t k => ?_) ?_
 · refine XS.aloadN X0.here hx rfl (hb hby d2_0) rfl rfl ?_
   exact k
 obtain ⟨T1, X1, e1, st1⟩ := initO X0 hx hZ hown (own_w hw 13 rfl) (own_w hw 14 rfl) (own_w hw 15 rfl) e0 (g := (mkF m 1 #[rv so, rv vc, iv 0, iv 2, .val .null, u_] [(.ref so)])) rfl (by rw [hml]; rfl) rfl (hb hby d2_1) (by decide) (W := 0) (by show 2 * 0 + _ ≤ _; exact Nat.le_of_eq rfl) (by decide)
 refine Go.step st1 ?_
 refine Go.step (S' := T1.setTop (mkF m 27 #[rv so, rv vc, iv 0, iv 2, .val .null, u_] [])) (fun t k => ?_) ?_
 · refine XS.iloadN X1.here hx rfl (hb hby d2_4) rfl ?_
   refine XS.ifYes X1.here hx rfl (pc0 := 5) (pc' := 27) rfl (hb hby d2_5) rfl ((if0 _ _).trans (feq ((by decide) : ¬ ((2 : Int32) = (0 : Int32)))).2) (by decide) (by decide) ?_
   exact k
 refine Go.gS X1 hx hZ hown (host := "") (Or.inl (own_w hw 43 rfl)) Via.refl e1 (S_CS.ext O.2) (hb hby d2_27) (fun T2 X2 e2 => ?_)
 refine Go.step (S' := T2.setTop (mkF m 36 #[rv so, rv vc, iv 0, iv 2, .val .null, u_] [(.int 2), (.int 0), (.ref vc)])) (fun t k => ?_) ?_
 · refine XS.ifNo X2.here hx rfl (hb hby d2_30) rfl ((if0 _ _).trans (feq (hcs : ¬ (cs = (0 : Int32)))).1) ?_
   refine XS.aloadN X2.here hx rfl (hb hby d2_33) rfl rfl ?_
   refine XS.iloadN X2.here hx rfl (hb hby d2_34) rfl ?_
   refine XS.iloadN X2.here hx rfl (hb hby d2_35) rfl ?_
   exact k
 refine Go.cS X2 hx hml hown hZ (own_w hw 68 rfl) (own_w hw 69 rfl) (own_w hw 70 rfl) (own_w hw 71 rfl) (rmCmU2 l Z a0 hw [] vc kc x0 x1 h0 n0 O S_AD S_HI S_LO V_vc hu rax0 rbx0 rax1 rbx1) 0 [] pd__28_5bCII_29_5bB (hb hby d2_36) e2 (fun _ T3 L3 X3 hQ3 => ?_)
 obtain ⟨b_3, kb_3, rfl, Nq3, K3, P3_V⟩ := hQ3
 have N3 := Fr.app N0 Nq3
 have O := O.keep K3 all0
 have E_so := E_so.keep K3
 have F_v := F_v.keep K3 nin0
 have F_c := F_c.keep K3 nin0
 have V_vc := V_vc.keep K3 nin0
 have K := K.trans K3 all0
 have V_3 := P3_V
 refine Go.step (S' := T3.setTop (mkF m 45 #[rv so, rv vc, iv 0, iv 2, .val .null, rv b_3] [(.int 2), (.ref b_3), (.ref so)])) (fun t k => ?_) ?_
 · refine XS.astore X3.here hx rfl (hb hby d2_39) rfl rfl (l' := #[rv so, rv vc, iv 0, iv 2, .val .null, rv b_3]) rfl ?_
   refine XS.aloadN X3.here hx rfl (hb hby d2_41) rfl rfl ?_
   refine XS.aload X3.here hx rfl (hb hby d2_42) rfl rfl ?_
   refine XS.iloadN X3.here hx rfl (hb hby d2_44) rfl ?_
   exact k
 refine Go.cS X3 hx hml hown hZ (own_w hw 75 rfl) (own_w hw 76 rfl) (own_w hw 70 rfl) (own_w hw 77 rfl) (rmCfu2 l Z a0 hw [] b_3 kb_3 x0 x1 T3.heap n0 O V_3) 1 [(.ref so)] pd__28_5bBI_29B (hb hby d2_45) (Eq.refl T3.heap) (fun _ T4 L4 X4 hQ4 => ?_)
 obtain ⟨rfl, Nq4, e4⟩ := hQ4
 have N4 := Fr.app N3 Nq4
 obtain ⟨T5, h5, X5, e5, W5, st5⟩ := putFN X4 hx hZ hown (own_w hw 23 rfl) Via.refl e4 F_c E_so (Or.inr ⟨(own_w hw 19 rfl), rfl, hnm⟩) (own_w hw 4 rfl) (ty := .byte) (v' := (.int 1)) (by decide) rfl rfl (g := (mkF m 48 #[rv so, rv vc, iv 0, iv 2, .val .null, rv b_3] [(.int 1), (.ref so)])) rfl rfl (hb hby d2_48)
 have ne_vc_so : vc ≠ so := Ne.symm (Exa.neArv E_so V_vc (own_w hw 4 rfl))
 have ne_b_3_so : b_3 ≠ so := Ne.symm (Exa.neArv E_so V_3 (own_w hw 4 rfl))
 have O := O.wr W5 g_so
 have E_so := E_so.wr W5
 have F_v := F_v.other W5 (Or.inr (slot_ne (Or.inr (own_w hw 18 rfl)) (Or.inr (own_w hw 19 rfl)) (by decide) (t := (.array .byte)) (t' := .byte) (by decide) (by decide)))
 have F_c := F_c.same W5
 have V_vc := V_vc.other W5 ne_vc_so
 have K := K.wr W5 (Or.inl (List.mem_of_getElem? (i := 0) rfl))
 have V_3 := V_3.other W5 ne_b_3_so
 have N5 := Fr.snoc X5 N4 g_so
 refine Go.step st5 ?_
 refine Go.step (S' := T5.setTop (mkF m 54 #[rv so, rv vc, iv 0, iv 2, .val .null, rv b_3] [(.ref b_3), (.ref so)])) (fun t k => ?_) ?_
 · refine XS.aloadN X5.here hx rfl (hb hby d2_51) rfl rfl ?_
   refine XS.aload X5.here hx rfl (hb hby d2_52) rfl rfl ?_
   exact k
 obtain ⟨T6, h6, X6, e6, W6, st6⟩ := putF X5 hx hZ hown (host := "") (Or.inl (own_w hw 22 rfl)) Via.refl e5 F_v E_so (Or.inr ⟨(own_w hw 18 rfl), rfl, hnm⟩) (own_w hw 4 rfl) (ty := (.array .byte)) (by decide) rfl rfl (g := (mkF m 54 #[rv so, rv vc, iv 0, iv 2, .val .null, rv b_3] [(.ref b_3), (.ref so)])) rfl rfl (hb hby d2_54)
 have O := O.wr W6 g_so
 have E_so := E_so.wr W6
 have F_v := F_v.same W6
 have F_c := F_c.other W6 (Or.inr (slot_ne (Or.inr (own_w hw 19 rfl)) (Or.inr (own_w hw 18 rfl)) (by decide) (t := .byte) (t' := (.array .byte)) (by decide) (by decide)))
 have V_vc := V_vc.other W6 ne_vc_so
 have K := K.wr W6 (Or.inl (List.mem_of_getElem? (i := 0) rfl))
 have V_3 := V_3.other W6 ne_b_3_so
 have N6 := Fr.snoc X6 N5 g_so
 refine Go.step st6 ?_
 exact Go.rv X6 hx Bd (hb hby d2_57) e6 ⟨b_3, kb_3, rfl, N6, K, E_so, F_v, F_c, V_3⟩
abbrev rm_rmNSU2 : Room := ({ frames := 5, cells := 2, slots := 6, locals := 74 } : Room)
def Q_rmNSU2 (Z : State) (so : Addr) (vc : Addr) (kc : ClassId) (cs : Int32) (x0 : Int32) (x1 : Int32) (h0 : Heap) (n0 : Nat) (v : Option Value) (h : Heap) (L : List Loc) : Prop := ∃ tb : Addr, ∃ kb : ClassId, (v = none) ∧ (Fr n0 L) ∧ (Keep h0 h [so]) ∧ (Exa Z h so "java/lang/String") ∧ (Fd_5 Z h so (.ref tb)) ∧ (Fd_6 Z h so (.int 1)) ∧ (Arv Z h tb kb .byte (4 : Int32) [(.int (own_lo x0)), (.int (own_hi x0)), (.int (own_lo x1)), (.int (own_hi x1))] (.int 0))
theorem rmNSU2 (l : Launch) (Z : State) (a0 : Array Value) (hw : HW a0 Z) (ws : List Jvm.Cond) (so : Addr) (vc : Addr) (kc : ClassId) (cs : Int32) (x0 : Int32) (x1 : Int32) (h0 : Heap) (n0 : Nat) (O : Old Z n0 h0) (S_CS : Sa_0 Z (.int cs)) (S_AD : Sa_1 Z (.int 1)) (S_HI : Sa_2 Z (.int 0)) (S_LO : Sa_3 Z (.int 8)) (E_so : Exa Z h0 so "java/lang/String") (F_v : Fd_5 Z h0 so .null) (F_c : Fd_6 Z h0 so (.int 0)) (V_vc : Arv Z h0 vc kc .char (2 : Int32) [(.int x0), (.int x1)] (.int 0)) (g_so : n0 ≤ so) (hcs : ¬ (cs = (0 : Int32))) (hu : ((255 : Int32) < x0) ∨ ((255 : Int32) < x1)) (rax0 : ¬ (x0 < (0 : Int32))) (rbx0 : ¬ ((65535 : Int32) < x0)) (rax1 : ¬ (x1 < (0 : Int32))) (rbx1 : ¬ ((65535 : Int32) < x1)) :
    Mt l Z y_4 jdk_42_method_3_code 2 none ws rm_rmNSU2 #[(.ref so), (.ref vc)] h0 (Q_rmNSU2 Z so vc kc cs x0 x1 h0 n0) := by
 refine own_met "java/lang/String" (plainFor_of_name pn_java_lang_String) #[rv so, rv vc] (fun m => rfl) (fun p e s m below meth c s₁ Bd hx hby hml hZ hown hnm X0 e0 => ?_)
 have N0 := Fr.nil n0
 have K := Keep.refl h0 [so]
 refine Go.step (S' := s₁.setTop (mkF m 4 #[rv so, rv vc] [(.ref vc), (.int 0), (.ref vc), (.ref so)])) (fun t k => ?_) ?_
 · refine XS.aloadN X0.here hx rfl (hb hby d1_0) rfl rfl ?_
   refine XS.aloadN X0.here hx rfl (hb hby d1_1) rfl rfl ?_
   refine XS.iconst X0.here hx rfl (hb hby d1_2) ?_
   refine XS.aloadN X0.here hx rfl (hb hby d1_3) rfl rfl ?_
   exact k
 refine Go.len X0 hx hZ e0 V_vc (hb hby d1_4) ?_
 refine Go.step (S' := s₁.setTop (mkF m 6 #[rv so, rv vc] [.null, (.int 2), (.int 0), (.ref vc), (.ref so)])) (fun t k => ?_) ?_
 · refine XS.aconstNull X0.here hx rfl (hb hby d1_5) ?_
   exact k
 refine Go.cI X0 hx hml hown hZ (own_w hw 9 rfl) (own_w hw 10 rfl) (own_w hw 5 rfl) (own_w hw 12 rfl) (rmNU4_2 l Z a0 hw [] so vc kc cs x0 x1 h0 n0 O S_CS S_AD S_HI S_LO E_so F_v F_c V_vc (by assumption) hcs hu rax0 rbx0 rax1 rbx1) 0 [] pd__28_5bCIILjava_2flang_2fVoid_3b_29V (hb hby d1_6) e0 (fun _ T1 L1 X1 hQ1 => ?_)
 obtain ⟨tb_1, kb_1, rfl, Nq1, K1, P1_E, P1_Fv, P1_Fc, P1_V⟩ := hQ1
 have N1 := Fr.app N0 Nq1
 have ne_vc_so : vc ≠ so := Ne.symm (Exa.neArv E_so V_vc (own_w hw 4 rfl))
 have O := O.keep K1 (allS g_so all0)
 have E_so := E_so.keep K1
 have V_vc := V_vc.keep K1 (ninS ne_vc_so nin0)
 have K := K.trans K1 (allS (Or.inl (List.mem_of_getElem? (i := 0) rfl)) all0)
 have E_1 := P1_E
 have Fv_1 := P1_Fv
 have Fc_1 := P1_Fc
 have V_1 := P1_V
 exact Go.rv X1 hx Bd (hb hby d1_9) (Eq.refl T1.heap) ⟨tb_1, kb_1, rfl, N1, K, E_so, Fv_1, Fc_1, V_1⟩
abbrev rm_rmUL2 : Room := ({ frames := 0, cells := 0, slots := 0, locals := 0 } : Room)
def Q_rmUL2 (Z : State) (ub : Addr) (ku : ClassId) (x0 : Int32) (x1 : Int32) (h0 : Heap) (n0 : Nat) (v : Option Value) (h : Heap) (L : List Loc) : Prop := (v = some (.int 2)) ∧ (Fr n0 L) ∧ (h = h0)
theorem rmUL2 (l : Launch) (Z : State) (a0 : Array Value) (hw : HW a0 Z) (ws : List Jvm.Cond) (ub : Addr) (ku : ClassId) (x0 : Int32) (x1 : Int32) (h0 : Heap) (n0 : Nat) (O : Old Z n0 h0) (V_ub : Arv Z h0 ub ku .byte (4 : Int32) [(.int (own_lo x0)), (.int (own_hi x0)), (.int (own_lo x1)), (.int (own_hi x1))] (.int 0)) :
    Mt l Z y_15 jdk_52_method_6_code 1 (some .int) ws rm_rmUL2 #[(.ref ub)] h0 (Q_rmUL2 Z ub ku x0 x1 h0 n0) := by
 refine own_met "java/lang/StringUTF16" (plainFor_of_name pn_java_lang_StringUTF16) #[rv ub] (fun m => rfl) (fun p e s m below meth c s₁ Bd hx hby hml hZ hown hnm X0 e0 => ?_)
 have N0 := Fr.nil n0
 refine Go.step (S' := s₁.setTop (mkF m 1 #[rv ub] [(.ref ub)])) (fun t k => ?_) ?_
 · refine XS.aloadN X0.here hx rfl (hb hby d26_0) rfl rfl ?_
   exact k
 refine Go.len X0 hx hZ e0 V_ub (hb hby d26_1) ?_
 refine Go.step (S' := s₁.setTop (mkF m 4 #[rv ub] [(.int 2)])) (fun t k => ?_) ?_
 · refine XS.iconst X0.here hx rfl (hb hby d26_2) ?_
   refine XS.ishr X0.here hx rfl (hb hby d26_3) rfl ?_
   exact k
 exact Go.rt X0 hx Bd (w := (.int 2)) rfl (Or.inl ⟨rfl, Or.inl rfl, _, rfl⟩) (hb hby d26_4) e0 ⟨rfl, N0, rfl⟩
abbrev rm_rmFn2 : Room := ({ frames := 0, cells := 0, slots := 0, locals := 0 } : Room)
def Q_rmFn2 (Z : State)  (h0 : Heap) (n0 : Nat) (v : Option Value) (h : Heap) (L : List Loc) : Prop := (v = some (.int 0)) ∧ (Fr n0 L) ∧ (h = h0)
theorem rmFn2 (l : Launch) (Z : State) (a0 : Array Value) (hw : HW a0 Z) (ws : List Jvm.Cond)  (h0 : Heap) (n0 : Nat) (O : Old Z n0 h0) :
    Mt l Z y_16 jdk_41_method_12_code 4 (some .int) ws rm_rmFn2 #[(.int 0), (.int 2), (.int 2), .null] h0 (Q_rmFn2 Z  h0 n0) := by
 refine own_met "jdk/internal/util/Preconditions" (plainFor_of_name pn_jdk_internal_util_Preconditions) #[iv 0, iv 2, iv 2, .val .null] (fun m => rfl) (fun p e s m below meth c s₁ Bd hx hby hml hZ hown hnm X0 e0 => ?_)
 have N0 := Fr.nil n0
 refine Go.step (S' := s₁.setTop (mkF m 23 #[iv 0, iv 2, iv 2, .val .null] [(.int 0)])) (fun t k => ?_) ?_
 · refine XS.iloadN X0.here hx rfl (hb hby d28_0) rfl ?_
   refine XS.ifNo X0.here hx rfl (hb hby d28_1) rfl ((if0 _ _).trans (flt ((by decide) : ¬ ((0 : Int32) < (0 : Int32)))).1) ?_
   refine XS.iloadN X0.here hx rfl (hb hby d28_4) rfl ?_
   refine XS.iloadN X0.here hx rfl (hb hby d28_5) rfl ?_
   refine XS.icmpNo X0.here hx rfl (hb hby d28_6) rfl (flt ((by decide) : ¬ ((2 : Int32) < (0 : Int32)))).2.2.1 ?_
   refine XS.iloadN X0.here hx rfl (hb hby d28_9) rfl ?_
   show Steps p.tables e below (s₁.setTop (mkF m 10 #[iv 0, iv 2, iv 2, .val .null] [(.int 2)])) _
   refine XS.iloadN X0.here hx rfl (hb hby d28_10) rfl ?_
   refine XS.icmpYes X0.here hx rfl (pc0 := 11) (pc' := 22) rfl (hb hby d28_11) rfl (flt ((by decide) : ¬ ((2 : Int32) < (2 : Int32)))).2.2.2 (by decide) (by decide) ?_
   refine XS.iloadN X0.here hx rfl (hb hby d28_22) rfl ?_
   exact k
 exact Go.rt X0 hx Bd (w := (.int 0)) rfl (Or.inl ⟨rfl, Or.inl rfl, _, rfl⟩) (hb hby d28_23) e0 ⟨rfl, N0, rfl⟩
abbrev rm_rmFr2 : Room := ({ frames := 0, cells := 0, slots := 0, locals := 0 } : Room)
def Q_rmFr2 (Z : State) (f : Addr) (h0 : Heap) (n0 : Nat) (v : Option Value) (h : Heap) (L : List Loc) : Prop := (v = some (.int 0)) ∧ (Fr n0 L) ∧ (h = h0)
theorem rmFr2 (l : Launch) (Z : State) (a0 : Array Value) (hw : HW a0 Z) (ws : List Jvm.Cond) (f : Addr) (h0 : Heap) (n0 : Nat) (O : Old Z n0 h0) :
    Mt l Z y_16 jdk_41_method_12_code 4 (some .int) ws rm_rmFr2 #[(.int 0), (.int 2), (.int 2), (.ref f)] h0 (Q_rmFr2 Z f h0 n0) := by
 refine own_met "jdk/internal/util/Preconditions" (plainFor_of_name pn_jdk_internal_util_Preconditions) #[iv 0, iv 2, iv 2, rv f] (fun m => rfl) (fun p e s m below meth c s₁ Bd hx hby hml hZ hown hnm X0 e0 => ?_)
 have N0 := Fr.nil n0
 refine Go.step (S' := s₁.setTop (mkF m 23 #[iv 0, iv 2, iv 2, rv f] [(.int 0)])) (fun t k => ?_) ?_
 · refine XS.iloadN X0.here hx rfl (hb hby d28_0) rfl ?_
   refine XS.ifNo X0.here hx rfl (hb hby d28_1) rfl ((if0 _ _).trans (flt ((by decide) : ¬ ((0 : Int32) < (0 : Int32)))).1) ?_
   refine XS.iloadN X0.here hx rfl (hb hby d28_4) rfl ?_
   refine XS.iloadN X0.here hx rfl (hb hby d28_5) rfl ?_
   refine XS.icmpNo X0.here hx rfl (hb hby d28_6) rfl (flt ((by decide) : ¬ ((2 : Int32) < (0 : Int32)))).2.2.1 ?_
   refine XS.iloadN X0.here hx rfl (hb hby d28_9) rfl ?_
   show Steps p.tables e below (s₁.setTop (mkF m 10 #[iv 0, iv 2, iv 2, rv f] [(.int 2)])) _
   refine XS.iloadN X0.here hx rfl (hb hby d28_10) rfl ?_
   refine XS.icmpYes X0.here hx rfl (pc0 := 11) (pc' := 22) rfl (hb hby d28_11) rfl (flt ((by decide) : ¬ ((2 : Int32) < (2 : Int32)))).2.2.2 (by decide) (by decide) ?_
   refine XS.iloadN X0.here hx rfl (hb hby d28_22) rfl ?_
   exact k
 exact Go.rt X0 hx Bd (w := (.int 0)) rfl (Or.inl ⟨rfl, Or.inl rfl, _, rfl⟩) (hb hby d28_23) e0 ⟨rfl, N0, rfl⟩
abbrev rm_rmBB2 : Room := ({ frames := 1, cells := 0, slots := 0, locals := 15 } : Room)
def Q_rmBB2 (Z : State) (sf : Value) (h0 : Heap) (n0 : Nat) (v : Option Value) (h : Heap) (L : List Loc) : Prop := (v = none) ∧ (Fr n0 L) ∧ (h = h0)
theorem rmBB2 (l : Launch) (Z : State) (a0 : Array Value) (hw : HW a0 Z) (ws : List Jvm.Cond) (sf : Value) (h0 : Heap) (n0 : Nat) (O : Old Z n0 h0) (S_FM : Sa_4 Z sf) (hsf : sf.isRef = true) :
    Mt l Z y_17 jdk_42_method_158_code 3 none ws rm_rmBB2 #[(.int 0), (.int 2), (.int 2)] h0 (Q_rmBB2 Z sf h0 n0) := by
 refine own_met "java/lang/String" (plainFor_of_name pn_java_lang_String) #[iv 0, iv 2, iv 2] (fun m => rfl) (fun p e s m below meth c s₁ Bd hx hby hml hZ hown hnm X0 e0 => ?_)
 have N0 := Fr.nil n0
 rcases ref_cases hsf with hsn | ⟨wf, hsn⟩
 ·skip
  rw [hsn] at S_FM
  refine Go.step (S' := s₁.setTop (mkF m 3 #[iv 0, iv 2, iv 2] [(.int 2), (.int 2), (.int 0)])) (fun t k => ?_) ?_
  · refine XS.iloadN X0.here hx rfl (hb hby d27_0) rfl ?_
    refine XS.iloadN X0.here hx rfl (hb hby d27_1) rfl ?_
    refine XS.iloadN X0.here hx rfl (hb hby d27_2) rfl ?_
    exact k
  refine Go.gS X0 hx hZ hown (host := "") (Or.inl (own_w hw 118 rfl)) Via.refl e0 (S_FM.ext O.2) (hb hby d27_3) (fun T1 X1 e1 => ?_)
  refine Go.cS X1 hx hml hown hZ (own_w hw 120 rfl) (own_w hw 121 rfl) (own_w hw 119 rfl) (own_w hw 122 rfl) (rmFn2 l Z a0 hw []  h0 n0 O ) 0 [] pd__28IIILjava_2futil_2ffunction_2fBiFunction_3b_29I (hb hby d27_6) e1 (fun _ T2 L2 X2 hQ2 => ?_)
  obtain ⟨rfl, Nq2, e2⟩ := hQ2
  have N2 := Fr.app N0 Nq2
  refine Go.step (S' := T2.setTop (mkF m 10 #[iv 0, iv 2, iv 2] [])) (fun t k => ?_) ?_
  · refine XS.pop X2.here hx rfl (hb hby d27_9) rfl rfl ?_
    exact k
  exact Go.rv X2 hx Bd (hb hby d27_10) e2 ⟨rfl, N2, rfl⟩
 ·skip
  rw [hsn] at S_FM
  refine Go.step (S' := s₁.setTop (mkF m 3 #[iv 0, iv 2, iv 2] [(.int 2), (.int 2), (.int 0)])) (fun t k => ?_) ?_
  · refine XS.iloadN X0.here hx rfl (hb hby d27_0) rfl ?_
    refine XS.iloadN X0.here hx rfl (hb hby d27_1) rfl ?_
    refine XS.iloadN X0.here hx rfl (hb hby d27_2) rfl ?_
    exact k
  refine Go.gS X0 hx hZ hown (host := "") (Or.inl (own_w hw 118 rfl)) Via.refl e0 (S_FM.ext O.2) (hb hby d27_3) (fun T3 X3 e3 => ?_)
  refine Go.cS X3 hx hml hown hZ (own_w hw 120 rfl) (own_w hw 121 rfl) (own_w hw 119 rfl) (own_w hw 122 rfl) (rmFr2 l Z a0 hw [] wf h0 n0 O ) 0 [] pd__28IIILjava_2futil_2ffunction_2fBiFunction_3b_29I (hb hby d27_6) e3 (fun _ T4 L4 X4 hQ4 => ?_)
  obtain ⟨rfl, Nq4, e4⟩ := hQ4
  have N4 := Fr.app N0 Nq4
  refine Go.step (S' := T4.setTop (mkF m 10 #[iv 0, iv 2, iv 2] [])) (fun t k => ?_) ?_
  · refine XS.pop X4.here hx rfl (hb hby d27_9) rfl rfl ?_
    exact k
  exact Go.rv X4 hx Bd (hb hby d27_10) e4 ⟨rfl, N4, rfl⟩
abbrev rm_rmBU2 : Room := ({ frames := 2, cells := 0, slots := 0, locals := 29 } : Room)
def Q_rmBU2 (Z : State) (ub : Addr) (ku : ClassId) (sf : Value) (x0 : Int32) (x1 : Int32) (h0 : Heap) (n0 : Nat) (v : Option Value) (h : Heap) (L : List Loc) : Prop := (v = none) ∧ (Fr n0 L) ∧ (h = h0)
theorem rmBU2 (l : Launch) (Z : State) (a0 : Array Value) (hw : HW a0 Z) (ws : List Jvm.Cond) (ub : Addr) (ku : ClassId) (sf : Value) (x0 : Int32) (x1 : Int32) (h0 : Heap) (n0 : Nat) (O : Old Z n0 h0) (S_FM : Sa_4 Z sf) (V_ub : Arv Z h0 ub ku .byte (4 : Int32) [(.int (own_lo x0)), (.int (own_hi x0)), (.int (own_lo x1)), (.int (own_hi x1))] (.int 0)) (hsf : sf.isRef = true) :
    Mt l Z y_18 jdk_52_method_93_code 3 none ws rm_rmBU2 #[(.int 0), (.int 2), (.ref ub)] h0 (Q_rmBU2 Z ub ku sf x0 x1 h0 n0) := by
 refine own_met "java/lang/StringUTF16" (plainFor_of_name pn_java_lang_StringUTF16) #[iv 0, iv 2, rv ub] (fun m => rfl) (fun p e s m below meth c s₁ Bd hx hby hml hZ hown hnm X0 e0 => ?_)
 have N0 := Fr.nil n0
 refine Go.step (S' := s₁.setTop (mkF m 3 #[iv 0, iv 2, rv ub] [(.ref ub), (.int 2), (.int 0)])) (fun t k => ?_) ?_
 · refine XS.iloadN X0.here hx rfl (hb hby d25_0) rfl ?_
   refine XS.iloadN X0.here hx rfl (hb hby d25_1) rfl ?_
   refine XS.aloadN X0.here hx rfl (hb hby d25_2) rfl rfl ?_
   exact k
 refine Go.cS X0 hx hml hown hZ (own_w hw 112 rfl) (own_w hw 113 rfl) (own_w hw 70 rfl) (own_w hw 114 rfl) (rmUL2 l Z a0 hw [] ub ku x0 x1 h0 n0 O V_ub) 2 [(.int 2), (.int 0)] pd__28_5bB_29I (hb hby d25_3) e0 (fun _ T1 L1 X1 hQ1 => ?_)
 obtain ⟨rfl, Nq1, e1⟩ := hQ1
 have N1 := Fr.app N0 Nq1
 refine Go.cS X1 hx hml hown hZ (own_w hw 115 rfl) (own_w hw 116 rfl) (own_w hw 5 rfl) (own_w hw 117 rfl) (rmBB2 l Z a0 hw [] sf h0 n0 O S_FM hsf) 0 [] pd__28III_29V (hb hby d25_6) e1 (fun _ T2 L2 X2 hQ2 => ?_)
 obtain ⟨rfl, Nq2, e2⟩ := hQ2
 have N2 := Fr.app N1 Nq2
 exact Go.rv X2 hx Bd (hb hby d25_9) e2 ⟨rfl, N2, rfl⟩
abbrev rm_rmIU2 : Room := ({ frames := 1, cells := 0, slots := 0, locals := 13 } : Room)
def Q_rmIU2 (Z : State) (ub : Addr) (ku : ClassId) (x0 : Int32) (x1 : Int32) (h0 : Heap) (n0 : Nat) (v : Option Value) (h : Heap) (L : List Loc) : Prop := ∃ r : Int32, (v = some (.int r)) ∧ (Fr n0 L) ∧ (h = h0) ∧ (r < (0 : Int32) ↔ (¬ (x0 = (0 : Int32)) ∧ ¬ (x1 = (0 : Int32))))
theorem rmIU2 (l : Launch) (Z : State) (a0 : Array Value) (hw : HW a0 Z) (ws : List Jvm.Cond) (ub : Addr) (ku : ClassId) (x0 : Int32) (x1 : Int32) (h0 : Heap) (n0 : Nat) (O : Old Z n0 h0) (S_AD : Sa_1 Z (.int 1)) (S_HI : Sa_2 Z (.int 0)) (S_LO : Sa_3 Z (.int 8)) (V_ub : Arv Z h0 ub ku .byte (4 : Int32) [(.int (own_lo x0)), (.int (own_hi x0)), (.int (own_lo x1)), (.int (own_hi x1))] (.int 0)) (rax0 : ¬ (x0 < (0 : Int32))) (rbx0 : ¬ ((65535 : Int32) < x0)) (rax1 : ¬ (x1 < (0 : Int32))) (rbx1 : ¬ ((65535 : Int32) < x1)) :
    Mt l Z y_19 jdk_52_method_48_code 5 (some .int) ws rm_rmIU2 #[(.ref ub), (.int 0), (.int 0), (.int 2)] h0 (Q_rmIU2 Z ub ku x0 x1 h0 n0) := by
 refine own_met "java/lang/StringUTF16" (plainFor_of_name pn_java_lang_StringUTF16) #[rv ub, iv 0, iv 0, iv 2, u_] (fun m => rfl) (fun p e s m below meth c s₁ Bd hx hby hml hZ hown hnm X0 e0 => ?_)
 have N0 := Fr.nil n0
 refine Go.step (S' := s₁.setTop (mkF m 12 #[rv ub, iv 0, iv 0, iv 2, iv 0] [(.int 0), (.ref ub)])) (fun t k => ?_) ?_
 · refine XS.iloadN X0.here hx rfl (hb hby d29_0) rfl ?_
   refine XS.istore X0.here hx rfl (hb hby d29_1) rfl (l' := #[rv ub, iv 0, iv 0, iv 2, iv 0]) rfl ?_
   refine XS.iload X0.here hx rfl (hb hby d29_3) rfl ?_
   refine XS.iloadN X0.here hx rfl (hb hby d29_5) rfl ?_
   refine XS.icmpNo X0.here hx rfl (hb hby d29_6) rfl (tlt ((by decide) : (0 : Int32) < (2 : Int32))).2.1 ?_
   refine XS.aloadN X0.here hx rfl (hb hby d29_9) rfl rfl ?_
   show Steps p.tables e below (s₁.setTop (mkF m 10 #[rv ub, iv 0, iv 0, iv 2, iv 0] [(.ref ub)])) _
   refine XS.iload X0.here hx rfl (hb hby d29_10) rfl ?_
   exact k
 refine Go.cS X0 hx hml hown hZ (own_w hw 97 rfl) (own_w hw 98 rfl) (own_w hw 70 rfl) (own_w hw 99 rfl) (rmGC2_0 l Z a0 hw [] ub ku x0 x1 h0 n0 O S_AD S_HI S_LO V_ub rax0 rbx0) 0 [] pd__28_5bBI_29C (hb hby d29_12) e0 (fun _ T1 L1 X1 hQ1 => ?_)
 obtain ⟨rfl, Nq1, e1⟩ := hQ1
 have N1 := Fr.app N0 Nq1
 refine Go.step (S' := T1.setTop (mkF m 16 #[rv ub, iv 0, iv 0, iv 2, iv 0] [(.int 0), (.int x0)])) (fun t k => ?_) ?_
 · refine XS.iloadN X1.here hx rfl (hb hby d29_15) rfl ?_
   exact k
 by_cases hc16 : x0 = (0 : Int32)
 ·skip
  refine Go.step (S' := T1.setTop (mkF m 21 #[rv ub, iv 0, iv 0, iv 2, iv 0] [(.int 0)])) (fun t k => ?_) ?_
  · refine XS.icmpNo X1.here hx rfl (hb hby d29_16) rfl (teq (hc16 : x0 = (0 : Int32))).2 ?_
    refine XS.iload X1.here hx rfl (hb hby d29_19) rfl ?_
    exact k
  exact Go.rt X1 hx Bd (w := (.int 0)) rfl (Or.inl ⟨rfl, Or.inl rfl, _, rfl⟩) (hb hby d29_21) e1 ⟨(0 : Int32), rfl, N1, rfl, ⟨fun q => absurd q (by decide), fun q => absurd hc16 q.1⟩⟩
 ·skip
  refine Go.step (S' := T1.setTop (mkF m 12 #[rv ub, iv 0, iv 0, iv 2, iv 1] [(.int 1), (.ref ub)])) (fun t k => ?_) ?_
  · refine XS.icmpYes X1.here hx rfl (pc0 := 16) (pc' := 22) rfl (hb hby d29_16) rfl (feq (hc16 : ¬ (x0 = (0 : Int32)))).2 (by decide) (by decide) ?_
    refine XS.iinc X1.here hx rfl (hb hby d29_22) rfl (l' := #[rv ub, iv 0, iv 0, iv 2, iv 1]) rfl ?_
    refine XS.goto X1.here hx rfl (pc0 := 25) (pc' := 3) rfl (hb hby d29_25) (by decide) (by decide) ?_
    refine XS.iload X1.here hx rfl (hb hby d29_3) rfl ?_
    refine XS.iloadN X1.here hx rfl (hb hby d29_5) rfl ?_
    refine XS.icmpNo X1.here hx rfl (hb hby d29_6) rfl (tlt ((by decide) : (1 : Int32) < (2 : Int32))).2.1 ?_
    show Steps p.tables e below (T1.setTop (mkF m 9 #[rv ub, iv 0, iv 0, iv 2, iv 1] [])) _
    refine XS.aloadN X1.here hx rfl (hb hby d29_9) rfl rfl ?_
    refine XS.iload X1.here hx rfl (hb hby d29_10) rfl ?_
    exact k
  refine Go.cS X1 hx hml hown hZ (own_w hw 97 rfl) (own_w hw 98 rfl) (own_w hw 70 rfl) (own_w hw 99 rfl) (rmGC2_1 l Z a0 hw [] ub ku x0 x1 h0 n0 O S_AD S_HI S_LO V_ub rax1 rbx1) 0 [] pd__28_5bBI_29C (hb hby d29_12) e1 (fun _ T2 L2 X2 hQ2 => ?_)
  obtain ⟨rfl, Nq2, e2⟩ := hQ2
  have N2 := Fr.app N1 Nq2
  refine Go.step (S' := T2.setTop (mkF m 16 #[rv ub, iv 0, iv 0, iv 2, iv 1] [(.int 0), (.int x1)])) (fun t k => ?_) ?_
  · refine XS.iloadN X2.here hx rfl (hb hby d29_15) rfl ?_
    exact k
  by_cases hc16_1 : x1 = (0 : Int32)
  ·skip
   refine Go.step (S' := T2.setTop (mkF m 21 #[rv ub, iv 0, iv 0, iv 2, iv 1] [(.int 1)])) (fun t k => ?_) ?_
   · refine XS.icmpNo X2.here hx rfl (hb hby d29_16) rfl (teq (hc16_1 : x1 = (0 : Int32))).2 ?_
     refine XS.iload X2.here hx rfl (hb hby d29_19) rfl ?_
     exact k
   exact Go.rt X2 hx Bd (w := (.int 1)) rfl (Or.inl ⟨rfl, Or.inl rfl, _, rfl⟩) (hb hby d29_21) e2 ⟨(1 : Int32), rfl, N2, rfl, ⟨fun q => absurd q (by decide), fun q => absurd hc16_1 q.2⟩⟩
  ·skip
   refine Go.step (S' := T2.setTop (mkF m 29 #[rv ub, iv 0, iv 0, iv 2, iv 2] [(.int (-1))])) (fun t k => ?_) ?_
   · refine XS.icmpYes X2.here hx rfl (pc0 := 16) (pc' := 22) rfl (hb hby d29_16) rfl (feq (hc16_1 : ¬ (x1 = (0 : Int32)))).2 (by decide) (by decide) ?_
     refine XS.iinc X2.here hx rfl (hb hby d29_22) rfl (l' := #[rv ub, iv 0, iv 0, iv 2, iv 2]) rfl ?_
     refine XS.goto X2.here hx rfl (pc0 := 25) (pc' := 3) rfl (hb hby d29_25) (by decide) (by decide) ?_
     refine XS.iload X2.here hx rfl (hb hby d29_3) rfl ?_
     refine XS.iloadN X2.here hx rfl (hb hby d29_5) rfl ?_
     refine XS.icmpYes X2.here hx rfl (pc0 := 6) (pc' := 28) rfl (hb hby d29_6) rfl (flt ((by decide) : ¬ ((2 : Int32) < (2 : Int32)))).2.1 (by decide) (by decide) ?_
     show Steps p.tables e below (T2.setTop (mkF m 28 #[rv ub, iv 0, iv 0, iv 2, iv 2] [])) _
     refine XS.iconst X2.here hx rfl (hb hby d29_28) ?_
     exact k
   exact Go.rt X2 hx Bd (w := (.int (-1))) rfl (Or.inl ⟨rfl, Or.inl rfl, _, rfl⟩) (hb hby d29_29) e2 ⟨(-1 : Int32), rfl, N2, rfl, ⟨fun _ => ⟨hc16, hc16_1⟩, fun _ => by decide⟩⟩
abbrev rm_rmIC2 : Room := ({ frames := 3, cells := 0, slots := 0, locals := 43 } : Room)
def Q_rmIC2 (Z : State) (ub : Addr) (ku : ClassId) (sf : Value) (x0 : Int32) (x1 : Int32) (h0 : Heap) (n0 : Nat) (v : Option Value) (h : Heap) (L : List Loc) : Prop := ∃ r : Int32, (v = some (.int r)) ∧ (Fr n0 L) ∧ (h = h0) ∧ (r < (0 : Int32) ↔ (¬ (x0 = (0 : Int32)) ∧ ¬ (x1 = (0 : Int32))))
theorem rmIC2 (l : Launch) (Z : State) (a0 : Array Value) (hw : HW a0 Z) (ws : List Jvm.Cond) (ub : Addr) (ku : ClassId) (sf : Value) (x0 : Int32) (x1 : Int32) (h0 : Heap) (n0 : Nat) (O : Old Z n0 h0) (S_AD : Sa_1 Z (.int 1)) (S_HI : Sa_2 Z (.int 0)) (S_LO : Sa_3 Z (.int 8)) (V_ub : Arv Z h0 ub ku .byte (4 : Int32) [(.int (own_lo x0)), (.int (own_hi x0)), (.int (own_lo x1)), (.int (own_hi x1))] (.int 0)) (S_FM : Sa_4 Z sf) (hsf : sf.isRef = true) (rax0 : ¬ (x0 < (0 : Int32))) (rbx0 : ¬ ((65535 : Int32) < x0)) (rax1 : ¬ (x1 < (0 : Int32))) (rbx1 : ¬ ((65535 : Int32) < x1)) :
    Mt l Z y_20 jdk_52_method_47_code 4 (some .int) ws rm_rmIC2 #[(.ref ub), (.int 0), (.int 0), (.int 2)] h0 (Q_rmIC2 Z ub ku sf x0 x1 h0 n0) := by
 refine own_met "java/lang/StringUTF16" (plainFor_of_name pn_java_lang_StringUTF16) #[rv ub, iv 0, iv 0, iv 2] (fun m => rfl) (fun p e s m below meth c s₁ Bd hx hby hml hZ hown hnm X0 e0 => ?_)
 have N0 := Fr.nil n0
 refine Go.step (S' := s₁.setTop (mkF m 3 #[rv ub, iv 0, iv 0, iv 2] [(.ref ub), (.int 2), (.int 0)])) (fun t k => ?_) ?_
 · refine XS.iloadN X0.here hx rfl (hb hby d24_0) rfl ?_
   refine XS.iloadN X0.here hx rfl (hb hby d24_1) rfl ?_
   refine XS.aloadN X0.here hx rfl (hb hby d24_2) rfl rfl ?_
   exact k
 refine Go.cS X0 hx hml hown hZ (own_w hw 109 rfl) (own_w hw 110 rfl) (own_w hw 70 rfl) (own_w hw 111 rfl) (rmBU2 l Z a0 hw [] ub ku sf x0 x1 h0 n0 O S_FM V_ub hsf) 0 [] pd__28II_5bB_29V (hb hby d24_3) e0 (fun _ T1 L1 X1 hQ1 => ?_)
 obtain ⟨rfl, Nq1, e1⟩ := hQ1
 have N1 := Fr.app N0 Nq1
 refine Go.step (S' := T1.setTop (mkF m 10 #[rv ub, iv 0, iv 0, iv 2] [(.int 2), (.int 0), (.int 0), (.ref ub)])) (fun t k => ?_) ?_
 · refine XS.aloadN X1.here hx rfl (hb hby d24_6) rfl rfl ?_
   refine XS.iloadN X1.here hx rfl (hb hby d24_7) rfl ?_
   refine XS.iloadN X1.here hx rfl (hb hby d24_8) rfl ?_
   refine XS.iloadN X1.here hx rfl (hb hby d24_9) rfl ?_
   exact k
 refine Go.cS X1 hx hml hown hZ (own_w hw 123 rfl) (own_w hw 124 rfl) (own_w hw 70 rfl) (own_w hw 125 rfl) (rmIU2 l Z a0 hw [] ub ku x0 x1 h0 n0 O S_AD S_HI S_LO V_ub rax0 rbx0 rax1 rbx1) 0 [] pd__28_5bBIII_29I (hb hby d24_10) e1 (fun _ T2 L2 X2 hQ2 => ?_)
 obtain ⟨r_2, rfl, Nq2, e2, kr_2⟩ := hQ2
 have N2 := Fr.app N1 Nq2
 exact Go.rt X2 hx Bd (w := (.int r_2)) rfl (Or.inl ⟨rfl, Or.inl rfl, _, rfl⟩) (hb hby d24_13) e2 ⟨r_2, rfl, N2, rfl, (by assumption)⟩
abbrev rm_rmIX2 : Room := ({ frames := 4, cells := 0, slots := 0, locals := 58 } : Room)
def Q_rmIX2 (Z : State) (ub : Addr) (ku : ClassId) (sf : Value) (x0 : Int32) (x1 : Int32) (h0 : Heap) (n0 : Nat) (v : Option Value) (h : Heap) (L : List Loc) : Prop := ∃ r : Int32, (v = some (.int r)) ∧ (Fr n0 L) ∧ (h = h0) ∧ (r < (0 : Int32) ↔ (¬ (x0 = (0 : Int32)) ∧ ¬ (x1 = (0 : Int32))))
theorem rmIX2 (l : Launch) (Z : State) (a0 : Array Value) (hw : HW a0 Z) (ws : List Jvm.Cond) (ub : Addr) (ku : ClassId) (sf : Value) (x0 : Int32) (x1 : Int32) (h0 : Heap) (n0 : Nat) (O : Old Z n0 h0) (S_AD : Sa_1 Z (.int 1)) (S_HI : Sa_2 Z (.int 0)) (S_LO : Sa_3 Z (.int 8)) (V_ub : Arv Z h0 ub ku .byte (4 : Int32) [(.int (own_lo x0)), (.int (own_hi x0)), (.int (own_lo x1)), (.int (own_hi x1))] (.int 0)) (S_FM : Sa_4 Z sf) (hsf : sf.isRef = true) (rax0 : ¬ (x0 < (0 : Int32))) (rbx0 : ¬ ((65535 : Int32) < x0)) (rax1 : ¬ (x1 < (0 : Int32))) (rbx1 : ¬ ((65535 : Int32) < x1)) :
    Mt l Z y_21 jdk_52_method_40_code 4 (some .int) ws rm_rmIX2 #[(.ref ub), (.int 0), (.int 0), (.int 2)] h0 (Q_rmIX2 Z ub ku sf x0 x1 h0 n0) := by
 refine own_met "java/lang/StringUTF16" (plainFor_of_name pn_java_lang_StringUTF16) #[rv ub, iv 0, iv 0, iv 2] (fun m => rfl) (fun p e s m below meth c s₁ Bd hx hby hml hZ hown hnm X0 e0 => ?_)
 have N0 := Fr.nil n0
 refine Go.step (S' := s₁.setTop (mkF m 2 #[rv ub, iv 0, iv 0, iv 2] [(.int 0), (.int 0)])) (fun t k => ?_) ?_
 · refine XS.iloadN X0.here hx rfl (hb hby d23_0) rfl ?_
   refine XS.iconst X0.here hx rfl (hb hby d23_1) ?_
   exact k
 refine Go.cS X0 hx hml hown hZ (own_w hw 103 rfl) (own_w hw 62 rfl) (own_w hw 63 rfl) (own_w hw 64 rfl) (rmMxA l Z a0 hw [] (0 : Int32) (0 : Int32) h0 n0 O (by decide)) 0 [] pd__28II_29I (hb hby d23_2) e0 (fun _ T1 L1 X1 hQ1 => ?_)
 obtain ⟨rfl, Nq1, e1⟩ := hQ1
 have N1 := Fr.app N0 Nq1
 refine Go.step (S' := T1.setTop (mkF m 8 #[rv ub, iv 0, iv 0, iv 2] [(.ref ub), (.int 2)])) (fun t k => ?_) ?_
 · refine XS.istoreN X1.here hx rfl (hb hby d23_5) rfl (l' := #[rv ub, iv 0, iv 0, iv 2]) rfl ?_
   refine XS.iloadN X1.here hx rfl (hb hby d23_6) rfl ?_
   refine XS.aloadN X1.here hx rfl (hb hby d23_7) rfl rfl ?_
   exact k
 refine Go.len X1 hx hZ e1 V_ub (hb hby d23_8) ?_
 refine Go.step (S' := T1.setTop (mkF m 11 #[rv ub, iv 0, iv 0, iv 2] [(.int 2), (.int 2)])) (fun t k => ?_) ?_
 · refine XS.iconst X1.here hx rfl (hb hby d23_9) ?_
   refine XS.ishr X1.here hx rfl (hb hby d23_10) rfl ?_
   exact k
 refine Go.cS X1 hx hml hown hZ (own_w hw 104 rfl) (own_w hw 66 rfl) (own_w hw 63 rfl) (own_w hw 67 rfl) (rmMnA l Z a0 hw [] (2 : Int32) (2 : Int32) h0 n0 O (by decide)) 0 [] pd__28II_29I (hb hby d23_11) e1 (fun _ T2 L2 X2 hQ2 => ?_)
 obtain ⟨rfl, Nq2, e2⟩ := hQ2
 have N2 := Fr.app N1 Nq2
 refine Go.step (S' := T2.setTop (mkF m 32 #[rv ub, iv 0, iv 0, iv 2] [(.int 2), (.int 0), (.int 0), (.ref ub)])) (fun t k => ?_) ?_
 · refine XS.istoreN X2.here hx rfl (hb hby d23_14) rfl (l' := #[rv ub, iv 0, iv 0, iv 2]) rfl ?_
   refine XS.iloadN X2.here hx rfl (hb hby d23_15) rfl ?_
   refine XS.iloadN X2.here hx rfl (hb hby d23_16) rfl ?_
   refine XS.icmpYes X2.here hx rfl (pc0 := 17) (pc' := 22) rfl (hb hby d23_17) rfl (tlt ((by decide) : (0 : Int32) < (2 : Int32))).1 (by decide) (by decide) ?_
   refine XS.iloadN X2.here hx rfl (hb hby d23_22) rfl ?_
   refine X2.ldcInt hx hown (mvT hZ (own_w hw 105 rfl)) (g := (mkF m 23 #[rv ub, iv 0, iv 0, iv 2] [(.int 0)])) rfl (hb hby d23_23) _ ?_
   show Steps p.tables e below (T2.setTop (mkF m 25 #[rv ub, iv 0, iv 0, iv 2] [(.int 65536), (.int 0)])) _
   refine XS.icmpNo X2.here hx rfl (hb hby d23_25) rfl (tlt ((by decide) : (0 : Int32) < (65536 : Int32))).2.1 ?_
   refine XS.aloadN X2.here hx rfl (hb hby d23_28) rfl rfl ?_
   refine XS.iloadN X2.here hx rfl (hb hby d23_29) rfl ?_
   refine XS.iloadN X2.here hx rfl (hb hby d23_30) rfl ?_
   refine XS.iloadN X2.here hx rfl (hb hby d23_31) rfl ?_
   exact k
 refine Go.cS X2 hx hml hown hZ (own_w hw 106 rfl) (own_w hw 107 rfl) (own_w hw 70 rfl) (own_w hw 108 rfl) (rmIC2 l Z a0 hw [] ub ku sf x0 x1 h0 n0 O S_AD S_HI S_LO V_ub S_FM hsf rax0 rbx0 rax1 rbx1) 0 [] pd__28_5bBIII_29I (hb hby d23_32) e2 (fun _ T3 L3 X3 hQ3 => ?_)
 obtain ⟨r_3, rfl, Nq3, e3, kr_3⟩ := hQ3
 have N3 := Fr.app N2 Nq3
 exact Go.rt X3 hx Bd (w := (.int r_3)) rfl (Or.inl ⟨rfl, Or.inl rfl, _, rfl⟩) (hb hby d23_35) e3 ⟨r_3, rfl, N3, rfl, (by assumption)⟩
abbrev rm_rmNL3 : Room := ({ frames := 0, cells := 0, slots := 0, locals := 0 } : Room)
def Q_rmNL3 (Z : State)  (h0 : Heap) (n0 : Nat) (v : Option Value) (h : Heap) (L : List Loc) : Prop := (v = some (.int 6)) ∧ (Fr n0 L) ∧ (h = h0)
theorem rmNL3 (l : Launch) (Z : State) (a0 : Array Value) (hw : HW a0 Z) (ws : List Jvm.Cond)  (h0 : Heap) (n0 : Nat) (O : Old Z n0 h0) :
    Mt l Z y_10 jdk_52_method_3_code 1 (some .int) ws rm_rmNL3 #[(.int 3)] h0 (Q_rmNL3 Z  h0 n0) := by
 refine own_met "java/lang/StringUTF16" (plainFor_of_name pn_java_lang_StringUTF16) #[iv 3] (fun m => rfl) (fun p e s m below meth c s₁ Bd hx hby hml hZ hown hnm X0 e0 => ?_)
 have N0 := Fr.nil n0
 refine Go.step (S' := s₁.setTop (mkF m 58 #[iv 3] [(.int 6)])) (fun t k => ?_) ?_
 · refine XS.iloadN X0.here hx rfl (hb hby d20_0) rfl ?_
   refine XS.ifYes X0.here hx rfl (pc0 := 1) (pc' := 12) rfl (hb hby d20_1) rfl ((if0 _ _).trans (flt ((by decide) : ¬ ((3 : Int32) < (0 : Int32)))).2.1) (by decide) (by decide) ?_
   refine XS.iloadN X0.here hx rfl (hb hby d20_12) rfl ?_
   refine X0.ldcInt hx hown (mvT hZ (own_w hw 90 rfl)) (g := (mkF m 13 #[iv 3] [(.int 3)])) rfl (hb hby d20_13) _ ?_
   refine XS.icmpYes X0.here hx rfl (pc0 := 15) (pc' := 55) rfl (hb hby d20_15) rfl (tlt ((by decide) : (3 : Int32) < (1073741823 : Int32))).1 (by decide) (by decide) ?_
   refine XS.iloadN X0.here hx rfl (hb hby d20_55) rfl ?_
   show Steps p.tables e below (s₁.setTop (mkF m 56 #[iv 3] [(.int 3)])) _
   refine XS.iconst X0.here hx rfl (hb hby d20_56) ?_
   refine XS.ishl X0.here hx rfl (hb hby d20_57) rfl ?_
   exact k
 exact Go.rt X0 hx Bd (w := (.int 6)) rfl (Or.inl ⟨rfl, Or.inl rfl, _, rfl⟩) (hb hby d20_58) e0 ⟨rfl, N0, rfl⟩
abbrev rm_rmNB3 : Room := ({ frames := 1, cells := 1, slots := 6, locals := 12 } : Room)
def Q_rmNB3 (Z : State)  (h0 : Heap) (n0 : Nat) (v : Option Value) (h : Heap) (L : List Loc) : Prop := ∃ b : Addr, ∃ kb : ClassId, (v = some (.ref b)) ∧ (Fr n0 L) ∧ (Keep h0 h []) ∧ (Arv Z h b kb .byte (6 : Int32) [(.int 0), (.int 0), (.int 0), (.int 0), (.int 0), (.int 0)] (.int 0)) ∧ (n0 ≤ b) ∧ (h0.size ≤ b)
theorem rmNB3 (l : Launch) (Z : State) (a0 : Array Value) (hw : HW a0 Z) (ws : List Jvm.Cond)  (h0 : Heap) (n0 : Nat) (O : Old Z n0 h0) :
    Mt l Z y_11 jdk_52_method_2_code 1 (some (.array .byte)) ws rm_rmNB3 #[(.int 3)] h0 (Q_rmNB3 Z  h0 n0) := by
 refine own_met "java/lang/StringUTF16" (plainFor_of_name pn_java_lang_StringUTF16) #[iv 3] (fun m => rfl) (fun p e s m below meth c s₁ Bd hx hby hml hZ hown hnm X0 e0 => ?_)
 have N0 := Fr.nil n0
 have K := Keep.refl h0 []
 refine Go.step (S' := s₁.setTop (mkF m 1 #[iv 3] [(.int 3)])) (fun t k => ?_) ?_
 · refine XS.iloadN X0.here hx rfl (hb hby d19_0) rfl ?_
   exact k
 refine Go.cS X0 hx hml hown hZ (own_w hw 87 rfl) (own_w hw 88 rfl) (own_w hw 70 rfl) (own_w hw 89 rfl) (rmNL3 l Z a0 hw []  h0 n0 O ) 0 [] pd__28I_29I (hb hby d19_1) e0 (fun _ T1 L1 X1 hQ1 => ?_)
 obtain ⟨rfl, Nq1, e1⟩ := hQ1
 have N1 := Fr.app N0 Nq1
 obtain ⟨T2, h2, k2, X2, e2, E2, A2, st2⟩ := newP X1 hx hZ (own_w hw 17 rfl) e1 (g := (mkF m 4 #[iv 3] [(.int 6)])) rfl (hb hby d19_4) rfl (by decide) (cap := 6) (by decide) (by decide) (by decide) (by decide)
 obtain ⟨b2, g2⟩ : ∃ z, z = Array.size h0 := ⟨_, rfl⟩
 have g_b2 : n0 ≤ b2 := Nat.le_trans (old_le O) (Nat.le_of_eq g2.symm)
 have sz_b2 : h0.size ≤ b2 := Nat.le_trans K.1 (Nat.le_of_eq g2.symm)
 rw [← g2] at A2 st2
 have O := O.ext E2
 have K := K.ext E2
 have V_b2 : Arv Z h2 b2 k2 .byte (6 : Int32) [(.int 0), (.int 0), (.int 0), (.int 0), (.int 0), (.int 0)] (.int 0) := (Arv.new A2 (by decide)).pad (pad_rep [] (.int 0) 6)
 refine Go.step st2 ?_
 exact Go.rt X2 hx Bd (w := (.ref b2)) rfl (Or.inr (Or.inr (Or.inr (Or.inr ⟨rfl, rfl, rfl⟩)))) (hb hby d19_6) e2 ⟨b2, k2, rfl, N1, K, V_b2, g_b2, sz_b2⟩
abbrev rm_rmPC3_0 : Room := ({ frames := 0, cells := 0, slots := 0, locals := 0 } : Room)
def Q_rmPC3_0 (Z : State) (ub : Addr) (x0 : Int32) (ku : ClassId) (h0 : Heap) (n0 : Nat) (v : Option Value) (h : Heap) (L : List Loc) : Prop := (v = none) ∧ (Fr n0 L) ∧ (Keep h0 h [ub]) ∧ (Arv Z h ub ku .byte (6 : Int32) [(.int (own_lo x0)), (.int (own_hi x0)), (.int 0), (.int 0), (.int 0), (.int 0)] (.int 0))
theorem rmPC3_0 (l : Launch) (Z : State) (a0 : Array Value) (hw : HW a0 Z) (ws : List Jvm.Cond) (ub : Addr) (x0 : Int32) (ku : ClassId) (h0 : Heap) (n0 : Nat) (O : Old Z n0 h0) (S_AD : Sa_1 Z (.int 1)) (S_HI : Sa_2 Z (.int 0)) (S_LO : Sa_3 Z (.int 8)) (V_ub : Arv Z h0 ub ku .byte (6 : Int32) [(.int 0), (.int 0), (.int 0), (.int 0), (.int 0), (.int 0)] (.int 0)) (g_ub : n0 ≤ ub) :
    Mt l Z y_12 jdk_52_method_4_code 3 none ws rm_rmPC3_0 #[(.ref ub), (.int 0), (.int x0)] h0 (Q_rmPC3_0 Z ub x0 ku h0 n0) := by
 refine own_met "java/lang/StringUTF16" (plainFor_of_name pn_java_lang_StringUTF16) #[rv ub, iv 0, iv x0] (fun m => rfl) (fun p e s m below meth c s₁ Bd hx hby hml hZ hown hnm X0 e0 => ?_)
 have N0 := Fr.nil n0
 have K := Keep.refl h0 [ub]
 refine Go.gS X0 hx hZ hown (host := "") (Or.inl (own_w hw 94 rfl)) Via.refl e0 (S_AD.ext O.2) (hb hby d21_0) (fun T1 X1 e1 => ?_)
 refine Go.step (S' := T1.setTop (mkF m 38 #[rv ub, iv 1, iv x0] [(.int x0), (.int 0), (.ref ub)])) (fun t k => ?_) ?_
 · refine XS.ifYes X1.here hx rfl (pc0 := 3) (pc' := 28) rfl (hb hby d21_3) rfl ((if0 _ _).trans (feq ((by decide) : ¬ ((1 : Int32) = (0 : Int32)))).2) (by decide) (by decide) ?_
   refine XS.iloadN X1.here hx rfl (hb hby d21_28) rfl ?_
   refine XS.iconst X1.here hx rfl (hb hby d21_29) ?_
   refine XS.ishl X1.here hx rfl (hb hby d21_30) rfl ?_
   refine XS.istoreN X1.here hx rfl (hb hby d21_31) rfl (l' := #[rv ub, iv 0, iv x0]) rfl ?_
   refine XS.aloadN X1.here hx rfl (hb hby d21_32) rfl rfl ?_
   show Steps p.tables e below (T1.setTop (mkF m 33 #[rv ub, iv 0, iv x0] [(.ref ub)])) _
   refine XS.iloadN X1.here hx rfl (hb hby d21_33) rfl ?_
   refine XS.iinc X1.here hx rfl (hb hby d21_34) rfl (l' := #[rv ub, iv 1, iv x0]) rfl ?_
   refine XS.iloadN X1.here hx rfl (hb hby d21_37) rfl ?_
   exact k
 refine Go.gS X1 hx hZ hown (host := "") (Or.inl (own_w hw 95 rfl)) Via.refl e1 (S_HI.ext O.2) (hb hby d21_38) (fun T2 X2 e2 => ?_)
 refine Go.step (S' := T2.setTop (mkF m 43 #[rv ub, iv 1, iv x0] [(.int ((x0 >>> ((0 : Int32) &&& 31)).toInt8.toInt32)), (.int 0), (.ref ub)])) (fun t k => ?_) ?_
 · refine XS.ishr X2.here hx rfl (hb hby d21_41) rfl ?_
   refine XS.i2b X2.here hx rfl (hb hby d21_42) rfl ?_
   exact k
 obtain ⟨cl3, Ar3, q3, S3, N3_, H3, G3⟩ := V_ub
 have hin3 : ¬ ((0 : Int32) < 0 ∨ cl3.slots.size ≤ ((0 : Int32)).toNatClampNeg) := inb_of S3 ⟨by decide, by decide⟩
 obtain ⟨T3, h3, X3, e3, W3, st3⟩ := stB X2 hx hZ e2 Ar3 (j := (0 : Int32)) hin3 (g := (mkF m 43 #[rv ub, iv 1, iv x0] [(.int ((x0 >>> ((0 : Int32) &&& 31)).toInt8.toInt32)), (.int 0), (.ref ub)])) rfl rfl (hb hby d21_43)
 have O := O.wr W3 g_ub
 have K := K.wr W3 (Or.inl (List.mem_of_getElem? (i := 0) rfl))
 have V_ub : Arv Z h3 ub ku .byte (6 : Int32) [(.int (((x0 >>> ((0 : Int32) &&& 31)).toInt8.toInt32).toInt8.toInt32)), (.int 0), (.int 0), (.int 0), (.int 0), (.int 0)] (.int 0) := Arv.set Ar3 q3 S3 N3_ H3 G3 (fits_nar_byte _) W3 0 rfl (Nat.le_of_ble_eq_true rfl)
 rw [(own_b2 _ : (((x0 >>> ((0 : Int32) &&& 31)).toInt8.toInt32).toInt8.toInt32) = (own_lo x0))] at V_ub
 have N3 := Fr.snoc X3 N0 g_ub
 refine Go.step st3 ?_
 refine Go.step (S' := T3.setTop (mkF m 47 #[rv ub, iv 1, iv x0] [(.int x0), (.int 1), (.ref ub)])) (fun t k => ?_) ?_
 · refine XS.aloadN X3.here hx rfl (hb hby d21_44) rfl rfl ?_
   refine XS.iloadN X3.here hx rfl (hb hby d21_45) rfl ?_
   refine XS.iloadN X3.here hx rfl (hb hby d21_46) rfl ?_
   exact k
 refine Go.gS X3 hx hZ hown (host := "") (Or.inl (own_w hw 96 rfl)) Via.refl e3 (S_LO.ext O.2) (hb hby d21_47) (fun T4 X4 e4 => ?_)
 refine Go.step (S' := T4.setTop (mkF m 52 #[rv ub, iv 1, iv x0] [(.int ((x0 >>> ((8 : Int32) &&& 31)).toInt8.toInt32)), (.int 1), (.ref ub)])) (fun t k => ?_) ?_
 · refine XS.ishr X4.here hx rfl (hb hby d21_50) rfl ?_
   refine XS.i2b X4.here hx rfl (hb hby d21_51) rfl ?_
   exact k
 obtain ⟨cl5, Ar5, q5, S5, N5_, H5, G5⟩ := V_ub
 have hin5 : ¬ ((1 : Int32) < 0 ∨ cl5.slots.size ≤ ((1 : Int32)).toNatClampNeg) := inb_of S5 ⟨by decide, by decide⟩
 obtain ⟨T5, h5, X5, e5, W5, st5⟩ := stB X4 hx hZ e4 Ar5 (j := (1 : Int32)) hin5 (g := (mkF m 52 #[rv ub, iv 1, iv x0] [(.int ((x0 >>> ((8 : Int32) &&& 31)).toInt8.toInt32)), (.int 1), (.ref ub)])) rfl rfl (hb hby d21_52)
 have O := O.wr W5 g_ub
 have K := K.wr W5 (Or.inl (List.mem_of_getElem? (i := 0) rfl))
 have V_ub : Arv Z h5 ub ku .byte (6 : Int32) [(.int (own_lo x0)), (.int (((x0 >>> ((8 : Int32) &&& 31)).toInt8.toInt32).toInt8.toInt32)), (.int 0), (.int 0), (.int 0), (.int 0)] (.int 0) := Arv.set Ar5 q5 S5 N5_ H5 G5 (fits_nar_byte _) W5 1 rfl (Nat.le_of_ble_eq_true rfl)
 rw [(own_b2 _ : (((x0 >>> ((8 : Int32) &&& 31)).toInt8.toInt32).toInt8.toInt32) = (own_hi x0))] at V_ub
 have N5 := Fr.snoc X5 N3 g_ub
 refine Go.step st5 ?_
 exact Go.rv X5 hx Bd (hb hby d21_53) e5 ⟨rfl, N5, K, V_ub⟩
abbrev rm_rmGC3_0 : Room := ({ frames := 0, cells := 0, slots := 0, locals := 0 } : Room)
def Q_rmGC3_0 (Z : State) (ub : Addr) (ku : ClassId) (x0 : Int32) (x1 : Int32) (x2 : Int32) (h0 : Heap) (n0 : Nat) (v : Option Value) (h : Heap) (L : List Loc) : Prop := (v = some (.int x0)) ∧ (Fr n0 L) ∧ (h = h0)
theorem rmGC3_0 (l : Launch) (Z : State) (a0 : Array Value) (hw : HW a0 Z) (ws : List Jvm.Cond) (ub : Addr) (ku : ClassId) (x0 : Int32) (x1 : Int32) (x2 : Int32) (h0 : Heap) (n0 : Nat) (O : Old Z n0 h0) (S_AD : Sa_1 Z (.int 1)) (S_HI : Sa_2 Z (.int 0)) (S_LO : Sa_3 Z (.int 8)) (V_ub : Arv Z h0 ub ku .byte (6 : Int32) [(.int (own_lo x0)), (.int (own_hi x0)), (.int (own_lo x1)), (.int (own_hi x1)), (.int (own_lo x2)), (.int (own_hi x2))] (.int 0)) (rax0 : ¬ (x0 < (0 : Int32))) (rbx0 : ¬ ((65535 : Int32) < x0)) :
    Mt l Z y_13 jdk_52_method_5_code 2 (some .char) ws rm_rmGC3_0 #[(.ref ub), (.int 0)] h0 (Q_rmGC3_0 Z ub ku x0 x1 x2 h0 n0) := by
 refine own_met "java/lang/StringUTF16" (plainFor_of_name pn_java_lang_StringUTF16) #[rv ub, iv 0] (fun m => rfl) (fun p e s m below meth c s₁ Bd hx hby hml hZ hown hnm X0 e0 => ?_)
 have N0 := Fr.nil n0
 refine Go.gS X0 hx hZ hown (host := "") (Or.inl (own_w hw 94 rfl)) Via.refl e0 (S_AD.ext O.2) (hb hby d22_0) (fun T1 X1 e1 => ?_)
 refine Go.step (S' := T1.setTop (mkF m 37 #[rv ub, iv 1] [(.int 0), (.ref ub)])) (fun t k => ?_) ?_
 · refine XS.ifYes X1.here hx rfl (pc0 := 3) (pc' := 28) rfl (hb hby d22_3) rfl ((if0 _ _).trans (feq ((by decide) : ¬ ((1 : Int32) = (0 : Int32)))).2) (by decide) (by decide) ?_
   refine XS.iloadN X1.here hx rfl (hb hby d22_28) rfl ?_
   refine XS.iconst X1.here hx rfl (hb hby d22_29) ?_
   refine XS.ishl X1.here hx rfl (hb hby d22_30) rfl ?_
   refine XS.istoreN X1.here hx rfl (hb hby d22_31) rfl (l' := #[rv ub, iv 0]) rfl ?_
   refine XS.aloadN X1.here hx rfl (hb hby d22_32) rfl rfl ?_
   show Steps p.tables e below (T1.setTop (mkF m 33 #[rv ub, iv 0] [(.ref ub)])) _
   refine XS.iloadN X1.here hx rfl (hb hby d22_33) rfl ?_
   refine XS.iinc X1.here hx rfl (hb hby d22_34) rfl (l' := #[rv ub, iv 1]) rfl ?_
   exact k
 refine Go.bal X1 hx hZ e1 V_ub (hb hby d22_37) (v := (.int (own_lo x0))) rfl ?_
 refine Go.step (S' := T1.setTop (mkF m 42 #[rv ub, iv 1] [(.int ((own_lo x0) &&& (255 : Int32)))])) (fun t k => ?_) ?_
 · refine XS.sipush X1.here hx rfl (hb hby d22_38) ?_
   refine XS.iand X1.here hx rfl (hb hby d22_41) rfl ?_
   exact k
 refine Go.gS X1 hx hZ hown (host := "") (Or.inl (own_w hw 95 rfl)) Via.refl e1 (S_HI.ext O.2) (hb hby d22_42) (fun T3 X3 e3 => ?_)
 refine Go.step (S' := T3.setTop (mkF m 48 #[rv ub, iv 1] [(.int 1), (.ref ub), (.int (((own_lo x0) &&& (255 : Int32)) <<< ((0 : Int32) &&& 31)))])) (fun t k => ?_) ?_
 · refine XS.ishl X3.here hx rfl (hb hby d22_45) rfl ?_
   refine XS.aloadN X3.here hx rfl (hb hby d22_46) rfl rfl ?_
   refine XS.iloadN X3.here hx rfl (hb hby d22_47) rfl ?_
   exact k
 refine Go.bal X3 hx hZ e3 V_ub (hb hby d22_48) (v := (.int (own_hi x0))) rfl ?_
 refine Go.step (S' := T3.setTop (mkF m 53 #[rv ub, iv 1] [(.int ((own_hi x0) &&& (255 : Int32))), (.int (((own_lo x0) &&& (255 : Int32)) <<< ((0 : Int32) &&& 31)))])) (fun t k => ?_) ?_
 · refine XS.sipush X3.here hx rfl (hb hby d22_49) ?_
   refine XS.iand X3.here hx rfl (hb hby d22_52) rfl ?_
   exact k
 refine Go.gS X3 hx hZ hown (host := "") (Or.inl (own_w hw 96 rfl)) Via.refl e3 (S_LO.ext O.2) (hb hby d22_53) (fun T5 X5 e5 => ?_)
 refine Go.step (S' := T5.setTop (mkF m 59 #[rv ub, iv 1] [(.int (((((own_lo x0) &&& (255 : Int32)) <<< ((0 : Int32) &&& 31)) ||| (((own_hi x0) &&& (255 : Int32)) <<< ((8 : Int32) &&& 31))).toUInt32.toUInt16.toUInt32.toInt32))])) (fun t k => ?_) ?_
 · refine XS.ishl X5.here hx rfl (hb hby d22_56) rfl ?_
   refine XS.ior X5.here hx rfl (hb hby d22_57) rfl ?_
   refine XS.i2c X5.here hx rfl (hb hby d22_58) rfl ?_
   exact k
 exact Go.rt X5 hx Bd (w := (.int (((((own_lo x0) &&& (255 : Int32)) <<< ((0 : Int32) &&& 31)) ||| (((own_hi x0) &&& (255 : Int32)) <<< ((8 : Int32) &&& 31))).toUInt32.toUInt16.toUInt32.toInt32))) (Jvm.Free.XT.narrow_c _) (Or.inl ⟨rfl, Or.inr (Or.inr (Or.inr (Or.inl rfl))), _, rfl⟩) (hb hby d22_59) e5 ⟨(congrArg (fun z => some (Value.int z)) (own_gc rax0 rbx0)), N0, rfl⟩
abbrev rm_rmPC3_1 : Room := ({ frames := 0, cells := 0, slots := 0, locals := 0 } : Room)
def Q_rmPC3_1 (Z : State) (ub : Addr) (x1 : Int32) (ku : ClassId) (x0 : Int32) (h0 : Heap) (n0 : Nat) (v : Option Value) (h : Heap) (L : List Loc) : Prop := (v = none) ∧ (Fr n0 L) ∧ (Keep h0 h [ub]) ∧ (Arv Z h ub ku .byte (6 : Int32) [(.int (own_lo x0)), (.int (own_hi x0)), (.int (own_lo x1)), (.int (own_hi x1)), (.int 0), (.int 0)] (.int 0))
theorem rmPC3_1 (l : Launch) (Z : State) (a0 : Array Value) (hw : HW a0 Z) (ws : List Jvm.Cond) (ub : Addr) (x1 : Int32) (ku : ClassId) (x0 : Int32) (h0 : Heap) (n0 : Nat) (O : Old Z n0 h0) (S_AD : Sa_1 Z (.int 1)) (S_HI : Sa_2 Z (.int 0)) (S_LO : Sa_3 Z (.int 8)) (V_ub : Arv Z h0 ub ku .byte (6 : Int32) [(.int (own_lo x0)), (.int (own_hi x0)), (.int 0), (.int 0), (.int 0), (.int 0)] (.int 0)) (g_ub : n0 ≤ ub) :
    Mt l Z y_12 jdk_52_method_4_code 3 none ws rm_rmPC3_1 #[(.ref ub), (.int 1), (.int x1)] h0 (Q_rmPC3_1 Z ub x1 ku x0 h0 n0) := by
 refine own_met "java/lang/StringUTF16" (plainFor_of_name pn_java_lang_StringUTF16) #[rv ub, iv 1, iv x1] (fun m => rfl) (fun p e s m below meth c s₁ Bd hx hby hml hZ hown hnm X0 e0 => ?_)
 have N0 := Fr.nil n0
 have K := Keep.refl h0 [ub]
 refine Go.gS X0 hx hZ hown (host := "") (Or.inl (own_w hw 94 rfl)) Via.refl e0 (S_AD.ext O.2) (hb hby d21_0) (fun T1 X1 e1 => ?_)
 refine Go.step (S' := T1.setTop (mkF m 38 #[rv ub, iv 3, iv x1] [(.int x1), (.int 2), (.ref ub)])) (fun t k => ?_) ?_
 · refine XS.ifYes X1.here hx rfl (pc0 := 3) (pc' := 28) rfl (hb hby d21_3) rfl ((if0 _ _).trans (feq ((by decide) : ¬ ((1 : Int32) = (0 : Int32)))).2) (by decide) (by decide) ?_
   refine XS.iloadN X1.here hx rfl (hb hby d21_28) rfl ?_
   refine XS.iconst X1.here hx rfl (hb hby d21_29) ?_
   refine XS.ishl X1.here hx rfl (hb hby d21_30) rfl ?_
   refine XS.istoreN X1.here hx rfl (hb hby d21_31) rfl (l' := #[rv ub, iv 2, iv x1]) rfl ?_
   refine XS.aloadN X1.here hx rfl (hb hby d21_32) rfl rfl ?_
   show Steps p.tables e below (T1.setTop (mkF m 33 #[rv ub, iv 2, iv x1] [(.ref ub)])) _
   refine XS.iloadN X1.here hx rfl (hb hby d21_33) rfl ?_
   refine XS.iinc X1.here hx rfl (hb hby d21_34) rfl (l' := #[rv ub, iv 3, iv x1]) rfl ?_
   refine XS.iloadN X1.here hx rfl (hb hby d21_37) rfl ?_
   exact k
 refine Go.gS X1 hx hZ hown (host := "") (Or.inl (own_w hw 95 rfl)) Via.refl e1 (S_HI.ext O.2) (hb hby d21_38) (fun T2 X2 e2 => ?_)
 refine Go.step (S' := T2.setTop (mkF m 43 #[rv ub, iv 3, iv x1] [(.int ((x1 >>> ((0 : Int32) &&& 31)).toInt8.toInt32)), (.int 2), (.ref ub)])) (fun t k => ?_) ?_
 · refine XS.ishr X2.here hx rfl (hb hby d21_41) rfl ?_
   refine XS.i2b X2.here hx rfl (hb hby d21_42) rfl ?_
   exact k
 obtain ⟨cl3, Ar3, q3, S3, N3_, H3, G3⟩ := V_ub
 have hin3 : ¬ ((2 : Int32) < 0 ∨ cl3.slots.size ≤ ((2 : Int32)).toNatClampNeg) := inb_of S3 ⟨by decide, by decide⟩
 obtain ⟨T3, h3, X3, e3, W3, st3⟩ := stB X2 hx hZ e2 Ar3 (j := (2 : Int32)) hin3 (g := (mkF m 43 #[rv ub, iv 3, iv x1] [(.int ((x1 >>> ((0 : Int32) &&& 31)).toInt8.toInt32)), (.int 2), (.ref ub)])) rfl rfl (hb hby d21_43)
 have O := O.wr W3 g_ub
 have K := K.wr W3 (Or.inl (List.mem_of_getElem? (i := 0) rfl))
 have V_ub : Arv Z h3 ub ku .byte (6 : Int32) [(.int (own_lo x0)), (.int (own_hi x0)), (.int (((x1 >>> ((0 : Int32) &&& 31)).toInt8.toInt32).toInt8.toInt32)), (.int 0), (.int 0), (.int 0)] (.int 0) := Arv.set Ar3 q3 S3 N3_ H3 G3 (fits_nar_byte _) W3 2 rfl (Nat.le_of_ble_eq_true rfl)
 rw [(own_b2 _ : (((x1 >>> ((0 : Int32) &&& 31)).toInt8.toInt32).toInt8.toInt32) = (own_lo x1))] at V_ub
 have N3 := Fr.snoc X3 N0 g_ub
 refine Go.step st3 ?_
 refine Go.step (S' := T3.setTop (mkF m 47 #[rv ub, iv 3, iv x1] [(.int x1), (.int 3), (.ref ub)])) (fun t k => ?_) ?_
 · refine XS.aloadN X3.here hx rfl (hb hby d21_44) rfl rfl ?_
   refine XS.iloadN X3.here hx rfl (hb hby d21_45) rfl ?_
   refine XS.iloadN X3.here hx rfl (hb hby d21_46) rfl ?_
   exact k
 refine Go.gS X3 hx hZ hown (host := "") (Or.inl (own_w hw 96 rfl)) Via.refl e3 (S_LO.ext O.2) (hb hby d21_47) (fun T4 X4 e4 => ?_)
 refine Go.step (S' := T4.setTop (mkF m 52 #[rv ub, iv 3, iv x1] [(.int ((x1 >>> ((8 : Int32) &&& 31)).toInt8.toInt32)), (.int 3), (.ref ub)])) (fun t k => ?_) ?_
 · refine XS.ishr X4.here hx rfl (hb hby d21_50) rfl ?_
   refine XS.i2b X4.here hx rfl (hb hby d21_51) rfl ?_
   exact k
 obtain ⟨cl5, Ar5, q5, S5, N5_, H5, G5⟩ := V_ub
 have hin5 : ¬ ((3 : Int32) < 0 ∨ cl5.slots.size ≤ ((3 : Int32)).toNatClampNeg) := inb_of S5 ⟨by decide, by decide⟩
 obtain ⟨T5, h5, X5, e5, W5, st5⟩ := stB X4 hx hZ e4 Ar5 (j := (3 : Int32)) hin5 (g := (mkF m 52 #[rv ub, iv 3, iv x1] [(.int ((x1 >>> ((8 : Int32) &&& 31)).toInt8.toInt32)), (.int 3), (.ref ub)])) rfl rfl (hb hby d21_52)
 have O := O.wr W5 g_ub
 have K := K.wr W5 (Or.inl (List.mem_of_getElem? (i := 0) rfl))
 have V_ub : Arv Z h5 ub ku .byte (6 : Int32) [(.int (own_lo x0)), (.int (own_hi x0)), (.int (own_lo x1)), (.int (((x1 >>> ((8 : Int32) &&& 31)).toInt8.toInt32).toInt8.toInt32)), (.int 0), (.int 0)] (.int 0) := Arv.set Ar5 q5 S5 N5_ H5 G5 (fits_nar_byte _) W5 3 rfl (Nat.le_of_ble_eq_true rfl)
 rw [(own_b2 _ : (((x1 >>> ((8 : Int32) &&& 31)).toInt8.toInt32).toInt8.toInt32) = (own_hi x1))] at V_ub
 have N5 := Fr.snoc X5 N3 g_ub
 refine Go.step st5 ?_
 exact Go.rv X5 hx Bd (hb hby d21_53) e5 ⟨rfl, N5, K, V_ub⟩
abbrev rm_rmGC3_1 : Room := ({ frames := 0, cells := 0, slots := 0, locals := 0 } : Room)
def Q_rmGC3_1 (Z : State) (ub : Addr) (ku : ClassId) (x0 : Int32) (x1 : Int32) (x2 : Int32) (h0 : Heap) (n0 : Nat) (v : Option Value) (h : Heap) (L : List Loc) : Prop := (v = some (.int x1)) ∧ (Fr n0 L) ∧ (h = h0)
theorem rmGC3_1 (l : Launch) (Z : State) (a0 : Array Value) (hw : HW a0 Z) (ws : List Jvm.Cond) (ub : Addr) (ku : ClassId) (x0 : Int32) (x1 : Int32) (x2 : Int32) (h0 : Heap) (n0 : Nat) (O : Old Z n0 h0) (S_AD : Sa_1 Z (.int 1)) (S_HI : Sa_2 Z (.int 0)) (S_LO : Sa_3 Z (.int 8)) (V_ub : Arv Z h0 ub ku .byte (6 : Int32) [(.int (own_lo x0)), (.int (own_hi x0)), (.int (own_lo x1)), (.int (own_hi x1)), (.int (own_lo x2)), (.int (own_hi x2))] (.int 0)) (rax1 : ¬ (x1 < (0 : Int32))) (rbx1 : ¬ ((65535 : Int32) < x1)) :
    Mt l Z y_13 jdk_52_method_5_code 2 (some .char) ws rm_rmGC3_1 #[(.ref ub), (.int 1)] h0 (Q_rmGC3_1 Z ub ku x0 x1 x2 h0 n0) := by
 refine own_met "java/lang/StringUTF16" (plainFor_of_name pn_java_lang_StringUTF16) #[rv ub, iv 1] (fun m => rfl) (fun p e s m below meth c s₁ Bd hx hby hml hZ hown hnm X0 e0 => ?_)
 have N0 := Fr.nil n0
 refine Go.gS X0 hx hZ hown (host := "") (Or.inl (own_w hw 94 rfl)) Via.refl e0 (S_AD.ext O.2) (hb hby d22_0) (fun T1 X1 e1 => ?_)
 refine Go.step (S' := T1.setTop (mkF m 37 #[rv ub, iv 3] [(.int 2), (.ref ub)])) (fun t k => ?_) ?_
 · refine XS.ifYes X1.here hx rfl (pc0 := 3) (pc' := 28) rfl (hb hby d22_3) rfl ((if0 _ _).trans (feq ((by decide) : ¬ ((1 : Int32) = (0 : Int32)))).2) (by decide) (by decide) ?_
   refine XS.iloadN X1.here hx rfl (hb hby d22_28) rfl ?_
   refine XS.iconst X1.here hx rfl (hb hby d22_29) ?_
   refine XS.ishl X1.here hx rfl (hb hby d22_30) rfl ?_
   refine XS.istoreN X1.here hx rfl (hb hby d22_31) rfl (l' := #[rv ub, iv 2]) rfl ?_
   refine XS.aloadN X1.here hx rfl (hb hby d22_32) rfl rfl ?_
   show Steps p.tables e below (T1.setTop (mkF m 33 #[rv ub, iv 2] [(.ref ub)])) _
   refine XS.iloadN X1.here hx rfl (hb hby d22_33) rfl ?_
   refine XS.iinc X1.here hx rfl (hb hby d22_34) rfl (l' := #[rv ub, iv 3]) rfl ?_
   exact k
 refine Go.bal X1 hx hZ e1 V_ub (hb hby d22_37) (v := (.int (own_lo x1))) rfl ?_
 refine Go.step (S' := T1.setTop (mkF m 42 #[rv ub, iv 3] [(.int ((own_lo x1) &&& (255 : Int32)))])) (fun t k => ?_) ?_
 · refine XS.sipush X1.here hx rfl (hb hby d22_38) ?_
   refine XS.iand X1.here hx rfl (hb hby d22_41) rfl ?_
   exact k
 refine Go.gS X1 hx hZ hown (host := "") (Or.inl (own_w hw 95 rfl)) Via.refl e1 (S_HI.ext O.2) (hb hby d22_42) (fun T3 X3 e3 => ?_)
 refine Go.step (S' := T3.setTop (mkF m 48 #[rv ub, iv 3] [(.int 3), (.ref ub), (.int (((own_lo x1) &&& (255 : Int32)) <<< ((0 : Int32) &&& 31)))])) (fun t k => ?_) ?_
 · refine XS.ishl X3.here hx rfl (hb hby d22_45) rfl ?_
   refine XS.aloadN X3.here hx rfl (hb hby d22_46) rfl rfl ?_
   refine XS.iloadN X3.here hx rfl (hb hby d22_47) rfl ?_
   exact k
 refine Go.bal X3 hx hZ e3 V_ub (hb hby d22_48) (v := (.int (own_hi x1))) rfl ?_
 refine Go.step (S' := T3.setTop (mkF m 53 #[rv ub, iv 3] [(.int ((own_hi x1) &&& (255 : Int32))), (.int (((own_lo x1) &&& (255 : Int32)) <<< ((0 : Int32) &&& 31)))])) (fun t k => ?_) ?_
 · refine XS.sipush X3.here hx rfl (hb hby d22_49) ?_
   refine XS.iand X3.here hx rfl (hb hby d22_52) rfl ?_
   exact k
 refine Go.gS X3 hx hZ hown (host := "") (Or.inl (own_w hw 96 rfl)) Via.refl e3 (S_LO.ext O.2) (hb hby d22_53) (fun T5 X5 e5 => ?_)
 refine Go.step (S' := T5.setTop (mkF m 59 #[rv ub, iv 3] [(.int (((((own_lo x1) &&& (255 : Int32)) <<< ((0 : Int32) &&& 31)) ||| (((own_hi x1) &&& (255 : Int32)) <<< ((8 : Int32) &&& 31))).toUInt32.toUInt16.toUInt32.toInt32))])) (fun t k => ?_) ?_
 · refine XS.ishl X5.here hx rfl (hb hby d22_56) rfl ?_
   refine XS.ior X5.here hx rfl (hb hby d22_57) rfl ?_
   refine XS.i2c X5.here hx rfl (hb hby d22_58) rfl ?_
   exact k
 exact Go.rt X5 hx Bd (w := (.int (((((own_lo x1) &&& (255 : Int32)) <<< ((0 : Int32) &&& 31)) ||| (((own_hi x1) &&& (255 : Int32)) <<< ((8 : Int32) &&& 31))).toUInt32.toUInt16.toUInt32.toInt32))) (Jvm.Free.XT.narrow_c _) (Or.inl ⟨rfl, Or.inr (Or.inr (Or.inr (Or.inl rfl))), _, rfl⟩) (hb hby d22_59) e5 ⟨(congrArg (fun z => some (Value.int z)) (own_gc rax1 rbx1)), N0, rfl⟩
abbrev rm_rmPC3_2 : Room := ({ frames := 0, cells := 0, slots := 0, locals := 0 } : Room)
def Q_rmPC3_2 (Z : State) (ub : Addr) (x2 : Int32) (ku : ClassId) (x0 : Int32) (x1 : Int32) (h0 : Heap) (n0 : Nat) (v : Option Value) (h : Heap) (L : List Loc) : Prop := (v = none) ∧ (Fr n0 L) ∧ (Keep h0 h [ub]) ∧ (Arv Z h ub ku .byte (6 : Int32) [(.int (own_lo x0)), (.int (own_hi x0)), (.int (own_lo x1)), (.int (own_hi x1)), (.int (own_lo x2)), (.int (own_hi x2))] (.int 0))
theorem rmPC3_2 (l : Launch) (Z : State) (a0 : Array Value) (hw : HW a0 Z) (ws : List Jvm.Cond) (ub : Addr) (x2 : Int32) (ku : ClassId) (x0 : Int32) (x1 : Int32) (h0 : Heap) (n0 : Nat) (O : Old Z n0 h0) (S_AD : Sa_1 Z (.int 1)) (S_HI : Sa_2 Z (.int 0)) (S_LO : Sa_3 Z (.int 8)) (V_ub : Arv Z h0 ub ku .byte (6 : Int32) [(.int (own_lo x0)), (.int (own_hi x0)), (.int (own_lo x1)), (.int (own_hi x1)), (.int 0), (.int 0)] (.int 0)) (g_ub : n0 ≤ ub) :
    Mt l Z y_12 jdk_52_method_4_code 3 none ws rm_rmPC3_2 #[(.ref ub), (.int 2), (.int x2)] h0 (Q_rmPC3_2 Z ub x2 ku x0 x1 h0 n0) := by
 refine own_met "java/lang/StringUTF16" (plainFor_of_name pn_java_lang_StringUTF16) #[rv ub, iv 2, iv x2] (fun m => rfl) (fun p e s m below meth c s₁ Bd hx hby hml hZ hown hnm X0 e0 => ?_)
 have N0 := Fr.nil n0
 have K := Keep.refl h0 [ub]
 refine Go.gS X0 hx hZ hown (host := "") (Or.inl (own_w hw 94 rfl)) Via.refl e0 (S_AD.ext O.2) (hb hby d21_0) (fun T1 X1 e1 => ?_)
 refine Go.step (S' := T1.setTop (mkF m 38 #[rv ub, iv 5, iv x2] [(.int x2), (.int 4), (.ref ub)])) (fun t k => ?_) ?_
 · refine XS.ifYes X1.here hx rfl (pc0 := 3) (pc' := 28) rfl (hb hby d21_3) rfl ((if0 _ _).trans (feq ((by decide) : ¬ ((1 : Int32) = (0 : Int32)))).2) (by decide) (by decide) ?_
   refine XS.iloadN X1.here hx rfl (hb hby d21_28) rfl ?_
   refine XS.iconst X1.here hx rfl (hb hby d21_29) ?_
   refine XS.ishl X1.here hx rfl (hb hby d21_30) rfl ?_
   refine XS.istoreN X1.here hx rfl (hb hby d21_31) rfl (l' := #[rv ub, iv 4, iv x2]) rfl ?_
   refine XS.aloadN X1.here hx rfl (hb hby d21_32) rfl rfl ?_
   show Steps p.tables e below (T1.setTop (mkF m 33 #[rv ub, iv 4, iv x2] [(.ref ub)])) _
   refine XS.iloadN X1.here hx rfl (hb hby d21_33) rfl ?_
   refine XS.iinc X1.here hx rfl (hb hby d21_34) rfl (l' := #[rv ub, iv 5, iv x2]) rfl ?_
   refine XS.iloadN X1.here hx rfl (hb hby d21_37) rfl ?_
   exact k
 refine Go.gS X1 hx hZ hown (host := "") (Or.inl (own_w hw 95 rfl)) Via.refl e1 (S_HI.ext O.2) (hb hby d21_38) (fun T2 X2 e2 => ?_)
 refine Go.step (S' := T2.setTop (mkF m 43 #[rv ub, iv 5, iv x2] [(.int ((x2 >>> ((0 : Int32) &&& 31)).toInt8.toInt32)), (.int 4), (.ref ub)])) (fun t k => ?_) ?_
 · refine XS.ishr X2.here hx rfl (hb hby d21_41) rfl ?_
   refine XS.i2b X2.here hx rfl (hb hby d21_42) rfl ?_
   exact k
 obtain ⟨cl3, Ar3, q3, S3, N3_, H3, G3⟩ := V_ub
 have hin3 : ¬ ((4 : Int32) < 0 ∨ cl3.slots.size ≤ ((4 : Int32)).toNatClampNeg) := inb_of S3 ⟨by decide, by decide⟩
 obtain ⟨T3, h3, X3, e3, W3, st3⟩ := stB X2 hx hZ e2 Ar3 (j := (4 : Int32)) hin3 (g := (mkF m 43 #[rv ub, iv 5, iv x2] [(.int ((x2 >>> ((0 : Int32) &&& 31)).toInt8.toInt32)), (.int 4), (.ref ub)])) rfl rfl (hb hby d21_43)
 have O := O.wr W3 g_ub
 have K := K.wr W3 (Or.inl (List.mem_of_getElem? (i := 0) rfl))
 have V_ub : Arv Z h3 ub ku .byte (6 : Int32) [(.int (own_lo x0)), (.int (own_hi x0)), (.int (own_lo x1)), (.int (own_hi x1)), (.int (((x2 >>> ((0 : Int32) &&& 31)).toInt8.toInt32).toInt8.toInt32)), (.int 0)] (.int 0) := Arv.set Ar3 q3 S3 N3_ H3 G3 (fits_nar_byte _) W3 4 rfl (Nat.le_of_ble_eq_true rfl)
 rw [(own_b2 _ : (((x2 >>> ((0 : Int32) &&& 31)).toInt8.toInt32).toInt8.toInt32) = (own_lo x2))] at V_ub
 have N3 := Fr.snoc X3 N0 g_ub
 refine Go.step st3 ?_
 refine Go.step (S' := T3.setTop (mkF m 47 #[rv ub, iv 5, iv x2] [(.int x2), (.int 5), (.ref ub)])) (fun t k => ?_) ?_
 · refine XS.aloadN X3.here hx rfl (hb hby d21_44) rfl rfl ?_
   refine XS.iloadN X3.here hx rfl (hb hby d21_45) rfl ?_
   refine XS.iloadN X3.here hx rfl (hb hby d21_46) rfl ?_
   exact k
 refine Go.gS X3 hx hZ hown (host := "") (Or.inl (own_w hw 96 rfl)) Via.refl e3 (S_LO.ext O.2) (hb hby d21_47) (fun T4 X4 e4 => ?_)
 refine Go.step (S' := T4.setTop (mkF m 52 #[rv ub, iv 5, iv x2] [(.int ((x2 >>> ((8 : Int32) &&& 31)).toInt8.toInt32)), (.int 5), (.ref ub)])) (fun t k => ?_) ?_
 · refine XS.ishr X4.here hx rfl (hb hby d21_50) rfl ?_
   refine XS.i2b X4.here hx rfl (hb hby d21_51) rfl ?_
   exact k
 obtain ⟨cl5, Ar5, q5, S5, N5_, H5, G5⟩ := V_ub
 have hin5 : ¬ ((5 : Int32) < 0 ∨ cl5.slots.size ≤ ((5 : Int32)).toNatClampNeg) := inb_of S5 ⟨by decide, by decide⟩
 obtain ⟨T5, h5, X5, e5, W5, st5⟩ := stB X4 hx hZ e4 Ar5 (j := (5 : Int32)) hin5 (g := (mkF m 52 #[rv ub, iv 5, iv x2] [(.int ((x2 >>> ((8 : Int32) &&& 31)).toInt8.toInt32)), (.int 5), (.ref ub)])) rfl rfl (hb hby d21_52)
 have O := O.wr W5 g_ub
 have K := K.wr W5 (Or.inl (List.mem_of_getElem? (i := 0) rfl))
 have V_ub : Arv Z h5 ub ku .byte (6 : Int32) [(.int (own_lo x0)), (.int (own_hi x0)), (.int (own_lo x1)), (.int (own_hi x1)), (.int (own_lo x2)), (.int (((x2 >>> ((8 : Int32) &&& 31)).toInt8.toInt32).toInt8.toInt32))] (.int 0) := Arv.set Ar5 q5 S5 N5_ H5 G5 (fits_nar_byte _) W5 5 rfl (Nat.le_of_ble_eq_true rfl)
 rw [(own_b2 _ : (((x2 >>> ((8 : Int32) &&& 31)).toInt8.toInt32).toInt8.toInt32) = (own_hi x2))] at V_ub
 have N5 := Fr.snoc X5 N3 g_ub
 refine Go.step st5 ?_
 exact Go.rv X5 hx Bd (hb hby d21_53) e5 ⟨rfl, N5, K, V_ub⟩
abbrev rm_rmGC3_2 : Room := ({ frames := 0, cells := 0, slots := 0, locals := 0 } : Room)
def Q_rmGC3_2 (Z : State) (ub : Addr) (ku : ClassId) (x0 : Int32) (x1 : Int32) (x2 : Int32) (h0 : Heap) (n0 : Nat) (v : Option Value) (h : Heap) (L : List Loc) : Prop := (v = some (.int x2)) ∧ (Fr n0 L) ∧ (h = h0)
theorem rmGC3_2 (l : Launch) (Z : State) (a0 : Array Value) (hw : HW a0 Z) (ws : List Jvm.Cond) (ub : Addr) (ku : ClassId) (x0 : Int32) (x1 : Int32) (x2 : Int32) (h0 : Heap) (n0 : Nat) (O : Old Z n0 h0) (S_AD : Sa_1 Z (.int 1)) (S_HI : Sa_2 Z (.int 0)) (S_LO : Sa_3 Z (.int 8)) (V_ub : Arv Z h0 ub ku .byte (6 : Int32) [(.int (own_lo x0)), (.int (own_hi x0)), (.int (own_lo x1)), (.int (own_hi x1)), (.int (own_lo x2)), (.int (own_hi x2))] (.int 0)) (rax2 : ¬ (x2 < (0 : Int32))) (rbx2 : ¬ ((65535 : Int32) < x2)) :
    Mt l Z y_13 jdk_52_method_5_code 2 (some .char) ws rm_rmGC3_2 #[(.ref ub), (.int 2)] h0 (Q_rmGC3_2 Z ub ku x0 x1 x2 h0 n0) := by
 refine own_met "java/lang/StringUTF16" (plainFor_of_name pn_java_lang_StringUTF16) #[rv ub, iv 2] (fun m => rfl) (fun p e s m below meth c s₁ Bd hx hby hml hZ hown hnm X0 e0 => ?_)
 have N0 := Fr.nil n0
 refine Go.gS X0 hx hZ hown (host := "") (Or.inl (own_w hw 94 rfl)) Via.refl e0 (S_AD.ext O.2) (hb hby d22_0) (fun T1 X1 e1 => ?_)
 refine Go.step (S' := T1.setTop (mkF m 37 #[rv ub, iv 5] [(.int 4), (.ref ub)])) (fun t k => ?_) ?_
 · refine XS.ifYes X1.here hx rfl (pc0 := 3) (pc' := 28) rfl (hb hby d22_3) rfl ((if0 _ _).trans (feq ((by decide) : ¬ ((1 : Int32) = (0 : Int32)))).2) (by decide) (by decide) ?_
   refine XS.iloadN X1.here hx rfl (hb hby d22_28) rfl ?_
   refine XS.iconst X1.here hx rfl (hb hby d22_29) ?_
   refine XS.ishl X1.here hx rfl (hb hby d22_30) rfl ?_
   refine XS.istoreN X1.here hx rfl (hb hby d22_31) rfl (l' := #[rv ub, iv 4]) rfl ?_
   refine XS.aloadN X1.here hx rfl (hb hby d22_32) rfl rfl ?_
   show Steps p.tables e below (T1.setTop (mkF m 33 #[rv ub, iv 4] [(.ref ub)])) _
   refine XS.iloadN X1.here hx rfl (hb hby d22_33) rfl ?_
   refine XS.iinc X1.here hx rfl (hb hby d22_34) rfl (l' := #[rv ub, iv 5]) rfl ?_
   exact k
 refine Go.bal X1 hx hZ e1 V_ub (hb hby d22_37) (v := (.int (own_lo x2))) rfl ?_
 refine Go.step (S' := T1.setTop (mkF m 42 #[rv ub, iv 5] [(.int ((own_lo x2) &&& (255 : Int32)))])) (fun t k => ?_) ?_
 · refine XS.sipush X1.here hx rfl (hb hby d22_38) ?_
   refine XS.iand X1.here hx rfl (hb hby d22_41) rfl ?_
   exact k
 refine Go.gS X1 hx hZ hown (host := "") (Or.inl (own_w hw 95 rfl)) Via.refl e1 (S_HI.ext O.2) (hb hby d22_42) (fun T3 X3 e3 => ?_)
 refine Go.step (S' := T3.setTop (mkF m 48 #[rv ub, iv 5] [(.int 5), (.ref ub), (.int (((own_lo x2) &&& (255 : Int32)) <<< ((0 : Int32) &&& 31)))])) (fun t k => ?_) ?_
 · refine XS.ishl X3.here hx rfl (hb hby d22_45) rfl ?_
   refine XS.aloadN X3.here hx rfl (hb hby d22_46) rfl rfl ?_
   refine XS.iloadN X3.here hx rfl (hb hby d22_47) rfl ?_
   exact k
 refine Go.bal X3 hx hZ e3 V_ub (hb hby d22_48) (v := (.int (own_hi x2))) rfl ?_
 refine Go.step (S' := T3.setTop (mkF m 53 #[rv ub, iv 5] [(.int ((own_hi x2) &&& (255 : Int32))), (.int (((own_lo x2) &&& (255 : Int32)) <<< ((0 : Int32) &&& 31)))])) (fun t k => ?_) ?_
 · refine XS.sipush X3.here hx rfl (hb hby d22_49) ?_
   refine XS.iand X3.here hx rfl (hb hby d22_52) rfl ?_
   exact k
 refine Go.gS X3 hx hZ hown (host := "") (Or.inl (own_w hw 96 rfl)) Via.refl e3 (S_LO.ext O.2) (hb hby d22_53) (fun T5 X5 e5 => ?_)
 refine Go.step (S' := T5.setTop (mkF m 59 #[rv ub, iv 5] [(.int (((((own_lo x2) &&& (255 : Int32)) <<< ((0 : Int32) &&& 31)) ||| (((own_hi x2) &&& (255 : Int32)) <<< ((8 : Int32) &&& 31))).toUInt32.toUInt16.toUInt32.toInt32))])) (fun t k => ?_) ?_
 · refine XS.ishl X5.here hx rfl (hb hby d22_56) rfl ?_
   refine XS.ior X5.here hx rfl (hb hby d22_57) rfl ?_
   refine XS.i2c X5.here hx rfl (hb hby d22_58) rfl ?_
   exact k
 exact Go.rt X5 hx Bd (w := (.int (((((own_lo x2) &&& (255 : Int32)) <<< ((0 : Int32) &&& 31)) ||| (((own_hi x2) &&& (255 : Int32)) <<< ((8 : Int32) &&& 31))).toUInt32.toUInt16.toUInt32.toInt32))) (Jvm.Free.XT.narrow_c _) (Or.inl ⟨rfl, Or.inr (Or.inr (Or.inr (Or.inl rfl))), _, rfl⟩) (hb hby d22_59) e5 ⟨(congrArg (fun z => some (Value.int z)) (own_gc rax2 rbx2)), N0, rfl⟩
abbrev rm_rmTo3 : Room := ({ frames := 2, cells := 1, slots := 6, locals := 24 } : Room)
def Q_rmTo3 (Z : State) (vc : Addr) (kc : ClassId) (x0 : Int32) (x1 : Int32) (x2 : Int32) (h0 : Heap) (n0 : Nat) (v : Option Value) (h : Heap) (L : List Loc) : Prop := ∃ b : Addr, ∃ kb : ClassId, (v = some (.ref b)) ∧ (Fr n0 L) ∧ (Keep h0 h []) ∧ (Arv Z h b kb .byte (6 : Int32) [(.int (own_lo x0)), (.int (own_hi x0)), (.int (own_lo x1)), (.int (own_hi x1)), (.int (own_lo x2)), (.int (own_hi x2))] (.int 0))
theorem rmTo3 (l : Launch) (Z : State) (a0 : Array Value) (hw : HW a0 Z) (ws : List Jvm.Cond) (vc : Addr) (kc : ClassId) (x0 : Int32) (x1 : Int32) (x2 : Int32) (h0 : Heap) (n0 : Nat) (O : Old Z n0 h0) (S_AD : Sa_1 Z (.int 1)) (S_HI : Sa_2 Z (.int 0)) (S_LO : Sa_3 Z (.int 8)) (V_vc : Arv Z h0 vc kc .char (3 : Int32) [(.int x0), (.int x1), (.int x2)] (.int 0)) :
    Mt l Z y_14 jdk_52_method_14_code 5 (some (.array .byte)) ws rm_rmTo3 #[(.ref vc), (.int 0), (.int 3)] h0 (Q_rmTo3 Z vc kc x0 x1 x2 h0 n0) := by
 refine own_met "java/lang/StringUTF16" (plainFor_of_name pn_java_lang_StringUTF16) #[rv vc, iv 0, iv 3, u_, u_] (fun m => rfl) (fun p e s m below meth c s₁ Bd hx hby hml hZ hown hnm X0 e0 => ?_)
 have N0 := Fr.nil n0
 have K := Keep.refl h0 []
 refine Go.step (S' := s₁.setTop (mkF m 1 #[rv vc, iv 0, iv 3, u_, u_] [(.int 3)])) (fun t k => ?_) ?_
 · refine XS.iloadN X0.here hx rfl (hb hby d18_0) rfl ?_
   exact k
 refine Go.cS X0 hx hml hown hZ (own_w hw 84 rfl) (own_w hw 85 rfl) (own_w hw 70 rfl) (own_w hw 86 rfl) (rmNB3 l Z a0 hw []  h0 n0 O ) 0 [] pd__28I_29_5bB (hb hby d18_1) e0 (fun _ T1 L1 X1 hQ1 => ?_)
 obtain ⟨b_1, kb_1, rfl, Nq1, K1, P1_V, gb_1, sb_1⟩ := hQ1
 have N1 := Fr.app N0 Nq1
 have sz_b_1 : h0.size ≤ b_1 := Nat.le_trans K.1 sb_1
 have ne_vc_b_1 : vc ≠ b_1 := Nat.ne_of_lt (Nat.lt_of_lt_of_le V_vc.lt sb_1)
 have O := O.keep K1 all0
 have V_vc := V_vc.keep K1 nin0
 have K := K.trans K1 all0
 have V_1 := P1_V
 have g_b_1 := gb_1
 refine Go.step (S' := T1.setTop (mkF m 19 #[rv vc, iv 0, iv 3, rv b_1, iv 0] [(.int 0), (.ref vc), (.int 0), (.ref b_1)])) (fun t k => ?_) ?_
 · refine XS.astoreN X1.here hx rfl (hb hby d18_4) rfl rfl (l' := #[rv vc, iv 0, iv 3, rv b_1, u_]) rfl ?_
   refine XS.iconst X1.here hx rfl (hb hby d18_5) ?_
   refine XS.istore X1.here hx rfl (hb hby d18_6) rfl (l' := #[rv vc, iv 0, iv 3, rv b_1, iv 0]) rfl ?_
   refine XS.iload X1.here hx rfl (hb hby d18_8) rfl ?_
   refine XS.iloadN X1.here hx rfl (hb hby d18_10) rfl ?_
   refine XS.icmpNo X1.here hx rfl (hb hby d18_11) rfl (tlt ((by decide) : (0 : Int32) < (3 : Int32))).2.1 ?_
   show Steps p.tables e below (T1.setTop (mkF m 14 #[rv vc, iv 0, iv 3, rv b_1, iv 0] [])) _
   refine XS.aloadN X1.here hx rfl (hb hby d18_14) rfl rfl ?_
   refine XS.iload X1.here hx rfl (hb hby d18_15) rfl ?_
   refine XS.aloadN X1.here hx rfl (hb hby d18_17) rfl rfl ?_
   refine XS.iloadN X1.here hx rfl (hb hby d18_18) rfl ?_
   exact k
 refine Go.cal X1 hx hZ (Eq.refl T1.heap) V_vc (hb hby d18_19) (v := (.int x0)) rfl ?_
 refine Go.cS X1 hx hml hown hZ (own_w hw 91 rfl) (own_w hw 92 rfl) (own_w hw 70 rfl) (own_w hw 93 rfl) (rmPC3_0 l Z a0 hw [] b_1 x0 kb_1 T1.heap n0 O S_AD S_HI S_LO V_1 gb_1) 0 [] pd__28_5bBII_29V (hb hby d18_20) (Eq.refl T1.heap) (fun _ T3 L3 X3 hQ3 => ?_)
 obtain ⟨rfl, Nq3, K3, P3_V⟩ := hQ3
 have N3 := Fr.app N1 Nq3
 have O := O.keep K3 (allS g_b_1 all0)
 have V_vc := V_vc.keep K3 (ninS ne_vc_b_1 nin0)
 have K := K.trans K3 (allS (Or.inr sz_b_1) all0)
 have V_3 := P3_V
 refine Go.step (S' := T3.setTop (mkF m 19 #[rv vc, iv 1, iv 3, rv b_1, iv 1] [(.int 1), (.ref vc), (.int 1), (.ref b_1)])) (fun t k => ?_) ?_
 · refine XS.iinc X3.here hx rfl (hb hby d18_23) rfl (l' := #[rv vc, iv 1, iv 3, rv b_1, iv 0]) rfl ?_
   refine XS.iinc X3.here hx rfl (hb hby d18_26) rfl (l' := #[rv vc, iv 1, iv 3, rv b_1, iv 1]) rfl ?_
   refine XS.goto X3.here hx rfl (pc0 := 29) (pc' := 8) rfl (hb hby d18_29) (by decide) (by decide) ?_
   refine XS.iload X3.here hx rfl (hb hby d18_8) rfl ?_
   refine XS.iloadN X3.here hx rfl (hb hby d18_10) rfl ?_
   refine XS.icmpNo X3.here hx rfl (hb hby d18_11) rfl (tlt ((by decide) : (1 : Int32) < (3 : Int32))).2.1 ?_
   show Steps p.tables e below (T3.setTop (mkF m 14 #[rv vc, iv 1, iv 3, rv b_1, iv 1] [])) _
   refine XS.aloadN X3.here hx rfl (hb hby d18_14) rfl rfl ?_
   refine XS.iload X3.here hx rfl (hb hby d18_15) rfl ?_
   refine XS.aloadN X3.here hx rfl (hb hby d18_17) rfl rfl ?_
   refine XS.iloadN X3.here hx rfl (hb hby d18_18) rfl ?_
   exact k
 refine Go.cal X3 hx hZ (Eq.refl T3.heap) V_vc (hb hby d18_19) (v := (.int x1)) rfl ?_
 refine Go.cS X3 hx hml hown hZ (own_w hw 91 rfl) (own_w hw 92 rfl) (own_w hw 70 rfl) (own_w hw 93 rfl) (rmPC3_1 l Z a0 hw [] b_1 x1 kb_1 x0 T3.heap n0 O S_AD S_HI S_LO V_3 gb_1) 0 [] pd__28_5bBII_29V (hb hby d18_20) (Eq.refl T3.heap) (fun _ T5 L5 X5 hQ5 => ?_)
 obtain ⟨rfl, Nq5, K5, P5_V⟩ := hQ5
 have N5 := Fr.app N3 Nq5
 have O := O.keep K5 (allS g_b_1 all0)
 have V_vc := V_vc.keep K5 (ninS ne_vc_b_1 nin0)
 have K := K.trans K5 (allS (Or.inr sz_b_1) all0)
 have V_5 := P5_V
 refine Go.step (S' := T5.setTop (mkF m 19 #[rv vc, iv 2, iv 3, rv b_1, iv 2] [(.int 2), (.ref vc), (.int 2), (.ref b_1)])) (fun t k => ?_) ?_
 · refine XS.iinc X5.here hx rfl (hb hby d18_23) rfl (l' := #[rv vc, iv 2, iv 3, rv b_1, iv 1]) rfl ?_
   refine XS.iinc X5.here hx rfl (hb hby d18_26) rfl (l' := #[rv vc, iv 2, iv 3, rv b_1, iv 2]) rfl ?_
   refine XS.goto X5.here hx rfl (pc0 := 29) (pc' := 8) rfl (hb hby d18_29) (by decide) (by decide) ?_
   refine XS.iload X5.here hx rfl (hb hby d18_8) rfl ?_
   refine XS.iloadN X5.here hx rfl (hb hby d18_10) rfl ?_
   refine XS.icmpNo X5.here hx rfl (hb hby d18_11) rfl (tlt ((by decide) : (2 : Int32) < (3 : Int32))).2.1 ?_
   show Steps p.tables e below (T5.setTop (mkF m 14 #[rv vc, iv 2, iv 3, rv b_1, iv 2] [])) _
   refine XS.aloadN X5.here hx rfl (hb hby d18_14) rfl rfl ?_
   refine XS.iload X5.here hx rfl (hb hby d18_15) rfl ?_
   refine XS.aloadN X5.here hx rfl (hb hby d18_17) rfl rfl ?_
   refine XS.iloadN X5.here hx rfl (hb hby d18_18) rfl ?_
   exact k
 refine Go.cal X5 hx hZ (Eq.refl T5.heap) V_vc (hb hby d18_19) (v := (.int x2)) rfl ?_
 refine Go.cS X5 hx hml hown hZ (own_w hw 91 rfl) (own_w hw 92 rfl) (own_w hw 70 rfl) (own_w hw 93 rfl) (rmPC3_2 l Z a0 hw [] b_1 x2 kb_1 x0 x1 T5.heap n0 O S_AD S_HI S_LO V_5 gb_1) 0 [] pd__28_5bBII_29V (hb hby d18_20) (Eq.refl T5.heap) (fun _ T7 L7 X7 hQ7 => ?_)
 obtain ⟨rfl, Nq7, K7, P7_V⟩ := hQ7
 have N7 := Fr.app N5 Nq7
 have O := O.keep K7 (allS g_b_1 all0)
 have V_vc := V_vc.keep K7 (ninS ne_vc_b_1 nin0)
 have K := K.trans K7 (allS (Or.inr sz_b_1) all0)
 have V_7 := P7_V
 refine Go.step (S' := T7.setTop (mkF m 33 #[rv vc, iv 3, iv 3, rv b_1, iv 3] [(.ref b_1)])) (fun t k => ?_) ?_
 · refine XS.iinc X7.here hx rfl (hb hby d18_23) rfl (l' := #[rv vc, iv 3, iv 3, rv b_1, iv 2]) rfl ?_
   refine XS.iinc X7.here hx rfl (hb hby d18_26) rfl (l' := #[rv vc, iv 3, iv 3, rv b_1, iv 3]) rfl ?_
   refine XS.goto X7.here hx rfl (pc0 := 29) (pc' := 8) rfl (hb hby d18_29) (by decide) (by decide) ?_
   refine XS.iload X7.here hx rfl (hb hby d18_8) rfl ?_
   refine XS.iloadN X7.here hx rfl (hb hby d18_10) rfl ?_
   refine XS.icmpYes X7.here hx rfl (pc0 := 11) (pc' := 32) rfl (hb hby d18_11) rfl (flt ((by decide) : ¬ ((3 : Int32) < (3 : Int32)))).2.1 (by decide) (by decide) ?_
   show Steps p.tables e below (T7.setTop (mkF m 32 #[rv vc, iv 3, iv 3, rv b_1, iv 3] [])) _
   refine XS.aloadN X7.here hx rfl (hb hby d18_32) rfl rfl ?_
   exact k
 exact Go.rt X7 hx Bd (w := (.ref b_1)) rfl (Or.inr (Or.inr (Or.inr (Or.inr ⟨rfl, rfl, rfl⟩)))) (hb hby d18_33) (Eq.refl T7.heap) ⟨b_1, kb_1, rfl, N7, K, V_7⟩
abbrev rm_rmCfu3 : Room := ({ frames := 0, cells := 0, slots := 0, locals := 0 } : Room)
def Q_rmCfu3 (Z : State) (tb : Addr) (kb : ClassId) (x0 : Int32) (x1 : Int32) (x2 : Int32) (h0 : Heap) (n0 : Nat) (v : Option Value) (h : Heap) (L : List Loc) : Prop := (v = some (.int 1)) ∧ (Fr n0 L) ∧ (h = h0)
theorem rmCfu3 (l : Launch) (Z : State) (a0 : Array Value) (hw : HW a0 Z) (ws : List Jvm.Cond) (tb : Addr) (kb : ClassId) (x0 : Int32) (x1 : Int32) (x2 : Int32) (h0 : Heap) (n0 : Nat) (O : Old Z n0 h0) (V_t : Arv Z h0 tb kb .byte (6 : Int32) [(.int (own_lo x0)), (.int (own_hi x0)), (.int (own_lo x1)), (.int (own_hi x1)), (.int (own_lo x2)), (.int (own_hi x2))] (.int 0)) :
    Mt l Z y_2 jdk_52_method_15_code 2 (some .byte) ws rm_rmCfu3 #[(.ref tb), (.int 3)] h0 (Q_rmCfu3 Z tb kb x0 x1 x2 h0 n0) := by
 refine own_met "java/lang/StringUTF16" (plainFor_of_name pn_java_lang_StringUTF16) #[rv tb, iv 3] (fun m => rfl) (fun p e s m below meth c s₁ Bd hx hby hml hZ hown hnm X0 e0 => ?_)
 have N0 := Fr.nil n0
 refine Go.step (S' := s₁.setTop (mkF m 2 #[rv tb, iv 3] [(.ref tb), (.int 3)])) (fun t k => ?_) ?_
 · refine XS.iloadN X0.here hx rfl (hb hby d16_0) rfl ?_
   refine XS.aloadN X0.here hx rfl (hb hby d16_1) rfl rfl ?_
   exact k
 refine Go.len X0 hx hZ e0 V_t (hb hby d16_2) ?_
 refine Go.step (S' := s₁.setTop (mkF m 8 #[rv tb, iv 3] [(.int 1)])) (fun t k => ?_) ?_
 · refine XS.isub X0.here hx rfl (hb hby d16_3) rfl ?_
   refine XS.bipush X0.here hx rfl (hb hby d16_4) ?_
   refine XS.iushr X0.here hx rfl (hb hby d16_6) rfl ?_
   refine XS.i2b X0.here hx rfl (hb hby d16_7) rfl ?_
   exact k
 exact Go.rt X0 hx Bd (w := (.int 1)) (by decide) (Or.inl ⟨rfl, Or.inr (Or.inr (Or.inl rfl)), _, rfl⟩) (hb hby d16_8) e0 ⟨rfl, N0, rfl⟩
abbrev rm_rmClU3 : Room := ({ frames := 0, cells := 0, slots := 0, locals := 0 } : Room)
def Q_rmClU3 (Z : State) (vc : Addr) (db : Addr) (kc : ClassId) (kb : ClassId) (x0 : Int32) (x1 : Int32) (x2 : Int32) (h0 : Heap) (n0 : Nat) (v : Option Value) (h : Heap) (L : List Loc) : Prop := ∃ r : Int32, (v = some (.int r)) ∧ (Fr n0 L) ∧ (Keep h0 h [db]) ∧ (¬ (r = (3 : Int32))) ∧ ((r = (0 : Int32) ∧ (255 : Int32) < x0) ∨ (r = (1 : Int32) ∧ (255 : Int32) < x1) ∨ (r = (2 : Int32) ∧ (255 : Int32) < x2))
theorem rmClU3 (l : Launch) (Z : State) (a0 : Array Value) (hw : HW a0 Z) (ws : List Jvm.Cond) (vc : Addr) (db : Addr) (kc : ClassId) (kb : ClassId) (x0 : Int32) (x1 : Int32) (x2 : Int32) (h0 : Heap) (n0 : Nat) (O : Old Z n0 h0) (V_vc : Arv Z h0 vc kc .char (3 : Int32) [(.int x0), (.int x1), (.int x2)] (.int 0)) (V_db : Arv Z h0 db kb .byte (3 : Int32) [(.int 0), (.int 0), (.int 0)] (.int 0)) (g_db : n0 ≤ db) (ne_vc_db : vc ≠ db) (hu : ((255 : Int32) < x0) ∨ ((255 : Int32) < x1) ∨ ((255 : Int32) < x2)) :
    Mt l Z y_0 jdk_52_method_21_code 7 (some .int) ws rm_rmClU3 #[(.ref vc), (.int 0), (.ref db), (.int 0), (.int 3)] h0 (Q_rmClU3 Z vc db kc kb x0 x1 x2 h0 n0) := by
 refine own_met "java/lang/StringUTF16" (plainFor_of_name pn_java_lang_StringUTF16) #[rv vc, iv 0, rv db, iv 0, iv 3, u_, u_] (fun m => rfl) (fun p e s m below meth c s₁ Bd hx hby hml hZ hown hnm X0 e0 => ?_)
 have N0 := Fr.nil n0
 have K := Keep.refl h0 [db]
 refine Go.step (S' := s₁.setTop (mkF m 12 #[rv vc, iv 0, rv db, iv 0, iv 3, iv 0, u_] [(.int 0), (.ref vc)])) (fun t k => ?_) ?_
 · refine XS.iconst X0.here hx rfl (hb hby d15_0) ?_
   refine XS.istore X0.here hx rfl (hb hby d15_1) rfl (l' := #[rv vc, iv 0, rv db, iv 0, iv 3, iv 0, u_]) rfl ?_
   refine XS.iload X0.here hx rfl (hb hby d15_3) rfl ?_
   refine XS.iload X0.here hx rfl (hb hby d15_5) rfl ?_
   refine XS.icmpNo X0.here hx rfl (hb hby d15_7) rfl (tlt ((by decide) : (0 : Int32) < (3 : Int32))).2.1 ?_
   refine XS.aloadN X0.here hx rfl (hb hby d15_10) rfl rfl ?_
   show Steps p.tables e below (s₁.setTop (mkF m 11 #[rv vc, iv 0, rv db, iv 0, iv 3, iv 0, u_] [(.ref vc)])) _
   refine XS.iloadN X0.here hx rfl (hb hby d15_11) rfl ?_
   exact k
 refine Go.cal X0 hx hZ e0 V_vc (hb hby d15_12) (v := (.int x0)) rfl ?_
 refine Go.step (S' := s₁.setTop (mkF m 20 #[rv vc, iv 0, rv db, iv 0, iv 3, iv 0, iv x0] [(.int 255), (.int x0)])) (fun t k => ?_) ?_
 · refine XS.istore X0.here hx rfl (hb hby d15_13) rfl (l' := #[rv vc, iv 0, rv db, iv 0, iv 3, iv 0, iv x0]) rfl ?_
   refine XS.iload X0.here hx rfl (hb hby d15_15) rfl ?_
   refine XS.sipush X0.here hx rfl (hb hby d15_17) ?_
   exact k
 by_cases hc20 : (255 : Int32) < x0
 ·skip
  refine Go.step (S' := s₁.setTop (mkF m 25 #[rv vc, iv 0, rv db, iv 0, iv 3, iv 0, iv x0] [(.int 0)])) (fun t k => ?_) ?_
  · refine XS.icmpNo X0.here hx rfl (hb hby d15_20) rfl (tlt (hc20 : (255 : Int32) < x0)).2.2.2 ?_
    refine XS.iload X0.here hx rfl (hb hby d15_23) rfl ?_
    exact k
  exact Go.rt X0 hx Bd (w := (.int 0)) rfl (Or.inl ⟨rfl, Or.inl rfl, _, rfl⟩) (hb hby d15_25) e0 ⟨(0 : Int32), rfl, N0, K, (by decide), (Or.inl ⟨rfl, hc20⟩)⟩
 ·skip
  refine Go.step (S' := s₁.setTop (mkF m 31 #[rv vc, iv 0, rv db, iv 0, iv 3, iv 0, iv x0] [(.int (x0.toInt8.toInt32)), (.int 0), (.ref db)])) (fun t k => ?_) ?_
  · refine XS.icmpYes X0.here hx rfl (pc0 := 20) (pc' := 26) rfl (hb hby d15_20) rfl (flt (hc20 : ¬ ((255 : Int32) < x0))).2.2.2 (by decide) (by decide) ?_
    refine XS.aloadN X0.here hx rfl (hb hby d15_26) rfl rfl ?_
    refine XS.iloadN X0.here hx rfl (hb hby d15_27) rfl ?_
    refine XS.iload X0.here hx rfl (hb hby d15_28) rfl ?_
    refine XS.i2b X0.here hx rfl (hb hby d15_30) rfl ?_
    exact k
  obtain ⟨cl2, Ar2, q2, S2, N2_, H2, G2⟩ := V_db
  have hin2 : ¬ ((0 : Int32) < 0 ∨ cl2.slots.size ≤ ((0 : Int32)).toNatClampNeg) := inb_of S2 ⟨by decide, by decide⟩
  obtain ⟨T2, h2, X2, e2, W2, st2⟩ := stB X0 hx hZ e0 Ar2 (j := (0 : Int32)) hin2 (g := (mkF m 31 #[rv vc, iv 0, rv db, iv 0, iv 3, iv 0, iv x0] [(.int (x0.toInt8.toInt32)), (.int 0), (.ref db)])) rfl rfl (hb hby d15_31)
  have O := O.wr W2 g_db
  have V_vc := V_vc.other W2 ne_vc_db
  have K := K.wr W2 (Or.inl (List.mem_of_getElem? (i := 0) rfl))
  have V_db : Arv Z h2 db kb .byte (3 : Int32) [(.int ((x0.toInt8.toInt32).toInt8.toInt32)), (.int 0), (.int 0)] (.int 0) := Arv.set Ar2 q2 S2 N2_ H2 G2 (fits_nar_byte _) W2 0 rfl (Nat.le_of_ble_eq_true rfl)
  rw [(own_b2 x0 : ((x0.toInt8.toInt32).toInt8.toInt32) = (x0.toInt8.toInt32))] at V_db
  have N2 := Fr.snoc X2 N0 g_db
  refine Go.step st2 ?_
  refine Go.step (S' := T2.setTop (mkF m 12 #[rv vc, iv 1, rv db, iv 1, iv 3, iv 1, iv x0] [(.int 1), (.ref vc)])) (fun t k => ?_) ?_
  · refine XS.iinc X2.here hx rfl (hb hby d15_32) rfl (l' := #[rv vc, iv 1, rv db, iv 0, iv 3, iv 0, iv x0]) rfl ?_
    refine XS.iinc X2.here hx rfl (hb hby d15_35) rfl (l' := #[rv vc, iv 1, rv db, iv 1, iv 3, iv 0, iv x0]) rfl ?_
    refine XS.iinc X2.here hx rfl (hb hby d15_38) rfl (l' := #[rv vc, iv 1, rv db, iv 1, iv 3, iv 1, iv x0]) rfl ?_
    refine XS.goto X2.here hx rfl (pc0 := 41) (pc' := 3) rfl (hb hby d15_41) (by decide) (by decide) ?_
    refine XS.iload X2.here hx rfl (hb hby d15_3) rfl ?_
    refine XS.iload X2.here hx rfl (hb hby d15_5) rfl ?_
    show Steps p.tables e below (T2.setTop (mkF m 7 #[rv vc, iv 1, rv db, iv 1, iv 3, iv 1, iv x0] [(.int 3), (.int 1)])) _
    refine XS.icmpNo X2.here hx rfl (hb hby d15_7) rfl (tlt ((by decide) : (1 : Int32) < (3 : Int32))).2.1 ?_
    refine XS.aloadN X2.here hx rfl (hb hby d15_10) rfl rfl ?_
    refine XS.iloadN X2.here hx rfl (hb hby d15_11) rfl ?_
    exact k
  refine Go.cal X2 hx hZ e2 V_vc (hb hby d15_12) (v := (.int x1)) rfl ?_
  refine Go.step (S' := T2.setTop (mkF m 20 #[rv vc, iv 1, rv db, iv 1, iv 3, iv 1, iv x1] [(.int 255), (.int x1)])) (fun t k => ?_) ?_
  · refine XS.istore X2.here hx rfl (hb hby d15_13) rfl (l' := #[rv vc, iv 1, rv db, iv 1, iv 3, iv 1, iv x1]) rfl ?_
    refine XS.iload X2.here hx rfl (hb hby d15_15) rfl ?_
    refine XS.sipush X2.here hx rfl (hb hby d15_17) ?_
    exact k
  by_cases hc20_1 : (255 : Int32) < x1
  ·skip
   refine Go.step (S' := T2.setTop (mkF m 25 #[rv vc, iv 1, rv db, iv 1, iv 3, iv 1, iv x1] [(.int 1)])) (fun t k => ?_) ?_
   · refine XS.icmpNo X2.here hx rfl (hb hby d15_20) rfl (tlt (hc20_1 : (255 : Int32) < x1)).2.2.2 ?_
     refine XS.iload X2.here hx rfl (hb hby d15_23) rfl ?_
     exact k
   exact Go.rt X2 hx Bd (w := (.int 1)) rfl (Or.inl ⟨rfl, Or.inl rfl, _, rfl⟩) (hb hby d15_25) e2 ⟨(1 : Int32), rfl, N2, K, (by decide), (Or.inr (Or.inl ⟨rfl, hc20_1⟩))⟩
  ·skip
   refine Go.step (S' := T2.setTop (mkF m 31 #[rv vc, iv 1, rv db, iv 1, iv 3, iv 1, iv x1] [(.int (x1.toInt8.toInt32)), (.int 1), (.ref db)])) (fun t k => ?_) ?_
   · refine XS.icmpYes X2.here hx rfl (pc0 := 20) (pc' := 26) rfl (hb hby d15_20) rfl (flt (hc20_1 : ¬ ((255 : Int32) < x1))).2.2.2 (by decide) (by decide) ?_
     refine XS.aloadN X2.here hx rfl (hb hby d15_26) rfl rfl ?_
     refine XS.iloadN X2.here hx rfl (hb hby d15_27) rfl ?_
     refine XS.iload X2.here hx rfl (hb hby d15_28) rfl ?_
     refine XS.i2b X2.here hx rfl (hb hby d15_30) rfl ?_
     exact k
   obtain ⟨cl4, Ar4, q4, S4, N4_, H4, G4⟩ := V_db
   have hin4 : ¬ ((1 : Int32) < 0 ∨ cl4.slots.size ≤ ((1 : Int32)).toNatClampNeg) := inb_of S4 ⟨by decide, by decide⟩
   obtain ⟨T4, h4, X4, e4, W4, st4⟩ := stB X2 hx hZ e2 Ar4 (j := (1 : Int32)) hin4 (g := (mkF m 31 #[rv vc, iv 1, rv db, iv 1, iv 3, iv 1, iv x1] [(.int (x1.toInt8.toInt32)), (.int 1), (.ref db)])) rfl rfl (hb hby d15_31)
   have O := O.wr W4 g_db
   have V_vc := V_vc.other W4 ne_vc_db
   have K := K.wr W4 (Or.inl (List.mem_of_getElem? (i := 0) rfl))
   have V_db : Arv Z h4 db kb .byte (3 : Int32) [(.int (x0.toInt8.toInt32)), (.int ((x1.toInt8.toInt32).toInt8.toInt32)), (.int 0)] (.int 0) := Arv.set Ar4 q4 S4 N4_ H4 G4 (fits_nar_byte _) W4 1 rfl (Nat.le_of_ble_eq_true rfl)
   rw [(own_b2 x1 : ((x1.toInt8.toInt32).toInt8.toInt32) = (x1.toInt8.toInt32))] at V_db
   have N4 := Fr.snoc X4 N2 g_db
   refine Go.step st4 ?_
   refine Go.step (S' := T4.setTop (mkF m 12 #[rv vc, iv 2, rv db, iv 2, iv 3, iv 2, iv x1] [(.int 2), (.ref vc)])) (fun t k => ?_) ?_
   · refine XS.iinc X4.here hx rfl (hb hby d15_32) rfl (l' := #[rv vc, iv 2, rv db, iv 1, iv 3, iv 1, iv x1]) rfl ?_
     refine XS.iinc X4.here hx rfl (hb hby d15_35) rfl (l' := #[rv vc, iv 2, rv db, iv 2, iv 3, iv 1, iv x1]) rfl ?_
     refine XS.iinc X4.here hx rfl (hb hby d15_38) rfl (l' := #[rv vc, iv 2, rv db, iv 2, iv 3, iv 2, iv x1]) rfl ?_
     refine XS.goto X4.here hx rfl (pc0 := 41) (pc' := 3) rfl (hb hby d15_41) (by decide) (by decide) ?_
     refine XS.iload X4.here hx rfl (hb hby d15_3) rfl ?_
     refine XS.iload X4.here hx rfl (hb hby d15_5) rfl ?_
     show Steps p.tables e below (T4.setTop (mkF m 7 #[rv vc, iv 2, rv db, iv 2, iv 3, iv 2, iv x1] [(.int 3), (.int 2)])) _
     refine XS.icmpNo X4.here hx rfl (hb hby d15_7) rfl (tlt ((by decide) : (2 : Int32) < (3 : Int32))).2.1 ?_
     refine XS.aloadN X4.here hx rfl (hb hby d15_10) rfl rfl ?_
     refine XS.iloadN X4.here hx rfl (hb hby d15_11) rfl ?_
     exact k
   refine Go.cal X4 hx hZ e4 V_vc (hb hby d15_12) (v := (.int x2)) rfl ?_
   refine Go.step (S' := T4.setTop (mkF m 20 #[rv vc, iv 2, rv db, iv 2, iv 3, iv 2, iv x2] [(.int 255), (.int x2)])) (fun t k => ?_) ?_
   · refine XS.istore X4.here hx rfl (hb hby d15_13) rfl (l' := #[rv vc, iv 2, rv db, iv 2, iv 3, iv 2, iv x2]) rfl ?_
     refine XS.iload X4.here hx rfl (hb hby d15_15) rfl ?_
     refine XS.sipush X4.here hx rfl (hb hby d15_17) ?_
     exact k
   by_cases hc20_2 : (255 : Int32) < x2
   ·skip
    refine Go.step (S' := T4.setTop (mkF m 25 #[rv vc, iv 2, rv db, iv 2, iv 3, iv 2, iv x2] [(.int 2)])) (fun t k => ?_) ?_
    · refine XS.icmpNo X4.here hx rfl (hb hby d15_20) rfl (tlt (hc20_2 : (255 : Int32) < x2)).2.2.2 ?_
      refine XS.iload X4.here hx rfl (hb hby d15_23) rfl ?_
      exact k
    exact Go.rt X4 hx Bd (w := (.int 2)) rfl (Or.inl ⟨rfl, Or.inl rfl, _, rfl⟩) (hb hby d15_25) e4 ⟨(2 : Int32), rfl, N4, K, (by decide), (Or.inr (Or.inr ⟨rfl, hc20_2⟩))⟩
   ·skip
    exact (hu.elim hc20 (fun q => q.elim hc20_1 hc20_2) : False).elim
abbrev rm_rmCmU3 : Room := ({ frames := 3, cells := 2, slots := 9, locals := 40 } : Room)
def Q_rmCmU3 (Z : State) (vc : Addr) (kc : ClassId) (x0 : Int32) (x1 : Int32) (x2 : Int32) (h0 : Heap) (n0 : Nat) (v : Option Value) (h : Heap) (L : List Loc) : Prop := ∃ b : Addr, ∃ kb : ClassId, (v = some (.ref b)) ∧ (Fr n0 L) ∧ (Keep h0 h []) ∧ (Arv Z h b kb .byte (6 : Int32) [(.int (own_lo x0)), (.int (own_hi x0)), (.int (own_lo x1)), (.int (own_hi x1)), (.int (own_lo x2)), (.int (own_hi x2))] (.int 0))
theorem rmCmU3 (l : Launch) (Z : State) (a0 : Array Value) (hw : HW a0 Z) (ws : List Jvm.Cond) (vc : Addr) (kc : ClassId) (x0 : Int32) (x1 : Int32) (x2 : Int32) (h0 : Heap) (n0 : Nat) (O : Old Z n0 h0) (S_AD : Sa_1 Z (.int 1)) (S_HI : Sa_2 Z (.int 0)) (S_LO : Sa_3 Z (.int 8)) (V_vc : Arv Z h0 vc kc .char (3 : Int32) [(.int x0), (.int x1), (.int x2)] (.int 0)) (hu : ((255 : Int32) < x0) ∨ ((255 : Int32) < x1) ∨ ((255 : Int32) < x2)) (rax0 : ¬ (x0 < (0 : Int32))) (rbx0 : ¬ ((65535 : Int32) < x0)) (rax1 : ¬ (x1 < (0 : Int32))) (rbx1 : ¬ ((65535 : Int32) < x1)) (rax2 : ¬ (x2 < (0 : Int32))) (rbx2 : ¬ ((65535 : Int32) < x2)) :
    Mt l Z y_1 jdk_52_method_16_code 6 (some (.array .byte)) ws rm_rmCmU3 #[(.ref vc), (.int 0), (.int 3)] h0 (Q_rmCmU3 Z vc kc x0 x1 x2 h0 n0) := by
 refine own_met "java/lang/StringUTF16" (plainFor_of_name pn_java_lang_StringUTF16) #[rv vc, iv 0, iv 3, u_, u_, u_] (fun m => rfl) (fun p e s m below meth c s₁ Bd hx hby hml hZ hown hnm X0 e0 => ?_)
 have N0 := Fr.nil n0
 have K := Keep.refl h0 []
 refine Go.step (S' := s₁.setTop (mkF m 1 #[rv vc, iv 0, iv 3, u_, u_, u_] [(.int 3)])) (fun t k => ?_) ?_
 · refine XS.iloadN X0.here hx rfl (hb hby d14_0) rfl ?_
   exact k
 obtain ⟨T1, h1, k1, X1, e1, E1, A1, st1⟩ := newP X0 hx hZ (own_w hw 17 rfl) e0 (g := (mkF m 1 #[rv vc, iv 0, iv 3, u_, u_, u_] [(.int 3)])) rfl (hb hby d14_1) rfl (by decide) (cap := 3) (by decide) (by decide) (by decide) (by decide)
 obtain ⟨b1, g1⟩ : ∃ z, z = Array.size h0 := ⟨_, rfl⟩
 have g_b1 : n0 ≤ b1 := Nat.le_trans (old_le O) (Nat.le_of_eq g1.symm)
 have sz_b1 : h0.size ≤ b1 := Nat.le_trans K.1 (Nat.le_of_eq g1.symm)
 have ne_vc_b1 : vc ≠ b1 := Nat.ne_of_lt (Nat.lt_of_lt_of_le V_vc.lt (Nat.le_of_eq g1.symm))
 rw [← g1] at A1 st1
 have O := O.ext E1
 have V_vc := V_vc.ext E1
 have K := K.ext E1
 have V_b1 : Arv Z h1 b1 k1 .byte (3 : Int32) [(.int 0), (.int 0), (.int 0)] (.int 0) := (Arv.new A1 (by decide)).pad (pad_rep [] (.int 0) 3)
 refine Go.step st1 ?_
 refine Go.step (S' := T1.setTop (mkF m 9 #[rv vc, iv 0, iv 3, rv b1, u_, u_] [(.int 3), (.int 0), (.ref b1), (.int 0), (.ref vc)])) (fun t k => ?_) ?_
 · refine XS.astoreN X1.here hx rfl (hb hby d14_3) rfl rfl (l' := #[rv vc, iv 0, iv 3, rv b1, u_, u_]) rfl ?_
   refine XS.aloadN X1.here hx rfl (hb hby d14_4) rfl rfl ?_
   refine XS.iloadN X1.here hx rfl (hb hby d14_5) rfl ?_
   refine XS.aloadN X1.here hx rfl (hb hby d14_6) rfl rfl ?_
   refine XS.iconst X1.here hx rfl (hb hby d14_7) ?_
   refine XS.iloadN X1.here hx rfl (hb hby d14_8) rfl ?_
   exact k
 refine Go.cS X1 hx hml hown hZ (own_w hw 72 rfl) (own_w hw 73 rfl) (own_w hw 70 rfl) (own_w hw 74 rfl) (rmClU3 l Z a0 hw [] vc b1 kc k1 x0 x1 x2 h1 n0 O V_vc V_b1 (by assumption) ne_vc_b1 hu) 0 [] pd__28_5bCI_5bBII_29I (hb hby d14_9) e1 (fun _ T2 L2 X2 hQ2 => ?_)
 obtain ⟨r_2, rfl, Nq2, K2, kn_2, kr_2⟩ := hQ2
 have N2 := Fr.app N0 Nq2
 have O := O.keep K2 (allS g_b1 all0)
 have V_vc := V_vc.keep K2 (ninS ne_vc_b1 nin0)
 have K := K.trans K2 (allS (Or.inr sz_b1) all0)
 refine Go.step (S' := T2.setTop (mkF m 23 #[rv vc, iv 0, iv 3, rv b1, iv r_2, u_] [(.int 3), (.int 0), (.ref vc)])) (fun t k => ?_) ?_
 · refine XS.istore X2.here hx rfl (hb hby d14_12) rfl (l' := #[rv vc, iv 0, iv 3, rv b1, iv r_2, u_]) rfl ?_
   refine XS.iload X2.here hx rfl (hb hby d14_14) rfl ?_
   refine XS.iloadN X2.here hx rfl (hb hby d14_16) rfl ?_
   refine XS.icmpNo X2.here hx rfl (hb hby d14_17) rfl (feq (kn_2 : ¬ (r_2 = (3 : Int32)))).1 ?_
   refine XS.aloadN X2.here hx rfl (hb hby d14_20) rfl rfl ?_
   refine XS.iloadN X2.here hx rfl (hb hby d14_21) rfl ?_
   show Steps p.tables e below (T2.setTop (mkF m 22 #[rv vc, iv 0, iv 3, rv b1, iv r_2, u_] [(.int 0), (.ref vc)])) _
   refine XS.iloadN X2.here hx rfl (hb hby d14_22) rfl ?_
   exact k
 refine Go.cS X2 hx hml hown hZ (own_w hw 81 rfl) (own_w hw 82 rfl) (own_w hw 70 rfl) (own_w hw 83 rfl) (rmTo3 l Z a0 hw [] vc kc x0 x1 x2 T2.heap n0 O S_AD S_HI S_LO V_vc) 0 [] pd__28_5bCII_29_5bB (hb hby d14_23) (Eq.refl T2.heap) (fun _ T3 L3 X3 hQ3 => ?_)
 obtain ⟨b_3, kb_3, rfl, Nq3, K3, P3_V⟩ := hQ3
 have N3 := Fr.app N2 Nq3
 have O := O.keep K3 all0
 have V_vc := V_vc.keep K3 nin0
 have K := K.trans K3 all0
 have V_3 := P3_V
 refine Go.step (S' := T3.setTop (mkF m 28 #[rv vc, iv 0, iv 3, rv b1, iv r_2, rv b_3] [])) (fun t k => ?_) ?_
 · refine XS.astore X3.here hx rfl (hb hby d14_26) rfl rfl (l' := #[rv vc, iv 0, iv 3, rv b1, iv r_2, rv b_3]) rfl ?_
   exact k
 rcases kr_2 with ⟨rfl, hf⟩ | ⟨rfl, hf⟩ | ⟨rfl, hf⟩
 ·skip
  refine Go.step (S' := T3.setTop (mkF m 32 #[rv vc, iv 0, iv 3, rv b1, iv 0, rv b_3] [(.int 0), (.ref b_3)])) (fun t k => ?_) ?_
  · refine XS.aload X3.here hx rfl (hb hby d14_28) rfl rfl ?_
    refine XS.iload X3.here hx rfl (hb hby d14_30) rfl ?_
    exact k
  refine Go.cS X3 hx hml hown hZ (own_w hw 97 rfl) (own_w hw 98 rfl) (own_w hw 70 rfl) (own_w hw 99 rfl) (rmGC3_0 l Z a0 hw [] b_3 kb_3 x0 x1 x2 T3.heap n0 O S_AD S_HI S_LO V_3 rax0 rbx0) 0 [] pd__28_5bBI_29C (hb hby d14_32) (Eq.refl T3.heap) (fun _ T4 L4 X4 hQ4 => ?_)
  obtain ⟨rfl, Nq4, e4⟩ := hQ4
  have N4 := Fr.app N3 Nq4
  refine Go.step (S' := T4.setTop (mkF m 56 #[rv vc, iv 0, iv 3, rv b1, iv 0, rv b_3] [(.ref b_3)])) (fun t k => ?_) ?_
  · refine XS.sipush X4.here hx rfl (hb hby d14_35) ?_
    refine XS.icmpYes X4.here hx rfl (pc0 := 38) (pc' := 54) rfl (hb hby d14_38) rfl (tlt (hf : (255 : Int32) < x0)).2.2.1 (by decide) (by decide) ?_
    refine XS.aload X4.here hx rfl (hb hby d14_54) rfl rfl ?_
    exact k
  exact Go.rt X4 hx Bd (w := (.ref b_3)) rfl (Or.inr (Or.inr (Or.inr (Or.inr ⟨rfl, rfl, rfl⟩)))) (hb hby d14_56) e4 ⟨b_3, kb_3, rfl, N4, K, V_3⟩
 ·skip
  refine Go.step (S' := T3.setTop (mkF m 32 #[rv vc, iv 0, iv 3, rv b1, iv 1, rv b_3] [(.int 1), (.ref b_3)])) (fun t k => ?_) ?_
  · refine XS.aload X3.here hx rfl (hb hby d14_28) rfl rfl ?_
    refine XS.iload X3.here hx rfl (hb hby d14_30) rfl ?_
    exact k
  refine Go.cS X3 hx hml hown hZ (own_w hw 97 rfl) (own_w hw 98 rfl) (own_w hw 70 rfl) (own_w hw 99 rfl) (rmGC3_1 l Z a0 hw [] b_3 kb_3 x0 x1 x2 T3.heap n0 O S_AD S_HI S_LO V_3 rax1 rbx1) 0 [] pd__28_5bBI_29C (hb hby d14_32) (Eq.refl T3.heap) (fun _ T5 L5 X5 hQ5 => ?_)
  obtain ⟨rfl, Nq5, e5⟩ := hQ5
  have N5 := Fr.app N3 Nq5
  refine Go.step (S' := T5.setTop (mkF m 56 #[rv vc, iv 0, iv 3, rv b1, iv 1, rv b_3] [(.ref b_3)])) (fun t k => ?_) ?_
  · refine XS.sipush X5.here hx rfl (hb hby d14_35) ?_
    refine XS.icmpYes X5.here hx rfl (pc0 := 38) (pc' := 54) rfl (hb hby d14_38) rfl (tlt (hf : (255 : Int32) < x1)).2.2.1 (by decide) (by decide) ?_
    refine XS.aload X5.here hx rfl (hb hby d14_54) rfl rfl ?_
    exact k
  exact Go.rt X5 hx Bd (w := (.ref b_3)) rfl (Or.inr (Or.inr (Or.inr (Or.inr ⟨rfl, rfl, rfl⟩)))) (hb hby d14_56) e5 ⟨b_3, kb_3, rfl, N5, K, V_3⟩
 ·skip
  refine Go.step (S' := T3.setTop (mkF m 32 #[rv vc, iv 0, iv 3, rv b1, iv 2, rv b_3] [(.int 2), (.ref b_3)])) (fun t k => ?_) ?_
  · refine XS.aload X3.here hx rfl (hb hby d14_28) rfl rfl ?_
    refine XS.iload X3.here hx rfl (hb hby d14_30) rfl ?_
    exact k
  refine Go.cS X3 hx hml hown hZ (own_w hw 97 rfl) (own_w hw 98 rfl) (own_w hw 70 rfl) (own_w hw 99 rfl) (rmGC3_2 l Z a0 hw [] b_3 kb_3 x0 x1 x2 T3.heap n0 O S_AD S_HI S_LO V_3 rax2 rbx2) 0 [] pd__28_5bBI_29C (hb hby d14_32) (Eq.refl T3.heap) (fun _ T6 L6 X6 hQ6 => ?_)
  obtain ⟨rfl, Nq6, e6⟩ := hQ6
  have N6 := Fr.app N3 Nq6
  refine Go.step (S' := T6.setTop (mkF m 56 #[rv vc, iv 0, iv 3, rv b1, iv 2, rv b_3] [(.ref b_3)])) (fun t k => ?_) ?_
  · refine XS.sipush X6.here hx rfl (hb hby d14_35) ?_
    refine XS.icmpYes X6.here hx rfl (pc0 := 38) (pc' := 54) rfl (hb hby d14_38) rfl (tlt (hf : (255 : Int32) < x2)).2.2.1 (by decide) (by decide) ?_
    refine XS.aload X6.here hx rfl (hb hby d14_54) rfl rfl ?_
    exact k
  exact Go.rt X6 hx Bd (w := (.ref b_3)) rfl (Or.inr (Or.inr (Or.inr (Or.inr ⟨rfl, rfl, rfl⟩)))) (hb hby d14_56) e6 ⟨b_3, kb_3, rfl, N6, K, V_3⟩
abbrev rm_rmNU4_3 : Room := ({ frames := 4, cells := 2, slots := 9, locals := 57 } : Room)
def Q_rmNU4_3 (Z : State) (so : Addr) (vc : Addr) (kc : ClassId) (cs : Int32) (x0 : Int32) (x1 : Int32) (x2 : Int32) (h0 : Heap) (n0 : Nat) (v : Option Value) (h : Heap) (L : List Loc) : Prop := ∃ tb : Addr, ∃ kb : ClassId, (v = none) ∧ (Fr n0 L) ∧ (Keep h0 h [so]) ∧ (Exa Z h so "java/lang/String") ∧ (Fd_5 Z h so (.ref tb)) ∧ (Fd_6 Z h so (.int 1)) ∧ (Arv Z h tb kb .byte (6 : Int32) [(.int (own_lo x0)), (.int (own_hi x0)), (.int (own_lo x1)), (.int (own_hi x1)), (.int (own_lo x2)), (.int (own_hi x2))] (.int 0))
theorem rmNU4_3 (l : Launch) (Z : State) (a0 : Array Value) (hw : HW a0 Z) (ws : List Jvm.Cond) (so : Addr) (vc : Addr) (kc : ClassId) (cs : Int32) (x0 : Int32) (x1 : Int32) (x2 : Int32) (h0 : Heap) (n0 : Nat) (O : Old Z n0 h0) (S_CS : Sa_0 Z (.int cs)) (S_AD : Sa_1 Z (.int 1)) (S_HI : Sa_2 Z (.int 0)) (S_LO : Sa_3 Z (.int 8)) (E_so : Exa Z h0 so "java/lang/String") (F_v : Fd_5 Z h0 so .null) (F_c : Fd_6 Z h0 so (.int 0)) (V_vc : Arv Z h0 vc kc .char (3 : Int32) [(.int x0), (.int x1), (.int x2)] (.int 0)) (g_so : n0 ≤ so) (hcs : ¬ (cs = (0 : Int32))) (hu : ((255 : Int32) < x0) ∨ ((255 : Int32) < x1) ∨ ((255 : Int32) < x2)) (rax0 : ¬ (x0 < (0 : Int32))) (rbx0 : ¬ ((65535 : Int32) < x0)) (rax1 : ¬ (x1 < (0 : Int32))) (rbx1 : ¬ ((65535 : Int32) < x1)) (rax2 : ¬ (x2 < (0 : Int32))) (rbx2 : ¬ ((65535 : Int32) < x2)) :
    Mt l Z y_3 jdk_42_method_149_code 6 none ws rm_rmNU4_3 #[(.ref so), (.ref vc), (.int 0), (.int 3), .null] h0 (Q_rmNU4_3 Z so vc kc cs x0 x1 x2 h0 n0) := by
 refine own_met "java/lang/String" (plainFor_of_name pn_java_lang_String) #[rv so, rv vc, iv 0, iv 3, .val .null, u_] (fun m => rfl) (fun p e s m below meth c s₁ Bd hx hby hml hZ hown hnm X0 e0 => ?_)
 have N0 := Fr.nil n0
 have K := Keep.refl h0 [so]
 refine Go.step (S' := s₁.setTop (mkF m 1 #[rv so, rv vc, iv 0, iv 3, .val .null, u_] [(.ref so)])) (fun t k => ?_) ?_
 · refine XS.aloadN X0.here hx rfl (hb hby d2_0) rfl rfl ?_
   exact k
 obtain ⟨T1, X1, e1, st1⟩ := initO X0 hx hZ hown (own_w hw 13 rfl) (own_w hw 14 rfl) (own_w hw 15 rfl) e0 (g := (mkF m 1 #[rv so, rv vc, iv 0, iv 3, .val .null, u_] [(.ref so)])) rfl (by rw [hml]; rfl) rfl (hb hby d2_1) (by decide) (W := 0) (by show 2 * 0 + _ ≤ _; exact Nat.le_of_eq rfl) (by decide)
 refine Go.step st1 ?_
 refine Go.step (S' := T1.setTop (mkF m 27 #[rv so, rv vc, iv 0, iv 3, .val .null, u_] [])) (fun t k => ?_) ?_
 · refine XS.iloadN X1.here hx rfl (hb hby d2_4) rfl ?_
   refine XS.ifYes X1.here hx rfl (pc0 := 5) (pc' := 27) rfl (hb hby d2_5) rfl ((if0 _ _).trans (feq ((by decide) : ¬ ((3 : Int32) = (0 : Int32)))).2) (by decide) (by decide) ?_
   exact k
 refine Go.gS X1 hx hZ hown (host := "") (Or.inl (own_w hw 43 rfl)) Via.refl e1 (S_CS.ext O.2) (hb hby d2_27) (fun T2 X2 e2 => ?_)
 refine Go.step (S' := T2.setTop (mkF m 36 #[rv so, rv vc, iv 0, iv 3, .val .null, u_] [(.int 3), (.int 0), (.ref vc)])) (fun t k => ?_) ?_
 · refine XS.ifNo X2.here hx rfl (hb hby d2_30) rfl ((if0 _ _).trans (feq (hcs : ¬ (cs = (0 : Int32)))).1) ?_
   refine XS.aloadN X2.here hx rfl (hb hby d2_33) rfl rfl ?_
   refine XS.iloadN X2.here hx rfl (hb hby d2_34) rfl ?_
   refine XS.iloadN X2.here hx rfl (hb hby d2_35) rfl ?_
   exact k
 refine Go.cS X2 hx hml hown hZ (own_w hw 68 rfl) (own_w hw 69 rfl) (own_w hw 70 rfl) (own_w hw 71 rfl) (rmCmU3 l Z a0 hw [] vc kc x0 x1 x2 h0 n0 O S_AD S_HI S_LO V_vc hu rax0 rbx0 rax1 rbx1 rax2 rbx2) 0 [] pd__28_5bCII_29_5bB (hb hby d2_36) e2 (fun _ T3 L3 X3 hQ3 => ?_)
 obtain ⟨b_3, kb_3, rfl, Nq3, K3, P3_V⟩ := hQ3
 have N3 := Fr.app N0 Nq3
 have O := O.keep K3 all0
 have E_so := E_so.keep K3
 have F_v := F_v.keep K3 nin0
 have F_c := F_c.keep K3 nin0
 have V_vc := V_vc.keep K3 nin0
 have K := K.trans K3 all0
 have V_3 := P3_V
 refine Go.step (S' := T3.setTop (mkF m 45 #[rv so, rv vc, iv 0, iv 3, .val .null, rv b_3] [(.int 3), (.ref b_3), (.ref so)])) (fun t k => ?_) ?_
 · refine XS.astore X3.here hx rfl (hb hby d2_39) rfl rfl (l' := #[rv so, rv vc, iv 0, iv 3, .val .null, rv b_3]) rfl ?_
   refine XS.aloadN X3.here hx rfl (hb hby d2_41) rfl rfl ?_
   refine XS.aload X3.here hx rfl (hb hby d2_42) rfl rfl ?_
   refine XS.iloadN X3.here hx rfl (hb hby d2_44) rfl ?_
   exact k
 refine Go.cS X3 hx hml hown hZ (own_w hw 75 rfl) (own_w hw 76 rfl) (own_w hw 70 rfl) (own_w hw 77 rfl) (rmCfu3 l Z a0 hw [] b_3 kb_3 x0 x1 x2 T3.heap n0 O V_3) 1 [(.ref so)] pd__28_5bBI_29B (hb hby d2_45) (Eq.refl T3.heap) (fun _ T4 L4 X4 hQ4 => ?_)
 obtain ⟨rfl, Nq4, e4⟩ := hQ4
 have N4 := Fr.app N3 Nq4
 obtain ⟨T5, h5, X5, e5, W5, st5⟩ := putFN X4 hx hZ hown (own_w hw 23 rfl) Via.refl e4 F_c E_so (Or.inr ⟨(own_w hw 19 rfl), rfl, hnm⟩) (own_w hw 4 rfl) (ty := .byte) (v' := (.int 1)) (by decide) rfl rfl (g := (mkF m 48 #[rv so, rv vc, iv 0, iv 3, .val .null, rv b_3] [(.int 1), (.ref so)])) rfl rfl (hb hby d2_48)
 have ne_vc_so : vc ≠ so := Ne.symm (Exa.neArv E_so V_vc (own_w hw 4 rfl))
 have ne_b_3_so : b_3 ≠ so := Ne.symm (Exa.neArv E_so V_3 (own_w hw 4 rfl))
 have O := O.wr W5 g_so
 have E_so := E_so.wr W5
 have F_v := F_v.other W5 (Or.inr (slot_ne (Or.inr (own_w hw 18 rfl)) (Or.inr (own_w hw 19 rfl)) (by decide) (t := (.array .byte)) (t' := .byte) (by decide) (by decide)))
 have F_c := F_c.same W5
 have V_vc := V_vc.other W5 ne_vc_so
 have K := K.wr W5 (Or.inl (List.mem_of_getElem? (i := 0) rfl))
 have V_3 := V_3.other W5 ne_b_3_so
 have N5 := Fr.snoc X5 N4 g_so
 refine Go.step st5 ?_
 refine Go.step (S' := T5.setTop (mkF m 54 #[rv so, rv vc, iv 0, iv 3, .val .null, rv b_3] [(.ref b_3), (.ref so)])) (fun t k => ?_) ?_
 · refine XS.aloadN X5.here hx rfl (hb hby d2_51) rfl rfl ?_
   refine XS.aload X5.here hx rfl (hb hby d2_52) rfl rfl ?_
   exact k
 obtain ⟨T6, h6, X6, e6, W6, st6⟩ := putF X5 hx hZ hown (host := "") (Or.inl (own_w hw 22 rfl)) Via.refl e5 F_v E_so (Or.inr ⟨(own_w hw 18 rfl), rfl, hnm⟩) (own_w hw 4 rfl) (ty := (.array .byte)) (by decide) rfl rfl (g := (mkF m 54 #[rv so, rv vc, iv 0, iv 3, .val .null, rv b_3] [(.ref b_3), (.ref so)])) rfl rfl (hb hby d2_54)
 have O := O.wr W6 g_so
 have E_so := E_so.wr W6
 have F_v := F_v.same W6
 have F_c := F_c.other W6 (Or.inr (slot_ne (Or.inr (own_w hw 19 rfl)) (Or.inr (own_w hw 18 rfl)) (by decide) (t := .byte) (t' := (.array .byte)) (by decide) (by decide)))
 have V_vc := V_vc.other W6 ne_vc_so
 have K := K.wr W6 (Or.inl (List.mem_of_getElem? (i := 0) rfl))
 have V_3 := V_3.other W6 ne_b_3_so
 have N6 := Fr.snoc X6 N5 g_so
 refine Go.step st6 ?_
 exact Go.rv X6 hx Bd (hb hby d2_57) e6 ⟨b_3, kb_3, rfl, N6, K, E_so, F_v, F_c, V_3⟩
abbrev rm_rmNSU3 : Room := ({ frames := 5, cells := 2, slots := 9, locals := 74 } : Room)
def Q_rmNSU3 (Z : State) (so : Addr) (vc : Addr) (kc : ClassId) (cs : Int32) (x0 : Int32) (x1 : Int32) (x2 : Int32) (h0 : Heap) (n0 : Nat) (v : Option Value) (h : Heap) (L : List Loc) : Prop := ∃ tb : Addr, ∃ kb : ClassId, (v = none) ∧ (Fr n0 L) ∧ (Keep h0 h [so]) ∧ (Exa Z h so "java/lang/String") ∧ (Fd_5 Z h so (.ref tb)) ∧ (Fd_6 Z h so (.int 1)) ∧ (Arv Z h tb kb .byte (6 : Int32) [(.int (own_lo x0)), (.int (own_hi x0)), (.int (own_lo x1)), (.int (own_hi x1)), (.int (own_lo x2)), (.int (own_hi x2))] (.int 0))
theorem rmNSU3 (l : Launch) (Z : State) (a0 : Array Value) (hw : HW a0 Z) (ws : List Jvm.Cond) (so : Addr) (vc : Addr) (kc : ClassId) (cs : Int32) (x0 : Int32) (x1 : Int32) (x2 : Int32) (h0 : Heap) (n0 : Nat) (O : Old Z n0 h0) (S_CS : Sa_0 Z (.int cs)) (S_AD : Sa_1 Z (.int 1)) (S_HI : Sa_2 Z (.int 0)) (S_LO : Sa_3 Z (.int 8)) (E_so : Exa Z h0 so "java/lang/String") (F_v : Fd_5 Z h0 so .null) (F_c : Fd_6 Z h0 so (.int 0)) (V_vc : Arv Z h0 vc kc .char (3 : Int32) [(.int x0), (.int x1), (.int x2)] (.int 0)) (g_so : n0 ≤ so) (hcs : ¬ (cs = (0 : Int32))) (hu : ((255 : Int32) < x0) ∨ ((255 : Int32) < x1) ∨ ((255 : Int32) < x2)) (rax0 : ¬ (x0 < (0 : Int32))) (rbx0 : ¬ ((65535 : Int32) < x0)) (rax1 : ¬ (x1 < (0 : Int32))) (rbx1 : ¬ ((65535 : Int32) < x1)) (rax2 : ¬ (x2 < (0 : Int32))) (rbx2 : ¬ ((65535 : Int32) < x2)) :
    Mt l Z y_4 jdk_42_method_3_code 2 none ws rm_rmNSU3 #[(.ref so), (.ref vc)] h0 (Q_rmNSU3 Z so vc kc cs x0 x1 x2 h0 n0) := by
 refine own_met "java/lang/String" (plainFor_of_name pn_java_lang_String) #[rv so, rv vc] (fun m => rfl) (fun p e s m below meth c s₁ Bd hx hby hml hZ hown hnm X0 e0 => ?_)
 have N0 := Fr.nil n0
 have K := Keep.refl h0 [so]
 refine Go.step (S' := s₁.setTop (mkF m 4 #[rv so, rv vc] [(.ref vc), (.int 0), (.ref vc), (.ref so)])) (fun t k => ?_) ?_
 · refine XS.aloadN X0.here hx rfl (hb hby d1_0) rfl rfl ?_
   refine XS.aloadN X0.here hx rfl (hb hby d1_1) rfl rfl ?_
   refine XS.iconst X0.here hx rfl (hb hby d1_2) ?_
   refine XS.aloadN X0.here hx rfl (hb hby d1_3) rfl rfl ?_
   exact k
 refine Go.len X0 hx hZ e0 V_vc (hb hby d1_4) ?_
 refine Go.step (S' := s₁.setTop (mkF m 6 #[rv so, rv vc] [.null, (.int 3), (.int 0), (.ref vc), (.ref so)])) (fun t k => ?_) ?_
 · refine XS.aconstNull X0.here hx rfl (hb hby d1_5) ?_
   exact k
 refine Go.cI X0 hx hml hown hZ (own_w hw 9 rfl) (own_w hw 10 rfl) (own_w hw 5 rfl) (own_w hw 12 rfl) (rmNU4_3 l Z a0 hw [] so vc kc cs x0 x1 x2 h0 n0 O S_CS S_AD S_HI S_LO E_so F_v F_c V_vc (by assumption) hcs hu rax0 rbx0 rax1 rbx1 rax2 rbx2) 0 [] pd__28_5bCIILjava_2flang_2fVoid_3b_29V (hb hby d1_6) e0 (fun _ T1 L1 X1 hQ1 => ?_)
 obtain ⟨tb_1, kb_1, rfl, Nq1, K1, P1_E, P1_Fv, P1_Fc, P1_V⟩ := hQ1
 have N1 := Fr.app N0 Nq1
 have ne_vc_so : vc ≠ so := Ne.symm (Exa.neArv E_so V_vc (own_w hw 4 rfl))
 have O := O.keep K1 (allS g_so all0)
 have E_so := E_so.keep K1
 have V_vc := V_vc.keep K1 (ninS ne_vc_so nin0)
 have K := K.trans K1 (allS (Or.inl (List.mem_of_getElem? (i := 0) rfl)) all0)
 have E_1 := P1_E
 have Fv_1 := P1_Fv
 have Fc_1 := P1_Fc
 have V_1 := P1_V
 exact Go.rv X1 hx Bd (hb hby d1_9) (Eq.refl T1.heap) ⟨tb_1, kb_1, rfl, N1, K, E_so, Fv_1, Fc_1, V_1⟩
abbrev rm_rmUL3 : Room := ({ frames := 0, cells := 0, slots := 0, locals := 0 } : Room)
def Q_rmUL3 (Z : State) (ub : Addr) (ku : ClassId) (x0 : Int32) (x1 : Int32) (x2 : Int32) (h0 : Heap) (n0 : Nat) (v : Option Value) (h : Heap) (L : List Loc) : Prop := (v = some (.int 3)) ∧ (Fr n0 L) ∧ (h = h0)
theorem rmUL3 (l : Launch) (Z : State) (a0 : Array Value) (hw : HW a0 Z) (ws : List Jvm.Cond) (ub : Addr) (ku : ClassId) (x0 : Int32) (x1 : Int32) (x2 : Int32) (h0 : Heap) (n0 : Nat) (O : Old Z n0 h0) (V_ub : Arv Z h0 ub ku .byte (6 : Int32) [(.int (own_lo x0)), (.int (own_hi x0)), (.int (own_lo x1)), (.int (own_hi x1)), (.int (own_lo x2)), (.int (own_hi x2))] (.int 0)) :
    Mt l Z y_15 jdk_52_method_6_code 1 (some .int) ws rm_rmUL3 #[(.ref ub)] h0 (Q_rmUL3 Z ub ku x0 x1 x2 h0 n0) := by
 refine own_met "java/lang/StringUTF16" (plainFor_of_name pn_java_lang_StringUTF16) #[rv ub] (fun m => rfl) (fun p e s m below meth c s₁ Bd hx hby hml hZ hown hnm X0 e0 => ?_)
 have N0 := Fr.nil n0
 refine Go.step (S' := s₁.setTop (mkF m 1 #[rv ub] [(.ref ub)])) (fun t k => ?_) ?_
 · refine XS.aloadN X0.here hx rfl (hb hby d26_0) rfl rfl ?_
   exact k
 refine Go.len X0 hx hZ e0 V_ub (hb hby d26_1) ?_
 refine Go.step (S' := s₁.setTop (mkF m 4 #[rv ub] [(.int 3)])) (fun t k => ?_) ?_
 · refine XS.iconst X0.here hx rfl (hb hby d26_2) ?_
   refine XS.ishr X0.here hx rfl (hb hby d26_3) rfl ?_
   exact k
 exact Go.rt X0 hx Bd (w := (.int 3)) rfl (Or.inl ⟨rfl, Or.inl rfl, _, rfl⟩) (hb hby d26_4) e0 ⟨rfl, N0, rfl⟩
abbrev rm_rmFn3 : Room := ({ frames := 0, cells := 0, slots := 0, locals := 0 } : Room)
def Q_rmFn3 (Z : State)  (h0 : Heap) (n0 : Nat) (v : Option Value) (h : Heap) (L : List Loc) : Prop := (v = some (.int 0)) ∧ (Fr n0 L) ∧ (h = h0)
theorem rmFn3 (l : Launch) (Z : State) (a0 : Array Value) (hw : HW a0 Z) (ws : List Jvm.Cond)  (h0 : Heap) (n0 : Nat) (O : Old Z n0 h0) :
    Mt l Z y_16 jdk_41_method_12_code 4 (some .int) ws rm_rmFn3 #[(.int 0), (.int 3), (.int 3), .null] h0 (Q_rmFn3 Z  h0 n0) := by
 refine own_met "jdk/internal/util/Preconditions" (plainFor_of_name pn_jdk_internal_util_Preconditions) #[iv 0, iv 3, iv 3, .val .null] (fun m => rfl) (fun p e s m below meth c s₁ Bd hx hby hml hZ hown hnm X0 e0 => ?_)
 have N0 := Fr.nil n0
 refine Go.step (S' := s₁.setTop (mkF m 23 #[iv 0, iv 3, iv 3, .val .null] [(.int 0)])) (fun t k => ?_) ?_
 · refine XS.iloadN X0.here hx rfl (hb hby d28_0) rfl ?_
   refine XS.ifNo X0.here hx rfl (hb hby d28_1) rfl ((if0 _ _).trans (flt ((by decide) : ¬ ((0 : Int32) < (0 : Int32)))).1) ?_
   refine XS.iloadN X0.here hx rfl (hb hby d28_4) rfl ?_
   refine XS.iloadN X0.here hx rfl (hb hby d28_5) rfl ?_
   refine XS.icmpNo X0.here hx rfl (hb hby d28_6) rfl (flt ((by decide) : ¬ ((3 : Int32) < (0 : Int32)))).2.2.1 ?_
   refine XS.iloadN X0.here hx rfl (hb hby d28_9) rfl ?_
   show Steps p.tables e below (s₁.setTop (mkF m 10 #[iv 0, iv 3, iv 3, .val .null] [(.int 3)])) _
   refine XS.iloadN X0.here hx rfl (hb hby d28_10) rfl ?_
   refine XS.icmpYes X0.here hx rfl (pc0 := 11) (pc' := 22) rfl (hb hby d28_11) rfl (flt ((by decide) : ¬ ((3 : Int32) < (3 : Int32)))).2.2.2 (by decide) (by decide) ?_
   refine XS.iloadN X0.here hx rfl (hb hby d28_22) rfl ?_
   exact k
 exact Go.rt X0 hx Bd (w := (.int 0)) rfl (Or.inl ⟨rfl, Or.inl rfl, _, rfl⟩) (hb hby d28_23) e0 ⟨rfl, N0, rfl⟩
abbrev rm_rmFr3 : Room := ({ frames := 0, cells := 0, slots := 0, locals := 0 } : Room)
def Q_rmFr3 (Z : State) (f : Addr) (h0 : Heap) (n0 : Nat) (v : Option Value) (h : Heap) (L : List Loc) : Prop := (v = some (.int 0)) ∧ (Fr n0 L) ∧ (h = h0)
theorem rmFr3 (l : Launch) (Z : State) (a0 : Array Value) (hw : HW a0 Z) (ws : List Jvm.Cond) (f : Addr) (h0 : Heap) (n0 : Nat) (O : Old Z n0 h0) :
    Mt l Z y_16 jdk_41_method_12_code 4 (some .int) ws rm_rmFr3 #[(.int 0), (.int 3), (.int 3), (.ref f)] h0 (Q_rmFr3 Z f h0 n0) := by
 refine own_met "jdk/internal/util/Preconditions" (plainFor_of_name pn_jdk_internal_util_Preconditions) #[iv 0, iv 3, iv 3, rv f] (fun m => rfl) (fun p e s m below meth c s₁ Bd hx hby hml hZ hown hnm X0 e0 => ?_)
 have N0 := Fr.nil n0
 refine Go.step (S' := s₁.setTop (mkF m 23 #[iv 0, iv 3, iv 3, rv f] [(.int 0)])) (fun t k => ?_) ?_
 · refine XS.iloadN X0.here hx rfl (hb hby d28_0) rfl ?_
   refine XS.ifNo X0.here hx rfl (hb hby d28_1) rfl ((if0 _ _).trans (flt ((by decide) : ¬ ((0 : Int32) < (0 : Int32)))).1) ?_
   refine XS.iloadN X0.here hx rfl (hb hby d28_4) rfl ?_
   refine XS.iloadN X0.here hx rfl (hb hby d28_5) rfl ?_
   refine XS.icmpNo X0.here hx rfl (hb hby d28_6) rfl (flt ((by decide) : ¬ ((3 : Int32) < (0 : Int32)))).2.2.1 ?_
   refine XS.iloadN X0.here hx rfl (hb hby d28_9) rfl ?_
   show Steps p.tables e below (s₁.setTop (mkF m 10 #[iv 0, iv 3, iv 3, rv f] [(.int 3)])) _
   refine XS.iloadN X0.here hx rfl (hb hby d28_10) rfl ?_
   refine XS.icmpYes X0.here hx rfl (pc0 := 11) (pc' := 22) rfl (hb hby d28_11) rfl (flt ((by decide) : ¬ ((3 : Int32) < (3 : Int32)))).2.2.2 (by decide) (by decide) ?_
   refine XS.iloadN X0.here hx rfl (hb hby d28_22) rfl ?_
   exact k
 exact Go.rt X0 hx Bd (w := (.int 0)) rfl (Or.inl ⟨rfl, Or.inl rfl, _, rfl⟩) (hb hby d28_23) e0 ⟨rfl, N0, rfl⟩
abbrev rm_rmBB3 : Room := ({ frames := 1, cells := 0, slots := 0, locals := 15 } : Room)
def Q_rmBB3 (Z : State) (sf : Value) (h0 : Heap) (n0 : Nat) (v : Option Value) (h : Heap) (L : List Loc) : Prop := (v = none) ∧ (Fr n0 L) ∧ (h = h0)
theorem rmBB3 (l : Launch) (Z : State) (a0 : Array Value) (hw : HW a0 Z) (ws : List Jvm.Cond) (sf : Value) (h0 : Heap) (n0 : Nat) (O : Old Z n0 h0) (S_FM : Sa_4 Z sf) (hsf : sf.isRef = true) :
    Mt l Z y_17 jdk_42_method_158_code 3 none ws rm_rmBB3 #[(.int 0), (.int 3), (.int 3)] h0 (Q_rmBB3 Z sf h0 n0) := by
 refine own_met "java/lang/String" (plainFor_of_name pn_java_lang_String) #[iv 0, iv 3, iv 3] (fun m => rfl) (fun p e s m below meth c s₁ Bd hx hby hml hZ hown hnm X0 e0 => ?_)
 have N0 := Fr.nil n0
 rcases ref_cases hsf with hsn | ⟨wf, hsn⟩
 ·skip
  rw [hsn] at S_FM
  refine Go.step (S' := s₁.setTop (mkF m 3 #[iv 0, iv 3, iv 3] [(.int 3), (.int 3), (.int 0)])) (fun t k => ?_) ?_
  · refine XS.iloadN X0.here hx rfl (hb hby d27_0) rfl ?_
    refine XS.iloadN X0.here hx rfl (hb hby d27_1) rfl ?_
    refine XS.iloadN X0.here hx rfl (hb hby d27_2) rfl ?_
    exact k
  refine Go.gS X0 hx hZ hown (host := "") (Or.inl (own_w hw 118 rfl)) Via.refl e0 (S_FM.ext O.2) (hb hby d27_3) (fun T1 X1 e1 => ?_)
  refine Go.cS X1 hx hml hown hZ (own_w hw 120 rfl) (own_w hw 121 rfl) (own_w hw 119 rfl) (own_w hw 122 rfl) (rmFn3 l Z a0 hw []  h0 n0 O ) 0 [] pd__28IIILjava_2futil_2ffunction_2fBiFunction_3b_29I (hb hby d27_6) e1 (fun _ T2 L2 X2 hQ2 => ?_)
  obtain ⟨rfl, Nq2, e2⟩ := hQ2
  have N2 := Fr.app N0 Nq2
  refine Go.step (S' := T2.setTop (mkF m 10 #[iv 0, iv 3, iv 3] [])) (fun t k => ?_) ?_
  · refine XS.pop X2.here hx rfl (hb hby d27_9) rfl rfl ?_
    exact k
  exact Go.rv X2 hx Bd (hb hby d27_10) e2 ⟨rfl, N2, rfl⟩
 ·skip
  rw [hsn] at S_FM
  refine Go.step (S' := s₁.setTop (mkF m 3 #[iv 0, iv 3, iv 3] [(.int 3), (.int 3), (.int 0)])) (fun t k => ?_) ?_
  · refine XS.iloadN X0.here hx rfl (hb hby d27_0) rfl ?_
    refine XS.iloadN X0.here hx rfl (hb hby d27_1) rfl ?_
    refine XS.iloadN X0.here hx rfl (hb hby d27_2) rfl ?_
    exact k
  refine Go.gS X0 hx hZ hown (host := "") (Or.inl (own_w hw 118 rfl)) Via.refl e0 (S_FM.ext O.2) (hb hby d27_3) (fun T3 X3 e3 => ?_)
  refine Go.cS X3 hx hml hown hZ (own_w hw 120 rfl) (own_w hw 121 rfl) (own_w hw 119 rfl) (own_w hw 122 rfl) (rmFr3 l Z a0 hw [] wf h0 n0 O ) 0 [] pd__28IIILjava_2futil_2ffunction_2fBiFunction_3b_29I (hb hby d27_6) e3 (fun _ T4 L4 X4 hQ4 => ?_)
  obtain ⟨rfl, Nq4, e4⟩ := hQ4
  have N4 := Fr.app N0 Nq4
  refine Go.step (S' := T4.setTop (mkF m 10 #[iv 0, iv 3, iv 3] [])) (fun t k => ?_) ?_
  · refine XS.pop X4.here hx rfl (hb hby d27_9) rfl rfl ?_
    exact k
  exact Go.rv X4 hx Bd (hb hby d27_10) e4 ⟨rfl, N4, rfl⟩
abbrev rm_rmBU3 : Room := ({ frames := 2, cells := 0, slots := 0, locals := 29 } : Room)
def Q_rmBU3 (Z : State) (ub : Addr) (ku : ClassId) (sf : Value) (x0 : Int32) (x1 : Int32) (x2 : Int32) (h0 : Heap) (n0 : Nat) (v : Option Value) (h : Heap) (L : List Loc) : Prop := (v = none) ∧ (Fr n0 L) ∧ (h = h0)
theorem rmBU3 (l : Launch) (Z : State) (a0 : Array Value) (hw : HW a0 Z) (ws : List Jvm.Cond) (ub : Addr) (ku : ClassId) (sf : Value) (x0 : Int32) (x1 : Int32) (x2 : Int32) (h0 : Heap) (n0 : Nat) (O : Old Z n0 h0) (S_FM : Sa_4 Z sf) (V_ub : Arv Z h0 ub ku .byte (6 : Int32) [(.int (own_lo x0)), (.int (own_hi x0)), (.int (own_lo x1)), (.int (own_hi x1)), (.int (own_lo x2)), (.int (own_hi x2))] (.int 0)) (hsf : sf.isRef = true) :
    Mt l Z y_18 jdk_52_method_93_code 3 none ws rm_rmBU3 #[(.int 0), (.int 3), (.ref ub)] h0 (Q_rmBU3 Z ub ku sf x0 x1 x2 h0 n0) := by
 refine own_met "java/lang/StringUTF16" (plainFor_of_name pn_java_lang_StringUTF16) #[iv 0, iv 3, rv ub] (fun m => rfl) (fun p e s m below meth c s₁ Bd hx hby hml hZ hown hnm X0 e0 => ?_)
 have N0 := Fr.nil n0
 refine Go.step (S' := s₁.setTop (mkF m 3 #[iv 0, iv 3, rv ub] [(.ref ub), (.int 3), (.int 0)])) (fun t k => ?_) ?_
 · refine XS.iloadN X0.here hx rfl (hb hby d25_0) rfl ?_
   refine XS.iloadN X0.here hx rfl (hb hby d25_1) rfl ?_
   refine XS.aloadN X0.here hx rfl (hb hby d25_2) rfl rfl ?_
   exact k
 refine Go.cS X0 hx hml hown hZ (own_w hw 112 rfl) (own_w hw 113 rfl) (own_w hw 70 rfl) (own_w hw 114 rfl) (rmUL3 l Z a0 hw [] ub ku x0 x1 x2 h0 n0 O V_ub) 2 [(.int 3), (.int 0)] pd__28_5bB_29I (hb hby d25_3) e0 (fun _ T1 L1 X1 hQ1 => ?_)
 obtain ⟨rfl, Nq1, e1⟩ := hQ1
 have N1 := Fr.app N0 Nq1
 refine Go.cS X1 hx hml hown hZ (own_w hw 115 rfl) (own_w hw 116 rfl) (own_w hw 5 rfl) (own_w hw 117 rfl) (rmBB3 l Z a0 hw [] sf h0 n0 O S_FM hsf) 0 [] pd__28III_29V (hb hby d25_6) e1 (fun _ T2 L2 X2 hQ2 => ?_)
 obtain ⟨rfl, Nq2, e2⟩ := hQ2
 have N2 := Fr.app N1 Nq2
 exact Go.rv X2 hx Bd (hb hby d25_9) e2 ⟨rfl, N2, rfl⟩
abbrev rm_rmIU3 : Room := ({ frames := 1, cells := 0, slots := 0, locals := 13 } : Room)
def Q_rmIU3 (Z : State) (ub : Addr) (ku : ClassId) (x0 : Int32) (x1 : Int32) (x2 : Int32) (h0 : Heap) (n0 : Nat) (v : Option Value) (h : Heap) (L : List Loc) : Prop := ∃ r : Int32, (v = some (.int r)) ∧ (Fr n0 L) ∧ (h = h0) ∧ (r < (0 : Int32) ↔ (¬ (x0 = (0 : Int32)) ∧ ¬ (x1 = (0 : Int32)) ∧ ¬ (x2 = (0 : Int32))))
theorem rmIU3 (l : Launch) (Z : State) (a0 : Array Value) (hw : HW a0 Z) (ws : List Jvm.Cond) (ub : Addr) (ku : ClassId) (x0 : Int32) (x1 : Int32) (x2 : Int32) (h0 : Heap) (n0 : Nat) (O : Old Z n0 h0) (S_AD : Sa_1 Z (.int 1)) (S_HI : Sa_2 Z (.int 0)) (S_LO : Sa_3 Z (.int 8)) (V_ub : Arv Z h0 ub ku .byte (6 : Int32) [(.int (own_lo x0)), (.int (own_hi x0)), (.int (own_lo x1)), (.int (own_hi x1)), (.int (own_lo x2)), (.int (own_hi x2))] (.int 0)) (rax0 : ¬ (x0 < (0 : Int32))) (rbx0 : ¬ ((65535 : Int32) < x0)) (rax1 : ¬ (x1 < (0 : Int32))) (rbx1 : ¬ ((65535 : Int32) < x1)) (rax2 : ¬ (x2 < (0 : Int32))) (rbx2 : ¬ ((65535 : Int32) < x2)) :
    Mt l Z y_19 jdk_52_method_48_code 5 (some .int) ws rm_rmIU3 #[(.ref ub), (.int 0), (.int 0), (.int 3)] h0 (Q_rmIU3 Z ub ku x0 x1 x2 h0 n0) := by
 refine own_met "java/lang/StringUTF16" (plainFor_of_name pn_java_lang_StringUTF16) #[rv ub, iv 0, iv 0, iv 3, u_] (fun m => rfl) (fun p e s m below meth c s₁ Bd hx hby hml hZ hown hnm X0 e0 => ?_)
 have N0 := Fr.nil n0
 refine Go.step (S' := s₁.setTop (mkF m 12 #[rv ub, iv 0, iv 0, iv 3, iv 0] [(.int 0), (.ref ub)])) (fun t k => ?_) ?_
 · refine XS.iloadN X0.here hx rfl (hb hby d29_0) rfl ?_
   refine XS.istore X0.here hx rfl (hb hby d29_1) rfl (l' := #[rv ub, iv 0, iv 0, iv 3, iv 0]) rfl ?_
   refine XS.iload X0.here hx rfl (hb hby d29_3) rfl ?_
   refine XS.iloadN X0.here hx rfl (hb hby d29_5) rfl ?_
   refine XS.icmpNo X0.here hx rfl (hb hby d29_6) rfl (tlt ((by decide) : (0 : Int32) < (3 : Int32))).2.1 ?_
   refine XS.aloadN X0.here hx rfl (hb hby d29_9) rfl rfl ?_
   show Steps p.tables e below (s₁.setTop (mkF m 10 #[rv ub, iv 0, iv 0, iv 3, iv 0] [(.ref ub)])) _
   refine XS.iload X0.here hx rfl (hb hby d29_10) rfl ?_
   exact k
 refine Go.cS X0 hx hml hown hZ (own_w hw 97 rfl) (own_w hw 98 rfl) (own_w hw 70 rfl) (own_w hw 99 rfl) (rmGC3_0 l Z a0 hw [] ub ku x0 x1 x2 h0 n0 O S_AD S_HI S_LO V_ub rax0 rbx0) 0 [] pd__28_5bBI_29C (hb hby d29_12) e0 (fun _ T1 L1 X1 hQ1 => ?_)
 obtain ⟨rfl, Nq1, e1⟩ := hQ1
 have N1 := Fr.app N0 Nq1
 refine Go.step (S' := T1.setTop (mkF m 16 #[rv ub, iv 0, iv 0, iv 3, iv 0] [(.int 0), (.int x0)])) (fun t k => ?_) ?_
 · refine XS.iloadN X1.here hx rfl (hb hby d29_15) rfl ?_
   exact k
 by_cases hc16 : x0 = (0 : Int32)
 ·skip
  refine Go.step (S' := T1.setTop (mkF m 21 #[rv ub, iv 0, iv 0, iv 3, iv 0] [(.int 0)])) (fun t k => ?_) ?_
  · refine XS.icmpNo X1.here hx rfl (hb hby d29_16) rfl (teq (hc16 : x0 = (0 : Int32))).2 ?_
    refine XS.iload X1.here hx rfl (hb hby d29_19) rfl ?_
    exact k
  exact Go.rt X1 hx Bd (w := (.int 0)) rfl (Or.inl ⟨rfl, Or.inl rfl, _, rfl⟩) (hb hby d29_21) e1 ⟨(0 : Int32), rfl, N1, rfl, ⟨fun q => absurd q (by decide), fun q => absurd hc16 q.1⟩⟩
 ·skip
  refine Go.step (S' := T1.setTop (mkF m 12 #[rv ub, iv 0, iv 0, iv 3, iv 1] [(.int 1), (.ref ub)])) (fun t k => ?_) ?_
  · refine XS.icmpYes X1.here hx rfl (pc0 := 16) (pc' := 22) rfl (hb hby d29_16) rfl (feq (hc16 : ¬ (x0 = (0 : Int32)))).2 (by decide) (by decide) ?_
    refine XS.iinc X1.here hx rfl (hb hby d29_22) rfl (l' := #[rv ub, iv 0, iv 0, iv 3, iv 1]) rfl ?_
    refine XS.goto X1.here hx rfl (pc0 := 25) (pc' := 3) rfl (hb hby d29_25) (by decide) (by decide) ?_
    refine XS.iload X1.here hx rfl (hb hby d29_3) rfl ?_
    refine XS.iloadN X1.here hx rfl (hb hby d29_5) rfl ?_
    refine XS.icmpNo X1.here hx rfl (hb hby d29_6) rfl (tlt ((by decide) : (1 : Int32) < (3 : Int32))).2.1 ?_
    show Steps p.tables e below (T1.setTop (mkF m 9 #[rv ub, iv 0, iv 0, iv 3, iv 1] [])) _
    refine XS.aloadN X1.here hx rfl (hb hby d29_9) rfl rfl ?_
    refine XS.iload X1.here hx rfl (hb hby d29_10) rfl ?_
    exact k
  refine Go.cS X1 hx hml hown hZ (own_w hw 97 rfl) (own_w hw 98 rfl) (own_w hw 70 rfl) (own_w hw 99 rfl) (rmGC3_1 l Z a0 hw [] ub ku x0 x1 x2 h0 n0 O S_AD S_HI S_LO V_ub rax1 rbx1) 0 [] pd__28_5bBI_29C (hb hby d29_12) e1 (fun _ T2 L2 X2 hQ2 => ?_)
  obtain ⟨rfl, Nq2, e2⟩ := hQ2
  have N2 := Fr.app N1 Nq2
  refine Go.step (S' := T2.setTop (mkF m 16 #[rv ub, iv 0, iv 0, iv 3, iv 1] [(.int 0), (.int x1)])) (fun t k => ?_) ?_
  · refine XS.iloadN X2.here hx rfl (hb hby d29_15) rfl ?_
    exact k
  by_cases hc16_1 : x1 = (0 : Int32)
  ·skip
   refine Go.step (S' := T2.setTop (mkF m 21 #[rv ub, iv 0, iv 0, iv 3, iv 1] [(.int 1)])) (fun t k => ?_) ?_
   · refine XS.icmpNo X2.here hx rfl (hb hby d29_16) rfl (teq (hc16_1 : x1 = (0 : Int32))).2 ?_
     refine XS.iload X2.here hx rfl (hb hby d29_19) rfl ?_
     exact k
   exact Go.rt X2 hx Bd (w := (.int 1)) rfl (Or.inl ⟨rfl, Or.inl rfl, _, rfl⟩) (hb hby d29_21) e2 ⟨(1 : Int32), rfl, N2, rfl, ⟨fun q => absurd q (by decide), fun q => absurd hc16_1 q.2.1⟩⟩
  ·skip
   refine Go.step (S' := T2.setTop (mkF m 12 #[rv ub, iv 0, iv 0, iv 3, iv 2] [(.int 2), (.ref ub)])) (fun t k => ?_) ?_
   · refine XS.icmpYes X2.here hx rfl (pc0 := 16) (pc' := 22) rfl (hb hby d29_16) rfl (feq (hc16_1 : ¬ (x1 = (0 : Int32)))).2 (by decide) (by decide) ?_
     refine XS.iinc X2.here hx rfl (hb hby d29_22) rfl (l' := #[rv ub, iv 0, iv 0, iv 3, iv 2]) rfl ?_
     refine XS.goto X2.here hx rfl (pc0 := 25) (pc' := 3) rfl (hb hby d29_25) (by decide) (by decide) ?_
     refine XS.iload X2.here hx rfl (hb hby d29_3) rfl ?_
     refine XS.iloadN X2.here hx rfl (hb hby d29_5) rfl ?_
     refine XS.icmpNo X2.here hx rfl (hb hby d29_6) rfl (tlt ((by decide) : (2 : Int32) < (3 : Int32))).2.1 ?_
     show Steps p.tables e below (T2.setTop (mkF m 9 #[rv ub, iv 0, iv 0, iv 3, iv 2] [])) _
     refine XS.aloadN X2.here hx rfl (hb hby d29_9) rfl rfl ?_
     refine XS.iload X2.here hx rfl (hb hby d29_10) rfl ?_
     exact k
   refine Go.cS X2 hx hml hown hZ (own_w hw 97 rfl) (own_w hw 98 rfl) (own_w hw 70 rfl) (own_w hw 99 rfl) (rmGC3_2 l Z a0 hw [] ub ku x0 x1 x2 h0 n0 O S_AD S_HI S_LO V_ub rax2 rbx2) 0 [] pd__28_5bBI_29C (hb hby d29_12) e2 (fun _ T3 L3 X3 hQ3 => ?_)
   obtain ⟨rfl, Nq3, e3⟩ := hQ3
   have N3 := Fr.app N2 Nq3
   refine Go.step (S' := T3.setTop (mkF m 16 #[rv ub, iv 0, iv 0, iv 3, iv 2] [(.int 0), (.int x2)])) (fun t k => ?_) ?_
   · refine XS.iloadN X3.here hx rfl (hb hby d29_15) rfl ?_
     exact k
   by_cases hc16_2 : x2 = (0 : Int32)
   ·skip
    refine Go.step (S' := T3.setTop (mkF m 21 #[rv ub, iv 0, iv 0, iv 3, iv 2] [(.int 2)])) (fun t k => ?_) ?_
    · refine XS.icmpNo X3.here hx rfl (hb hby d29_16) rfl (teq (hc16_2 : x2 = (0 : Int32))).2 ?_
      refine XS.iload X3.here hx rfl (hb hby d29_19) rfl ?_
      exact k
    exact Go.rt X3 hx Bd (w := (.int 2)) rfl (Or.inl ⟨rfl, Or.inl rfl, _, rfl⟩) (hb hby d29_21) e3 ⟨(2 : Int32), rfl, N3, rfl, ⟨fun q => absurd q (by decide), fun q => absurd hc16_2 q.2.2⟩⟩
   ·skip
    refine Go.step (S' := T3.setTop (mkF m 29 #[rv ub, iv 0, iv 0, iv 3, iv 3] [(.int (-1))])) (fun t k => ?_) ?_
    · refine XS.icmpYes X3.here hx rfl (pc0 := 16) (pc' := 22) rfl (hb hby d29_16) rfl (feq (hc16_2 : ¬ (x2 = (0 : Int32)))).2 (by decide) (by decide) ?_
      refine XS.iinc X3.here hx rfl (hb hby d29_22) rfl (l' := #[rv ub, iv 0, iv 0, iv 3, iv 3]) rfl ?_
      refine XS.goto X3.here hx rfl (pc0 := 25) (pc' := 3) rfl (hb hby d29_25) (by decide) (by decide) ?_
      refine XS.iload X3.here hx rfl (hb hby d29_3) rfl ?_
      refine XS.iloadN X3.here hx rfl (hb hby d29_5) rfl ?_
      refine XS.icmpYes X3.here hx rfl (pc0 := 6) (pc' := 28) rfl (hb hby d29_6) rfl (flt ((by decide) : ¬ ((3 : Int32) < (3 : Int32)))).2.1 (by decide) (by decide) ?_
      show Steps p.tables e below (T3.setTop (mkF m 28 #[rv ub, iv 0, iv 0, iv 3, iv 3] [])) _
      refine XS.iconst X3.here hx rfl (hb hby d29_28) ?_
      exact k
    exact Go.rt X3 hx Bd (w := (.int (-1))) rfl (Or.inl ⟨rfl, Or.inl rfl, _, rfl⟩) (hb hby d29_29) e3 ⟨(-1 : Int32), rfl, N3, rfl, ⟨fun _ => ⟨hc16, hc16_1, hc16_2⟩, fun _ => by decide⟩⟩
abbrev rm_rmIC3 : Room := ({ frames := 3, cells := 0, slots := 0, locals := 43 } : Room)
def Q_rmIC3 (Z : State) (ub : Addr) (ku : ClassId) (sf : Value) (x0 : Int32) (x1 : Int32) (x2 : Int32) (h0 : Heap) (n0 : Nat) (v : Option Value) (h : Heap) (L : List Loc) : Prop := ∃ r : Int32, (v = some (.int r)) ∧ (Fr n0 L) ∧ (h = h0) ∧ (r < (0 : Int32) ↔ (¬ (x0 = (0 : Int32)) ∧ ¬ (x1 = (0 : Int32)) ∧ ¬ (x2 = (0 : Int32))))
theorem rmIC3 (l : Launch) (Z : State) (a0 : Array Value) (hw : HW a0 Z) (ws : List Jvm.Cond) (ub : Addr) (ku : ClassId) (sf : Value) (x0 : Int32) (x1 : Int32) (x2 : Int32) (h0 : Heap) (n0 : Nat) (O : Old Z n0 h0) (S_AD : Sa_1 Z (.int 1)) (S_HI : Sa_2 Z (.int 0)) (S_LO : Sa_3 Z (.int 8)) (V_ub : Arv Z h0 ub ku .byte (6 : Int32) [(.int (own_lo x0)), (.int (own_hi x0)), (.int (own_lo x1)), (.int (own_hi x1)), (.int (own_lo x2)), (.int (own_hi x2))] (.int 0)) (S_FM : Sa_4 Z sf) (hsf : sf.isRef = true) (rax0 : ¬ (x0 < (0 : Int32))) (rbx0 : ¬ ((65535 : Int32) < x0)) (rax1 : ¬ (x1 < (0 : Int32))) (rbx1 : ¬ ((65535 : Int32) < x1)) (rax2 : ¬ (x2 < (0 : Int32))) (rbx2 : ¬ ((65535 : Int32) < x2)) :
    Mt l Z y_20 jdk_52_method_47_code 4 (some .int) ws rm_rmIC3 #[(.ref ub), (.int 0), (.int 0), (.int 3)] h0 (Q_rmIC3 Z ub ku sf x0 x1 x2 h0 n0) := by
 refine own_met "java/lang/StringUTF16" (plainFor_of_name pn_java_lang_StringUTF16) #[rv ub, iv 0, iv 0, iv 3] (fun m => rfl) (fun p e s m below meth c s₁ Bd hx hby hml hZ hown hnm X0 e0 => ?_)
 have N0 := Fr.nil n0
 refine Go.step (S' := s₁.setTop (mkF m 3 #[rv ub, iv 0, iv 0, iv 3] [(.ref ub), (.int 3), (.int 0)])) (fun t k => ?_) ?_
 · refine XS.iloadN X0.here hx rfl (hb hby d24_0) rfl ?_
   refine XS.iloadN X0.here hx rfl (hb hby d24_1) rfl ?_
   refine XS.aloadN X0.here hx rfl (hb hby d24_2) rfl rfl ?_
   exact k
 refine Go.cS X0 hx hml hown hZ (own_w hw 109 rfl) (own_w hw 110 rfl) (own_w hw 70 rfl) (own_w hw 111 rfl) (rmBU3 l Z a0 hw [] ub ku sf x0 x1 x2 h0 n0 O S_FM V_ub hsf) 0 [] pd__28II_5bB_29V (hb hby d24_3) e0 (fun _ T1 L1 X1 hQ1 => ?_)
 obtain ⟨rfl, Nq1, e1⟩ := hQ1
 have N1 := Fr.app N0 Nq1
 refine Go.step (S' := T1.setTop (mkF m 10 #[rv ub, iv 0, iv 0, iv 3] [(.int 3), (.int 0), (.int 0), (.ref ub)])) (fun t k => ?_) ?_
 · refine XS.aloadN X1.here hx rfl (hb hby d24_6) rfl rfl ?_
   refine XS.iloadN X1.here hx rfl (hb hby d24_7) rfl ?_
   refine XS.iloadN X1.here hx rfl (hb hby d24_8) rfl ?_
   refine XS.iloadN X1.here hx rfl (hb hby d24_9) rfl ?_
   exact k
 refine Go.cS X1 hx hml hown hZ (own_w hw 123 rfl) (own_w hw 124 rfl) (own_w hw 70 rfl) (own_w hw 125 rfl) (rmIU3 l Z a0 hw [] ub ku x0 x1 x2 h0 n0 O S_AD S_HI S_LO V_ub rax0 rbx0 rax1 rbx1 rax2 rbx2) 0 [] pd__28_5bBIII_29I (hb hby d24_10) e1 (fun _ T2 L2 X2 hQ2 => ?_)
 obtain ⟨r_2, rfl, Nq2, e2, kr_2⟩ := hQ2
 have N2 := Fr.app N1 Nq2
 exact Go.rt X2 hx Bd (w := (.int r_2)) rfl (Or.inl ⟨rfl, Or.inl rfl, _, rfl⟩) (hb hby d24_13) e2 ⟨r_2, rfl, N2, rfl, (by assumption)⟩
abbrev rm_rmIX3 : Room := ({ frames := 4, cells := 0, slots := 0, locals := 58 } : Room)
def Q_rmIX3 (Z : State) (ub : Addr) (ku : ClassId) (sf : Value) (x0 : Int32) (x1 : Int32) (x2 : Int32) (h0 : Heap) (n0 : Nat) (v : Option Value) (h : Heap) (L : List Loc) : Prop := ∃ r : Int32, (v = some (.int r)) ∧ (Fr n0 L) ∧ (h = h0) ∧ (r < (0 : Int32) ↔ (¬ (x0 = (0 : Int32)) ∧ ¬ (x1 = (0 : Int32)) ∧ ¬ (x2 = (0 : Int32))))
theorem rmIX3 (l : Launch) (Z : State) (a0 : Array Value) (hw : HW a0 Z) (ws : List Jvm.Cond) (ub : Addr) (ku : ClassId) (sf : Value) (x0 : Int32) (x1 : Int32) (x2 : Int32) (h0 : Heap) (n0 : Nat) (O : Old Z n0 h0) (S_AD : Sa_1 Z (.int 1)) (S_HI : Sa_2 Z (.int 0)) (S_LO : Sa_3 Z (.int 8)) (V_ub : Arv Z h0 ub ku .byte (6 : Int32) [(.int (own_lo x0)), (.int (own_hi x0)), (.int (own_lo x1)), (.int (own_hi x1)), (.int (own_lo x2)), (.int (own_hi x2))] (.int 0)) (S_FM : Sa_4 Z sf) (hsf : sf.isRef = true) (rax0 : ¬ (x0 < (0 : Int32))) (rbx0 : ¬ ((65535 : Int32) < x0)) (rax1 : ¬ (x1 < (0 : Int32))) (rbx1 : ¬ ((65535 : Int32) < x1)) (rax2 : ¬ (x2 < (0 : Int32))) (rbx2 : ¬ ((65535 : Int32) < x2)) :
    Mt l Z y_21 jdk_52_method_40_code 4 (some .int) ws rm_rmIX3 #[(.ref ub), (.int 0), (.int 0), (.int 3)] h0 (Q_rmIX3 Z ub ku sf x0 x1 x2 h0 n0) := by
 refine own_met "java/lang/StringUTF16" (plainFor_of_name pn_java_lang_StringUTF16) #[rv ub, iv 0, iv 0, iv 3] (fun m => rfl) (fun p e s m below meth c s₁ Bd hx hby hml hZ hown hnm X0 e0 => ?_)
 have N0 := Fr.nil n0
 refine Go.step (S' := s₁.setTop (mkF m 2 #[rv ub, iv 0, iv 0, iv 3] [(.int 0), (.int 0)])) (fun t k => ?_) ?_
 · refine XS.iloadN X0.here hx rfl (hb hby d23_0) rfl ?_
   refine XS.iconst X0.here hx rfl (hb hby d23_1) ?_
   exact k
 refine Go.cS X0 hx hml hown hZ (own_w hw 103 rfl) (own_w hw 62 rfl) (own_w hw 63 rfl) (own_w hw 64 rfl) (rmMxA l Z a0 hw [] (0 : Int32) (0 : Int32) h0 n0 O (by decide)) 0 [] pd__28II_29I (hb hby d23_2) e0 (fun _ T1 L1 X1 hQ1 => ?_)
 obtain ⟨rfl, Nq1, e1⟩ := hQ1
 have N1 := Fr.app N0 Nq1
 refine Go.step (S' := T1.setTop (mkF m 8 #[rv ub, iv 0, iv 0, iv 3] [(.ref ub), (.int 3)])) (fun t k => ?_) ?_
 · refine XS.istoreN X1.here hx rfl (hb hby d23_5) rfl (l' := #[rv ub, iv 0, iv 0, iv 3]) rfl ?_
   refine XS.iloadN X1.here hx rfl (hb hby d23_6) rfl ?_
   refine XS.aloadN X1.here hx rfl (hb hby d23_7) rfl rfl ?_
   exact k
 refine Go.len X1 hx hZ e1 V_ub (hb hby d23_8) ?_
 refine Go.step (S' := T1.setTop (mkF m 11 #[rv ub, iv 0, iv 0, iv 3] [(.int 3), (.int 3)])) (fun t k => ?_) ?_
 · refine XS.iconst X1.here hx rfl (hb hby d23_9) ?_
   refine XS.ishr X1.here hx rfl (hb hby d23_10) rfl ?_
   exact k
 refine Go.cS X1 hx hml hown hZ (own_w hw 104 rfl) (own_w hw 66 rfl) (own_w hw 63 rfl) (own_w hw 67 rfl) (rmMnA l Z a0 hw [] (3 : Int32) (3 : Int32) h0 n0 O (by decide)) 0 [] pd__28II_29I (hb hby d23_11) e1 (fun _ T2 L2 X2 hQ2 => ?_)
 obtain ⟨rfl, Nq2, e2⟩ := hQ2
 have N2 := Fr.app N1 Nq2
 refine Go.step (S' := T2.setTop (mkF m 32 #[rv ub, iv 0, iv 0, iv 3] [(.int 3), (.int 0), (.int 0), (.ref ub)])) (fun t k => ?_) ?_
 · refine XS.istoreN X2.here hx rfl (hb hby d23_14) rfl (l' := #[rv ub, iv 0, iv 0, iv 3]) rfl ?_
   refine XS.iloadN X2.here hx rfl (hb hby d23_15) rfl ?_
   refine XS.iloadN X2.here hx rfl (hb hby d23_16) rfl ?_
   refine XS.icmpYes X2.here hx rfl (pc0 := 17) (pc' := 22) rfl (hb hby d23_17) rfl (tlt ((by decide) : (0 : Int32) < (3 : Int32))).1 (by decide) (by decide) ?_
   refine XS.iloadN X2.here hx rfl (hb hby d23_22) rfl ?_
   refine X2.ldcInt hx hown (mvT hZ (own_w hw 105 rfl)) (g := (mkF m 23 #[rv ub, iv 0, iv 0, iv 3] [(.int 0)])) rfl (hb hby d23_23) _ ?_
   show Steps p.tables e below (T2.setTop (mkF m 25 #[rv ub, iv 0, iv 0, iv 3] [(.int 65536), (.int 0)])) _
   refine XS.icmpNo X2.here hx rfl (hb hby d23_25) rfl (tlt ((by decide) : (0 : Int32) < (65536 : Int32))).2.1 ?_
   refine XS.aloadN X2.here hx rfl (hb hby d23_28) rfl rfl ?_
   refine XS.iloadN X2.here hx rfl (hb hby d23_29) rfl ?_
   refine XS.iloadN X2.here hx rfl (hb hby d23_30) rfl ?_
   refine XS.iloadN X2.here hx rfl (hb hby d23_31) rfl ?_
   exact k
 refine Go.cS X2 hx hml hown hZ (own_w hw 106 rfl) (own_w hw 107 rfl) (own_w hw 70 rfl) (own_w hw 108 rfl) (rmIC3 l Z a0 hw [] ub ku sf x0 x1 x2 h0 n0 O S_AD S_HI S_LO V_ub S_FM hsf rax0 rbx0 rax1 rbx1 rax2 rbx2) 0 [] pd__28_5bBIII_29I (hb hby d23_32) e2 (fun _ T3 L3 X3 hQ3 => ?_)
 obtain ⟨r_3, rfl, Nq3, e3, kr_3⟩ := hQ3
 have N3 := Fr.app N2 Nq3
 exact Go.rt X3 hx Bd (w := (.int r_3)) rfl (Or.inl ⟨rfl, Or.inl rfl, _, rfl⟩) (hb hby d23_35) e3 ⟨r_3, rfl, N3, rfl, (by assumption)⟩
abbrev rm_rmNL4 : Room := ({ frames := 0, cells := 0, slots := 0, locals := 0 } : Room)
def Q_rmNL4 (Z : State)  (h0 : Heap) (n0 : Nat) (v : Option Value) (h : Heap) (L : List Loc) : Prop := (v = some (.int 8)) ∧ (Fr n0 L) ∧ (h = h0)
theorem rmNL4 (l : Launch) (Z : State) (a0 : Array Value) (hw : HW a0 Z) (ws : List Jvm.Cond)  (h0 : Heap) (n0 : Nat) (O : Old Z n0 h0) :
    Mt l Z y_10 jdk_52_method_3_code 1 (some .int) ws rm_rmNL4 #[(.int 4)] h0 (Q_rmNL4 Z  h0 n0) := by
 refine own_met "java/lang/StringUTF16" (plainFor_of_name pn_java_lang_StringUTF16) #[iv 4] (fun m => rfl) (fun p e s m below meth c s₁ Bd hx hby hml hZ hown hnm X0 e0 => ?_)
 have N0 := Fr.nil n0
 refine Go.step (S' := s₁.setTop (mkF m 58 #[iv 4] [(.int 8)])) (fun t k => ?_) ?_
 · refine XS.iloadN X0.here hx rfl (hb hby d20_0) rfl ?_
   refine XS.ifYes X0.here hx rfl (pc0 := 1) (pc' := 12) rfl (hb hby d20_1) rfl ((if0 _ _).trans (flt ((by decide) : ¬ ((4 : Int32) < (0 : Int32)))).2.1) (by decide) (by decide) ?_
   refine XS.iloadN X0.here hx rfl (hb hby d20_12) rfl ?_
   refine X0.ldcInt hx hown (mvT hZ (own_w hw 90 rfl)) (g := (mkF m 13 #[iv 4] [(.int 4)])) rfl (hb hby d20_13) _ ?_
   refine XS.icmpYes X0.here hx rfl (pc0 := 15) (pc' := 55) rfl (hb hby d20_15) rfl (tlt ((by decide) : (4 : Int32) < (1073741823 : Int32))).1 (by decide) (by decide) ?_
   refine XS.iloadN X0.here hx rfl (hb hby d20_55) rfl ?_
   show Steps p.tables e below (s₁.setTop (mkF m 56 #[iv 4] [(.int 4)])) _
   refine XS.iconst X0.here hx rfl (hb hby d20_56) ?_
   refine XS.ishl X0.here hx rfl (hb hby d20_57) rfl ?_
   exact k
 exact Go.rt X0 hx Bd (w := (.int 8)) rfl (Or.inl ⟨rfl, Or.inl rfl, _, rfl⟩) (hb hby d20_58) e0 ⟨rfl, N0, rfl⟩
abbrev rm_rmNB4 : Room := ({ frames := 1, cells := 1, slots := 8, locals := 12 } : Room)
def Q_rmNB4 (Z : State)  (h0 : Heap) (n0 : Nat) (v : Option Value) (h : Heap) (L : List Loc) : Prop := ∃ b : Addr, ∃ kb : ClassId, (v = some (.ref b)) ∧ (Fr n0 L) ∧ (Keep h0 h []) ∧ (Arv Z h b kb .byte (8 : Int32) [(.int 0), (.int 0), (.int 0), (.int 0), (.int 0), (.int 0), (.int 0), (.int 0)] (.int 0)) ∧ (n0 ≤ b) ∧ (h0.size ≤ b)
theorem rmNB4 (l : Launch) (Z : State) (a0 : Array Value) (hw : HW a0 Z) (ws : List Jvm.Cond)  (h0 : Heap) (n0 : Nat) (O : Old Z n0 h0) :
    Mt l Z y_11 jdk_52_method_2_code 1 (some (.array .byte)) ws rm_rmNB4 #[(.int 4)] h0 (Q_rmNB4 Z  h0 n0) := by
 refine own_met "java/lang/StringUTF16" (plainFor_of_name pn_java_lang_StringUTF16) #[iv 4] (fun m => rfl) (fun p e s m below meth c s₁ Bd hx hby hml hZ hown hnm X0 e0 => ?_)
 have N0 := Fr.nil n0
 have K := Keep.refl h0 []
 refine Go.step (S' := s₁.setTop (mkF m 1 #[iv 4] [(.int 4)])) (fun t k => ?_) ?_
 · refine XS.iloadN X0.here hx rfl (hb hby d19_0) rfl ?_
   exact k
 refine Go.cS X0 hx hml hown hZ (own_w hw 87 rfl) (own_w hw 88 rfl) (own_w hw 70 rfl) (own_w hw 89 rfl) (rmNL4 l Z a0 hw []  h0 n0 O ) 0 [] pd__28I_29I (hb hby d19_1) e0 (fun _ T1 L1 X1 hQ1 => ?_)
 obtain ⟨rfl, Nq1, e1⟩ := hQ1
 have N1 := Fr.app N0 Nq1
 obtain ⟨T2, h2, k2, X2, e2, E2, A2, st2⟩ := newP X1 hx hZ (own_w hw 17 rfl) e1 (g := (mkF m 4 #[iv 4] [(.int 8)])) rfl (hb hby d19_4) rfl (by decide) (cap := 8) (by decide) (by decide) (by decide) (by decide)
 obtain ⟨b2, g2⟩ : ∃ z, z = Array.size h0 := ⟨_, rfl⟩
 have g_b2 : n0 ≤ b2 := Nat.le_trans (old_le O) (Nat.le_of_eq g2.symm)
 have sz_b2 : h0.size ≤ b2 := Nat.le_trans K.1 (Nat.le_of_eq g2.symm)
 rw [← g2] at A2 st2
 have O := O.ext E2
 have K := K.ext E2
 have V_b2 : Arv Z h2 b2 k2 .byte (8 : Int32) [(.int 0), (.int 0), (.int 0), (.int 0), (.int 0), (.int 0), (.int 0), (.int 0)] (.int 0) := (Arv.new A2 (by decide)).pad (pad_rep [] (.int 0) 8)
 refine Go.step st2 ?_
 exact Go.rt X2 hx Bd (w := (.ref b2)) rfl (Or.inr (Or.inr (Or.inr (Or.inr ⟨rfl, rfl, rfl⟩)))) (hb hby d19_6) e2 ⟨b2, k2, rfl, N1, K, V_b2, g_b2, sz_b2⟩
abbrev rm_rmPC4_0 : Room := ({ frames := 0, cells := 0, slots := 0, locals := 0 } : Room)
def Q_rmPC4_0 (Z : State) (ub : Addr) (x0 : Int32) (ku : ClassId) (h0 : Heap) (n0 : Nat) (v : Option Value) (h : Heap) (L : List Loc) : Prop := (v = none) ∧ (Fr n0 L) ∧ (Keep h0 h [ub]) ∧ (Arv Z h ub ku .byte (8 : Int32) [(.int (own_lo x0)), (.int (own_hi x0)), (.int 0), (.int 0), (.int 0), (.int 0), (.int 0), (.int 0)] (.int 0))
theorem rmPC4_0 (l : Launch) (Z : State) (a0 : Array Value) (hw : HW a0 Z) (ws : List Jvm.Cond) (ub : Addr) (x0 : Int32) (ku : ClassId) (h0 : Heap) (n0 : Nat) (O : Old Z n0 h0) (S_AD : Sa_1 Z (.int 1)) (S_HI : Sa_2 Z (.int 0)) (S_LO : Sa_3 Z (.int 8)) (V_ub : Arv Z h0 ub ku .byte (8 : Int32) [(.int 0), (.int 0), (.int 0), (.int 0), (.int 0), (.int 0), (.int 0), (.int 0)] (.int 0)) (g_ub : n0 ≤ ub) :
    Mt l Z y_12 jdk_52_method_4_code 3 none ws rm_rmPC4_0 #[(.ref ub), (.int 0), (.int x0)] h0 (Q_rmPC4_0 Z ub x0 ku h0 n0) := by
 refine own_met "java/lang/StringUTF16" (plainFor_of_name pn_java_lang_StringUTF16) #[rv ub, iv 0, iv x0] (fun m => rfl) (fun p e s m below meth c s₁ Bd hx hby hml hZ hown hnm X0 e0 => ?_)
 have N0 := Fr.nil n0
 have K := Keep.refl h0 [ub]
 refine Go.gS X0 hx hZ hown (host := "") (Or.inl (own_w hw 94 rfl)) Via.refl e0 (S_AD.ext O.2) (hb hby d21_0) (fun T1 X1 e1 => ?_)
 refine Go.step (S' := T1.setTop (mkF m 38 #[rv ub, iv 1, iv x0] [(.int x0), (.int 0), (.ref ub)])) (fun t k => ?_) ?_
 · refine XS.ifYes X1.here hx rfl (pc0 := 3) (pc' := 28) rfl (hb hby d21_3) rfl ((if0 _ _).trans (feq ((by decide) : ¬ ((1 : Int32) = (0 : Int32)))).2) (by decide) (by decide) ?_
   refine XS.iloadN X1.here hx rfl (hb hby d21_28) rfl ?_
   refine XS.iconst X1.here hx rfl (hb hby d21_29) ?_
   refine XS.ishl X1.here hx rfl (hb hby d21_30) rfl ?_
   refine XS.istoreN X1.here hx rfl (hb hby d21_31) rfl (l' := #[rv ub, iv 0, iv x0]) rfl ?_
   refine XS.aloadN X1.here hx rfl (hb hby d21_32) rfl rfl ?_
   show Steps p.tables e below (T1.setTop (mkF m 33 #[rv ub, iv 0, iv x0] [(.ref ub)])) _
   refine XS.iloadN X1.here hx rfl (hb hby d21_33) rfl ?_
   refine XS.iinc X1.here hx rfl (hb hby d21_34) rfl (l' := #[rv ub, iv 1, iv x0]) rfl ?_
   refine XS.iloadN X1.here hx rfl (hb hby d21_37) rfl ?_
   exact k
 refine Go.gS X1 hx hZ hown (host := "") (Or.inl (own_w hw 95 rfl)) Via.refl e1 (S_HI.ext O.2) (hb hby d21_38) (fun T2 X2 e2 => ?_)
 refine Go.step (S' := T2.setTop (mkF m 43 #[rv ub, iv 1, iv x0] [(.int ((x0 >>> ((0 : Int32) &&& 31)).toInt8.toInt32)), (.int 0), (.ref ub)])) (fun t k => ?_) ?_
 · refine XS.ishr X2.here hx rfl (hb hby d21_41) rfl ?_
   refine XS.i2b X2.here hx rfl (hb hby d21_42) rfl ?_
   exact k
 obtain ⟨cl3, Ar3, q3, S3, N3_, H3, G3⟩ := V_ub
 have hin3 : ¬ ((0 : Int32) < 0 ∨ cl3.slots.size ≤ ((0 : Int32)).toNatClampNeg) := inb_of S3 ⟨by decide, by decide⟩
 obtain ⟨T3, h3, X3, e3, W3, st3⟩ := stB X2 hx hZ e2 Ar3 (j := (0 : Int32)) hin3 (g := (mkF m 43 #[rv ub, iv 1, iv x0] [(.int ((x0 >>> ((0 : Int32) &&& 31)).toInt8.toInt32)), (.int 0), (.ref ub)])) rfl rfl (hb hby d21_43)
 have O := O.wr W3 g_ub
 have K := K.wr W3 (Or.inl (List.mem_of_getElem? (i := 0) rfl))
 have V_ub : Arv Z h3 ub ku .byte (8 : Int32) [(.int (((x0 >>> ((0 : Int32) &&& 31)).toInt8.toInt32).toInt8.toInt32)), (.int 0), (.int 0), (.int 0), (.int 0), (.int 0), (.int 0), (.int 0)] (.int 0) := Arv.set Ar3 q3 S3 N3_ H3 G3 (fits_nar_byte _) W3 0 rfl (Nat.le_of_ble_eq_true rfl)
 rw [(own_b2 _ : (((x0 >>> ((0 : Int32) &&& 31)).toInt8.toInt32).toInt8.toInt32) = (own_lo x0))] at V_ub
 have N3 := Fr.snoc X3 N0 g_ub
 refine Go.step st3 ?_
 refine Go.step (S' := T3.setTop (mkF m 47 #[rv ub, iv 1, iv x0] [(.int x0), (.int 1), (.ref ub)])) (fun t k => ?_) ?_
 · refine XS.aloadN X3.here hx rfl (hb hby d21_44) rfl rfl ?_
   refine XS.iloadN X3.here hx rfl (hb hby d21_45) rfl ?_
   refine XS.iloadN X3.here hx rfl (hb hby d21_46) rfl ?_
   exact k
 refine Go.gS X3 hx hZ hown (host := "") (Or.inl (own_w hw 96 rfl)) Via.refl e3 (S_LO.ext O.2) (hb hby d21_47) (fun T4 X4 e4 => ?_)
 refine Go.step (S' := T4.setTop (mkF m 52 #[rv ub, iv 1, iv x0] [(.int ((x0 >>> ((8 : Int32) &&& 31)).toInt8.toInt32)), (.int 1), (.ref ub)])) (fun t k => ?_) ?_
 · refine XS.ishr X4.here hx rfl (hb hby d21_50) rfl ?_
   refine XS.i2b X4.here hx rfl (hb hby d21_51) rfl ?_
   exact k
 obtain ⟨cl5, Ar5, q5, S5, N5_, H5, G5⟩ := V_ub
 have hin5 : ¬ ((1 : Int32) < 0 ∨ cl5.slots.size ≤ ((1 : Int32)).toNatClampNeg) := inb_of S5 ⟨by decide, by decide⟩
 obtain ⟨T5, h5, X5, e5, W5, st5⟩ := stB X4 hx hZ e4 Ar5 (j := (1 : Int32)) hin5 (g := (mkF m 52 #[rv ub, iv 1, iv x0] [(.int ((x0 >>> ((8 : Int32) &&& 31)).toInt8.toInt32)), (.int 1), (.ref ub)])) rfl rfl (hb hby d21_52)
 have O := O.wr W5 g_ub
 have K := K.wr W5 (Or.inl (List.mem_of_getElem? (i := 0) rfl))
 have V_ub : Arv Z h5 ub ku .byte (8 : Int32) [(.int (own_lo x0)), (.int (((x0 >>> ((8 : Int32) &&& 31)).toInt8.toInt32).toInt8.toInt32)), (.int 0), (.int 0), (.int 0), (.int 0), (.int 0), (.int 0)] (.int 0) := Arv.set Ar5 q5 S5 N5_ H5 G5 (fits_nar_byte _) W5 1 rfl (Nat.le_of_ble_eq_true rfl)
 rw [(own_b2 _ : (((x0 >>> ((8 : Int32) &&& 31)).toInt8.toInt32).toInt8.toInt32) = (own_hi x0))] at V_ub
 have N5 := Fr.snoc X5 N3 g_ub
 refine Go.step st5 ?_
 exact Go.rv X5 hx Bd (hb hby d21_53) e5 ⟨rfl, N5, K, V_ub⟩
abbrev rm_rmGC4_0 : Room := ({ frames := 0, cells := 0, slots := 0, locals := 0 } : Room)
def Q_rmGC4_0 (Z : State) (ub : Addr) (ku : ClassId) (x0 : Int32) (x1 : Int32) (x2 : Int32) (x3 : Int32) (h0 : Heap) (n0 : Nat) (v : Option Value) (h : Heap) (L : List Loc) : Prop := (v = some (.int x0)) ∧ (Fr n0 L) ∧ (h = h0)
theorem rmGC4_0 (l : Launch) (Z : State) (a0 : Array Value) (hw : HW a0 Z) (ws : List Jvm.Cond) (ub : Addr) (ku : ClassId) (x0 : Int32) (x1 : Int32) (x2 : Int32) (x3 : Int32) (h0 : Heap) (n0 : Nat) (O : Old Z n0 h0) (S_AD : Sa_1 Z (.int 1)) (S_HI : Sa_2 Z (.int 0)) (S_LO : Sa_3 Z (.int 8)) (V_ub : Arv Z h0 ub ku .byte (8 : Int32) [(.int (own_lo x0)), (.int (own_hi x0)), (.int (own_lo x1)), (.int (own_hi x1)), (.int (own_lo x2)), (.int (own_hi x2)), (.int (own_lo x3)), (.int (own_hi x3))] (.int 0)) (rax0 : ¬ (x0 < (0 : Int32))) (rbx0 : ¬ ((65535 : Int32) < x0)) :
    Mt l Z y_13 jdk_52_method_5_code 2 (some .char) ws rm_rmGC4_0 #[(.ref ub), (.int 0)] h0 (Q_rmGC4_0 Z ub ku x0 x1 x2 x3 h0 n0) := by
 refine own_met "java/lang/StringUTF16" (plainFor_of_name pn_java_lang_StringUTF16) #[rv ub, iv 0] (fun m => rfl) (fun p e s m below meth c s₁ Bd hx hby hml hZ hown hnm X0 e0 => ?_)
 have N0 := Fr.nil n0
 refine Go.gS X0 hx hZ hown (host := "") (Or.inl (own_w hw 94 rfl)) Via.refl e0 (S_AD.ext O.2) (hb hby d22_0) (fun T1 X1 e1 => ?_)
 refine Go.step (S' := T1.setTop (mkF m 37 #[rv ub, iv 1] [(.int 0), (.ref ub)])) (fun t k => ?_) ?_
 · refine XS.ifYes X1.here hx rfl (pc0 := 3) (pc' := 28) rfl (hb hby d22_3) rfl ((if0 _ _).trans (feq ((by decide) : ¬ ((1 : Int32) = (0 : Int32)))).2) (by decide) (by decide) ?_
   refine XS.iloadN X1.here hx rfl (hb hby d22_28) rfl ?_
   refine XS.iconst X1.here hx rfl (hb hby d22_29) ?_
   refine XS.ishl X1.here hx rfl (hb hby d22_30) rfl ?_
   refine XS.istoreN X1.here hx rfl (hb hby d22_31) rfl (l' := #[rv ub, iv 0]) rfl ?_
   refine XS.aloadN X1.here hx rfl (hb hby d22_32) rfl rfl ?_
   show Steps p.tables e below (T1.setTop (mkF m 33 #[rv ub, iv 0] [(.ref ub)])) _
   refine XS.iloadN X1.here hx rfl (hb hby d22_33) rfl ?_
   refine XS.iinc X1.here hx rfl (hb hby d22_34) rfl (l' := #[rv ub, iv 1]) rfl ?_
   exact k
 refine Go.bal X1 hx hZ e1 V_ub (hb hby d22_37) (v := (.int (own_lo x0))) rfl ?_
 refine Go.step (S' := T1.setTop (mkF m 42 #[rv ub, iv 1] [(.int ((own_lo x0) &&& (255 : Int32)))])) (fun t k => ?_) ?_
 · refine XS.sipush X1.here hx rfl (hb hby d22_38) ?_
   refine XS.iand X1.here hx rfl (hb hby d22_41) rfl ?_
   exact k
 refine Go.gS X1 hx hZ hown (host := "") (Or.inl (own_w hw 95 rfl)) Via.refl e1 (S_HI.ext O.2) (hb hby d22_42) (fun T3 X3 e3 => ?_)
 refine Go.step (S' := T3.setTop (mkF m 48 #[rv ub, iv 1] [(.int 1), (.ref ub), (.int (((own_lo x0) &&& (255 : Int32)) <<< ((0 : Int32) &&& 31)))])) (fun t k => ?_) ?_
 · refine XS.ishl X3.here hx rfl (hb hby d22_45) rfl ?_
   refine XS.aloadN X3.here hx rfl (hb hby d22_46) rfl rfl ?_
   refine XS.iloadN X3.here hx rfl (hb hby d22_47) rfl ?_
   exact k
 refine Go.bal X3 hx hZ e3 V_ub (hb hby d22_48) (v := (.int (own_hi x0))) rfl ?_
 refine Go.step (S' := T3.setTop (mkF m 53 #[rv ub, iv 1] [(.int ((own_hi x0) &&& (255 : Int32))), (.int (((own_lo x0) &&& (255 : Int32)) <<< ((0 : Int32) &&& 31)))])) (fun t k => ?_) ?_
 · refine XS.sipush X3.here hx rfl (hb hby d22_49) ?_
   refine XS.iand X3.here hx rfl (hb hby d22_52) rfl ?_
   exact k
 refine Go.gS X3 hx hZ hown (host := "") (Or.inl (own_w hw 96 rfl)) Via.refl e3 (S_LO.ext O.2) (hb hby d22_53) (fun T5 X5 e5 => ?_)
 refine Go.step (S' := T5.setTop (mkF m 59 #[rv ub, iv 1] [(.int (((((own_lo x0) &&& (255 : Int32)) <<< ((0 : Int32) &&& 31)) ||| (((own_hi x0) &&& (255 : Int32)) <<< ((8 : Int32) &&& 31))).toUInt32.toUInt16.toUInt32.toInt32))])) (fun t k => ?_) ?_
 · refine XS.ishl X5.here hx rfl (hb hby d22_56) rfl ?_
   refine XS.ior X5.here hx rfl (hb hby d22_57) rfl ?_
   refine XS.i2c X5.here hx rfl (hb hby d22_58) rfl ?_
   exact k
 exact Go.rt X5 hx Bd (w := (.int (((((own_lo x0) &&& (255 : Int32)) <<< ((0 : Int32) &&& 31)) ||| (((own_hi x0) &&& (255 : Int32)) <<< ((8 : Int32) &&& 31))).toUInt32.toUInt16.toUInt32.toInt32))) (Jvm.Free.XT.narrow_c _) (Or.inl ⟨rfl, Or.inr (Or.inr (Or.inr (Or.inl rfl))), _, rfl⟩) (hb hby d22_59) e5 ⟨(congrArg (fun z => some (Value.int z)) (own_gc rax0 rbx0)), N0, rfl⟩
abbrev rm_rmPC4_1 : Room := ({ frames := 0, cells := 0, slots := 0, locals := 0 } : Room)
def Q_rmPC4_1 (Z : State) (ub : Addr) (x1 : Int32) (ku : ClassId) (x0 : Int32) (h0 : Heap) (n0 : Nat) (v : Option Value) (h : Heap) (L : List Loc) : Prop := (v = none) ∧ (Fr n0 L) ∧ (Keep h0 h [ub]) ∧ (Arv Z h ub ku .byte (8 : Int32) [(.int (own_lo x0)), (.int (own_hi x0)), (.int (own_lo x1)), (.int (own_hi x1)), (.int 0), (.int 0), (.int 0), (.int 0)] (.int 0))
theorem rmPC4_1 (l : Launch) (Z : State) (a0 : Array Value) (hw : HW a0 Z) (ws : List Jvm.Cond) (ub : Addr) (x1 : Int32) (ku : ClassId) (x0 : Int32) (h0 : Heap) (n0 : Nat) (O : Old Z n0 h0) (S_AD : Sa_1 Z (.int 1)) (S_HI : Sa_2 Z (.int 0)) (S_LO : Sa_3 Z (.int 8)) (V_ub : Arv Z h0 ub ku .byte (8 : Int32) [(.int (own_lo x0)), (.int (own_hi x0)), (.int 0), (.int 0), (.int 0), (.int 0), (.int 0), (.int 0)] (.int 0)) (g_ub : n0 ≤ ub) :
    Mt l Z y_12 jdk_52_method_4_code 3 none ws rm_rmPC4_1 #[(.ref ub), (.int 1), (.int x1)] h0 (Q_rmPC4_1 Z ub x1 ku x0 h0 n0) := by
 refine own_met "java/lang/StringUTF16" (plainFor_of_name pn_java_lang_StringUTF16) #[rv ub, iv 1, iv x1] (fun m => rfl) (fun p e s m below meth c s₁ Bd hx hby hml hZ hown hnm X0 e0 => ?_)
 have N0 := Fr.nil n0
 have K := Keep.refl h0 [ub]
 refine Go.gS X0 hx hZ hown (host := "") (Or.inl (own_w hw 94 rfl)) Via.refl e0 (S_AD.ext O.2) (hb hby d21_0) (fun T1 X1 e1 => ?_)
 refine Go.step (S' := T1.setTop (mkF m 38 #[rv ub, iv 3, iv x1] [(.int x1), (.int 2), (.ref ub)])) (fun t k => ?_) ?_
 · refine XS.ifYes X1.here hx rfl (pc0 := 3) (pc' := 28) rfl (hb hby d21_3) rfl ((if0 _ _).trans (feq ((by decide) : ¬ ((1 : Int32) = (0 : Int32)))).2) (by decide) (by decide) ?_
   refine XS.iloadN X1.here hx rfl (hb hby d21_28) rfl ?_
   refine XS.iconst X1.here hx rfl (hb hby d21_29) ?_
   refine XS.ishl X1.here hx rfl (hb hby d21_30) rfl ?_
   refine XS.istoreN X1.here hx rfl (hb hby d21_31) rfl (l' := #[rv ub, iv 2, iv x1]) rfl ?_
   refine XS.aloadN X1.here hx rfl (hb hby d21_32) rfl rfl ?_
   show Steps p.tables e below (T1.setTop (mkF m 33 #[rv ub, iv 2, iv x1] [(.ref ub)])) _
   refine XS.iloadN X1.here hx rfl (hb hby d21_33) rfl ?_
   refine XS.iinc X1.here hx rfl (hb hby d21_34) rfl (l' := #[rv ub, iv 3, iv x1]) rfl ?_
   refine XS.iloadN X1.here hx rfl (hb hby d21_37) rfl ?_
   exact k
 refine Go.gS X1 hx hZ hown (host := "") (Or.inl (own_w hw 95 rfl)) Via.refl e1 (S_HI.ext O.2) (hb hby d21_38) (fun T2 X2 e2 => ?_)
 refine Go.step (S' := T2.setTop (mkF m 43 #[rv ub, iv 3, iv x1] [(.int ((x1 >>> ((0 : Int32) &&& 31)).toInt8.toInt32)), (.int 2), (.ref ub)])) (fun t k => ?_) ?_
 · refine XS.ishr X2.here hx rfl (hb hby d21_41) rfl ?_
   refine XS.i2b X2.here hx rfl (hb hby d21_42) rfl ?_
   exact k
 obtain ⟨cl3, Ar3, q3, S3, N3_, H3, G3⟩ := V_ub
 have hin3 : ¬ ((2 : Int32) < 0 ∨ cl3.slots.size ≤ ((2 : Int32)).toNatClampNeg) := inb_of S3 ⟨by decide, by decide⟩
 obtain ⟨T3, h3, X3, e3, W3, st3⟩ := stB X2 hx hZ e2 Ar3 (j := (2 : Int32)) hin3 (g := (mkF m 43 #[rv ub, iv 3, iv x1] [(.int ((x1 >>> ((0 : Int32) &&& 31)).toInt8.toInt32)), (.int 2), (.ref ub)])) rfl rfl (hb hby d21_43)
 have O := O.wr W3 g_ub
 have K := K.wr W3 (Or.inl (List.mem_of_getElem? (i := 0) rfl))
 have V_ub : Arv Z h3 ub ku .byte (8 : Int32) [(.int (own_lo x0)), (.int (own_hi x0)), (.int (((x1 >>> ((0 : Int32) &&& 31)).toInt8.toInt32).toInt8.toInt32)), (.int 0), (.int 0), (.int 0), (.int 0), (.int 0)] (.int 0) := Arv.set Ar3 q3 S3 N3_ H3 G3 (fits_nar_byte _) W3 2 rfl (Nat.le_of_ble_eq_true rfl)
 rw [(own_b2 _ : (((x1 >>> ((0 : Int32) &&& 31)).toInt8.toInt32).toInt8.toInt32) = (own_lo x1))] at V_ub
 have N3 := Fr.snoc X3 N0 g_ub
 refine Go.step st3 ?_
 refine Go.step (S' := T3.setTop (mkF m 47 #[rv ub, iv 3, iv x1] [(.int x1), (.int 3), (.ref ub)])) (fun t k => ?_) ?_
 · refine XS.aloadN X3.here hx rfl (hb hby d21_44) rfl rfl ?_
   refine XS.iloadN X3.here hx rfl (hb hby d21_45) rfl ?_
   refine XS.iloadN X3.here hx rfl (hb hby d21_46) rfl ?_
   exact k
 refine Go.gS X3 hx hZ hown (host := "") (Or.inl (own_w hw 96 rfl)) Via.refl e3 (S_LO.ext O.2) (hb hby d21_47) (fun T4 X4 e4 => ?_)
 refine Go.step (S' := T4.setTop (mkF m 52 #[rv ub, iv 3, iv x1] [(.int ((x1 >>> ((8 : Int32) &&& 31)).toInt8.toInt32)), (.int 3), (.ref ub)])) (fun t k => ?_) ?_
 · refine XS.ishr X4.here hx rfl (hb hby d21_50) rfl ?_
   refine XS.i2b X4.here hx rfl (hb hby d21_51) rfl ?_
   exact k
 obtain ⟨cl5, Ar5, q5, S5, N5_, H5, G5⟩ := V_ub
 have hin5 : ¬ ((3 : Int32) < 0 ∨ cl5.slots.size ≤ ((3 : Int32)).toNatClampNeg) := inb_of S5 ⟨by decide, by decide⟩
 obtain ⟨T5, h5, X5, e5, W5, st5⟩ := stB X4 hx hZ e4 Ar5 (j := (3 : Int32)) hin5 (g := (mkF m 52 #[rv ub, iv 3, iv x1] [(.int ((x1 >>> ((8 : Int32) &&& 31)).toInt8.toInt32)), (.int 3), (.ref ub)])) rfl rfl (hb hby d21_52)
 have O := O.wr W5 g_ub
 have K := K.wr W5 (Or.inl (List.mem_of_getElem? (i := 0) rfl))
 have V_ub : Arv Z h5 ub ku .byte (8 : Int32) [(.int (own_lo x0)), (.int (own_hi x0)), (.int (own_lo x1)), (.int (((x1 >>> ((8 : Int32) &&& 31)).toInt8.toInt32).toInt8.toInt32)), (.int 0), (.int 0), (.int 0), (.int 0)] (.int 0) := Arv.set Ar5 q5 S5 N5_ H5 G5 (fits_nar_byte _) W5 3 rfl (Nat.le_of_ble_eq_true rfl)
 rw [(own_b2 _ : (((x1 >>> ((8 : Int32) &&& 31)).toInt8.toInt32).toInt8.toInt32) = (own_hi x1))] at V_ub
 have N5 := Fr.snoc X5 N3 g_ub
 refine Go.step st5 ?_
 exact Go.rv X5 hx Bd (hb hby d21_53) e5 ⟨rfl, N5, K, V_ub⟩
abbrev rm_rmGC4_1 : Room := ({ frames := 0, cells := 0, slots := 0, locals := 0 } : Room)
def Q_rmGC4_1 (Z : State) (ub : Addr) (ku : ClassId) (x0 : Int32) (x1 : Int32) (x2 : Int32) (x3 : Int32) (h0 : Heap) (n0 : Nat) (v : Option Value) (h : Heap) (L : List Loc) : Prop := (v = some (.int x1)) ∧ (Fr n0 L) ∧ (h = h0)
theorem rmGC4_1 (l : Launch) (Z : State) (a0 : Array Value) (hw : HW a0 Z) (ws : List Jvm.Cond) (ub : Addr) (ku : ClassId) (x0 : Int32) (x1 : Int32) (x2 : Int32) (x3 : Int32) (h0 : Heap) (n0 : Nat) (O : Old Z n0 h0) (S_AD : Sa_1 Z (.int 1)) (S_HI : Sa_2 Z (.int 0)) (S_LO : Sa_3 Z (.int 8)) (V_ub : Arv Z h0 ub ku .byte (8 : Int32) [(.int (own_lo x0)), (.int (own_hi x0)), (.int (own_lo x1)), (.int (own_hi x1)), (.int (own_lo x2)), (.int (own_hi x2)), (.int (own_lo x3)), (.int (own_hi x3))] (.int 0)) (rax1 : ¬ (x1 < (0 : Int32))) (rbx1 : ¬ ((65535 : Int32) < x1)) :
    Mt l Z y_13 jdk_52_method_5_code 2 (some .char) ws rm_rmGC4_1 #[(.ref ub), (.int 1)] h0 (Q_rmGC4_1 Z ub ku x0 x1 x2 x3 h0 n0) := by
 refine own_met "java/lang/StringUTF16" (plainFor_of_name pn_java_lang_StringUTF16) #[rv ub, iv 1] (fun m => rfl) (fun p e s m below meth c s₁ Bd hx hby hml hZ hown hnm X0 e0 => ?_)
 have N0 := Fr.nil n0
 refine Go.gS X0 hx hZ hown (host := "") (Or.inl (own_w hw 94 rfl)) Via.refl e0 (S_AD.ext O.2) (hb hby d22_0) (fun T1 X1 e1 => ?_)
 refine Go.step (S' := T1.setTop (mkF m 37 #[rv ub, iv 3] [(.int 2), (.ref ub)])) (fun t k => ?_) ?_
 · refine XS.ifYes X1.here hx rfl (pc0 := 3) (pc' := 28) rfl (hb hby d22_3) rfl ((if0 _ _).trans (feq ((by decide) : ¬ ((1 : Int32) = (0 : Int32)))).2) (by decide) (by decide) ?_
   refine XS.iloadN X1.here hx rfl (hb hby d22_28) rfl ?_
   refine XS.iconst X1.here hx rfl (hb hby d22_29) ?_
   refine XS.ishl X1.here hx rfl (hb hby d22_30) rfl ?_
   refine XS.istoreN X1.here hx rfl (hb hby d22_31) rfl (l' := #[rv ub, iv 2]) rfl ?_
   refine XS.aloadN X1.here hx rfl (hb hby d22_32) rfl rfl ?_
   show Steps p.tables e below (T1.setTop (mkF m 33 #[rv ub, iv 2] [(.ref ub)])) _
   refine XS.iloadN X1.here hx rfl (hb hby d22_33) rfl ?_
   refine XS.iinc X1.here hx rfl (hb hby d22_34) rfl (l' := #[rv ub, iv 3]) rfl ?_
   exact k
 refine Go.bal X1 hx hZ e1 V_ub (hb hby d22_37) (v := (.int (own_lo x1))) rfl ?_
 refine Go.step (S' := T1.setTop (mkF m 42 #[rv ub, iv 3] [(.int ((own_lo x1) &&& (255 : Int32)))])) (fun t k => ?_) ?_
 · refine XS.sipush X1.here hx rfl (hb hby d22_38) ?_
   refine XS.iand X1.here hx rfl (hb hby d22_41) rfl ?_
   exact k
 refine Go.gS X1 hx hZ hown (host := "") (Or.inl (own_w hw 95 rfl)) Via.refl e1 (S_HI.ext O.2) (hb hby d22_42) (fun T3 X3 e3 => ?_)
 refine Go.step (S' := T3.setTop (mkF m 48 #[rv ub, iv 3] [(.int 3), (.ref ub), (.int (((own_lo x1) &&& (255 : Int32)) <<< ((0 : Int32) &&& 31)))])) (fun t k => ?_) ?_
 · refine XS.ishl X3.here hx rfl (hb hby d22_45) rfl ?_
   refine XS.aloadN X3.here hx rfl (hb hby d22_46) rfl rfl ?_
   refine XS.iloadN X3.here hx rfl (hb hby d22_47) rfl ?_
   exact k
 refine Go.bal X3 hx hZ e3 V_ub (hb hby d22_48) (v := (.int (own_hi x1))) rfl ?_
 refine Go.step (S' := T3.setTop (mkF m 53 #[rv ub, iv 3] [(.int ((own_hi x1) &&& (255 : Int32))), (.int (((own_lo x1) &&& (255 : Int32)) <<< ((0 : Int32) &&& 31)))])) (fun t k => ?_) ?_
 · refine XS.sipush X3.here hx rfl (hb hby d22_49) ?_
   refine XS.iand X3.here hx rfl (hb hby d22_52) rfl ?_
   exact k
 refine Go.gS X3 hx hZ hown (host := "") (Or.inl (own_w hw 96 rfl)) Via.refl e3 (S_LO.ext O.2) (hb hby d22_53) (fun T5 X5 e5 => ?_)
 refine Go.step (S' := T5.setTop (mkF m 59 #[rv ub, iv 3] [(.int (((((own_lo x1) &&& (255 : Int32)) <<< ((0 : Int32) &&& 31)) ||| (((own_hi x1) &&& (255 : Int32)) <<< ((8 : Int32) &&& 31))).toUInt32.toUInt16.toUInt32.toInt32))])) (fun t k => ?_) ?_
 · refine XS.ishl X5.here hx rfl (hb hby d22_56) rfl ?_
   refine XS.ior X5.here hx rfl (hb hby d22_57) rfl ?_
   refine XS.i2c X5.here hx rfl (hb hby d22_58) rfl ?_
   exact k
 exact Go.rt X5 hx Bd (w := (.int (((((own_lo x1) &&& (255 : Int32)) <<< ((0 : Int32) &&& 31)) ||| (((own_hi x1) &&& (255 : Int32)) <<< ((8 : Int32) &&& 31))).toUInt32.toUInt16.toUInt32.toInt32))) (Jvm.Free.XT.narrow_c _) (Or.inl ⟨rfl, Or.inr (Or.inr (Or.inr (Or.inl rfl))), _, rfl⟩) (hb hby d22_59) e5 ⟨(congrArg (fun z => some (Value.int z)) (own_gc rax1 rbx1)), N0, rfl⟩
abbrev rm_rmPC4_2 : Room := ({ frames := 0, cells := 0, slots := 0, locals := 0 } : Room)
def Q_rmPC4_2 (Z : State) (ub : Addr) (x2 : Int32) (ku : ClassId) (x0 : Int32) (x1 : Int32) (h0 : Heap) (n0 : Nat) (v : Option Value) (h : Heap) (L : List Loc) : Prop := (v = none) ∧ (Fr n0 L) ∧ (Keep h0 h [ub]) ∧ (Arv Z h ub ku .byte (8 : Int32) [(.int (own_lo x0)), (.int (own_hi x0)), (.int (own_lo x1)), (.int (own_hi x1)), (.int (own_lo x2)), (.int (own_hi x2)), (.int 0), (.int 0)] (.int 0))
theorem rmPC4_2 (l : Launch) (Z : State) (a0 : Array Value) (hw : HW a0 Z) (ws : List Jvm.Cond) (ub : Addr) (x2 : Int32) (ku : ClassId) (x0 : Int32) (x1 : Int32) (h0 : Heap) (n0 : Nat) (O : Old Z n0 h0) (S_AD : Sa_1 Z (.int 1)) (S_HI : Sa_2 Z (.int 0)) (S_LO : Sa_3 Z (.int 8)) (V_ub : Arv Z h0 ub ku .byte (8 : Int32) [(.int (own_lo x0)), (.int (own_hi x0)), (.int (own_lo x1)), (.int (own_hi x1)), (.int 0), (.int 0), (.int 0), (.int 0)] (.int 0)) (g_ub : n0 ≤ ub) :
    Mt l Z y_12 jdk_52_method_4_code 3 none ws rm_rmPC4_2 #[(.ref ub), (.int 2), (.int x2)] h0 (Q_rmPC4_2 Z ub x2 ku x0 x1 h0 n0) := by
 refine own_met "java/lang/StringUTF16" (plainFor_of_name pn_java_lang_StringUTF16) #[rv ub, iv 2, iv x2] (fun m => rfl) (fun p e s m below meth c s₁ Bd hx hby hml hZ hown hnm X0 e0 => ?_)
 have N0 := Fr.nil n0
 have K := Keep.refl h0 [ub]
 refine Go.gS X0 hx hZ hown (host := "") (Or.inl (own_w hw 94 rfl)) Via.refl e0 (S_AD.ext O.2) (hb hby d21_0) (fun T1 X1 e1 => ?_)
 refine Go.step (S' := T1.setTop (mkF m 38 #[rv ub, iv 5, iv x2] [(.int x2), (.int 4), (.ref ub)])) (fun t k => ?_) ?_
 · refine XS.ifYes X1.here hx rfl (pc0 := 3) (pc' := 28) rfl (hb hby d21_3) rfl ((if0 _ _).trans (feq ((by decide) : ¬ ((1 : Int32) = (0 : Int32)))).2) (by decide) (by decide) ?_
   refine XS.iloadN X1.here hx rfl (hb hby d21_28) rfl ?_
   refine XS.iconst X1.here hx rfl (hb hby d21_29) ?_
   refine XS.ishl X1.here hx rfl (hb hby d21_30) rfl ?_
   refine XS.istoreN X1.here hx rfl (hb hby d21_31) rfl (l' := #[rv ub, iv 4, iv x2]) rfl ?_
   refine XS.aloadN X1.here hx rfl (hb hby d21_32) rfl rfl ?_
   show Steps p.tables e below (T1.setTop (mkF m 33 #[rv ub, iv 4, iv x2] [(.ref ub)])) _
   refine XS.iloadN X1.here hx rfl (hb hby d21_33) rfl ?_
   refine XS.iinc X1.here hx rfl (hb hby d21_34) rfl (l' := #[rv ub, iv 5, iv x2]) rfl ?_
   refine XS.iloadN X1.here hx rfl (hb hby d21_37) rfl ?_
   exact k
 refine Go.gS X1 hx hZ hown (host := "") (Or.inl (own_w hw 95 rfl)) Via.refl e1 (S_HI.ext O.2) (hb hby d21_38) (fun T2 X2 e2 => ?_)
 refine Go.step (S' := T2.setTop (mkF m 43 #[rv ub, iv 5, iv x2] [(.int ((x2 >>> ((0 : Int32) &&& 31)).toInt8.toInt32)), (.int 4), (.ref ub)])) (fun t k => ?_) ?_
 · refine XS.ishr X2.here hx rfl (hb hby d21_41) rfl ?_
   refine XS.i2b X2.here hx rfl (hb hby d21_42) rfl ?_
   exact k
 obtain ⟨cl3, Ar3, q3, S3, N3_, H3, G3⟩ := V_ub
 have hin3 : ¬ ((4 : Int32) < 0 ∨ cl3.slots.size ≤ ((4 : Int32)).toNatClampNeg) := inb_of S3 ⟨by decide, by decide⟩
 obtain ⟨T3, h3, X3, e3, W3, st3⟩ := stB X2 hx hZ e2 Ar3 (j := (4 : Int32)) hin3 (g := (mkF m 43 #[rv ub, iv 5, iv x2] [(.int ((x2 >>> ((0 : Int32) &&& 31)).toInt8.toInt32)), (.int 4), (.ref ub)])) rfl rfl (hb hby d21_43)
 have O := O.wr W3 g_ub
 have K := K.wr W3 (Or.inl (List.mem_of_getElem? (i := 0) rfl))
 have V_ub : Arv Z h3 ub ku .byte (8 : Int32) [(.int (own_lo x0)), (.int (own_hi x0)), (.int (own_lo x1)), (.int (own_hi x1)), (.int (((x2 >>> ((0 : Int32) &&& 31)).toInt8.toInt32).toInt8.toInt32)), (.int 0), (.int 0), (.int 0)] (.int 0) := Arv.set Ar3 q3 S3 N3_ H3 G3 (fits_nar_byte _) W3 4 rfl (Nat.le_of_ble_eq_true rfl)
 rw [(own_b2 _ : (((x2 >>> ((0 : Int32) &&& 31)).toInt8.toInt32).toInt8.toInt32) = (own_lo x2))] at V_ub
 have N3 := Fr.snoc X3 N0 g_ub
 refine Go.step st3 ?_
 refine Go.step (S' := T3.setTop (mkF m 47 #[rv ub, iv 5, iv x2] [(.int x2), (.int 5), (.ref ub)])) (fun t k => ?_) ?_
 · refine XS.aloadN X3.here hx rfl (hb hby d21_44) rfl rfl ?_
   refine XS.iloadN X3.here hx rfl (hb hby d21_45) rfl ?_
   refine XS.iloadN X3.here hx rfl (hb hby d21_46) rfl ?_
   exact k
 refine Go.gS X3 hx hZ hown (host := "") (Or.inl (own_w hw 96 rfl)) Via.refl e3 (S_LO.ext O.2) (hb hby d21_47) (fun T4 X4 e4 => ?_)
 refine Go.step (S' := T4.setTop (mkF m 52 #[rv ub, iv 5, iv x2] [(.int ((x2 >>> ((8 : Int32) &&& 31)).toInt8.toInt32)), (.int 5), (.ref ub)])) (fun t k => ?_) ?_
 · refine XS.ishr X4.here hx rfl (hb hby d21_50) rfl ?_
   refine XS.i2b X4.here hx rfl (hb hby d21_51) rfl ?_
   exact k
 obtain ⟨cl5, Ar5, q5, S5, N5_, H5, G5⟩ := V_ub
 have hin5 : ¬ ((5 : Int32) < 0 ∨ cl5.slots.size ≤ ((5 : Int32)).toNatClampNeg) := inb_of S5 ⟨by decide, by decide⟩
 obtain ⟨T5, h5, X5, e5, W5, st5⟩ := stB X4 hx hZ e4 Ar5 (j := (5 : Int32)) hin5 (g := (mkF m 52 #[rv ub, iv 5, iv x2] [(.int ((x2 >>> ((8 : Int32) &&& 31)).toInt8.toInt32)), (.int 5), (.ref ub)])) rfl rfl (hb hby d21_52)
 have O := O.wr W5 g_ub
 have K := K.wr W5 (Or.inl (List.mem_of_getElem? (i := 0) rfl))
 have V_ub : Arv Z h5 ub ku .byte (8 : Int32) [(.int (own_lo x0)), (.int (own_hi x0)), (.int (own_lo x1)), (.int (own_hi x1)), (.int (own_lo x2)), (.int (((x2 >>> ((8 : Int32) &&& 31)).toInt8.toInt32).toInt8.toInt32)), (.int 0), (.int 0)] (.int 0) := Arv.set Ar5 q5 S5 N5_ H5 G5 (fits_nar_byte _) W5 5 rfl (Nat.le_of_ble_eq_true rfl)
 rw [(own_b2 _ : (((x2 >>> ((8 : Int32) &&& 31)).toInt8.toInt32).toInt8.toInt32) = (own_hi x2))] at V_ub
 have N5 := Fr.snoc X5 N3 g_ub
 refine Go.step st5 ?_
 exact Go.rv X5 hx Bd (hb hby d21_53) e5 ⟨rfl, N5, K, V_ub⟩
abbrev rm_rmGC4_2 : Room := ({ frames := 0, cells := 0, slots := 0, locals := 0 } : Room)
def Q_rmGC4_2 (Z : State) (ub : Addr) (ku : ClassId) (x0 : Int32) (x1 : Int32) (x2 : Int32) (x3 : Int32) (h0 : Heap) (n0 : Nat) (v : Option Value) (h : Heap) (L : List Loc) : Prop := (v = some (.int x2)) ∧ (Fr n0 L) ∧ (h = h0)
theorem rmGC4_2 (l : Launch) (Z : State) (a0 : Array Value) (hw : HW a0 Z) (ws : List Jvm.Cond) (ub : Addr) (ku : ClassId) (x0 : Int32) (x1 : Int32) (x2 : Int32) (x3 : Int32) (h0 : Heap) (n0 : Nat) (O : Old Z n0 h0) (S_AD : Sa_1 Z (.int 1)) (S_HI : Sa_2 Z (.int 0)) (S_LO : Sa_3 Z (.int 8)) (V_ub : Arv Z h0 ub ku .byte (8 : Int32) [(.int (own_lo x0)), (.int (own_hi x0)), (.int (own_lo x1)), (.int (own_hi x1)), (.int (own_lo x2)), (.int (own_hi x2)), (.int (own_lo x3)), (.int (own_hi x3))] (.int 0)) (rax2 : ¬ (x2 < (0 : Int32))) (rbx2 : ¬ ((65535 : Int32) < x2)) :
    Mt l Z y_13 jdk_52_method_5_code 2 (some .char) ws rm_rmGC4_2 #[(.ref ub), (.int 2)] h0 (Q_rmGC4_2 Z ub ku x0 x1 x2 x3 h0 n0) := by
 refine own_met "java/lang/StringUTF16" (plainFor_of_name pn_java_lang_StringUTF16) #[rv ub, iv 2] (fun m => rfl) (fun p e s m below meth c s₁ Bd hx hby hml hZ hown hnm X0 e0 => ?_)
 have N0 := Fr.nil n0
 refine Go.gS X0 hx hZ hown (host := "") (Or.inl (own_w hw 94 rfl)) Via.refl e0 (S_AD.ext O.2) (hb hby d22_0) (fun T1 X1 e1 => ?_)
 refine Go.step (S' := T1.setTop (mkF m 37 #[rv ub, iv 5] [(.int 4), (.ref ub)])) (fun t k => ?_) ?_
 · refine XS.ifYes X1.here hx rfl (pc0 := 3) (pc' := 28) rfl (hb hby d22_3) rfl ((if0 _ _).trans (feq ((by decide) : ¬ ((1 : Int32) = (0 : Int32)))).2) (by decide) (by decide) ?_
   refine XS.iloadN X1.here hx rfl (hb hby d22_28) rfl ?_
   refine XS.iconst X1.here hx rfl (hb hby d22_29) ?_
   refine XS.ishl X1.here hx rfl (hb hby d22_30) rfl ?_
   refine XS.istoreN X1.here hx rfl (hb hby d22_31) rfl (l' := #[rv ub, iv 4]) rfl ?_
   refine XS.aloadN X1.here hx rfl (hb hby d22_32) rfl rfl ?_
   show Steps p.tables e below (T1.setTop (mkF m 33 #[rv ub, iv 4] [(.ref ub)])) _
   refine XS.iloadN X1.here hx rfl (hb hby d22_33) rfl ?_
   refine XS.iinc X1.here hx rfl (hb hby d22_34) rfl (l' := #[rv ub, iv 5]) rfl ?_
   exact k
 refine Go.bal X1 hx hZ e1 V_ub (hb hby d22_37) (v := (.int (own_lo x2))) rfl ?_
 refine Go.step (S' := T1.setTop (mkF m 42 #[rv ub, iv 5] [(.int ((own_lo x2) &&& (255 : Int32)))])) (fun t k => ?_) ?_
 · refine XS.sipush X1.here hx rfl (hb hby d22_38) ?_
   refine XS.iand X1.here hx rfl (hb hby d22_41) rfl ?_
   exact k
 refine Go.gS X1 hx hZ hown (host := "") (Or.inl (own_w hw 95 rfl)) Via.refl e1 (S_HI.ext O.2) (hb hby d22_42) (fun T3 X3 e3 => ?_)
 refine Go.step (S' := T3.setTop (mkF m 48 #[rv ub, iv 5] [(.int 5), (.ref ub), (.int (((own_lo x2) &&& (255 : Int32)) <<< ((0 : Int32) &&& 31)))])) (fun t k => ?_) ?_
 · refine XS.ishl X3.here hx rfl (hb hby d22_45) rfl ?_
   refine XS.aloadN X3.here hx rfl (hb hby d22_46) rfl rfl ?_
   refine XS.iloadN X3.here hx rfl (hb hby d22_47) rfl ?_
   exact k
 refine Go.bal X3 hx hZ e3 V_ub (hb hby d22_48) (v := (.int (own_hi x2))) rfl ?_
 refine Go.step (S' := T3.setTop (mkF m 53 #[rv ub, iv 5] [(.int ((own_hi x2) &&& (255 : Int32))), (.int (((own_lo x2) &&& (255 : Int32)) <<< ((0 : Int32) &&& 31)))])) (fun t k => ?_) ?_
 · refine XS.sipush X3.here hx rfl (hb hby d22_49) ?_
   refine XS.iand X3.here hx rfl (hb hby d22_52) rfl ?_
   exact k
 refine Go.gS X3 hx hZ hown (host := "") (Or.inl (own_w hw 96 rfl)) Via.refl e3 (S_LO.ext O.2) (hb hby d22_53) (fun T5 X5 e5 => ?_)
 refine Go.step (S' := T5.setTop (mkF m 59 #[rv ub, iv 5] [(.int (((((own_lo x2) &&& (255 : Int32)) <<< ((0 : Int32) &&& 31)) ||| (((own_hi x2) &&& (255 : Int32)) <<< ((8 : Int32) &&& 31))).toUInt32.toUInt16.toUInt32.toInt32))])) (fun t k => ?_) ?_
 · refine XS.ishl X5.here hx rfl (hb hby d22_56) rfl ?_
   refine XS.ior X5.here hx rfl (hb hby d22_57) rfl ?_
   refine XS.i2c X5.here hx rfl (hb hby d22_58) rfl ?_
   exact k
 exact Go.rt X5 hx Bd (w := (.int (((((own_lo x2) &&& (255 : Int32)) <<< ((0 : Int32) &&& 31)) ||| (((own_hi x2) &&& (255 : Int32)) <<< ((8 : Int32) &&& 31))).toUInt32.toUInt16.toUInt32.toInt32))) (Jvm.Free.XT.narrow_c _) (Or.inl ⟨rfl, Or.inr (Or.inr (Or.inr (Or.inl rfl))), _, rfl⟩) (hb hby d22_59) e5 ⟨(congrArg (fun z => some (Value.int z)) (own_gc rax2 rbx2)), N0, rfl⟩
abbrev rm_rmPC4_3 : Room := ({ frames := 0, cells := 0, slots := 0, locals := 0 } : Room)
def Q_rmPC4_3 (Z : State) (ub : Addr) (x3 : Int32) (ku : ClassId) (x0 : Int32) (x1 : Int32) (x2 : Int32) (h0 : Heap) (n0 : Nat) (v : Option Value) (h : Heap) (L : List Loc) : Prop := (v = none) ∧ (Fr n0 L) ∧ (Keep h0 h [ub]) ∧ (Arv Z h ub ku .byte (8 : Int32) [(.int (own_lo x0)), (.int (own_hi x0)), (.int (own_lo x1)), (.int (own_hi x1)), (.int (own_lo x2)), (.int (own_hi x2)), (.int (own_lo x3)), (.int (own_hi x3))] (.int 0))
theorem rmPC4_3 (l : Launch) (Z : State) (a0 : Array Value) (hw : HW a0 Z) (ws : List Jvm.Cond) (ub : Addr) (x3 : Int32) (ku : ClassId) (x0 : Int32) (x1 : Int32) (x2 : Int32) (h0 : Heap) (n0 : Nat) (O : Old Z n0 h0) (S_AD : Sa_1 Z (.int 1)) (S_HI : Sa_2 Z (.int 0)) (S_LO : Sa_3 Z (.int 8)) (V_ub : Arv Z h0 ub ku .byte (8 : Int32) [(.int (own_lo x0)), (.int (own_hi x0)), (.int (own_lo x1)), (.int (own_hi x1)), (.int (own_lo x2)), (.int (own_hi x2)), (.int 0), (.int 0)] (.int 0)) (g_ub : n0 ≤ ub) :
    Mt l Z y_12 jdk_52_method_4_code 3 none ws rm_rmPC4_3 #[(.ref ub), (.int 3), (.int x3)] h0 (Q_rmPC4_3 Z ub x3 ku x0 x1 x2 h0 n0) := by
 refine own_met "java/lang/StringUTF16" (plainFor_of_name pn_java_lang_StringUTF16) #[rv ub, iv 3, iv x3] (fun m => rfl) (fun p e s m below meth c s₁ Bd hx hby hml hZ hown hnm X0 e0 => ?_)
 have N0 := Fr.nil n0
 have K := Keep.refl h0 [ub]
 refine Go.gS X0 hx hZ hown (host := "") (Or.inl (own_w hw 94 rfl)) Via.refl e0 (S_AD.ext O.2) (hb hby d21_0) (fun T1 X1 e1 => ?_)
 refine Go.step (S' := T1.setTop (mkF m 38 #[rv ub, iv 7, iv x3] [(.int x3), (.int 6), (.ref ub)])) (fun t k => ?_) ?_
 · refine XS.ifYes X1.here hx rfl (pc0 := 3) (pc' := 28) rfl (hb hby d21_3) rfl ((if0 _ _).trans (feq ((by decide) : ¬ ((1 : Int32) = (0 : Int32)))).2) (by decide) (by decide) ?_
   refine XS.iloadN X1.here hx rfl (hb hby d21_28) rfl ?_
   refine XS.iconst X1.here hx rfl (hb hby d21_29) ?_
   refine XS.ishl X1.here hx rfl (hb hby d21_30) rfl ?_
   refine XS.istoreN X1.here hx rfl (hb hby d21_31) rfl (l' := #[rv ub, iv 6, iv x3]) rfl ?_
   refine XS.aloadN X1.here hx rfl (hb hby d21_32) rfl rfl ?_
   show Steps p.tables e below (T1.setTop (mkF m 33 #[rv ub, iv 6, iv x3] [(.ref ub)])) _
   refine XS.iloadN X1.here hx rfl (hb hby d21_33) rfl ?_
   refine XS.iinc X1.here hx rfl (hb hby d21_34) rfl (l' := #[rv ub, iv 7, iv x3]) rfl ?_
   refine XS.iloadN X1.here hx rfl (hb hby d21_37) rfl ?_
   exact k
 refine Go.gS X1 hx hZ hown (host := "") (Or.inl (own_w hw 95 rfl)) Via.refl e1 (S_HI.ext O.2) (hb hby d21_38) (fun T2 X2 e2 => ?_)
 refine Go.step (S' := T2.setTop (mkF m 43 #[rv ub, iv 7, iv x3] [(.int ((x3 >>> ((0 : Int32) &&& 31)).toInt8.toInt32)), (.int 6), (.ref ub)])) (fun t k => ?_) ?_
 · refine XS.ishr X2.here hx rfl (hb hby d21_41) rfl ?_
   refine XS.i2b X2.here hx rfl (hb hby d21_42) rfl ?_
   exact k
 obtain ⟨cl3, Ar3, q3, S3, N3_, H3, G3⟩ := V_ub
 have hin3 : ¬ ((6 : Int32) < 0 ∨ cl3.slots.size ≤ ((6 : Int32)).toNatClampNeg) := inb_of S3 ⟨by decide, by decide⟩
 obtain ⟨T3, h3, X3, e3, W3, st3⟩ := stB X2 hx hZ e2 Ar3 (j := (6 : Int32)) hin3 (g := (mkF m 43 #[rv ub, iv 7, iv x3] [(.int ((x3 >>> ((0 : Int32) &&& 31)).toInt8.toInt32)), (.int 6), (.ref ub)])) rfl rfl (hb hby d21_43)
 have O := O.wr W3 g_ub
 have K := K.wr W3 (Or.inl (List.mem_of_getElem? (i := 0) rfl))
 have V_ub : Arv Z h3 ub ku .byte (8 : Int32) [(.int (own_lo x0)), (.int (own_hi x0)), (.int (own_lo x1)), (.int (own_hi x1)), (.int (own_lo x2)), (.int (own_hi x2)), (.int (((x3 >>> ((0 : Int32) &&& 31)).toInt8.toInt32).toInt8.toInt32)), (.int 0)] (.int 0) := Arv.set Ar3 q3 S3 N3_ H3 G3 (fits_nar_byte _) W3 6 rfl (Nat.le_of_ble_eq_true rfl)
 rw [(own_b2 _ : (((x3 >>> ((0 : Int32) &&& 31)).toInt8.toInt32).toInt8.toInt32) = (own_lo x3))] at V_ub
 have N3 := Fr.snoc X3 N0 g_ub
 refine Go.step st3 ?_
 refine Go.step (S' := T3.setTop (mkF m 47 #[rv ub, iv 7, iv x3] [(.int x3), (.int 7), (.ref ub)])) (fun t k => ?_) ?_
 · refine XS.aloadN X3.here hx rfl (hb hby d21_44) rfl rfl ?_
   refine XS.iloadN X3.here hx rfl (hb hby d21_45) rfl ?_
   refine XS.iloadN X3.here hx rfl (hb hby d21_46) rfl ?_
   exact k
 refine Go.gS X3 hx hZ hown (host := "") (Or.inl (own_w hw 96 rfl)) Via.refl e3 (S_LO.ext O.2) (hb hby d21_47) (fun T4 X4 e4 => ?_)
 refine Go.step (S' := T4.setTop (mkF m 52 #[rv ub, iv 7, iv x3] [(.int ((x3 >>> ((8 : Int32) &&& 31)).toInt8.toInt32)), (.int 7), (.ref ub)])) (fun t k => ?_) ?_
 · refine XS.ishr X4.here hx rfl (hb hby d21_50) rfl ?_
   refine XS.i2b X4.here hx rfl (hb hby d21_51) rfl ?_
   exact k
 obtain ⟨cl5, Ar5, q5, S5, N5_, H5, G5⟩ := V_ub
 have hin5 : ¬ ((7 : Int32) < 0 ∨ cl5.slots.size ≤ ((7 : Int32)).toNatClampNeg) := inb_of S5 ⟨by decide, by decide⟩
 obtain ⟨T5, h5, X5, e5, W5, st5⟩ := stB X4 hx hZ e4 Ar5 (j := (7 : Int32)) hin5 (g := (mkF m 52 #[rv ub, iv 7, iv x3] [(.int ((x3 >>> ((8 : Int32) &&& 31)).toInt8.toInt32)), (.int 7), (.ref ub)])) rfl rfl (hb hby d21_52)
 have O := O.wr W5 g_ub
 have K := K.wr W5 (Or.inl (List.mem_of_getElem? (i := 0) rfl))
 have V_ub : Arv Z h5 ub ku .byte (8 : Int32) [(.int (own_lo x0)), (.int (own_hi x0)), (.int (own_lo x1)), (.int (own_hi x1)), (.int (own_lo x2)), (.int (own_hi x2)), (.int (own_lo x3)), (.int (((x3 >>> ((8 : Int32) &&& 31)).toInt8.toInt32).toInt8.toInt32))] (.int 0) := Arv.set Ar5 q5 S5 N5_ H5 G5 (fits_nar_byte _) W5 7 rfl (Nat.le_of_ble_eq_true rfl)
 rw [(own_b2 _ : (((x3 >>> ((8 : Int32) &&& 31)).toInt8.toInt32).toInt8.toInt32) = (own_hi x3))] at V_ub
 have N5 := Fr.snoc X5 N3 g_ub
 refine Go.step st5 ?_
 exact Go.rv X5 hx Bd (hb hby d21_53) e5 ⟨rfl, N5, K, V_ub⟩
abbrev rm_rmGC4_3 : Room := ({ frames := 0, cells := 0, slots := 0, locals := 0 } : Room)
def Q_rmGC4_3 (Z : State) (ub : Addr) (ku : ClassId) (x0 : Int32) (x1 : Int32) (x2 : Int32) (x3 : Int32) (h0 : Heap) (n0 : Nat) (v : Option Value) (h : Heap) (L : List Loc) : Prop := (v = some (.int x3)) ∧ (Fr n0 L) ∧ (h = h0)
theorem rmGC4_3 (l : Launch) (Z : State) (a0 : Array Value) (hw : HW a0 Z) (ws : List Jvm.Cond) (ub : Addr) (ku : ClassId) (x0 : Int32) (x1 : Int32) (x2 : Int32) (x3 : Int32) (h0 : Heap) (n0 : Nat) (O : Old Z n0 h0) (S_AD : Sa_1 Z (.int 1)) (S_HI : Sa_2 Z (.int 0)) (S_LO : Sa_3 Z (.int 8)) (V_ub : Arv Z h0 ub ku .byte (8 : Int32) [(.int (own_lo x0)), (.int (own_hi x0)), (.int (own_lo x1)), (.int (own_hi x1)), (.int (own_lo x2)), (.int (own_hi x2)), (.int (own_lo x3)), (.int (own_hi x3))] (.int 0)) (rax3 : ¬ (x3 < (0 : Int32))) (rbx3 : ¬ ((65535 : Int32) < x3)) :
    Mt l Z y_13 jdk_52_method_5_code 2 (some .char) ws rm_rmGC4_3 #[(.ref ub), (.int 3)] h0 (Q_rmGC4_3 Z ub ku x0 x1 x2 x3 h0 n0) := by
 refine own_met "java/lang/StringUTF16" (plainFor_of_name pn_java_lang_StringUTF16) #[rv ub, iv 3] (fun m => rfl) (fun p e s m below meth c s₁ Bd hx hby hml hZ hown hnm X0 e0 => ?_)
 have N0 := Fr.nil n0
 refine Go.gS X0 hx hZ hown (host := "") (Or.inl (own_w hw 94 rfl)) Via.refl e0 (S_AD.ext O.2) (hb hby d22_0) (fun T1 X1 e1 => ?_)
 refine Go.step (S' := T1.setTop (mkF m 37 #[rv ub, iv 7] [(.int 6), (.ref ub)])) (fun t k => ?_) ?_
 · refine XS.ifYes X1.here hx rfl (pc0 := 3) (pc' := 28) rfl (hb hby d22_3) rfl ((if0 _ _).trans (feq ((by decide) : ¬ ((1 : Int32) = (0 : Int32)))).2) (by decide) (by decide) ?_
   refine XS.iloadN X1.here hx rfl (hb hby d22_28) rfl ?_
   refine XS.iconst X1.here hx rfl (hb hby d22_29) ?_
   refine XS.ishl X1.here hx rfl (hb hby d22_30) rfl ?_
   refine XS.istoreN X1.here hx rfl (hb hby d22_31) rfl (l' := #[rv ub, iv 6]) rfl ?_
   refine XS.aloadN X1.here hx rfl (hb hby d22_32) rfl rfl ?_
   show Steps p.tables e below (T1.setTop (mkF m 33 #[rv ub, iv 6] [(.ref ub)])) _
   refine XS.iloadN X1.here hx rfl (hb hby d22_33) rfl ?_
   refine XS.iinc X1.here hx rfl (hb hby d22_34) rfl (l' := #[rv ub, iv 7]) rfl ?_
   exact k
 refine Go.bal X1 hx hZ e1 V_ub (hb hby d22_37) (v := (.int (own_lo x3))) rfl ?_
 refine Go.step (S' := T1.setTop (mkF m 42 #[rv ub, iv 7] [(.int ((own_lo x3) &&& (255 : Int32)))])) (fun t k => ?_) ?_
 · refine XS.sipush X1.here hx rfl (hb hby d22_38) ?_
   refine XS.iand X1.here hx rfl (hb hby d22_41) rfl ?_
   exact k
 refine Go.gS X1 hx hZ hown (host := "") (Or.inl (own_w hw 95 rfl)) Via.refl e1 (S_HI.ext O.2) (hb hby d22_42) (fun T3 X3 e3 => ?_)
 refine Go.step (S' := T3.setTop (mkF m 48 #[rv ub, iv 7] [(.int 7), (.ref ub), (.int (((own_lo x3) &&& (255 : Int32)) <<< ((0 : Int32) &&& 31)))])) (fun t k => ?_) ?_
 · refine XS.ishl X3.here hx rfl (hb hby d22_45) rfl ?_
   refine XS.aloadN X3.here hx rfl (hb hby d22_46) rfl rfl ?_
   refine XS.iloadN X3.here hx rfl (hb hby d22_47) rfl ?_
   exact k
 refine Go.bal X3 hx hZ e3 V_ub (hb hby d22_48) (v := (.int (own_hi x3))) rfl ?_
 refine Go.step (S' := T3.setTop (mkF m 53 #[rv ub, iv 7] [(.int ((own_hi x3) &&& (255 : Int32))), (.int (((own_lo x3) &&& (255 : Int32)) <<< ((0 : Int32) &&& 31)))])) (fun t k => ?_) ?_
 · refine XS.sipush X3.here hx rfl (hb hby d22_49) ?_
   refine XS.iand X3.here hx rfl (hb hby d22_52) rfl ?_
   exact k
 refine Go.gS X3 hx hZ hown (host := "") (Or.inl (own_w hw 96 rfl)) Via.refl e3 (S_LO.ext O.2) (hb hby d22_53) (fun T5 X5 e5 => ?_)
 refine Go.step (S' := T5.setTop (mkF m 59 #[rv ub, iv 7] [(.int (((((own_lo x3) &&& (255 : Int32)) <<< ((0 : Int32) &&& 31)) ||| (((own_hi x3) &&& (255 : Int32)) <<< ((8 : Int32) &&& 31))).toUInt32.toUInt16.toUInt32.toInt32))])) (fun t k => ?_) ?_
 · refine XS.ishl X5.here hx rfl (hb hby d22_56) rfl ?_
   refine XS.ior X5.here hx rfl (hb hby d22_57) rfl ?_
   refine XS.i2c X5.here hx rfl (hb hby d22_58) rfl ?_
   exact k
 exact Go.rt X5 hx Bd (w := (.int (((((own_lo x3) &&& (255 : Int32)) <<< ((0 : Int32) &&& 31)) ||| (((own_hi x3) &&& (255 : Int32)) <<< ((8 : Int32) &&& 31))).toUInt32.toUInt16.toUInt32.toInt32))) (Jvm.Free.XT.narrow_c _) (Or.inl ⟨rfl, Or.inr (Or.inr (Or.inr (Or.inl rfl))), _, rfl⟩) (hb hby d22_59) e5 ⟨(congrArg (fun z => some (Value.int z)) (own_gc rax3 rbx3)), N0, rfl⟩
abbrev rm_rmTo4 : Room := ({ frames := 2, cells := 1, slots := 8, locals := 24 } : Room)
def Q_rmTo4 (Z : State) (vc : Addr) (kc : ClassId) (x0 : Int32) (x1 : Int32) (x2 : Int32) (x3 : Int32) (h0 : Heap) (n0 : Nat) (v : Option Value) (h : Heap) (L : List Loc) : Prop := ∃ b : Addr, ∃ kb : ClassId, (v = some (.ref b)) ∧ (Fr n0 L) ∧ (Keep h0 h []) ∧ (Arv Z h b kb .byte (8 : Int32) [(.int (own_lo x0)), (.int (own_hi x0)), (.int (own_lo x1)), (.int (own_hi x1)), (.int (own_lo x2)), (.int (own_hi x2)), (.int (own_lo x3)), (.int (own_hi x3))] (.int 0))
theorem rmTo4 (l : Launch) (Z : State) (a0 : Array Value) (hw : HW a0 Z) (ws : List Jvm.Cond) (vc : Addr) (kc : ClassId) (x0 : Int32) (x1 : Int32) (x2 : Int32) (x3 : Int32) (h0 : Heap) (n0 : Nat) (O : Old Z n0 h0) (S_AD : Sa_1 Z (.int 1)) (S_HI : Sa_2 Z (.int 0)) (S_LO : Sa_3 Z (.int 8)) (V_vc : Arv Z h0 vc kc .char (4 : Int32) [(.int x0), (.int x1), (.int x2), (.int x3)] (.int 0)) :
    Mt l Z y_14 jdk_52_method_14_code 5 (some (.array .byte)) ws rm_rmTo4 #[(.ref vc), (.int 0), (.int 4)] h0 (Q_rmTo4 Z vc kc x0 x1 x2 x3 h0 n0) := by
 refine own_met "java/lang/StringUTF16" (plainFor_of_name pn_java_lang_StringUTF16) #[rv vc, iv 0, iv 4, u_, u_] (fun m => rfl) (fun p e s m below meth c s₁ Bd hx hby hml hZ hown hnm X0 e0 => ?_)
 have N0 := Fr.nil n0
 have K := Keep.refl h0 []
 refine Go.step (S' := s₁.setTop (mkF m 1 #[rv vc, iv 0, iv 4, u_, u_] [(.int 4)])) (fun t k => ?_) ?_
 · refine XS.iloadN X0.here hx rfl (hb hby d18_0) rfl ?_
   exact k
 refine Go.cS X0 hx hml hown hZ (own_w hw 84 rfl) (own_w hw 85 rfl) (own_w hw 70 rfl) (own_w hw 86 rfl) (rmNB4 l Z a0 hw []  h0 n0 O ) 0 [] pd__28I_29_5bB (hb hby d18_1) e0 (fun _ T1 L1 X1 hQ1 => ?_)
 obtain ⟨b_1, kb_1, rfl, Nq1, K1, P1_V, gb_1, sb_1⟩ := hQ1
 have N1 := Fr.app N0 Nq1
 have sz_b_1 : h0.size ≤ b_1 := Nat.le_trans K.1 sb_1
 have ne_vc_b_1 : vc ≠ b_1 := Nat.ne_of_lt (Nat.lt_of_lt_of_le V_vc.lt sb_1)
 have O := O.keep K1 all0
 have V_vc := V_vc.keep K1 nin0
 have K := K.trans K1 all0
 have V_1 := P1_V
 have g_b_1 := gb_1
 refine Go.step (S' := T1.setTop (mkF m 19 #[rv vc, iv 0, iv 4, rv b_1, iv 0] [(.int 0), (.ref vc), (.int 0), (.ref b_1)])) (fun t k => ?_) ?_
 · refine XS.astoreN X1.here hx rfl (hb hby d18_4) rfl rfl (l' := #[rv vc, iv 0, iv 4, rv b_1, u_]) rfl ?_
   refine XS.iconst X1.here hx rfl (hb hby d18_5) ?_
   refine XS.istore X1.here hx rfl (hb hby d18_6) rfl (l' := #[rv vc, iv 0, iv 4, rv b_1, iv 0]) rfl ?_
   refine XS.iload X1.here hx rfl (hb hby d18_8) rfl ?_
   refine XS.iloadN X1.here hx rfl (hb hby d18_10) rfl ?_
   refine XS.icmpNo X1.here hx rfl (hb hby d18_11) rfl (tlt ((by decide) : (0 : Int32) < (4 : Int32))).2.1 ?_
   show Steps p.tables e below (T1.setTop (mkF m 14 #[rv vc, iv 0, iv 4, rv b_1, iv 0] [])) _
   refine XS.aloadN X1.here hx rfl (hb hby d18_14) rfl rfl ?_
   refine XS.iload X1.here hx rfl (hb hby d18_15) rfl ?_
   refine XS.aloadN X1.here hx rfl (hb hby d18_17) rfl rfl ?_
   refine XS.iloadN X1.here hx rfl (hb hby d18_18) rfl ?_
   exact k
 refine Go.cal X1 hx hZ (Eq.refl T1.heap) V_vc (hb hby d18_19) (v := (.int x0)) rfl ?_
 refine Go.cS X1 hx hml hown hZ (own_w hw 91 rfl) (own_w hw 92 rfl) (own_w hw 70 rfl) (own_w hw 93 rfl) (rmPC4_0 l Z a0 hw [] b_1 x0 kb_1 T1.heap n0 O S_AD S_HI S_LO V_1 gb_1) 0 [] pd__28_5bBII_29V (hb hby d18_20) (Eq.refl T1.heap) (fun _ T3 L3 X3 hQ3 => ?_)
 obtain ⟨rfl, Nq3, K3, P3_V⟩ := hQ3
 have N3 := Fr.app N1 Nq3
 have O := O.keep K3 (allS g_b_1 all0)
 have V_vc := V_vc.keep K3 (ninS ne_vc_b_1 nin0)
 have K := K.trans K3 (allS (Or.inr sz_b_1) all0)
 have V_3 := P3_V
 refine Go.step (S' := T3.setTop (mkF m 19 #[rv vc, iv 1, iv 4, rv b_1, iv 1] [(.int 1), (.ref vc), (.int 1), (.ref b_1)])) (fun t k => ?_) ?_
 · refine XS.iinc X3.here hx rfl (hb hby d18_23) rfl (l' := #[rv vc, iv 1, iv 4, rv b_1, iv 0]) rfl ?_
   refine XS.iinc X3.here hx rfl (hb hby d18_26) rfl (l' := #[rv vc, iv 1, iv 4, rv b_1, iv 1]) rfl ?_
   refine XS.goto X3.here hx rfl (pc0 := 29) (pc' := 8) rfl (hb hby d18_29) (by decide) (by decide) ?_
   refine XS.iload X3.here hx rfl (hb hby d18_8) rfl ?_
   refine XS.iloadN X3.here hx rfl (hb hby d18_10) rfl ?_
   refine XS.icmpNo X3.here hx rfl (hb hby d18_11) rfl (tlt ((by decide) : (1 : Int32) < (4 : Int32))).2.1 ?_
   show Steps p.tables e below (T3.setTop (mkF m 14 #[rv vc, iv 1, iv 4, rv b_1, iv 1] [])) _
   refine XS.aloadN X3.here hx rfl (hb hby d18_14) rfl rfl ?_
   refine XS.iload X3.here hx rfl (hb hby d18_15) rfl ?_
   refine XS.aloadN X3.here hx rfl (hb hby d18_17) rfl rfl ?_
   refine XS.iloadN X3.here hx rfl (hb hby d18_18) rfl ?_
   exact k
 refine Go.cal X3 hx hZ (Eq.refl T3.heap) V_vc (hb hby d18_19) (v := (.int x1)) rfl ?_
 refine Go.cS X3 hx hml hown hZ (own_w hw 91 rfl) (own_w hw 92 rfl) (own_w hw 70 rfl) (own_w hw 93 rfl) (rmPC4_1 l Z a0 hw [] b_1 x1 kb_1 x0 T3.heap n0 O S_AD S_HI S_LO V_3 gb_1) 0 [] pd__28_5bBII_29V (hb hby d18_20) (Eq.refl T3.heap) (fun _ T5 L5 X5 hQ5 => ?_)
 obtain ⟨rfl, Nq5, K5, P5_V⟩ := hQ5
 have N5 := Fr.app N3 Nq5
 have O := O.keep K5 (allS g_b_1 all0)
 have V_vc := V_vc.keep K5 (ninS ne_vc_b_1 nin0)
 have K := K.trans K5 (allS (Or.inr sz_b_1) all0)
 have V_5 := P5_V
 refine Go.step (S' := T5.setTop (mkF m 19 #[rv vc, iv 2, iv 4, rv b_1, iv 2] [(.int 2), (.ref vc), (.int 2), (.ref b_1)])) (fun t k => ?_) ?_
 · refine XS.iinc X5.here hx rfl (hb hby d18_23) rfl (l' := #[rv vc, iv 2, iv 4, rv b_1, iv 1]) rfl ?_
   refine XS.iinc X5.here hx rfl (hb hby d18_26) rfl (l' := #[rv vc, iv 2, iv 4, rv b_1, iv 2]) rfl ?_
   refine XS.goto X5.here hx rfl (pc0 := 29) (pc' := 8) rfl (hb hby d18_29) (by decide) (by decide) ?_
   refine XS.iload X5.here hx rfl (hb hby d18_8) rfl ?_
   refine XS.iloadN X5.here hx rfl (hb hby d18_10) rfl ?_
   refine XS.icmpNo X5.here hx rfl (hb hby d18_11) rfl (tlt ((by decide) : (2 : Int32) < (4 : Int32))).2.1 ?_
   show Steps p.tables e below (T5.setTop (mkF m 14 #[rv vc, iv 2, iv 4, rv b_1, iv 2] [])) _
   refine XS.aloadN X5.here hx rfl (hb hby d18_14) rfl rfl ?_
   refine XS.iload X5.here hx rfl (hb hby d18_15) rfl ?_
   refine XS.aloadN X5.here hx rfl (hb hby d18_17) rfl rfl ?_
   refine XS.iloadN X5.here hx rfl (hb hby d18_18) rfl ?_
   exact k
 refine Go.cal X5 hx hZ (Eq.refl T5.heap) V_vc (hb hby d18_19) (v := (.int x2)) rfl ?_
 refine Go.cS X5 hx hml hown hZ (own_w hw 91 rfl) (own_w hw 92 rfl) (own_w hw 70 rfl) (own_w hw 93 rfl) (rmPC4_2 l Z a0 hw [] b_1 x2 kb_1 x0 x1 T5.heap n0 O S_AD S_HI S_LO V_5 gb_1) 0 [] pd__28_5bBII_29V (hb hby d18_20) (Eq.refl T5.heap) (fun _ T7 L7 X7 hQ7 => ?_)
 obtain ⟨rfl, Nq7, K7, P7_V⟩ := hQ7
 have N7 := Fr.app N5 Nq7
 have O := O.keep K7 (allS g_b_1 all0)
 have V_vc := V_vc.keep K7 (ninS ne_vc_b_1 nin0)
 have K := K.trans K7 (allS (Or.inr sz_b_1) all0)
 have V_7 := P7_V
 refine Go.step (S' := T7.setTop (mkF m 19 #[rv vc, iv 3, iv 4, rv b_1, iv 3] [(.int 3), (.ref vc), (.int 3), (.ref b_1)])) (fun t k => ?_) ?_
 · refine XS.iinc X7.here hx rfl (hb hby d18_23) rfl (l' := #[rv vc, iv 3, iv 4, rv b_1, iv 2]) rfl ?_
   refine XS.iinc X7.here hx rfl (hb hby d18_26) rfl (l' := #[rv vc, iv 3, iv 4, rv b_1, iv 3]) rfl ?_
   refine XS.goto X7.here hx rfl (pc0 := 29) (pc' := 8) rfl (hb hby d18_29) (by decide) (by decide) ?_
   refine XS.iload X7.here hx rfl (hb hby d18_8) rfl ?_
   refine XS.iloadN X7.here hx rfl (hb hby d18_10) rfl ?_
   refine XS.icmpNo X7.here hx rfl (hb hby d18_11) rfl (tlt ((by decide) : (3 : Int32) < (4 : Int32))).2.1 ?_
   show Steps p.tables e below (T7.setTop (mkF m 14 #[rv vc, iv 3, iv 4, rv b_1, iv 3] [])) _
   refine XS.aloadN X7.here hx rfl (hb hby d18_14) rfl rfl ?_
   refine XS.iload X7.here hx rfl (hb hby d18_15) rfl ?_
   refine XS.aloadN X7.here hx rfl (hb hby d18_17) rfl rfl ?_
   refine XS.iloadN X7.here hx rfl (hb hby d18_18) rfl ?_
   exact k
 refine Go.cal X7 hx hZ (Eq.refl T7.heap) V_vc (hb hby d18_19) (v := (.int x3)) rfl ?_
 refine Go.cS X7 hx hml hown hZ (own_w hw 91 rfl) (own_w hw 92 rfl) (own_w hw 70 rfl) (own_w hw 93 rfl) (rmPC4_3 l Z a0 hw [] b_1 x3 kb_1 x0 x1 x2 T7.heap n0 O S_AD S_HI S_LO V_7 gb_1) 0 [] pd__28_5bBII_29V (hb hby d18_20) (Eq.refl T7.heap) (fun _ T9 L9 X9 hQ9 => ?_)
 obtain ⟨rfl, Nq9, K9, P9_V⟩ := hQ9
 have N9 := Fr.app N7 Nq9
 have O := O.keep K9 (allS g_b_1 all0)
 have V_vc := V_vc.keep K9 (ninS ne_vc_b_1 nin0)
 have K := K.trans K9 (allS (Or.inr sz_b_1) all0)
 have V_9 := P9_V
 refine Go.step (S' := T9.setTop (mkF m 33 #[rv vc, iv 4, iv 4, rv b_1, iv 4] [(.ref b_1)])) (fun t k => ?_) ?_
 · refine XS.iinc X9.here hx rfl (hb hby d18_23) rfl (l' := #[rv vc, iv 4, iv 4, rv b_1, iv 3]) rfl ?_
   refine XS.iinc X9.here hx rfl (hb hby d18_26) rfl (l' := #[rv vc, iv 4, iv 4, rv b_1, iv 4]) rfl ?_
   refine XS.goto X9.here hx rfl (pc0 := 29) (pc' := 8) rfl (hb hby d18_29) (by decide) (by decide) ?_
   refine XS.iload X9.here hx rfl (hb hby d18_8) rfl ?_
   refine XS.iloadN X9.here hx rfl (hb hby d18_10) rfl ?_
   refine XS.icmpYes X9.here hx rfl (pc0 := 11) (pc' := 32) rfl (hb hby d18_11) rfl (flt ((by decide) : ¬ ((4 : Int32) < (4 : Int32)))).2.1 (by decide) (by decide) ?_
   show Steps p.tables e below (T9.setTop (mkF m 32 #[rv vc, iv 4, iv 4, rv b_1, iv 4] [])) _
   refine XS.aloadN X9.here hx rfl (hb hby d18_32) rfl rfl ?_
   exact k
 exact Go.rt X9 hx Bd (w := (.ref b_1)) rfl (Or.inr (Or.inr (Or.inr (Or.inr ⟨rfl, rfl, rfl⟩)))) (hb hby d18_33) (Eq.refl T9.heap) ⟨b_1, kb_1, rfl, N9, K, V_9⟩
abbrev rm_rmCfu4 : Room := ({ frames := 0, cells := 0, slots := 0, locals := 0 } : Room)
def Q_rmCfu4 (Z : State) (tb : Addr) (kb : ClassId) (x0 : Int32) (x1 : Int32) (x2 : Int32) (x3 : Int32) (h0 : Heap) (n0 : Nat) (v : Option Value) (h : Heap) (L : List Loc) : Prop := (v = some (.int 1)) ∧ (Fr n0 L) ∧ (h = h0)
theorem rmCfu4 (l : Launch) (Z : State) (a0 : Array Value) (hw : HW a0 Z) (ws : List Jvm.Cond) (tb : Addr) (kb : ClassId) (x0 : Int32) (x1 : Int32) (x2 : Int32) (x3 : Int32) (h0 : Heap) (n0 : Nat) (O : Old Z n0 h0) (V_t : Arv Z h0 tb kb .byte (8 : Int32) [(.int (own_lo x0)), (.int (own_hi x0)), (.int (own_lo x1)), (.int (own_hi x1)), (.int (own_lo x2)), (.int (own_hi x2)), (.int (own_lo x3)), (.int (own_hi x3))] (.int 0)) :
    Mt l Z y_2 jdk_52_method_15_code 2 (some .byte) ws rm_rmCfu4 #[(.ref tb), (.int 4)] h0 (Q_rmCfu4 Z tb kb x0 x1 x2 x3 h0 n0) := by
 refine own_met "java/lang/StringUTF16" (plainFor_of_name pn_java_lang_StringUTF16) #[rv tb, iv 4] (fun m => rfl) (fun p e s m below meth c s₁ Bd hx hby hml hZ hown hnm X0 e0 => ?_)
 have N0 := Fr.nil n0
 refine Go.step (S' := s₁.setTop (mkF m 2 #[rv tb, iv 4] [(.ref tb), (.int 4)])) (fun t k => ?_) ?_
 · refine XS.iloadN X0.here hx rfl (hb hby d16_0) rfl ?_
   refine XS.aloadN X0.here hx rfl (hb hby d16_1) rfl rfl ?_
   exact k
 refine Go.len X0 hx hZ e0 V_t (hb hby d16_2) ?_
 refine Go.step (S' := s₁.setTop (mkF m 8 #[rv tb, iv 4] [(.int 1)])) (fun t k => ?_) ?_
 · refine XS.isub X0.here hx rfl (hb hby d16_3) rfl ?_
   refine XS.bipush X0.here hx rfl (hb hby d16_4) ?_
   refine XS.iushr X0.here hx rfl (hb hby d16_6) rfl ?_
   refine XS.i2b X0.here hx rfl (hb hby d16_7) rfl ?_
   exact k
 exact Go.rt X0 hx Bd (w := (.int 1)) (by decide) (Or.inl ⟨rfl, Or.inr (Or.inr (Or.inl rfl)), _, rfl⟩) (hb hby d16_8) e0 ⟨rfl, N0, rfl⟩
abbrev rm_rmClU4 : Room := ({ frames := 0, cells := 0, slots := 0, locals := 0 } : Room)
def Q_rmClU4 (Z : State) (vc : Addr) (db : Addr) (kc : ClassId) (kb : ClassId) (x0 : Int32) (x1 : Int32) (x2 : Int32) (x3 : Int32) (h0 : Heap) (n0 : Nat) (v : Option Value) (h : Heap) (L : List Loc) : Prop := ∃ r : Int32, (v = some (.int r)) ∧ (Fr n0 L) ∧ (Keep h0 h [db]) ∧ (¬ (r = (4 : Int32))) ∧ ((r = (0 : Int32) ∧ (255 : Int32) < x0) ∨ (r = (1 : Int32) ∧ (255 : Int32) < x1) ∨ (r = (2 : Int32) ∧ (255 : Int32) < x2) ∨ (r = (3 : Int32) ∧ (255 : Int32) < x3))
theorem rmClU4 (l : Launch) (Z : State) (a0 : Array Value) (hw : HW a0 Z) (ws : List Jvm.Cond) (vc : Addr) (db : Addr) (kc : ClassId) (kb : ClassId) (x0 : Int32) (x1 : Int32) (x2 : Int32) (x3 : Int32) (h0 : Heap) (n0 : Nat) (O : Old Z n0 h0) (V_vc : Arv Z h0 vc kc .char (4 : Int32) [(.int x0), (.int x1), (.int x2), (.int x3)] (.int 0)) (V_db : Arv Z h0 db kb .byte (4 : Int32) [(.int 0), (.int 0), (.int 0), (.int 0)] (.int 0)) (g_db : n0 ≤ db) (ne_vc_db : vc ≠ db) (hu : ((255 : Int32) < x0) ∨ ((255 : Int32) < x1) ∨ ((255 : Int32) < x2) ∨ ((255 : Int32) < x3)) :
    Mt l Z y_0 jdk_52_method_21_code 7 (some .int) ws rm_rmClU4 #[(.ref vc), (.int 0), (.ref db), (.int 0), (.int 4)] h0 (Q_rmClU4 Z vc db kc kb x0 x1 x2 x3 h0 n0) := by
 refine own_met "java/lang/StringUTF16" (plainFor_of_name pn_java_lang_StringUTF16) #[rv vc, iv 0, rv db, iv 0, iv 4, u_, u_] (fun m => rfl) (fun p e s m below meth c s₁ Bd hx hby hml hZ hown hnm X0 e0 => ?_)
 have N0 := Fr.nil n0
 have K := Keep.refl h0 [db]
 refine Go.step (S' := s₁.setTop (mkF m 12 #[rv vc, iv 0, rv db, iv 0, iv 4, iv 0, u_] [(.int 0), (.ref vc)])) (fun t k => ?_) ?_
 · refine XS.iconst X0.here hx rfl (hb hby d15_0) ?_
   refine XS.istore X0.here hx rfl (hb hby d15_1) rfl (l' := #[rv vc, iv 0, rv db, iv 0, iv 4, iv 0, u_]) rfl ?_
   refine XS.iload X0.here hx rfl (hb hby d15_3) rfl ?_
   refine XS.iload X0.here hx rfl (hb hby d15_5) rfl ?_
   refine XS.icmpNo X0.here hx rfl (hb hby d15_7) rfl (tlt ((by decide) : (0 : Int32) < (4 : Int32))).2.1 ?_
   refine XS.aloadN X0.here hx rfl (hb hby d15_10) rfl rfl ?_
   show Steps p.tables e below (s₁.setTop (mkF m 11 #[rv vc, iv 0, rv db, iv 0, iv 4, iv 0, u_] [(.ref vc)])) _
   refine XS.iloadN X0.here hx rfl (hb hby d15_11) rfl ?_
   exact k
 refine Go.cal X0 hx hZ e0 V_vc (hb hby d15_12) (v := (.int x0)) rfl ?_
 refine Go.step (S' := s₁.setTop (mkF m 20 #[rv vc, iv 0, rv db, iv 0, iv 4, iv 0, iv x0] [(.int 255), (.int x0)])) (fun t k => ?_) ?_
 · refine XS.istore X0.here hx rfl (hb hby d15_13) rfl (l' := #[rv vc, iv 0, rv db, iv 0, iv 4, iv 0, iv x0]) rfl ?_
   refine XS.iload X0.here hx rfl (hb hby d15_15) rfl ?_
   refine XS.sipush X0.here hx rfl (hb hby d15_17) ?_
   exact k
 by_cases hc20 : (255 : Int32) < x0
 ·skip
  refine Go.step (S' := s₁.setTop (mkF m 25 #[rv vc, iv 0, rv db, iv 0, iv 4, iv 0, iv x0] [(.int 0)])) (fun t k => ?_) ?_
  · refine XS.icmpNo X0.here hx rfl (hb hby d15_20) rfl (tlt (hc20 : (255 : Int32) < x0)).2.2.2 ?_
    refine XS.iload X0.here hx rfl (hb hby d15_23) rfl ?_
    exact k
  exact Go.rt X0 hx Bd (w := (.int 0)) rfl (Or.inl ⟨rfl, Or.inl rfl, _, rfl⟩) (hb hby d15_25) e0 ⟨(0 : Int32), rfl, N0, K, (by decide), (Or.inl ⟨rfl, hc20⟩)⟩
 ·skip
  refine Go.step (S' := s₁.setTop (mkF m 31 #[rv vc, iv 0, rv db, iv 0, iv 4, iv 0, iv x0] [(.int (x0.toInt8.toInt32)), (.int 0), (.ref db)])) (fun t k => ?_) ?_
  · refine XS.icmpYes X0.here hx rfl (pc0 := 20) (pc' := 26) rfl (hb hby d15_20) rfl (flt (hc20 : ¬ ((255 : Int32) < x0))).2.2.2 (by decide) (by decide) ?_
    refine XS.aloadN X0.here hx rfl (hb hby d15_26) rfl rfl ?_
    refine XS.iloadN X0.here hx rfl (hb hby d15_27) rfl ?_
    refine XS.iload X0.here hx rfl (hb hby d15_28) rfl ?_
    refine XS.i2b X0.here hx rfl (hb hby d15_30) rfl ?_
    exact k
  obtain ⟨cl2, Ar2, q2, S2, N2_, H2, G2⟩ := V_db
  have hin2 : ¬ ((0 : Int32) < 0 ∨ cl2.slots.size ≤ ((0 : Int32)).toNatClampNeg) := inb_of S2 ⟨by decide, by decide⟩
  obtain ⟨T2, h2, X2, e2, W2, st2⟩ := stB X0 hx hZ e0 Ar2 (j := (0 : Int32)) hin2 (g := (mkF m 31 #[rv vc, iv 0, rv db, iv 0, iv 4, iv 0, iv x0] [(.int (x0.toInt8.toInt32)), (.int 0), (.ref db)])) rfl rfl (hb hby d15_31)
  have O := O.wr W2 g_db
  have V_vc := V_vc.other W2 ne_vc_db
  have K := K.wr W2 (Or.inl (List.mem_of_getElem? (i := 0) rfl))
  have V_db : Arv Z h2 db kb .byte (4 : Int32) [(.int ((x0.toInt8.toInt32).toInt8.toInt32)), (.int 0), (.int 0), (.int 0)] (.int 0) := Arv.set Ar2 q2 S2 N2_ H2 G2 (fits_nar_byte _) W2 0 rfl (Nat.le_of_ble_eq_true rfl)
  rw [(own_b2 x0 : ((x0.toInt8.toInt32).toInt8.toInt32) = (x0.toInt8.toInt32))] at V_db
  have N2 := Fr.snoc X2 N0 g_db
  refine Go.step st2 ?_
  refine Go.step (S' := T2.setTop (mkF m 12 #[rv vc, iv 1, rv db, iv 1, iv 4, iv 1, iv x0] [(.int 1), (.ref vc)])) (fun t k => ?_) ?_
  · refine XS.iinc X2.here hx rfl (hb hby d15_32) rfl (l' := #[rv vc, iv 1, rv db, iv 0, iv 4, iv 0, iv x0]) rfl ?_
    refine XS.iinc X2.here hx rfl (hb hby d15_35) rfl (l' := #[rv vc, iv 1, rv db, iv 1, iv 4, iv 0, iv x0]) rfl ?_
    refine XS.iinc X2.here hx rfl (hb hby d15_38) rfl (l' := #[rv vc, iv 1, rv db, iv 1, iv 4, iv 1, iv x0]) rfl ?_
    refine XS.goto X2.here hx rfl (pc0 := 41) (pc' := 3) rfl (hb hby d15_41) (by decide) (by decide) ?_
    refine XS.iload X2.here hx rfl (hb hby d15_3) rfl ?_
    refine XS.iload X2.here hx rfl (hb hby d15_5) rfl ?_
    show Steps p.tables e below (T2.setTop (mkF m 7 #[rv vc, iv 1, rv db, iv 1, iv 4, iv 1, iv x0] [(.int 4), (.int 1)])) _
    refine XS.icmpNo X2.here hx rfl (hb hby d15_7) rfl (tlt ((by decide) : (1 : Int32) < (4 : Int32))).2.1 ?_
    refine XS.aloadN X2.here hx rfl (hb hby d15_10) rfl rfl ?_
    refine XS.iloadN X2.here hx rfl (hb hby d15_11) rfl ?_
    exact k
  refine Go.cal X2 hx hZ e2 V_vc (hb hby d15_12) (v := (.int x1)) rfl ?_
  refine Go.step (S' := T2.setTop (mkF m 20 #[rv vc, iv 1, rv db, iv 1, iv 4, iv 1, iv x1] [(.int 255), (.int x1)])) (fun t k => ?_) ?_
  · refine XS.istore X2.here hx rfl (hb hby d15_13) rfl (l' := #[rv vc, iv 1, rv db, iv 1, iv 4, iv 1, iv x1]) rfl ?_
    refine XS.iload X2.here hx rfl (hb hby d15_15) rfl ?_
    refine XS.sipush X2.here hx rfl (hb hby d15_17) ?_
    exact k
  by_cases hc20_1 : (255 : Int32) < x1
  ·skip
   refine Go.step (S' := T2.setTop (mkF m 25 #[rv vc, iv 1, rv db, iv 1, iv 4, iv 1, iv x1] [(.int 1)])) (fun t k => ?_) ?_
   · refine XS.icmpNo X2.here hx rfl (hb hby d15_20) rfl (tlt (hc20_1 : (255 : Int32) < x1)).2.2.2 ?_
     refine XS.iload X2.here hx rfl (hb hby d15_23) rfl ?_
     exact k
   exact Go.rt X2 hx Bd (w := (.int 1)) rfl (Or.inl ⟨rfl, Or.inl rfl, _, rfl⟩) (hb hby d15_25) e2 ⟨(1 : Int32), rfl, N2, K, (by decide), (Or.inr (Or.inl ⟨rfl, hc20_1⟩))⟩
  ·skip
   refine Go.step (S' := T2.setTop (mkF m 31 #[rv vc, iv 1, rv db, iv 1, iv 4, iv 1, iv x1] [(.int (x1.toInt8.toInt32)), (.int 1), (.ref db)])) (fun t k => ?_) ?_
   · refine XS.icmpYes X2.here hx rfl (pc0 := 20) (pc' := 26) rfl (hb hby d15_20) rfl (flt (hc20_1 : ¬ ((255 : Int32) < x1))).2.2.2 (by decide) (by decide) ?_
     refine XS.aloadN X2.here hx rfl (hb hby d15_26) rfl rfl ?_
     refine XS.iloadN X2.here hx rfl (hb hby d15_27) rfl ?_
     refine XS.iload X2.here hx rfl (hb hby d15_28) rfl ?_
     refine XS.i2b X2.here hx rfl (hb hby d15_30) rfl ?_
     exact k
   obtain ⟨cl4, Ar4, q4, S4, N4_, H4, G4⟩ := V_db
   have hin4 : ¬ ((1 : Int32) < 0 ∨ cl4.slots.size ≤ ((1 : Int32)).toNatClampNeg) := inb_of S4 ⟨by decide, by decide⟩
   obtain ⟨T4, h4, X4, e4, W4, st4⟩ := stB X2 hx hZ e2 Ar4 (j := (1 : Int32)) hin4 (g := (mkF m 31 #[rv vc, iv 1, rv db, iv 1, iv 4, iv 1, iv x1] [(.int (x1.toInt8.toInt32)), (.int 1), (.ref db)])) rfl rfl (hb hby d15_31)
   have O := O.wr W4 g_db
   have V_vc := V_vc.other W4 ne_vc_db
   have K := K.wr W4 (Or.inl (List.mem_of_getElem? (i := 0) rfl))
   have V_db : Arv Z h4 db kb .byte (4 : Int32) [(.int (x0.toInt8.toInt32)), (.int ((x1.toInt8.toInt32).toInt8.toInt32)), (.int 0), (.int 0)] (.int 0) := Arv.set Ar4 q4 S4 N4_ H4 G4 (fits_nar_byte _) W4 1 rfl (Nat.le_of_ble_eq_true rfl)
   rw [(own_b2 x1 : ((x1.toInt8.toInt32).toInt8.toInt32) = (x1.toInt8.toInt32))] at V_db
   have N4 := Fr.snoc X4 N2 g_db
   refine Go.step st4 ?_
   refine Go.step (S' := T4.setTop (mkF m 12 #[rv vc, iv 2, rv db, iv 2, iv 4, iv 2, iv x1] [(.int 2), (.ref vc)])) (fun t k => ?_) ?_
   · refine XS.iinc X4.here hx rfl (hb hby d15_32) rfl (l' := #[rv vc, iv 2, rv db, iv 1, iv 4, iv 1, iv x1]) rfl ?_
     refine XS.iinc X4.here hx rfl (hb hby d15_35) rfl (l' := #[rv vc, iv 2, rv db, iv 2, iv 4, iv 1, iv x1]) rfl ?_
     refine XS.iinc X4.here hx rfl (hb hby d15_38) rfl (l' := #[rv vc, iv 2, rv db, iv 2, iv 4, iv 2, iv x1]) rfl ?_
     refine XS.goto X4.here hx rfl (pc0 := 41) (pc' := 3) rfl (hb hby d15_41) (by decide) (by decide) ?_
     refine XS.iload X4.here hx rfl (hb hby d15_3) rfl ?_
     refine XS.iload X4.here hx rfl (hb hby d15_5) rfl ?_
     show Steps p.tables e below (T4.setTop (mkF m 7 #[rv vc, iv 2, rv db, iv 2, iv 4, iv 2, iv x1] [(.int 4), (.int 2)])) _
     refine XS.icmpNo X4.here hx rfl (hb hby d15_7) rfl (tlt ((by decide) : (2 : Int32) < (4 : Int32))).2.1 ?_
     refine XS.aloadN X4.here hx rfl (hb hby d15_10) rfl rfl ?_
     refine XS.iloadN X4.here hx rfl (hb hby d15_11) rfl ?_
     exact k
   refine Go.cal X4 hx hZ e4 V_vc (hb hby d15_12) (v := (.int x2)) rfl ?_
   refine Go.step (S' := T4.setTop (mkF m 20 #[rv vc, iv 2, rv db, iv 2, iv 4, iv 2, iv x2] [(.int 255), (.int x2)])) (fun t k => ?_) ?_
   · refine XS.istore X4.here hx rfl (hb hby d15_13) rfl (l' := #[rv vc, iv 2, rv db, iv 2, iv 4, iv 2, iv x2]) rfl ?_
     refine XS.iload X4.here hx rfl (hb hby d15_15) rfl ?_
     refine XS.sipush X4.here hx rfl (hb hby d15_17) ?_
     exact k
   by_cases hc20_2 : (255 : Int32) < x2
   ·skip
    refine Go.step (S' := T4.setTop (mkF m 25 #[rv vc, iv 2, rv db, iv 2, iv 4, iv 2, iv x2] [(.int 2)])) (fun t k => ?_) ?_
    · refine XS.icmpNo X4.here hx rfl (hb hby d15_20) rfl (tlt (hc20_2 : (255 : Int32) < x2)).2.2.2 ?_
      refine XS.iload X4.here hx rfl (hb hby d15_23) rfl ?_
      exact k
    exact Go.rt X4 hx Bd (w := (.int 2)) rfl (Or.inl ⟨rfl, Or.inl rfl, _, rfl⟩) (hb hby d15_25) e4 ⟨(2 : Int32), rfl, N4, K, (by decide), (Or.inr (Or.inr (Or.inl ⟨rfl, hc20_2⟩)))⟩
   ·skip
    refine Go.step (S' := T4.setTop (mkF m 31 #[rv vc, iv 2, rv db, iv 2, iv 4, iv 2, iv x2] [(.int (x2.toInt8.toInt32)), (.int 2), (.ref db)])) (fun t k => ?_) ?_
    · refine XS.icmpYes X4.here hx rfl (pc0 := 20) (pc' := 26) rfl (hb hby d15_20) rfl (flt (hc20_2 : ¬ ((255 : Int32) < x2))).2.2.2 (by decide) (by decide) ?_
      refine XS.aloadN X4.here hx rfl (hb hby d15_26) rfl rfl ?_
      refine XS.iloadN X4.here hx rfl (hb hby d15_27) rfl ?_
      refine XS.iload X4.here hx rfl (hb hby d15_28) rfl ?_
      refine XS.i2b X4.here hx rfl (hb hby d15_30) rfl ?_
      exact k
    obtain ⟨cl6, Ar6, q6, S6, N6_, H6, G6⟩ := V_db
    have hin6 : ¬ ((2 : Int32) < 0 ∨ cl6.slots.size ≤ ((2 : Int32)).toNatClampNeg) := inb_of S6 ⟨by decide, by decide⟩
    obtain ⟨T6, h6, X6, e6, W6, st6⟩ := stB X4 hx hZ e4 Ar6 (j := (2 : Int32)) hin6 (g := (mkF m 31 #[rv vc, iv 2, rv db, iv 2, iv 4, iv 2, iv x2] [(.int (x2.toInt8.toInt32)), (.int 2), (.ref db)])) rfl rfl (hb hby d15_31)
    have O := O.wr W6 g_db
    have V_vc := V_vc.other W6 ne_vc_db
    have K := K.wr W6 (Or.inl (List.mem_of_getElem? (i := 0) rfl))
    have V_db : Arv Z h6 db kb .byte (4 : Int32) [(.int (x0.toInt8.toInt32)), (.int (x1.toInt8.toInt32)), (.int ((x2.toInt8.toInt32).toInt8.toInt32)), (.int 0)] (.int 0) := Arv.set Ar6 q6 S6 N6_ H6 G6 (fits_nar_byte _) W6 2 rfl (Nat.le_of_ble_eq_true rfl)
    rw [(own_b2 x2 : ((x2.toInt8.toInt32).toInt8.toInt32) = (x2.toInt8.toInt32))] at V_db
    have N6 := Fr.snoc X6 N4 g_db
    refine Go.step st6 ?_
    refine Go.step (S' := T6.setTop (mkF m 12 #[rv vc, iv 3, rv db, iv 3, iv 4, iv 3, iv x2] [(.int 3), (.ref vc)])) (fun t k => ?_) ?_
    · refine XS.iinc X6.here hx rfl (hb hby d15_32) rfl (l' := #[rv vc, iv 3, rv db, iv 2, iv 4, iv 2, iv x2]) rfl ?_
      refine XS.iinc X6.here hx rfl (hb hby d15_35) rfl (l' := #[rv vc, iv 3, rv db, iv 3, iv 4, iv 2, iv x2]) rfl ?_
      refine XS.iinc X6.here hx rfl (hb hby d15_38) rfl (l' := #[rv vc, iv 3, rv db, iv 3, iv 4, iv 3, iv x2]) rfl ?_
      refine XS.goto X6.here hx rfl (pc0 := 41) (pc' := 3) rfl (hb hby d15_41) (by decide) (by decide) ?_
      refine XS.iload X6.here hx rfl (hb hby d15_3) rfl ?_
      refine XS.iload X6.here hx rfl (hb hby d15_5) rfl ?_
      show Steps p.tables e below (T6.setTop (mkF m 7 #[rv vc, iv 3, rv db, iv 3, iv 4, iv 3, iv x2] [(.int 4), (.int 3)])) _
      refine XS.icmpNo X6.here hx rfl (hb hby d15_7) rfl (tlt ((by decide) : (3 : Int32) < (4 : Int32))).2.1 ?_
      refine XS.aloadN X6.here hx rfl (hb hby d15_10) rfl rfl ?_
      refine XS.iloadN X6.here hx rfl (hb hby d15_11) rfl ?_
      exact k
    refine Go.cal X6 hx hZ e6 V_vc (hb hby d15_12) (v := (.int x3)) rfl ?_
    refine Go.step (S' := T6.setTop (mkF m 20 #[rv vc, iv 3, rv db, iv 3, iv 4, iv 3, iv x3] [(.int 255), (.int x3)])) (fun t k => ?_) ?_
    · refine XS.istore X6.here hx rfl (hb hby d15_13) rfl (l' := #[rv vc, iv 3, rv db, iv 3, iv 4, iv 3, iv x3]) rfl ?_
      refine XS.iload X6.here hx rfl (hb hby d15_15) rfl ?_
      refine XS.sipush X6.here hx rfl (hb hby d15_17) ?_
      exact k
    by_cases hc20_3 : (255 : Int32) < x3
    ·skip
     refine Go.step (S' := T6.setTop (mkF m 25 #[rv vc, iv 3, rv db, iv 3, iv 4, iv 3, iv x3] [(.int 3)])) (fun t k => ?_) ?_
     · refine XS.icmpNo X6.here hx rfl (hb hby d15_20) rfl (tlt (hc20_3 : (255 : Int32) < x3)).2.2.2 ?_
       refine XS.iload X6.here hx rfl (hb hby d15_23) rfl ?_
       exact k
     exact Go.rt X6 hx Bd (w := (.int 3)) rfl (Or.inl ⟨rfl, Or.inl rfl, _, rfl⟩) (hb hby d15_25) e6 ⟨(3 : Int32), rfl, N6, K, (by decide), (Or.inr (Or.inr (Or.inr ⟨rfl, hc20_3⟩)))⟩
    ·skip
     exact (hu.elim hc20 (fun q => q.elim hc20_1 (fun q => q.elim hc20_2 hc20_3)) : False).elim
abbrev rm_rmCmU4 : Room := ({ frames := 3, cells := 2, slots := 12, locals := 40 } : Room)
def Q_rmCmU4 (Z : State) (vc : Addr) (kc : ClassId) (x0 : Int32) (x1 : Int32) (x2 : Int32) (x3 : Int32) (h0 : Heap) (n0 : Nat) (v : Option Value) (h : Heap) (L : List Loc) : Prop := ∃ b : Addr, ∃ kb : ClassId, (v = some (.ref b)) ∧ (Fr n0 L) ∧ (Keep h0 h []) ∧ (Arv Z h b kb .byte (8 : Int32) [(.int (own_lo x0)), (.int (own_hi x0)), (.int (own_lo x1)), (.int (own_hi x1)), (.int (own_lo x2)), (.int (own_hi x2)), (.int (own_lo x3)), (.int (own_hi x3))] (.int 0))
theorem rmCmU4 (l : Launch) (Z : State) (a0 : Array Value) (hw : HW a0 Z) (ws : List Jvm.Cond) (vc : Addr) (kc : ClassId) (x0 : Int32) (x1 : Int32) (x2 : Int32) (x3 : Int32) (h0 : Heap) (n0 : Nat) (O : Old Z n0 h0) (S_AD : Sa_1 Z (.int 1)) (S_HI : Sa_2 Z (.int 0)) (S_LO : Sa_3 Z (.int 8)) (V_vc : Arv Z h0 vc kc .char (4 : Int32) [(.int x0), (.int x1), (.int x2), (.int x3)] (.int 0)) (hu : ((255 : Int32) < x0) ∨ ((255 : Int32) < x1) ∨ ((255 : Int32) < x2) ∨ ((255 : Int32) < x3)) (rax0 : ¬ (x0 < (0 : Int32))) (rbx0 : ¬ ((65535 : Int32) < x0)) (rax1 : ¬ (x1 < (0 : Int32))) (rbx1 : ¬ ((65535 : Int32) < x1)) (rax2 : ¬ (x2 < (0 : Int32))) (rbx2 : ¬ ((65535 : Int32) < x2)) (rax3 : ¬ (x3 < (0 : Int32))) (rbx3 : ¬ ((65535 : Int32) < x3)) :
    Mt l Z y_1 jdk_52_method_16_code 6 (some (.array .byte)) ws rm_rmCmU4 #[(.ref vc), (.int 0), (.int 4)] h0 (Q_rmCmU4 Z vc kc x0 x1 x2 x3 h0 n0) := by
 refine own_met "java/lang/StringUTF16" (plainFor_of_name pn_java_lang_StringUTF16) #[rv vc, iv 0, iv 4, u_, u_, u_] (fun m => rfl) (fun p e s m below meth c s₁ Bd hx hby hml hZ hown hnm X0 e0 => ?_)
 have N0 := Fr.nil n0
 have K := Keep.refl h0 []
 refine Go.step (S' := s₁.setTop (mkF m 1 #[rv vc, iv 0, iv 4, u_, u_, u_] [(.int 4)])) (fun t k => ?_) ?_
 · refine XS.iloadN X0.here hx rfl (hb hby d14_0) rfl ?_
   exact k
 obtain ⟨T1, h1, k1, X1, e1, E1, A1, st1⟩ := newP X0 hx hZ (own_w hw 17 rfl) e0 (g := (mkF m 1 #[rv vc, iv 0, iv 4, u_, u_, u_] [(.int 4)])) rfl (hb hby d14_1) rfl (by decide) (cap := 4) (by decide) (by decide) (by decide) (by decide)
 obtain ⟨b1, g1⟩ : ∃ z, z = Array.size h0 := ⟨_, rfl⟩
 have g_b1 : n0 ≤ b1 := Nat.le_trans (old_le O) (Nat.le_of_eq g1.symm)
 have sz_b1 : h0.size ≤ b1 := Nat.le_trans K.1 (Nat.le_of_eq g1.symm)
 have ne_vc_b1 : vc ≠ b1 := Nat.ne_of_lt (Nat.lt_of_lt_of_le V_vc.lt (Nat.le_of_eq g1.symm))
 rw [← g1] at A1 st1
 have O := O.ext E1
 have V_vc := V_vc.ext E1
 have K := K.ext E1
 have V_b1 : Arv Z h1 b1 k1 .byte (4 : Int32) [(.int 0), (.int 0), (.int 0), (.int 0)] (.int 0) := (Arv.new A1 (by decide)).pad (pad_rep [] (.int 0) 4)
 refine Go.step st1 ?_
 refine Go.step (S' := T1.setTop (mkF m 9 #[rv vc, iv 0, iv 4, rv b1, u_, u_] [(.int 4), (.int 0), (.ref b1), (.int 0), (.ref vc)])) (fun t k => ?_) ?_
 · refine XS.astoreN X1.here hx rfl (hb hby d14_3) rfl rfl (l' := #[rv vc, iv 0, iv 4, rv b1, u_, u_]) rfl ?_
   refine XS.aloadN X1.here hx rfl (hb hby d14_4) rfl rfl ?_
   refine XS.iloadN X1.here hx rfl (hb hby d14_5) rfl ?_
   refine XS.aloadN X1.here hx rfl (hb hby d14_6) rfl rfl ?_
   refine XS.iconst X1.here hx rfl (hb hby d14_7) ?_
   refine XS.iloadN X1.here hx rfl (hb hby d14_8) rfl ?_
   exact k
 refine Go.cS X1 hx hml hown hZ (own_w hw 72 rfl) (own_w hw 73 rfl) (own_w hw 70 rfl) (own_w hw 74 rfl) (rmClU4 l Z a0 hw [] vc b1 kc k1 x0 x1 x2 x3 h1 n0 O V_vc V_b1 (by assumption) ne_vc_b1 hu) 0 [] pd__28_5bCI_5bBII_29I (hb hby d14_9) e1 (fun _ T2 L2 X2 hQ2 => ?_)
 obtain ⟨r_2, rfl, Nq2, K2, kn_2, kr_2⟩ := hQ2
 have N2 := Fr.app N0 Nq2
 have O := O.keep K2 (allS g_b1 all0)
 have V_vc := V_vc.keep K2 (ninS ne_vc_b1 nin0)
 have K := K.trans K2 (allS (Or.inr sz_b1) all0)
 refine Go.step (S' := T2.setTop (mkF m 23 #[rv vc, iv 0, iv 4, rv b1, iv r_2, u_] [(.int 4), (.int 0), (.ref vc)])) (fun t k => ?_) ?_
 · refine XS.istore X2.here hx rfl (hb hby d14_12) rfl (l' := #[rv vc, iv 0, iv 4, rv b1, iv r_2, u_]) rfl ?_
   refine XS.iload X2.here hx rfl (hb hby d14_14) rfl ?_
   refine XS.iloadN X2.here hx rfl (hb hby d14_16) rfl ?_
   refine XS.icmpNo X2.here hx rfl (hb hby d14_17) rfl (feq (kn_2 : ¬ (r_2 = (4 : Int32)))).1 ?_
   refine XS.aloadN X2.here hx rfl (hb hby d14_20) rfl rfl ?_
   refine XS.iloadN X2.here hx rfl (hb hby d14_21) rfl ?_
   show Steps p.tables e below (T2.setTop (mkF m 22 #[rv vc, iv 0, iv 4, rv b1, iv r_2, u_] [(.int 0), (.ref vc)])) _
   refine XS.iloadN X2.here hx rfl (hb hby d14_22) rfl ?_
   exact k
 refine Go.cS X2 hx hml hown hZ (own_w hw 81 rfl) (own_w hw 82 rfl) (own_w hw 70 rfl) (own_w hw 83 rfl) (rmTo4 l Z a0 hw [] vc kc x0 x1 x2 x3 T2.heap n0 O S_AD S_HI S_LO V_vc) 0 [] pd__28_5bCII_29_5bB (hb hby d14_23) (Eq.refl T2.heap) (fun _ T3 L3 X3 hQ3 => ?_)
 obtain ⟨b_3, kb_3, rfl, Nq3, K3, P3_V⟩ := hQ3
 have N3 := Fr.app N2 Nq3
 have O := O.keep K3 all0
 have V_vc := V_vc.keep K3 nin0
 have K := K.trans K3 all0
 have V_3 := P3_V
 refine Go.step (S' := T3.setTop (mkF m 28 #[rv vc, iv 0, iv 4, rv b1, iv r_2, rv b_3] [])) (fun t k => ?_) ?_
 · refine XS.astore X3.here hx rfl (hb hby d14_26) rfl rfl (l' := #[rv vc, iv 0, iv 4, rv b1, iv r_2, rv b_3]) rfl ?_
   exact k
 rcases kr_2 with ⟨rfl, hf⟩ | ⟨rfl, hf⟩ | ⟨rfl, hf⟩ | ⟨rfl, hf⟩
 ·skip
  refine Go.step (S' := T3.setTop (mkF m 32 #[rv vc, iv 0, iv 4, rv b1, iv 0, rv b_3] [(.int 0), (.ref b_3)])) (fun t k => ?_) ?_
  · refine XS.aload X3.here hx rfl (hb hby d14_28) rfl rfl ?_
    refine XS.iload X3.here hx rfl (hb hby d14_30) rfl ?_
    exact k
  refine Go.cS X3 hx hml hown hZ (own_w hw 97 rfl) (own_w hw 98 rfl) (own_w hw 70 rfl) (own_w hw 99 rfl) (rmGC4_0 l Z a0 hw [] b_3 kb_3 x0 x1 x2 x3 T3.heap n0 O S_AD S_HI S_LO V_3 rax0 rbx0) 0 [] pd__28_5bBI_29C (hb hby d14_32) (Eq.refl T3.heap) (fun _ T4 L4 X4 hQ4 => ?_)
  obtain ⟨rfl, Nq4, e4⟩ := hQ4
  have N4 := Fr.app N3 Nq4
  refine Go.step (S' := T4.setTop (mkF m 56 #[rv vc, iv 0, iv 4, rv b1, iv 0, rv b_3] [(.ref b_3)])) (fun t k => ?_) ?_
  · refine XS.sipush X4.here hx rfl (hb hby d14_35) ?_
    refine XS.icmpYes X4.here hx rfl (pc0 := 38) (pc' := 54) rfl (hb hby d14_38) rfl (tlt (hf : (255 : Int32) < x0)).2.2.1 (by decide) (by decide) ?_
    refine XS.aload X4.here hx rfl (hb hby d14_54) rfl rfl ?_
    exact k
  exact Go.rt X4 hx Bd (w := (.ref b_3)) rfl (Or.inr (Or.inr (Or.inr (Or.inr ⟨rfl, rfl, rfl⟩)))) (hb hby d14_56) e4 ⟨b_3, kb_3, rfl, N4, K, V_3⟩
 ·skip
  refine Go.step (S' := T3.setTop (mkF m 32 #[rv vc, iv 0, iv 4, rv b1, iv 1, rv b_3] [(.int 1), (.ref b_3)])) (fun t k => ?_) ?_
  · refine XS.aload X3.here hx rfl (hb hby d14_28) rfl rfl ?_
    refine XS.iload X3.here hx rfl (hb hby d14_30) rfl ?_
    exact k
  refine Go.cS X3 hx hml hown hZ (own_w hw 97 rfl) (own_w hw 98 rfl) (own_w hw 70 rfl) (own_w hw 99 rfl) (rmGC4_1 l Z a0 hw [] b_3 kb_3 x0 x1 x2 x3 T3.heap n0 O S_AD S_HI S_LO V_3 rax1 rbx1) 0 [] pd__28_5bBI_29C (hb hby d14_32) (Eq.refl T3.heap) (fun _ T5 L5 X5 hQ5 => ?_)
  obtain ⟨rfl, Nq5, e5⟩ := hQ5
  have N5 := Fr.app N3 Nq5
  refine Go.step (S' := T5.setTop (mkF m 56 #[rv vc, iv 0, iv 4, rv b1, iv 1, rv b_3] [(.ref b_3)])) (fun t k => ?_) ?_
  · refine XS.sipush X5.here hx rfl (hb hby d14_35) ?_
    refine XS.icmpYes X5.here hx rfl (pc0 := 38) (pc' := 54) rfl (hb hby d14_38) rfl (tlt (hf : (255 : Int32) < x1)).2.2.1 (by decide) (by decide) ?_
    refine XS.aload X5.here hx rfl (hb hby d14_54) rfl rfl ?_
    exact k
  exact Go.rt X5 hx Bd (w := (.ref b_3)) rfl (Or.inr (Or.inr (Or.inr (Or.inr ⟨rfl, rfl, rfl⟩)))) (hb hby d14_56) e5 ⟨b_3, kb_3, rfl, N5, K, V_3⟩
 ·skip
  refine Go.step (S' := T3.setTop (mkF m 32 #[rv vc, iv 0, iv 4, rv b1, iv 2, rv b_3] [(.int 2), (.ref b_3)])) (fun t k => ?_) ?_
  · refine XS.aload X3.here hx rfl (hb hby d14_28) rfl rfl ?_
    refine XS.iload X3.here hx rfl (hb hby d14_30) rfl ?_
    exact k
  refine Go.cS X3 hx hml hown hZ (own_w hw 97 rfl) (own_w hw 98 rfl) (own_w hw 70 rfl) (own_w hw 99 rfl) (rmGC4_2 l Z a0 hw [] b_3 kb_3 x0 x1 x2 x3 T3.heap n0 O S_AD S_HI S_LO V_3 rax2 rbx2) 0 [] pd__28_5bBI_29C (hb hby d14_32) (Eq.refl T3.heap) (fun _ T6 L6 X6 hQ6 => ?_)
  obtain ⟨rfl, Nq6, e6⟩ := hQ6
  have N6 := Fr.app N3 Nq6
  refine Go.step (S' := T6.setTop (mkF m 56 #[rv vc, iv 0, iv 4, rv b1, iv 2, rv b_3] [(.ref b_3)])) (fun t k => ?_) ?_
  · refine XS.sipush X6.here hx rfl (hb hby d14_35) ?_
    refine XS.icmpYes X6.here hx rfl (pc0 := 38) (pc' := 54) rfl (hb hby d14_38) rfl (tlt (hf : (255 : Int32) < x2)).2.2.1 (by decide) (by decide) ?_
    refine XS.aload X6.here hx rfl (hb hby d14_54) rfl rfl ?_
    exact k
  exact Go.rt X6 hx Bd (w := (.ref b_3)) rfl (Or.inr (Or.inr (Or.inr (Or.inr ⟨rfl, rfl, rfl⟩)))) (hb hby d14_56) e6 ⟨b_3, kb_3, rfl, N6, K, V_3⟩
 ·skip
  refine Go.step (S' := T3.setTop (mkF m 32 #[rv vc, iv 0, iv 4, rv b1, iv 3, rv b_3] [(.int 3), (.ref b_3)])) (fun t k => ?_) ?_
  · refine XS.aload X3.here hx rfl (hb hby d14_28) rfl rfl ?_
    refine XS.iload X3.here hx rfl (hb hby d14_30) rfl ?_
    exact k
  refine Go.cS X3 hx hml hown hZ (own_w hw 97 rfl) (own_w hw 98 rfl) (own_w hw 70 rfl) (own_w hw 99 rfl) (rmGC4_3 l Z a0 hw [] b_3 kb_3 x0 x1 x2 x3 T3.heap n0 O S_AD S_HI S_LO V_3 rax3 rbx3) 0 [] pd__28_5bBI_29C (hb hby d14_32) (Eq.refl T3.heap) (fun _ T7 L7 X7 hQ7 => ?_)
  obtain ⟨rfl, Nq7, e7⟩ := hQ7
  have N7 := Fr.app N3 Nq7
  refine Go.step (S' := T7.setTop (mkF m 56 #[rv vc, iv 0, iv 4, rv b1, iv 3, rv b_3] [(.ref b_3)])) (fun t k => ?_) ?_
  · refine XS.sipush X7.here hx rfl (hb hby d14_35) ?_
    refine XS.icmpYes X7.here hx rfl (pc0 := 38) (pc' := 54) rfl (hb hby d14_38) rfl (tlt (hf : (255 : Int32) < x3)).2.2.1 (by decide) (by decide) ?_
    refine XS.aload X7.here hx rfl (hb hby d14_54) rfl rfl ?_
    exact k
  exact Go.rt X7 hx Bd (w := (.ref b_3)) rfl (Or.inr (Or.inr (Or.inr (Or.inr ⟨rfl, rfl, rfl⟩)))) (hb hby d14_56) e7 ⟨b_3, kb_3, rfl, N7, K, V_3⟩
abbrev rm_rmNU4_4 : Room := ({ frames := 4, cells := 2, slots := 12, locals := 57 } : Room)
def Q_rmNU4_4 (Z : State) (so : Addr) (vc : Addr) (kc : ClassId) (cs : Int32) (x0 : Int32) (x1 : Int32) (x2 : Int32) (x3 : Int32) (h0 : Heap) (n0 : Nat) (v : Option Value) (h : Heap) (L : List Loc) : Prop := ∃ tb : Addr, ∃ kb : ClassId, (v = none) ∧ (Fr n0 L) ∧ (Keep h0 h [so]) ∧ (Exa Z h so "java/lang/String") ∧ (Fd_5 Z h so (.ref tb)) ∧ (Fd_6 Z h so (.int 1)) ∧ (Arv Z h tb kb .byte (8 : Int32) [(.int (own_lo x0)), (.int (own_hi x0)), (.int (own_lo x1)), (.int (own_hi x1)), (.int (own_lo x2)), (.int (own_hi x2)), (.int (own_lo x3)), (.int (own_hi x3))] (.int 0))
theorem rmNU4_4 (l : Launch) (Z : State) (a0 : Array Value) (hw : HW a0 Z) (ws : List Jvm.Cond) (so : Addr) (vc : Addr) (kc : ClassId) (cs : Int32) (x0 : Int32) (x1 : Int32) (x2 : Int32) (x3 : Int32) (h0 : Heap) (n0 : Nat) (O : Old Z n0 h0) (S_CS : Sa_0 Z (.int cs)) (S_AD : Sa_1 Z (.int 1)) (S_HI : Sa_2 Z (.int 0)) (S_LO : Sa_3 Z (.int 8)) (E_so : Exa Z h0 so "java/lang/String") (F_v : Fd_5 Z h0 so .null) (F_c : Fd_6 Z h0 so (.int 0)) (V_vc : Arv Z h0 vc kc .char (4 : Int32) [(.int x0), (.int x1), (.int x2), (.int x3)] (.int 0)) (g_so : n0 ≤ so) (hcs : ¬ (cs = (0 : Int32))) (hu : ((255 : Int32) < x0) ∨ ((255 : Int32) < x1) ∨ ((255 : Int32) < x2) ∨ ((255 : Int32) < x3)) (rax0 : ¬ (x0 < (0 : Int32))) (rbx0 : ¬ ((65535 : Int32) < x0)) (rax1 : ¬ (x1 < (0 : Int32))) (rbx1 : ¬ ((65535 : Int32) < x1)) (rax2 : ¬ (x2 < (0 : Int32))) (rbx2 : ¬ ((65535 : Int32) < x2)) (rax3 : ¬ (x3 < (0 : Int32))) (rbx3 : ¬ ((65535 : Int32) < x3)) :
    Mt l Z y_3 jdk_42_method_149_code 6 none ws rm_rmNU4_4 #[(.ref so), (.ref vc), (.int 0), (.int 4), .null] h0 (Q_rmNU4_4 Z so vc kc cs x0 x1 x2 x3 h0 n0) := by
 refine own_met "java/lang/String" (plainFor_of_name pn_java_lang_String) #[rv so, rv vc, iv 0, iv 4, .val .null, u_] (fun m => rfl) (fun p e s m below meth c s₁ Bd hx hby hml hZ hown hnm X0 e0 => ?_)
 have N0 := Fr.nil n0
 have K := Keep.refl h0 [so]
 refine Go.step (S' := s₁.setTop (mkF m 1 #[rv so, rv vc, iv 0, iv 4, .val .null, u_] [(.ref so)])) (fun t k => ?_) ?_
 · refine XS.aloadN X0.here hx rfl (hb hby d2_0) rfl rfl ?_
   exact k
 obtain ⟨T1, X1, e1, st1⟩ := initO X0 hx hZ hown (own_w hw 13 rfl) (own_w hw 14 rfl) (own_w hw 15 rfl) e0 (g := (mkF m 1 #[rv so, rv vc, iv 0, iv 4, .val .null, u_] [(.ref so)])) rfl (by rw [hml]; rfl) rfl (hb hby d2_1) (by decide) (W := 0) (by show 2 * 0 + _ ≤ _; exact Nat.le_of_eq rfl) (by decide)
 refine Go.step st1 ?_
 refine Go.step (S' := T1.setTop (mkF m 27 #[rv so, rv vc, iv 0, iv 4, .val .null, u_] [])) (fun t k => ?_) ?_
 · refine XS.iloadN X1.here hx rfl (hb hby d2_4) rfl ?_
   refine XS.ifYes X1.here hx rfl (pc0 := 5) (pc' := 27) rfl (hb hby d2_5) rfl ((if0 _ _).trans (feq ((by decide) : ¬ ((4 : Int32) = (0 : Int32)))).2) (by decide) (by decide) ?_
   exact k
 refine Go.gS X1 hx hZ hown (host := "") (Or.inl (own_w hw 43 rfl)) Via.refl e1 (S_CS.ext O.2) (hb hby d2_27) (fun T2 X2 e2 => ?_)
 refine Go.step (S' := T2.setTop (mkF m 36 #[rv so, rv vc, iv 0, iv 4, .val .null, u_] [(.int 4), (.int 0), (.ref vc)])) (fun t k => ?_) ?_
 · refine XS.ifNo X2.here hx rfl (hb hby d2_30) rfl ((if0 _ _).trans (feq (hcs : ¬ (cs = (0 : Int32)))).1) ?_
   refine XS.aloadN X2.here hx rfl (hb hby d2_33) rfl rfl ?_
   refine XS.iloadN X2.here hx rfl (hb hby d2_34) rfl ?_
   refine XS.iloadN X2.here hx rfl (hb hby d2_35) rfl ?_
   exact k
 refine Go.cS X2 hx hml hown hZ (own_w hw 68 rfl) (own_w hw 69 rfl) (own_w hw 70 rfl) (own_w hw 71 rfl) (rmCmU4 l Z a0 hw [] vc kc x0 x1 x2 x3 h0 n0 O S_AD S_HI S_LO V_vc hu rax0 rbx0 rax1 rbx1 rax2 rbx2 rax3 rbx3) 0 [] pd__28_5bCII_29_5bB (hb hby d2_36) e2 (fun _ T3 L3 X3 hQ3 => ?_)
 obtain ⟨b_3, kb_3, rfl, Nq3, K3, P3_V⟩ := hQ3
 have N3 := Fr.app N0 Nq3
 have O := O.keep K3 all0
 have E_so := E_so.keep K3
 have F_v := F_v.keep K3 nin0
 have F_c := F_c.keep K3 nin0
 have V_vc := V_vc.keep K3 nin0
 have K := K.trans K3 all0
 have V_3 := P3_V
 refine Go.step (S' := T3.setTop (mkF m 45 #[rv so, rv vc, iv 0, iv 4, .val .null, rv b_3] [(.int 4), (.ref b_3), (.ref so)])) (fun t k => ?_) ?_
 · refine XS.astore X3.here hx rfl (hb hby d2_39) rfl rfl (l' := #[rv so, rv vc, iv 0, iv 4, .val .null, rv b_3]) rfl ?_
   refine XS.aloadN X3.here hx rfl (hb hby d2_41) rfl rfl ?_
   refine XS.aload X3.here hx rfl (hb hby d2_42) rfl rfl ?_
   refine XS.iloadN X3.here hx rfl (hb hby d2_44) rfl ?_
   exact k
 refine Go.cS X3 hx hml hown hZ (own_w hw 75 rfl) (own_w hw 76 rfl) (own_w hw 70 rfl) (own_w hw 77 rfl) (rmCfu4 l Z a0 hw [] b_3 kb_3 x0 x1 x2 x3 T3.heap n0 O V_3) 1 [(.ref so)] pd__28_5bBI_29B (hb hby d2_45) (Eq.refl T3.heap) (fun _ T4 L4 X4 hQ4 => ?_)
 obtain ⟨rfl, Nq4, e4⟩ := hQ4
 have N4 := Fr.app N3 Nq4
 obtain ⟨T5, h5, X5, e5, W5, st5⟩ := putFN X4 hx hZ hown (own_w hw 23 rfl) Via.refl e4 F_c E_so (Or.inr ⟨(own_w hw 19 rfl), rfl, hnm⟩) (own_w hw 4 rfl) (ty := .byte) (v' := (.int 1)) (by decide) rfl rfl (g := (mkF m 48 #[rv so, rv vc, iv 0, iv 4, .val .null, rv b_3] [(.int 1), (.ref so)])) rfl rfl (hb hby d2_48)
 have ne_vc_so : vc ≠ so := Ne.symm (Exa.neArv E_so V_vc (own_w hw 4 rfl))
 have ne_b_3_so : b_3 ≠ so := Ne.symm (Exa.neArv E_so V_3 (own_w hw 4 rfl))
 have O := O.wr W5 g_so
 have E_so := E_so.wr W5
 have F_v := F_v.other W5 (Or.inr (slot_ne (Or.inr (own_w hw 18 rfl)) (Or.inr (own_w hw 19 rfl)) (by decide) (t := (.array .byte)) (t' := .byte) (by decide) (by decide)))
 have F_c := F_c.same W5
 have V_vc := V_vc.other W5 ne_vc_so
 have K := K.wr W5 (Or.inl (List.mem_of_getElem? (i := 0) rfl))
 have V_3 := V_3.other W5 ne_b_3_so
 have N5 := Fr.snoc X5 N4 g_so
 refine Go.step st5 ?_
 refine Go.step (S' := T5.setTop (mkF m 54 #[rv so, rv vc, iv 0, iv 4, .val .null, rv b_3] [(.ref b_3), (.ref so)])) (fun t k => ?_) ?_
 · refine XS.aloadN X5.here hx rfl (hb hby d2_51) rfl rfl ?_
   refine XS.aload X5.here hx rfl (hb hby d2_52) rfl rfl ?_
   exact k
 obtain ⟨T6, h6, X6, e6, W6, st6⟩ := putF X5 hx hZ hown (host := "") (Or.inl (own_w hw 22 rfl)) Via.refl e5 F_v E_so (Or.inr ⟨(own_w hw 18 rfl), rfl, hnm⟩) (own_w hw 4 rfl) (ty := (.array .byte)) (by decide) rfl rfl (g := (mkF m 54 #[rv so, rv vc, iv 0, iv 4, .val .null, rv b_3] [(.ref b_3), (.ref so)])) rfl rfl (hb hby d2_54)
 have O := O.wr W6 g_so
 have E_so := E_so.wr W6
 have F_v := F_v.same W6
 have F_c := F_c.other W6 (Or.inr (slot_ne (Or.inr (own_w hw 19 rfl)) (Or.inr (own_w hw 18 rfl)) (by decide) (t := .byte) (t' := (.array .byte)) (by decide) (by decide)))
 have V_vc := V_vc.other W6 ne_vc_so
 have K := K.wr W6 (Or.inl (List.mem_of_getElem? (i := 0) rfl))
 have V_3 := V_3.other W6 ne_b_3_so
 have N6 := Fr.snoc X6 N5 g_so
 refine Go.step st6 ?_
 exact Go.rv X6 hx Bd (hb hby d2_57) e6 ⟨b_3, kb_3, rfl, N6, K, E_so, F_v, F_c, V_3⟩
abbrev rm_rmNSU4 : Room := ({ frames := 5, cells := 2, slots := 12, locals := 74 } : Room)
def Q_rmNSU4 (Z : State) (so : Addr) (vc : Addr) (kc : ClassId) (cs : Int32) (x0 : Int32) (x1 : Int32) (x2 : Int32) (x3 : Int32) (h0 : Heap) (n0 : Nat) (v : Option Value) (h : Heap) (L : List Loc) : Prop := ∃ tb : Addr, ∃ kb : ClassId, (v = none) ∧ (Fr n0 L) ∧ (Keep h0 h [so]) ∧ (Exa Z h so "java/lang/String") ∧ (Fd_5 Z h so (.ref tb)) ∧ (Fd_6 Z h so (.int 1)) ∧ (Arv Z h tb kb .byte (8 : Int32) [(.int (own_lo x0)), (.int (own_hi x0)), (.int (own_lo x1)), (.int (own_hi x1)), (.int (own_lo x2)), (.int (own_hi x2)), (.int (own_lo x3)), (.int (own_hi x3))] (.int 0))
theorem rmNSU4 (l : Launch) (Z : State) (a0 : Array Value) (hw : HW a0 Z) (ws : List Jvm.Cond) (so : Addr) (vc : Addr) (kc : ClassId) (cs : Int32) (x0 : Int32) (x1 : Int32) (x2 : Int32) (x3 : Int32) (h0 : Heap) (n0 : Nat) (O : Old Z n0 h0) (S_CS : Sa_0 Z (.int cs)) (S_AD : Sa_1 Z (.int 1)) (S_HI : Sa_2 Z (.int 0)) (S_LO : Sa_3 Z (.int 8)) (E_so : Exa Z h0 so "java/lang/String") (F_v : Fd_5 Z h0 so .null) (F_c : Fd_6 Z h0 so (.int 0)) (V_vc : Arv Z h0 vc kc .char (4 : Int32) [(.int x0), (.int x1), (.int x2), (.int x3)] (.int 0)) (g_so : n0 ≤ so) (hcs : ¬ (cs = (0 : Int32))) (hu : ((255 : Int32) < x0) ∨ ((255 : Int32) < x1) ∨ ((255 : Int32) < x2) ∨ ((255 : Int32) < x3)) (rax0 : ¬ (x0 < (0 : Int32))) (rbx0 : ¬ ((65535 : Int32) < x0)) (rax1 : ¬ (x1 < (0 : Int32))) (rbx1 : ¬ ((65535 : Int32) < x1)) (rax2 : ¬ (x2 < (0 : Int32))) (rbx2 : ¬ ((65535 : Int32) < x2)) (rax3 : ¬ (x3 < (0 : Int32))) (rbx3 : ¬ ((65535 : Int32) < x3)) :
    Mt l Z y_4 jdk_42_method_3_code 2 none ws rm_rmNSU4 #[(.ref so), (.ref vc)] h0 (Q_rmNSU4 Z so vc kc cs x0 x1 x2 x3 h0 n0) := by
 refine own_met "java/lang/String" (plainFor_of_name pn_java_lang_String) #[rv so, rv vc] (fun m => rfl) (fun p e s m below meth c s₁ Bd hx hby hml hZ hown hnm X0 e0 => ?_)
 have N0 := Fr.nil n0
 have K := Keep.refl h0 [so]
 refine Go.step (S' := s₁.setTop (mkF m 4 #[rv so, rv vc] [(.ref vc), (.int 0), (.ref vc), (.ref so)])) (fun t k => ?_) ?_
 · refine XS.aloadN X0.here hx rfl (hb hby d1_0) rfl rfl ?_
   refine XS.aloadN X0.here hx rfl (hb hby d1_1) rfl rfl ?_
   refine XS.iconst X0.here hx rfl (hb hby d1_2) ?_
   refine XS.aloadN X0.here hx rfl (hb hby d1_3) rfl rfl ?_
   exact k
 refine Go.len X0 hx hZ e0 V_vc (hb hby d1_4) ?_
 refine Go.step (S' := s₁.setTop (mkF m 6 #[rv so, rv vc] [.null, (.int 4), (.int 0), (.ref vc), (.ref so)])) (fun t k => ?_) ?_
 · refine XS.aconstNull X0.here hx rfl (hb hby d1_5) ?_
   exact k
 refine Go.cI X0 hx hml hown hZ (own_w hw 9 rfl) (own_w hw 10 rfl) (own_w hw 5 rfl) (own_w hw 12 rfl) (rmNU4_4 l Z a0 hw [] so vc kc cs x0 x1 x2 x3 h0 n0 O S_CS S_AD S_HI S_LO E_so F_v F_c V_vc (by assumption) hcs hu rax0 rbx0 rax1 rbx1 rax2 rbx2 rax3 rbx3) 0 [] pd__28_5bCIILjava_2flang_2fVoid_3b_29V (hb hby d1_6) e0 (fun _ T1 L1 X1 hQ1 => ?_)
 obtain ⟨tb_1, kb_1, rfl, Nq1, K1, P1_E, P1_Fv, P1_Fc, P1_V⟩ := hQ1
 have N1 := Fr.app N0 Nq1
 have ne_vc_so : vc ≠ so := Ne.symm (Exa.neArv E_so V_vc (own_w hw 4 rfl))
 have O := O.keep K1 (allS g_so all0)
 have E_so := E_so.keep K1
 have V_vc := V_vc.keep K1 (ninS ne_vc_so nin0)
 have K := K.trans K1 (allS (Or.inl (List.mem_of_getElem? (i := 0) rfl)) all0)
 have E_1 := P1_E
 have Fv_1 := P1_Fv
 have Fc_1 := P1_Fc
 have V_1 := P1_V
 exact Go.rv X1 hx Bd (hb hby d1_9) (Eq.refl T1.heap) ⟨tb_1, kb_1, rfl, N1, K, E_so, Fv_1, Fc_1, V_1⟩
abbrev rm_rmUL4 : Room := ({ frames := 0, cells := 0, slots := 0, locals := 0 } : Room)
def Q_rmUL4 (Z : State) (ub : Addr) (ku : ClassId) (x0 : Int32) (x1 : Int32) (x2 : Int32) (x3 : Int32) (h0 : Heap) (n0 : Nat) (v : Option Value) (h : Heap) (L : List Loc) : Prop := (v = some (.int 4)) ∧ (Fr n0 L) ∧ (h = h0)
theorem rmUL4 (l : Launch) (Z : State) (a0 : Array Value) (hw : HW a0 Z) (ws : List Jvm.Cond) (ub : Addr) (ku : ClassId) (x0 : Int32) (x1 : Int32) (x2 : Int32) (x3 : Int32) (h0 : Heap) (n0 : Nat) (O : Old Z n0 h0) (V_ub : Arv Z h0 ub ku .byte (8 : Int32) [(.int (own_lo x0)), (.int (own_hi x0)), (.int (own_lo x1)), (.int (own_hi x1)), (.int (own_lo x2)), (.int (own_hi x2)), (.int (own_lo x3)), (.int (own_hi x3))] (.int 0)) :
    Mt l Z y_15 jdk_52_method_6_code 1 (some .int) ws rm_rmUL4 #[(.ref ub)] h0 (Q_rmUL4 Z ub ku x0 x1 x2 x3 h0 n0) := by
 refine own_met "java/lang/StringUTF16" (plainFor_of_name pn_java_lang_StringUTF16) #[rv ub] (fun m => rfl) (fun p e s m below meth c s₁ Bd hx hby hml hZ hown hnm X0 e0 => ?_)
 have N0 := Fr.nil n0
 refine Go.step (S' := s₁.setTop (mkF m 1 #[rv ub] [(.ref ub)])) (fun t k => ?_) ?_
 · refine XS.aloadN X0.here hx rfl (hb hby d26_0) rfl rfl ?_
   exact k
 refine Go.len X0 hx hZ e0 V_ub (hb hby d26_1) ?_
 refine Go.step (S' := s₁.setTop (mkF m 4 #[rv ub] [(.int 4)])) (fun t k => ?_) ?_
 · refine XS.iconst X0.here hx rfl (hb hby d26_2) ?_
   refine XS.ishr X0.here hx rfl (hb hby d26_3) rfl ?_
   exact k
 exact Go.rt X0 hx Bd (w := (.int 4)) rfl (Or.inl ⟨rfl, Or.inl rfl, _, rfl⟩) (hb hby d26_4) e0 ⟨rfl, N0, rfl⟩
abbrev rm_rmFn4 : Room := ({ frames := 0, cells := 0, slots := 0, locals := 0 } : Room)
def Q_rmFn4 (Z : State)  (h0 : Heap) (n0 : Nat) (v : Option Value) (h : Heap) (L : List Loc) : Prop := (v = some (.int 0)) ∧ (Fr n0 L) ∧ (h = h0)
theorem rmFn4 (l : Launch) (Z : State) (a0 : Array Value) (hw : HW a0 Z) (ws : List Jvm.Cond)  (h0 : Heap) (n0 : Nat) (O : Old Z n0 h0) :
    Mt l Z y_16 jdk_41_method_12_code 4 (some .int) ws rm_rmFn4 #[(.int 0), (.int 4), (.int 4), .null] h0 (Q_rmFn4 Z  h0 n0) := by
 refine own_met "jdk/internal/util/Preconditions" (plainFor_of_name pn_jdk_internal_util_Preconditions) #[iv 0, iv 4, iv 4, .val .null] (fun m => rfl) (fun p e s m below meth c s₁ Bd hx hby hml hZ hown hnm X0 e0 => ?_)
 have N0 := Fr.nil n0
 refine Go.step (S' := s₁.setTop (mkF m 23 #[iv 0, iv 4, iv 4, .val .null] [(.int 0)])) (fun t k => ?_) ?_
 · refine XS.iloadN X0.here hx rfl (hb hby d28_0) rfl ?_
   refine XS.ifNo X0.here hx rfl (hb hby d28_1) rfl ((if0 _ _).trans (flt ((by decide) : ¬ ((0 : Int32) < (0 : Int32)))).1) ?_
   refine XS.iloadN X0.here hx rfl (hb hby d28_4) rfl ?_
   refine XS.iloadN X0.here hx rfl (hb hby d28_5) rfl ?_
   refine XS.icmpNo X0.here hx rfl (hb hby d28_6) rfl (flt ((by decide) : ¬ ((4 : Int32) < (0 : Int32)))).2.2.1 ?_
   refine XS.iloadN X0.here hx rfl (hb hby d28_9) rfl ?_
   show Steps p.tables e below (s₁.setTop (mkF m 10 #[iv 0, iv 4, iv 4, .val .null] [(.int 4)])) _
   refine XS.iloadN X0.here hx rfl (hb hby d28_10) rfl ?_
   refine XS.icmpYes X0.here hx rfl (pc0 := 11) (pc' := 22) rfl (hb hby d28_11) rfl (flt ((by decide) : ¬ ((4 : Int32) < (4 : Int32)))).2.2.2 (by decide) (by decide) ?_
   refine XS.iloadN X0.here hx rfl (hb hby d28_22) rfl ?_
   exact k
 exact Go.rt X0 hx Bd (w := (.int 0)) rfl (Or.inl ⟨rfl, Or.inl rfl, _, rfl⟩) (hb hby d28_23) e0 ⟨rfl, N0, rfl⟩
abbrev rm_rmFr4 : Room := ({ frames := 0, cells := 0, slots := 0, locals := 0 } : Room)
def Q_rmFr4 (Z : State) (f : Addr) (h0 : Heap) (n0 : Nat) (v : Option Value) (h : Heap) (L : List Loc) : Prop := (v = some (.int 0)) ∧ (Fr n0 L) ∧ (h = h0)
theorem rmFr4 (l : Launch) (Z : State) (a0 : Array Value) (hw : HW a0 Z) (ws : List Jvm.Cond) (f : Addr) (h0 : Heap) (n0 : Nat) (O : Old Z n0 h0) :
    Mt l Z y_16 jdk_41_method_12_code 4 (some .int) ws rm_rmFr4 #[(.int 0), (.int 4), (.int 4), (.ref f)] h0 (Q_rmFr4 Z f h0 n0) := by
 refine own_met "jdk/internal/util/Preconditions" (plainFor_of_name pn_jdk_internal_util_Preconditions) #[iv 0, iv 4, iv 4, rv f] (fun m => rfl) (fun p e s m below meth c s₁ Bd hx hby hml hZ hown hnm X0 e0 => ?_)
 have N0 := Fr.nil n0
 refine Go.step (S' := s₁.setTop (mkF m 23 #[iv 0, iv 4, iv 4, rv f] [(.int 0)])) (fun t k => ?_) ?_
 · refine XS.iloadN X0.here hx rfl (hb hby d28_0) rfl ?_
   refine XS.ifNo X0.here hx rfl (hb hby d28_1) rfl ((if0 _ _).trans (flt ((by decide) : ¬ ((0 : Int32) < (0 : Int32)))).1) ?_
   refine XS.iloadN X0.here hx rfl (hb hby d28_4) rfl ?_
   refine XS.iloadN X0.here hx rfl (hb hby d28_5) rfl ?_
   refine XS.icmpNo X0.here hx rfl (hb hby d28_6) rfl (flt ((by decide) : ¬ ((4 : Int32) < (0 : Int32)))).2.2.1 ?_
   refine XS.iloadN X0.here hx rfl (hb hby d28_9) rfl ?_
   show Steps p.tables e below (s₁.setTop (mkF m 10 #[iv 0, iv 4, iv 4, rv f] [(.int 4)])) _
   refine XS.iloadN X0.here hx rfl (hb hby d28_10) rfl ?_
   refine XS.icmpYes X0.here hx rfl (pc0 := 11) (pc' := 22) rfl (hb hby d28_11) rfl (flt ((by decide) : ¬ ((4 : Int32) < (4 : Int32)))).2.2.2 (by decide) (by decide) ?_
   refine XS.iloadN X0.here hx rfl (hb hby d28_22) rfl ?_
   exact k
 exact Go.rt X0 hx Bd (w := (.int 0)) rfl (Or.inl ⟨rfl, Or.inl rfl, _, rfl⟩) (hb hby d28_23) e0 ⟨rfl, N0, rfl⟩
abbrev rm_rmBB4 : Room := ({ frames := 1, cells := 0, slots := 0, locals := 15 } : Room)
def Q_rmBB4 (Z : State) (sf : Value) (h0 : Heap) (n0 : Nat) (v : Option Value) (h : Heap) (L : List Loc) : Prop := (v = none) ∧ (Fr n0 L) ∧ (h = h0)
theorem rmBB4 (l : Launch) (Z : State) (a0 : Array Value) (hw : HW a0 Z) (ws : List Jvm.Cond) (sf : Value) (h0 : Heap) (n0 : Nat) (O : Old Z n0 h0) (S_FM : Sa_4 Z sf) (hsf : sf.isRef = true) :
    Mt l Z y_17 jdk_42_method_158_code 3 none ws rm_rmBB4 #[(.int 0), (.int 4), (.int 4)] h0 (Q_rmBB4 Z sf h0 n0) := by
 refine own_met "java/lang/String" (plainFor_of_name pn_java_lang_String) #[iv 0, iv 4, iv 4] (fun m => rfl) (fun p e s m below meth c s₁ Bd hx hby hml hZ hown hnm X0 e0 => ?_)
 have N0 := Fr.nil n0
 rcases ref_cases hsf with hsn | ⟨wf, hsn⟩
 ·skip
  rw [hsn] at S_FM
  refine Go.step (S' := s₁.setTop (mkF m 3 #[iv 0, iv 4, iv 4] [(.int 4), (.int 4), (.int 0)])) (fun t k => ?_) ?_
  · refine XS.iloadN X0.here hx rfl (hb hby d27_0) rfl ?_
    refine XS.iloadN X0.here hx rfl (hb hby d27_1) rfl ?_
    refine XS.iloadN X0.here hx rfl (hb hby d27_2) rfl ?_
    exact k
  refine Go.gS X0 hx hZ hown (host := "") (Or.inl (own_w hw 118 rfl)) Via.refl e0 (S_FM.ext O.2) (hb hby d27_3) (fun T1 X1 e1 => ?_)
  refine Go.cS X1 hx hml hown hZ (own_w hw 120 rfl) (own_w hw 121 rfl) (own_w hw 119 rfl) (own_w hw 122 rfl) (rmFn4 l Z a0 hw []  h0 n0 O ) 0 [] pd__28IIILjava_2futil_2ffunction_2fBiFunction_3b_29I (hb hby d27_6) e1 (fun _ T2 L2 X2 hQ2 => ?_)
  obtain ⟨rfl, Nq2, e2⟩ := hQ2
  have N2 := Fr.app N0 Nq2
  refine Go.step (S' := T2.setTop (mkF m 10 #[iv 0, iv 4, iv 4] [])) (fun t k => ?_) ?_
  · refine XS.pop X2.here hx rfl (hb hby d27_9) rfl rfl ?_
    exact k
  exact Go.rv X2 hx Bd (hb hby d27_10) e2 ⟨rfl, N2, rfl⟩
 ·skip
  rw [hsn] at S_FM
  refine Go.step (S' := s₁.setTop (mkF m 3 #[iv 0, iv 4, iv 4] [(.int 4), (.int 4), (.int 0)])) (fun t k => ?_) ?_
  · refine XS.iloadN X0.here hx rfl (hb hby d27_0) rfl ?_
    refine XS.iloadN X0.here hx rfl (hb hby d27_1) rfl ?_
    refine XS.iloadN X0.here hx rfl (hb hby d27_2) rfl ?_
    exact k
  refine Go.gS X0 hx hZ hown (host := "") (Or.inl (own_w hw 118 rfl)) Via.refl e0 (S_FM.ext O.2) (hb hby d27_3) (fun T3 X3 e3 => ?_)
  refine Go.cS X3 hx hml hown hZ (own_w hw 120 rfl) (own_w hw 121 rfl) (own_w hw 119 rfl) (own_w hw 122 rfl) (rmFr4 l Z a0 hw [] wf h0 n0 O ) 0 [] pd__28IIILjava_2futil_2ffunction_2fBiFunction_3b_29I (hb hby d27_6) e3 (fun _ T4 L4 X4 hQ4 => ?_)
  obtain ⟨rfl, Nq4, e4⟩ := hQ4
  have N4 := Fr.app N0 Nq4
  refine Go.step (S' := T4.setTop (mkF m 10 #[iv 0, iv 4, iv 4] [])) (fun t k => ?_) ?_
  · refine XS.pop X4.here hx rfl (hb hby d27_9) rfl rfl ?_
    exact k
  exact Go.rv X4 hx Bd (hb hby d27_10) e4 ⟨rfl, N4, rfl⟩
abbrev rm_rmBU4 : Room := ({ frames := 2, cells := 0, slots := 0, locals := 29 } : Room)
def Q_rmBU4 (Z : State) (ub : Addr) (ku : ClassId) (sf : Value) (x0 : Int32) (x1 : Int32) (x2 : Int32) (x3 : Int32) (h0 : Heap) (n0 : Nat) (v : Option Value) (h : Heap) (L : List Loc) : Prop := (v = none) ∧ (Fr n0 L) ∧ (h = h0)
theorem rmBU4 (l : Launch) (Z : State) (a0 : Array Value) (hw : HW a0 Z) (ws : List Jvm.Cond) (ub : Addr) (ku : ClassId) (sf : Value) (x0 : Int32) (x1 : Int32) (x2 : Int32) (x3 : Int32) (h0 : Heap) (n0 : Nat) (O : Old Z n0 h0) (S_FM : Sa_4 Z sf) (V_ub : Arv Z h0 ub ku .byte (8 : Int32) [(.int (own_lo x0)), (.int (own_hi x0)), (.int (own_lo x1)), (.int (own_hi x1)), (.int (own_lo x2)), (.int (own_hi x2)), (.int (own_lo x3)), (.int (own_hi x3))] (.int 0)) (hsf : sf.isRef = true) :
    Mt l Z y_18 jdk_52_method_93_code 3 none ws rm_rmBU4 #[(.int 0), (.int 4), (.ref ub)] h0 (Q_rmBU4 Z ub ku sf x0 x1 x2 x3 h0 n0) := by
 refine own_met "java/lang/StringUTF16" (plainFor_of_name pn_java_lang_StringUTF16) #[iv 0, iv 4, rv ub] (fun m => rfl) (fun p e s m below meth c s₁ Bd hx hby hml hZ hown hnm X0 e0 => ?_)
 have N0 := Fr.nil n0
 refine Go.step (S' := s₁.setTop (mkF m 3 #[iv 0, iv 4, rv ub] [(.ref ub), (.int 4), (.int 0)])) (fun t k => ?_) ?_
 · refine XS.iloadN X0.here hx rfl (hb hby d25_0) rfl ?_
   refine XS.iloadN X0.here hx rfl (hb hby d25_1) rfl ?_
   refine XS.aloadN X0.here hx rfl (hb hby d25_2) rfl rfl ?_
   exact k
 refine Go.cS X0 hx hml hown hZ (own_w hw 112 rfl) (own_w hw 113 rfl) (own_w hw 70 rfl) (own_w hw 114 rfl) (rmUL4 l Z a0 hw [] ub ku x0 x1 x2 x3 h0 n0 O V_ub) 2 [(.int 4), (.int 0)] pd__28_5bB_29I (hb hby d25_3) e0 (fun _ T1 L1 X1 hQ1 => ?_)
 obtain ⟨rfl, Nq1, e1⟩ := hQ1
 have N1 := Fr.app N0 Nq1
 refine Go.cS X1 hx hml hown hZ (own_w hw 115 rfl) (own_w hw 116 rfl) (own_w hw 5 rfl) (own_w hw 117 rfl) (rmBB4 l Z a0 hw [] sf h0 n0 O S_FM hsf) 0 [] pd__28III_29V (hb hby d25_6) e1 (fun _ T2 L2 X2 hQ2 => ?_)
 obtain ⟨rfl, Nq2, e2⟩ := hQ2
 have N2 := Fr.app N1 Nq2
 exact Go.rv X2 hx Bd (hb hby d25_9) e2 ⟨rfl, N2, rfl⟩
abbrev rm_rmIU4 : Room := ({ frames := 1, cells := 0, slots := 0, locals := 13 } : Room)
def Q_rmIU4 (Z : State) (ub : Addr) (ku : ClassId) (x0 : Int32) (x1 : Int32) (x2 : Int32) (x3 : Int32) (h0 : Heap) (n0 : Nat) (v : Option Value) (h : Heap) (L : List Loc) : Prop := ∃ r : Int32, (v = some (.int r)) ∧ (Fr n0 L) ∧ (h = h0) ∧ (r < (0 : Int32) ↔ (¬ (x0 = (0 : Int32)) ∧ ¬ (x1 = (0 : Int32)) ∧ ¬ (x2 = (0 : Int32)) ∧ ¬ (x3 = (0 : Int32))))
theorem rmIU4 (l : Launch) (Z : State) (a0 : Array Value) (hw : HW a0 Z) (ws : List Jvm.Cond) (ub : Addr) (ku : ClassId) (x0 : Int32) (x1 : Int32) (x2 : Int32) (x3 : Int32) (h0 : Heap) (n0 : Nat) (O : Old Z n0 h0) (S_AD : Sa_1 Z (.int 1)) (S_HI : Sa_2 Z (.int 0)) (S_LO : Sa_3 Z (.int 8)) (V_ub : Arv Z h0 ub ku .byte (8 : Int32) [(.int (own_lo x0)), (.int (own_hi x0)), (.int (own_lo x1)), (.int (own_hi x1)), (.int (own_lo x2)), (.int (own_hi x2)), (.int (own_lo x3)), (.int (own_hi x3))] (.int 0)) (rax0 : ¬ (x0 < (0 : Int32))) (rbx0 : ¬ ((65535 : Int32) < x0)) (rax1 : ¬ (x1 < (0 : Int32))) (rbx1 : ¬ ((65535 : Int32) < x1)) (rax2 : ¬ (x2 < (0 : Int32))) (rbx2 : ¬ ((65535 : Int32) < x2)) (rax3 : ¬ (x3 < (0 : Int32))) (rbx3 : ¬ ((65535 : Int32) < x3)) :
    Mt l Z y_19 jdk_52_method_48_code 5 (some .int) ws rm_rmIU4 #[(.ref ub), (.int 0), (.int 0), (.int 4)] h0 (Q_rmIU4 Z ub ku x0 x1 x2 x3 h0 n0) := by
 refine own_met "java/lang/StringUTF16" (plainFor_of_name pn_java_lang_StringUTF16) #[rv ub, iv 0, iv 0, iv 4, u_] (fun m => rfl) (fun p e s m below meth c s₁ Bd hx hby hml hZ hown hnm X0 e0 => ?_)
 have N0 := Fr.nil n0
 refine Go.step (S' := s₁.setTop (mkF m 12 #[rv ub, iv 0, iv 0, iv 4, iv 0] [(.int 0), (.ref ub)])) (fun t k => ?_) ?_
 · refine XS.iloadN X0.here hx rfl (hb hby d29_0) rfl ?_
   refine XS.istore X0.here hx rfl (hb hby d29_1) rfl (l' := #[rv ub, iv 0, iv 0, iv 4, iv 0]) rfl ?_
   refine XS.iload X0.here hx rfl (hb hby d29_3) rfl ?_
   refine XS.iloadN X0.here hx rfl (hb hby d29_5) rfl ?_
   refine XS.icmpNo X0.here hx rfl (hb hby d29_6) rfl (tlt ((by decide) : (0 : Int32) < (4 : Int32))).2.1 ?_
   refine XS.aloadN X0.here hx rfl (hb hby d29_9) rfl rfl ?_
   show Steps p.tables e below (s₁.setTop (mkF m 10 #[rv ub, iv 0, iv 0, iv 4, iv 0] [(.ref ub)])) _
   refine XS.iload X0.here hx rfl (hb hby d29_10) rfl ?_
   exact k
 refine Go.cS X0 hx hml hown hZ (own_w hw 97 rfl) (own_w hw 98 rfl) (own_w hw 70 rfl) (own_w hw 99 rfl) (rmGC4_0 l Z a0 hw [] ub ku x0 x1 x2 x3 h0 n0 O S_AD S_HI S_LO V_ub rax0 rbx0) 0 [] pd__28_5bBI_29C (hb hby d29_12) e0 (fun _ T1 L1 X1 hQ1 => ?_)
 obtain ⟨rfl, Nq1, e1⟩ := hQ1
 have N1 := Fr.app N0 Nq1
 refine Go.step (S' := T1.setTop (mkF m 16 #[rv ub, iv 0, iv 0, iv 4, iv 0] [(.int 0), (.int x0)])) (fun t k => ?_) ?_
 · refine XS.iloadN X1.here hx rfl (hb hby d29_15) rfl ?_
   exact k
 by_cases hc16 : x0 = (0 : Int32)
 ·skip
  refine Go.step (S' := T1.setTop (mkF m 21 #[rv ub, iv 0, iv 0, iv 4, iv 0] [(.int 0)])) (fun t k => ?_) ?_
  · refine XS.icmpNo X1.here hx rfl (hb hby d29_16) rfl (teq (hc16 : x0 = (0 : Int32))).2 ?_
    refine XS.iload X1.here hx rfl (hb hby d29_19) rfl ?_
    exact k
  exact Go.rt X1 hx Bd (w := (.int 0)) rfl (Or.inl ⟨rfl, Or.inl rfl, _, rfl⟩) (hb hby d29_21) e1 ⟨(0 : Int32), rfl, N1, rfl, ⟨fun q => absurd q (by decide), fun q => absurd hc16 q.1⟩⟩
 ·skip
  refine Go.step (S' := T1.setTop (mkF m 12 #[rv ub, iv 0, iv 0, iv 4, iv 1] [(.int 1), (.ref ub)])) (fun t k => ?_) ?_
  · refine XS.icmpYes X1.here hx rfl (pc0 := 16) (pc' := 22) rfl (hb hby d29_16) rfl (feq (hc16 : ¬ (x0 = (0 : Int32)))).2 (by decide) (by decide) ?_
    refine XS.iinc X1.here hx rfl (hb hby d29_22) rfl (l' := #[rv ub, iv 0, iv 0, iv 4, iv 1]) rfl ?_
    refine XS.goto X1.here hx rfl (pc0 := 25) (pc' := 3) rfl (hb hby d29_25) (by decide) (by decide) ?_
    refine XS.iload X1.here hx rfl (hb hby d29_3) rfl ?_
    refine XS.iloadN X1.here hx rfl (hb hby d29_5) rfl ?_
    refine XS.icmpNo X1.here hx rfl (hb hby d29_6) rfl (tlt ((by decide) : (1 : Int32) < (4 : Int32))).2.1 ?_
    show Steps p.tables e below (T1.setTop (mkF m 9 #[rv ub, iv 0, iv 0, iv 4, iv 1] [])) _
    refine XS.aloadN X1.here hx rfl (hb hby d29_9) rfl rfl ?_
    refine XS.iload X1.here hx rfl (hb hby d29_10) rfl ?_
    exact k
  refine Go.cS X1 hx hml hown hZ (own_w hw 97 rfl) (own_w hw 98 rfl) (own_w hw 70 rfl) (own_w hw 99 rfl) (rmGC4_1 l Z a0 hw [] ub ku x0 x1 x2 x3 h0 n0 O S_AD S_HI S_LO V_ub rax1 rbx1) 0 [] pd__28_5bBI_29C (hb hby d29_12) e1 (fun _ T2 L2 X2 hQ2 => ?_)
  obtain ⟨rfl, Nq2, e2⟩ := hQ2
  have N2 := Fr.app N1 Nq2
  refine Go.step (S' := T2.setTop (mkF m 16 #[rv ub, iv 0, iv 0, iv 4, iv 1] [(.int 0), (.int x1)])) (fun t k => ?_) ?_
  · refine XS.iloadN X2.here hx rfl (hb hby d29_15) rfl ?_
    exact k
  by_cases hc16_1 : x1 = (0 : Int32)
  ·skip
   refine Go.step (S' := T2.setTop (mkF m 21 #[rv ub, iv 0, iv 0, iv 4, iv 1] [(.int 1)])) (fun t k => ?_) ?_
   · refine XS.icmpNo X2.here hx rfl (hb hby d29_16) rfl (teq (hc16_1 : x1 = (0 : Int32))).2 ?_
     refine XS.iload X2.here hx rfl (hb hby d29_19) rfl ?_
     exact k
   exact Go.rt X2 hx Bd (w := (.int 1)) rfl (Or.inl ⟨rfl, Or.inl rfl, _, rfl⟩) (hb hby d29_21) e2 ⟨(1 : Int32), rfl, N2, rfl, ⟨fun q => absurd q (by decide), fun q => absurd hc16_1 q.2.1⟩⟩
  ·skip
   refine Go.step (S' := T2.setTop (mkF m 12 #[rv ub, iv 0, iv 0, iv 4, iv 2] [(.int 2), (.ref ub)])) (fun t k => ?_) ?_
   · refine XS.icmpYes X2.here hx rfl (pc0 := 16) (pc' := 22) rfl (hb hby d29_16) rfl (feq (hc16_1 : ¬ (x1 = (0 : Int32)))).2 (by decide) (by decide) ?_
     refine XS.iinc X2.here hx rfl (hb hby d29_22) rfl (l' := #[rv ub, iv 0, iv 0, iv 4, iv 2]) rfl ?_
     refine XS.goto X2.here hx rfl (pc0 := 25) (pc' := 3) rfl (hb hby d29_25) (by decide) (by decide) ?_
     refine XS.iload X2.here hx rfl (hb hby d29_3) rfl ?_
     refine XS.iloadN X2.here hx rfl (hb hby d29_5) rfl ?_
     refine XS.icmpNo X2.here hx rfl (hb hby d29_6) rfl (tlt ((by decide) : (2 : Int32) < (4 : Int32))).2.1 ?_
     show Steps p.tables e below (T2.setTop (mkF m 9 #[rv ub, iv 0, iv 0, iv 4, iv 2] [])) _
     refine XS.aloadN X2.here hx rfl (hb hby d29_9) rfl rfl ?_
     refine XS.iload X2.here hx rfl (hb hby d29_10) rfl ?_
     exact k
   refine Go.cS X2 hx hml hown hZ (own_w hw 97 rfl) (own_w hw 98 rfl) (own_w hw 70 rfl) (own_w hw 99 rfl) (rmGC4_2 l Z a0 hw [] ub ku x0 x1 x2 x3 h0 n0 O S_AD S_HI S_LO V_ub rax2 rbx2) 0 [] pd__28_5bBI_29C (hb hby d29_12) e2 (fun _ T3 L3 X3 hQ3 => ?_)
   obtain ⟨rfl, Nq3, e3⟩ := hQ3
   have N3 := Fr.app N2 Nq3
   refine Go.step (S' := T3.setTop (mkF m 16 #[rv ub, iv 0, iv 0, iv 4, iv 2] [(.int 0), (.int x2)])) (fun t k => ?_) ?_
   · refine XS.iloadN X3.here hx rfl (hb hby d29_15) rfl ?_
     exact k
   by_cases hc16_2 : x2 = (0 : Int32)
   ·skip
    refine Go.step (S' := T3.setTop (mkF m 21 #[rv ub, iv 0, iv 0, iv 4, iv 2] [(.int 2)])) (fun t k => ?_) ?_
    · refine XS.icmpNo X3.here hx rfl (hb hby d29_16) rfl (teq (hc16_2 : x2 = (0 : Int32))).2 ?_
      refine XS.iload X3.here hx rfl (hb hby d29_19) rfl ?_
      exact k
    exact Go.rt X3 hx Bd (w := (.int 2)) rfl (Or.inl ⟨rfl, Or.inl rfl, _, rfl⟩) (hb hby d29_21) e3 ⟨(2 : Int32), rfl, N3, rfl, ⟨fun q => absurd q (by decide), fun q => absurd hc16_2 q.2.2.1⟩⟩
   ·skip
    refine Go.step (S' := T3.setTop (mkF m 12 #[rv ub, iv 0, iv 0, iv 4, iv 3] [(.int 3), (.ref ub)])) (fun t k => ?_) ?_
    · refine XS.icmpYes X3.here hx rfl (pc0 := 16) (pc' := 22) rfl (hb hby d29_16) rfl (feq (hc16_2 : ¬ (x2 = (0 : Int32)))).2 (by decide) (by decide) ?_
      refine XS.iinc X3.here hx rfl (hb hby d29_22) rfl (l' := #[rv ub, iv 0, iv 0, iv 4, iv 3]) rfl ?_
      refine XS.goto X3.here hx rfl (pc0 := 25) (pc' := 3) rfl (hb hby d29_25) (by decide) (by decide) ?_
      refine XS.iload X3.here hx rfl (hb hby d29_3) rfl ?_
      refine XS.iloadN X3.here hx rfl (hb hby d29_5) rfl ?_
      refine XS.icmpNo X3.here hx rfl (hb hby d29_6) rfl (tlt ((by decide) : (3 : Int32) < (4 : Int32))).2.1 ?_
      show Steps p.tables e below (T3.setTop (mkF m 9 #[rv ub, iv 0, iv 0, iv 4, iv 3] [])) _
      refine XS.aloadN X3.here hx rfl (hb hby d29_9) rfl rfl ?_
      refine XS.iload X3.here hx rfl (hb hby d29_10) rfl ?_
      exact k
    refine Go.cS X3 hx hml hown hZ (own_w hw 97 rfl) (own_w hw 98 rfl) (own_w hw 70 rfl) (own_w hw 99 rfl) (rmGC4_3 l Z a0 hw [] ub ku x0 x1 x2 x3 h0 n0 O S_AD S_HI S_LO V_ub rax3 rbx3) 0 [] pd__28_5bBI_29C (hb hby d29_12) e3 (fun _ T4 L4 X4 hQ4 => ?_)
    obtain ⟨rfl, Nq4, e4⟩ := hQ4
    have N4 := Fr.app N3 Nq4
    refine Go.step (S' := T4.setTop (mkF m 16 #[rv ub, iv 0, iv 0, iv 4, iv 3] [(.int 0), (.int x3)])) (fun t k => ?_) ?_
    · refine XS.iloadN X4.here hx rfl (hb hby d29_15) rfl ?_
      exact k
    by_cases hc16_3 : x3 = (0 : Int32)
    ·skip
     refine Go.step (S' := T4.setTop (mkF m 21 #[rv ub, iv 0, iv 0, iv 4, iv 3] [(.int 3)])) (fun t k => ?_) ?_
     · refine XS.icmpNo X4.here hx rfl (hb hby d29_16) rfl (teq (hc16_3 : x3 = (0 : Int32))).2 ?_
       refine XS.iload X4.here hx rfl (hb hby d29_19) rfl ?_
       exact k
     exact Go.rt X4 hx Bd (w := (.int 3)) rfl (Or.inl ⟨rfl, Or.inl rfl, _, rfl⟩) (hb hby d29_21) e4 ⟨(3 : Int32), rfl, N4, rfl, ⟨fun q => absurd q (by decide), fun q => absurd hc16_3 q.2.2.2⟩⟩
    ·skip
     refine Go.step (S' := T4.setTop (mkF m 29 #[rv ub, iv 0, iv 0, iv 4, iv 4] [(.int (-1))])) (fun t k => ?_) ?_
     · refine XS.icmpYes X4.here hx rfl (pc0 := 16) (pc' := 22) rfl (hb hby d29_16) rfl (feq (hc16_3 : ¬ (x3 = (0 : Int32)))).2 (by decide) (by decide) ?_
       refine XS.iinc X4.here hx rfl (hb hby d29_22) rfl (l' := #[rv ub, iv 0, iv 0, iv 4, iv 4]) rfl ?_
       refine XS.goto X4.here hx rfl (pc0 := 25) (pc' := 3) rfl (hb hby d29_25) (by decide) (by decide) ?_
       refine XS.iload X4.here hx rfl (hb hby d29_3) rfl ?_
       refine XS.iloadN X4.here hx rfl (hb hby d29_5) rfl ?_
       refine XS.icmpYes X4.here hx rfl (pc0 := 6) (pc' := 28) rfl (hb hby d29_6) rfl (flt ((by decide) : ¬ ((4 : Int32) < (4 : Int32)))).2.1 (by decide) (by decide) ?_
       show Steps p.tables e below (T4.setTop (mkF m 28 #[rv ub, iv 0, iv 0, iv 4, iv 4] [])) _
       refine XS.iconst X4.here hx rfl (hb hby d29_28) ?_
       exact k
     exact Go.rt X4 hx Bd (w := (.int (-1))) rfl (Or.inl ⟨rfl, Or.inl rfl, _, rfl⟩) (hb hby d29_29) e4 ⟨(-1 : Int32), rfl, N4, rfl, ⟨fun _ => ⟨hc16, hc16_1, hc16_2, hc16_3⟩, fun _ => by decide⟩⟩
abbrev rm_rmIC4 : Room := ({ frames := 3, cells := 0, slots := 0, locals := 43 } : Room)
def Q_rmIC4 (Z : State) (ub : Addr) (ku : ClassId) (sf : Value) (x0 : Int32) (x1 : Int32) (x2 : Int32) (x3 : Int32) (h0 : Heap) (n0 : Nat) (v : Option Value) (h : Heap) (L : List Loc) : Prop := ∃ r : Int32, (v = some (.int r)) ∧ (Fr n0 L) ∧ (h = h0) ∧ (r < (0 : Int32) ↔ (¬ (x0 = (0 : Int32)) ∧ ¬ (x1 = (0 : Int32)) ∧ ¬ (x2 = (0 : Int32)) ∧ ¬ (x3 = (0 : Int32))))
theorem rmIC4 (l : Launch) (Z : State) (a0 : Array Value) (hw : HW a0 Z) (ws : List Jvm.Cond) (ub : Addr) (ku : ClassId) (sf : Value) (x0 : Int32) (x1 : Int32) (x2 : Int32) (x3 : Int32) (h0 : Heap) (n0 : Nat) (O : Old Z n0 h0) (S_AD : Sa_1 Z (.int 1)) (S_HI : Sa_2 Z (.int 0)) (S_LO : Sa_3 Z (.int 8)) (V_ub : Arv Z h0 ub ku .byte (8 : Int32) [(.int (own_lo x0)), (.int (own_hi x0)), (.int (own_lo x1)), (.int (own_hi x1)), (.int (own_lo x2)), (.int (own_hi x2)), (.int (own_lo x3)), (.int (own_hi x3))] (.int 0)) (S_FM : Sa_4 Z sf) (hsf : sf.isRef = true) (rax0 : ¬ (x0 < (0 : Int32))) (rbx0 : ¬ ((65535 : Int32) < x0)) (rax1 : ¬ (x1 < (0 : Int32))) (rbx1 : ¬ ((65535 : Int32) < x1)) (rax2 : ¬ (x2 < (0 : Int32))) (rbx2 : ¬ ((65535 : Int32) < x2)) (rax3 : ¬ (x3 < (0 : Int32))) (rbx3 : ¬ ((65535 : Int32) < x3)) :
    Mt l Z y_20 jdk_52_method_47_code 4 (some .int) ws rm_rmIC4 #[(.ref ub), (.int 0), (.int 0), (.int 4)] h0 (Q_rmIC4 Z ub ku sf x0 x1 x2 x3 h0 n0) := by
 refine own_met "java/lang/StringUTF16" (plainFor_of_name pn_java_lang_StringUTF16) #[rv ub, iv 0, iv 0, iv 4] (fun m => rfl) (fun p e s m below meth c s₁ Bd hx hby hml hZ hown hnm X0 e0 => ?_)
 have N0 := Fr.nil n0
 refine Go.step (S' := s₁.setTop (mkF m 3 #[rv ub, iv 0, iv 0, iv 4] [(.ref ub), (.int 4), (.int 0)])) (fun t k => ?_) ?_
 · refine XS.iloadN X0.here hx rfl (hb hby d24_0) rfl ?_
   refine XS.iloadN X0.here hx rfl (hb hby d24_1) rfl ?_
   refine XS.aloadN X0.here hx rfl (hb hby d24_2) rfl rfl ?_
   exact k
 refine Go.cS X0 hx hml hown hZ (own_w hw 109 rfl) (own_w hw 110 rfl) (own_w hw 70 rfl) (own_w hw 111 rfl) (rmBU4 l Z a0 hw [] ub ku sf x0 x1 x2 x3 h0 n0 O S_FM V_ub hsf) 0 [] pd__28II_5bB_29V (hb hby d24_3) e0 (fun _ T1 L1 X1 hQ1 => ?_)
 obtain ⟨rfl, Nq1, e1⟩ := hQ1
 have N1 := Fr.app N0 Nq1
 refine Go.step (S' := T1.setTop (mkF m 10 #[rv ub, iv 0, iv 0, iv 4] [(.int 4), (.int 0), (.int 0), (.ref ub)])) (fun t k => ?_) ?_
 · refine XS.aloadN X1.here hx rfl (hb hby d24_6) rfl rfl ?_
   refine XS.iloadN X1.here hx rfl (hb hby d24_7) rfl ?_
   refine XS.iloadN X1.here hx rfl (hb hby d24_8) rfl ?_
   refine XS.iloadN X1.here hx rfl (hb hby d24_9) rfl ?_
   exact k
 refine Go.cS X1 hx hml hown hZ (own_w hw 123 rfl) (own_w hw 124 rfl) (own_w hw 70 rfl) (own_w hw 125 rfl) (rmIU4 l Z a0 hw [] ub ku x0 x1 x2 x3 h0 n0 O S_AD S_HI S_LO V_ub rax0 rbx0 rax1 rbx1 rax2 rbx2 rax3 rbx3) 0 [] pd__28_5bBIII_29I (hb hby d24_10) e1 (fun _ T2 L2 X2 hQ2 => ?_)
 obtain ⟨r_2, rfl, Nq2, e2, kr_2⟩ := hQ2
 have N2 := Fr.app N1 Nq2
 exact Go.rt X2 hx Bd (w := (.int r_2)) rfl (Or.inl ⟨rfl, Or.inl rfl, _, rfl⟩) (hb hby d24_13) e2 ⟨r_2, rfl, N2, rfl, (by assumption)⟩
abbrev rm_rmIX4 : Room := ({ frames := 4, cells := 0, slots := 0, locals := 58 } : Room)
def Q_rmIX4 (Z : State) (ub : Addr) (ku : ClassId) (sf : Value) (x0 : Int32) (x1 : Int32) (x2 : Int32) (x3 : Int32) (h0 : Heap) (n0 : Nat) (v : Option Value) (h : Heap) (L : List Loc) : Prop := ∃ r : Int32, (v = some (.int r)) ∧ (Fr n0 L) ∧ (h = h0) ∧ (r < (0 : Int32) ↔ (¬ (x0 = (0 : Int32)) ∧ ¬ (x1 = (0 : Int32)) ∧ ¬ (x2 = (0 : Int32)) ∧ ¬ (x3 = (0 : Int32))))
theorem rmIX4 (l : Launch) (Z : State) (a0 : Array Value) (hw : HW a0 Z) (ws : List Jvm.Cond) (ub : Addr) (ku : ClassId) (sf : Value) (x0 : Int32) (x1 : Int32) (x2 : Int32) (x3 : Int32) (h0 : Heap) (n0 : Nat) (O : Old Z n0 h0) (S_AD : Sa_1 Z (.int 1)) (S_HI : Sa_2 Z (.int 0)) (S_LO : Sa_3 Z (.int 8)) (V_ub : Arv Z h0 ub ku .byte (8 : Int32) [(.int (own_lo x0)), (.int (own_hi x0)), (.int (own_lo x1)), (.int (own_hi x1)), (.int (own_lo x2)), (.int (own_hi x2)), (.int (own_lo x3)), (.int (own_hi x3))] (.int 0)) (S_FM : Sa_4 Z sf) (hsf : sf.isRef = true) (rax0 : ¬ (x0 < (0 : Int32))) (rbx0 : ¬ ((65535 : Int32) < x0)) (rax1 : ¬ (x1 < (0 : Int32))) (rbx1 : ¬ ((65535 : Int32) < x1)) (rax2 : ¬ (x2 < (0 : Int32))) (rbx2 : ¬ ((65535 : Int32) < x2)) (rax3 : ¬ (x3 < (0 : Int32))) (rbx3 : ¬ ((65535 : Int32) < x3)) :
    Mt l Z y_21 jdk_52_method_40_code 4 (some .int) ws rm_rmIX4 #[(.ref ub), (.int 0), (.int 0), (.int 4)] h0 (Q_rmIX4 Z ub ku sf x0 x1 x2 x3 h0 n0) := by
 refine own_met "java/lang/StringUTF16" (plainFor_of_name pn_java_lang_StringUTF16) #[rv ub, iv 0, iv 0, iv 4] (fun m => rfl) (fun p e s m below meth c s₁ Bd hx hby hml hZ hown hnm X0 e0 => ?_)
 have N0 := Fr.nil n0
 refine Go.step (S' := s₁.setTop (mkF m 2 #[rv ub, iv 0, iv 0, iv 4] [(.int 0), (.int 0)])) (fun t k => ?_) ?_
 · refine XS.iloadN X0.here hx rfl (hb hby d23_0) rfl ?_
   refine XS.iconst X0.here hx rfl (hb hby d23_1) ?_
   exact k
 refine Go.cS X0 hx hml hown hZ (own_w hw 103 rfl) (own_w hw 62 rfl) (own_w hw 63 rfl) (own_w hw 64 rfl) (rmMxA l Z a0 hw [] (0 : Int32) (0 : Int32) h0 n0 O (by decide)) 0 [] pd__28II_29I (hb hby d23_2) e0 (fun _ T1 L1 X1 hQ1 => ?_)
 obtain ⟨rfl, Nq1, e1⟩ := hQ1
 have N1 := Fr.app N0 Nq1
 refine Go.step (S' := T1.setTop (mkF m 8 #[rv ub, iv 0, iv 0, iv 4] [(.ref ub), (.int 4)])) (fun t k => ?_) ?_
 · refine XS.istoreN X1.here hx rfl (hb hby d23_5) rfl (l' := #[rv ub, iv 0, iv 0, iv 4]) rfl ?_
   refine XS.iloadN X1.here hx rfl (hb hby d23_6) rfl ?_
   refine XS.aloadN X1.here hx rfl (hb hby d23_7) rfl rfl ?_
   exact k
 refine Go.len X1 hx hZ e1 V_ub (hb hby d23_8) ?_
 refine Go.step (S' := T1.setTop (mkF m 11 #[rv ub, iv 0, iv 0, iv 4] [(.int 4), (.int 4)])) (fun t k => ?_) ?_
 · refine XS.iconst X1.here hx rfl (hb hby d23_9) ?_
   refine XS.ishr X1.here hx rfl (hb hby d23_10) rfl ?_
   exact k
 refine Go.cS X1 hx hml hown hZ (own_w hw 104 rfl) (own_w hw 66 rfl) (own_w hw 63 rfl) (own_w hw 67 rfl) (rmMnA l Z a0 hw [] (4 : Int32) (4 : Int32) h0 n0 O (by decide)) 0 [] pd__28II_29I (hb hby d23_11) e1 (fun _ T2 L2 X2 hQ2 => ?_)
 obtain ⟨rfl, Nq2, e2⟩ := hQ2
 have N2 := Fr.app N1 Nq2
 refine Go.step (S' := T2.setTop (mkF m 32 #[rv ub, iv 0, iv 0, iv 4] [(.int 4), (.int 0), (.int 0), (.ref ub)])) (fun t k => ?_) ?_
 · refine XS.istoreN X2.here hx rfl (hb hby d23_14) rfl (l' := #[rv ub, iv 0, iv 0, iv 4]) rfl ?_
   refine XS.iloadN X2.here hx rfl (hb hby d23_15) rfl ?_
   refine XS.iloadN X2.here hx rfl (hb hby d23_16) rfl ?_
   refine XS.icmpYes X2.here hx rfl (pc0 := 17) (pc' := 22) rfl (hb hby d23_17) rfl (tlt ((by decide) : (0 : Int32) < (4 : Int32))).1 (by decide) (by decide) ?_
   refine XS.iloadN X2.here hx rfl (hb hby d23_22) rfl ?_
   refine X2.ldcInt hx hown (mvT hZ (own_w hw 105 rfl)) (g := (mkF m 23 #[rv ub, iv 0, iv 0, iv 4] [(.int 0)])) rfl (hb hby d23_23) _ ?_
   show Steps p.tables e below (T2.setTop (mkF m 25 #[rv ub, iv 0, iv 0, iv 4] [(.int 65536), (.int 0)])) _
   refine XS.icmpNo X2.here hx rfl (hb hby d23_25) rfl (tlt ((by decide) : (0 : Int32) < (65536 : Int32))).2.1 ?_
   refine XS.aloadN X2.here hx rfl (hb hby d23_28) rfl rfl ?_
   refine XS.iloadN X2.here hx rfl (hb hby d23_29) rfl ?_
   refine XS.iloadN X2.here hx rfl (hb hby d23_30) rfl ?_
   refine XS.iloadN X2.here hx rfl (hb hby d23_31) rfl ?_
   exact k
 refine Go.cS X2 hx hml hown hZ (own_w hw 106 rfl) (own_w hw 107 rfl) (own_w hw 70 rfl) (own_w hw 108 rfl) (rmIC4 l Z a0 hw [] ub ku sf x0 x1 x2 x3 h0 n0 O S_AD S_HI S_LO V_ub S_FM hsf rax0 rbx0 rax1 rbx1 rax2 rbx2 rax3 rbx3) 0 [] pd__28_5bBIII_29I (hb hby d23_32) e2 (fun _ T3 L3 X3 hQ3 => ?_)
 obtain ⟨r_3, rfl, Nq3, e3, kr_3⟩ := hQ3
 have N3 := Fr.app N2 Nq3
 exact Go.rt X3 hx Bd (w := (.int r_3)) rfl (Or.inl ⟨rfl, Or.inl rfl, _, rfl⟩) (hb hby d23_35) e3 ⟨r_3, rfl, N3, rfl, (by assumption)⟩
abbrev y_22 : MethodName := ⟨"java/lang/StringLatin1", "indexOf", "([BIII)I"⟩
theorem d10_0 : decode jdk_43_method_22_code 0 = .ok (.iload_n 1, 1) := by decide +kernel
theorem d10_1 : decode jdk_43_method_22_code 1 = .ok (.invokestatic 88, 3) := by decide +kernel
theorem pd__28I_29Z : parseMethodDescriptor "(I)Z" = some ⟨[.int], some .boolean⟩ := by decide +kernel
theorem d10_4 : decode jdk_43_method_22_code 4 = .ok (.ifCond .ne 5, 3) := by decide +kernel
theorem d10_9 : decode jdk_43_method_22_code 9 = .ok (.iload_n 2, 1) := by decide +kernel
theorem d10_10 : decode jdk_43_method_22_code 10 = .ok (.iconst 0, 1) := by decide +kernel
theorem d10_11 : decode jdk_43_method_22_code 11 = .ok (.invokestatic 92, 3) := by decide +kernel
theorem d10_14 : decode jdk_43_method_22_code 14 = .ok (.istore_n 2, 1) := by decide +kernel
theorem d10_15 : decode jdk_43_method_22_code 15 = .ok (.iload_n 3, 1) := by decide +kernel
theorem d10_16 : decode jdk_43_method_22_code 16 = .ok (.aload_n 0, 1) := by decide +kernel
theorem d10_17 : decode jdk_43_method_22_code 17 = .ok (.arraylength, 1) := by decide +kernel
theorem d10_18 : decode jdk_43_method_22_code 18 = .ok (.invokestatic 38, 3) := by decide +kernel
theorem d10_21 : decode jdk_43_method_22_code 21 = .ok (.istore_n 3, 1) := by decide +kernel
theorem d10_22 : decode jdk_43_method_22_code 22 = .ok (.iload_n 2, 1) := by decide +kernel
theorem d10_23 : decode jdk_43_method_22_code 23 = .ok (.iload_n 3, 1) := by decide +kernel
theorem d10_24 : decode jdk_43_method_22_code 24 = .ok (.if_icmp .lt 5, 3) := by decide +kernel
theorem d10_27 : decode jdk_43_method_22_code 27 = .ok (.iconst (-1), 1) := by decide +kernel
theorem d10_28 : decode jdk_43_method_22_code 28 = .ok (.ireturn, 1) := by decide +kernel
abbrev rm_rmLX0 : Room := ({ frames := 1, cells := 0, slots := 0, locals := 13 } : Room)
def Q_rmLX0 (Z : State) (tb : Addr) (kb : ClassId) (h0 : Heap) (n0 : Nat) (v : Option Value) (h : Heap) (L : List Loc) : Prop := (v = some (.int (-1))) ∧ (Fr n0 L) ∧ (h = h0)
theorem rmLX0 (l : Launch) (Z : State) (a0 : Array Value) (hw : HW a0 Z) (ws : List Jvm.Cond) (tb : Addr) (kb : ClassId) (h0 : Heap) (n0 : Nat) (O : Old Z n0 h0) (V_tb : Arv Z h0 tb kb .byte (0 : Int32) [] (.int 0)) :
    Mt l Z y_22 jdk_43_method_22_code 4 (some .int) ws rm_rmLX0 #[(.ref tb), (.int 0), (.int 0), (.int 0)] h0 (Q_rmLX0 Z tb kb h0 n0) := by
 refine own_met "java/lang/StringLatin1" (plainFor_of_name pn_java_lang_StringLatin1) #[rv tb, iv 0, iv 0, iv 0] (fun m => rfl) (fun p e s m below meth c s₁ Bd hx hby hml hZ hown hnm X0 e0 => ?_)
 have N0 := Fr.nil n0
 refine Go.step (S' := s₁.setTop (mkF m 1 #[rv tb, iv 0, iv 0, iv 0] [(.int 0)])) (fun t k => ?_) ?_
 · refine XS.iloadN X0.here hx rfl (hb hby d10_0) rfl ?_
   exact k
 refine Go.cS X0 hx hml hown hZ (own_w hw 58 rfl) (own_w hw 59 rfl) (own_w hw 56 rfl) (own_w hw 60 rfl) (rmCan l Z a0 hw []  h0 n0 O ) 0 [] pd__28I_29Z (hb hby d10_1) e0 (fun _ T1 L1 X1 hQ1 => ?_)
 obtain ⟨rfl, Nq1, e1⟩ := hQ1
 have N1 := Fr.app N0 Nq1
 refine Go.step (S' := T1.setTop (mkF m 11 #[rv tb, iv 0, iv 0, iv 0] [(.int 0), (.int 0)])) (fun t k => ?_) ?_
 · refine XS.ifYes X1.here hx rfl (pc0 := 4) (pc' := 9) rfl (hb hby d10_4) rfl ((if0 _ _).trans (feq ((by decide) : ¬ ((1 : Int32) = (0 : Int32)))).2) (by decide) (by decide) ?_
   refine XS.iloadN X1.here hx rfl (hb hby d10_9) rfl ?_
   refine XS.iconst X1.here hx rfl (hb hby d10_10) ?_
   exact k
 refine Go.cS X1 hx hml hown hZ (own_w hw 61 rfl) (own_w hw 62 rfl) (own_w hw 63 rfl) (own_w hw 64 rfl) (rmMxA l Z a0 hw [] (0 : Int32) (0 : Int32) h0 n0 O (by decide)) 0 [] pd__28II_29I (hb hby d10_11) e1 (fun _ T2 L2 X2 hQ2 => ?_)
 obtain ⟨rfl, Nq2, e2⟩ := hQ2
 have N2 := Fr.app N1 Nq2
 refine Go.step (S' := T2.setTop (mkF m 17 #[rv tb, iv 0, iv 0, iv 0] [(.ref tb), (.int 0)])) (fun t k => ?_) ?_
 · refine XS.istoreN X2.here hx rfl (hb hby d10_14) rfl (l' := #[rv tb, iv 0, iv 0, iv 0]) rfl ?_
   refine XS.iloadN X2.here hx rfl (hb hby d10_15) rfl ?_
   refine XS.aloadN X2.here hx rfl (hb hby d10_16) rfl rfl ?_
   exact k
 refine Go.len X2 hx hZ e2 V_tb (hb hby d10_17) ?_
 refine Go.cS X2 hx hml hown hZ (own_w hw 65 rfl) (own_w hw 66 rfl) (own_w hw 63 rfl) (own_w hw 67 rfl) (rmMnA l Z a0 hw [] (0 : Int32) (0 : Int32) h0 n0 O (by decide)) 0 [] pd__28II_29I (hb hby d10_18) e2 (fun _ T3 L3 X3 hQ3 => ?_)
 obtain ⟨rfl, Nq3, e3⟩ := hQ3
 have N3 := Fr.app N2 Nq3
 refine Go.step (S' := T3.setTop (mkF m 28 #[rv tb, iv 0, iv 0, iv 0] [(.int (-1))])) (fun t k => ?_) ?_
 · refine XS.istoreN X3.here hx rfl (hb hby d10_21) rfl (l' := #[rv tb, iv 0, iv 0, iv 0]) rfl ?_
   refine XS.iloadN X3.here hx rfl (hb hby d10_22) rfl ?_
   refine XS.iloadN X3.here hx rfl (hb hby d10_23) rfl ?_
   refine XS.icmpNo X3.here hx rfl (hb hby d10_24) rfl (flt ((by decide) : ¬ ((0 : Int32) < (0 : Int32)))).1 ?_
   refine XS.iconst X3.here hx rfl (hb hby d10_27) ?_
   exact k
 exact Go.rt X3 hx Bd (w := (.int (-1))) rfl (Or.inl ⟨rfl, Or.inl rfl, _, rfl⟩) (hb hby d10_28) e3 ⟨rfl, N3, rfl⟩
abbrev y_23 : MethodName := ⟨"java/lang/String", "length", "()I"⟩
theorem d8_0 : decode jdk_42_method_54_code 0 = .ok (.aload_n 0, 1) := by decide +kernel
theorem d8_1 : decode jdk_42_method_54_code 1 = .ok (.getfield 9, 3) := by decide +kernel
theorem d8_4 : decode jdk_42_method_54_code 4 = .ok (.arraylength, 1) := by decide +kernel
theorem d8_5 : decode jdk_42_method_54_code 5 = .ok (.aload_n 0, 1) := by decide +kernel
theorem d8_6 : decode jdk_42_method_54_code 6 = .ok (.invokevirtual 335, 3) := by decide +kernel
theorem pd__28_29B : parseMethodDescriptor "()B" = some ⟨[], some .byte⟩ := by decide +kernel
theorem d8_9 : decode jdk_42_method_54_code 9 = .ok (.ishr, 1) := by decide +kernel
theorem d8_10 : decode jdk_42_method_54_code 10 = .ok (.ireturn, 1) := by decide +kernel
abbrev rm_rmLen0_0 : Room := ({ frames := 1, cells := 0, slots := 0, locals := 13 } : Room)
def Q_rmLen0_0 (Z : State) (so : Addr) (tb : Addr) (kb : ClassId) (cs : Int32) (h0 : Heap) (n0 : Nat) (v : Option Value) (h : Heap) (L : List Loc) : Prop := (v = some (.int 0)) ∧ (Fr n0 L) ∧ (h = h0)
theorem rmLen0_0 (l : Launch) (Z : State) (a0 : Array Value) (hw : HW a0 Z) (ws : List Jvm.Cond) (so : Addr) (tb : Addr) (kb : ClassId) (cs : Int32) (h0 : Heap) (n0 : Nat) (O : Old Z n0 h0) (S_CS : Sa_0 Z (.int cs)) (E_so : Exa Z h0 so "java/lang/String") (F_value_so : Fd_5 Z h0 so (.ref tb)) (F_coder_so : Fd_6 Z h0 so (.int 0)) (V_tb : Arv Z h0 tb kb .byte (0 : Int32) [] (.int 0)) (hcs : ¬ (cs = (0 : Int32))) :
    Mt l Z y_23 jdk_42_method_54_code 1 (some .int) ws rm_rmLen0_0 #[(.ref so)] h0 (Q_rmLen0_0 Z so tb kb cs h0 n0) := by
 refine own_met "java/lang/String" (plainFor_of_name pn_java_lang_String) #[rv so] (fun m => rfl) (fun p e s m below meth c s₁ Bd hx hby hml hZ hown hnm X0 e0 => ?_)
 have N0 := Fr.nil n0
 refine Go.step (S' := s₁.setTop (mkF m 1 #[rv so] [(.ref so)])) (fun t k => ?_) ?_
 · refine XS.aloadN X0.here hx rfl (hb hby d8_0) rfl rfl ?_
   exact k
 refine Go.gF X0 hx hZ hown (host := "") (Or.inl (own_w hw 22 rfl)) Via.refl e0 F_value_so (hb hby d8_1) (fun T1 X1 e1 => ?_)
 refine Go.len X1 hx hZ e1 V_tb (hb hby d8_4) ?_
 refine Go.step (S' := T1.setTop (mkF m 6 #[rv so] [(.ref so), (.int 0)])) (fun t k => ?_) ?_
 · refine XS.aloadN X1.here hx rfl (hb hby d8_5) rfl rfl ?_
   exact k
 refine Go.cV X1 hx hml hown hZ (own_w hw 49 rfl) (own_w hw 50 rfl) (own_w hw 52 rfl) (own_w hw 51 rfl) (own_w hw 5 rfl) (own_w hw 53 rfl) E_so (rmCod0 l Z a0 hw [] so cs h0 n0 O S_CS F_coder_so hcs) 1 [(.int 0)] pd__28_29B (hb hby d8_6) e1 (fun _ T2 L2 X2 hQ2 => ?_)
 obtain ⟨rfl, Nq2, e2⟩ := hQ2
 have N2 := Fr.app N0 Nq2
 refine Go.step (S' := T2.setTop (mkF m 10 #[rv so] [(.int 0)])) (fun t k => ?_) ?_
 · refine XS.ishr X2.here hx rfl (hb hby d8_9) rfl ?_
   exact k
 exact Go.rt X2 hx Bd (w := (.int 0)) rfl (Or.inl ⟨rfl, Or.inl rfl, _, rfl⟩) (hb hby d8_10) e2 ⟨rfl, N2, rfl⟩
abbrev y_24 : MethodName := ⟨"java/lang/String", "indexOf", "(II)I"⟩
theorem d6_0 : decode jdk_42_method_80_code 0 = .ok (.aload_n 0, 1) := by decide +kernel
theorem d6_1 : decode jdk_42_method_80_code 1 = .ok (.invokevirtual 492, 3) := by decide +kernel
theorem pd__28_29Z : parseMethodDescriptor "()Z" = some ⟨[], some .boolean⟩ := by decide +kernel
theorem d6_4 : decode jdk_42_method_80_code 4 = .ok (.ifCond .eq 19, 3) := by decide +kernel
theorem d6_7 : decode jdk_42_method_80_code 7 = .ok (.aload_n 0, 1) := by decide +kernel
theorem d6_8 : decode jdk_42_method_80_code 8 = .ok (.getfield 9, 3) := by decide +kernel
theorem d6_11 : decode jdk_42_method_80_code 11 = .ok (.iload_n 1, 1) := by decide +kernel
theorem d6_12 : decode jdk_42_method_80_code 12 = .ok (.iload_n 2, 1) := by decide +kernel
theorem d6_13 : decode jdk_42_method_80_code 13 = .ok (.aload_n 0, 1) := by decide +kernel
theorem d6_14 : decode jdk_42_method_80_code 14 = .ok (.invokevirtual 505, 3) := by decide +kernel
theorem pd__28_29I : parseMethodDescriptor "()I" = some ⟨[], some .int⟩ := by decide +kernel
theorem d6_17 : decode jdk_42_method_80_code 17 = .ok (.invokestatic 637, 3) := by decide +kernel
theorem d6_20 : decode jdk_42_method_80_code 20 = .ok (.goto 16, 3) := by decide +kernel
theorem d6_36 : decode jdk_42_method_80_code 36 = .ok (.ireturn, 1) := by decide +kernel
abbrev rm_rmII0_0 : Room := ({ frames := 2, cells := 0, slots := 0, locals := 28 } : Room)
def Q_rmII0_0 (Z : State) (so : Addr) (tb : Addr) (kb : ClassId) (cs : Int32) (h0 : Heap) (n0 : Nat) (v : Option Value) (h : Heap) (L : List Loc) : Prop := (v = some (.int (-1))) ∧ (Fr n0 L) ∧ (h = h0)
theorem rmII0_0 (l : Launch) (Z : State) (a0 : Array Value) (hw : HW a0 Z) (ws : List Jvm.Cond) (so : Addr) (tb : Addr) (kb : ClassId) (cs : Int32) (h0 : Heap) (n0 : Nat) (O : Old Z n0 h0) (S_CS : Sa_0 Z (.int cs)) (E_so : Exa Z h0 so "java/lang/String") (F_value_so : Fd_5 Z h0 so (.ref tb)) (F_coder_so : Fd_6 Z h0 so (.int 0)) (V_tb : Arv Z h0 tb kb .byte (0 : Int32) [] (.int 0)) (hcs : ¬ (cs = (0 : Int32))) :
    Mt l Z y_24 jdk_42_method_80_code 3 (some .int) ws rm_rmII0_0 #[(.ref so), (.int 0), (.int 0)] h0 (Q_rmII0_0 Z so tb kb cs h0 n0) := by
 refine own_met "java/lang/String" (plainFor_of_name pn_java_lang_String) #[rv so, iv 0, iv 0] (fun m => rfl) (fun p e s m below meth c s₁ Bd hx hby hml hZ hown hnm X0 e0 => ?_)
 have N0 := Fr.nil n0
 refine Go.step (S' := s₁.setTop (mkF m 1 #[rv so, iv 0, iv 0] [(.ref so)])) (fun t k => ?_) ?_
 · refine XS.aloadN X0.here hx rfl (hb hby d6_0) rfl rfl ?_
   exact k
 refine Go.cV X0 hx hml hown hZ (own_w hw 38 rfl) (own_w hw 39 rfl) (own_w hw 41 rfl) (own_w hw 40 rfl) (own_w hw 5 rfl) (own_w hw 42 rfl) E_so (rmLat0 l Z a0 hw [] so cs h0 n0 O S_CS F_coder_so hcs) 0 [] pd__28_29Z (hb hby d6_1) e0 (fun _ T1 L1 X1 hQ1 => ?_)
 obtain ⟨rfl, Nq1, e1⟩ := hQ1
 have N1 := Fr.app N0 Nq1
 refine Go.step (S' := T1.setTop (mkF m 8 #[rv so, iv 0, iv 0] [(.ref so)])) (fun t k => ?_) ?_
 · refine XS.ifNo X1.here hx rfl (hb hby d6_4) rfl ((if0 _ _).trans (feq ((by decide) : ¬ ((1 : Int32) = (0 : Int32)))).1) ?_
   refine XS.aloadN X1.here hx rfl (hb hby d6_7) rfl rfl ?_
   exact k
 refine Go.gF X1 hx hZ hown (host := "") (Or.inl (own_w hw 22 rfl)) Via.refl e1 F_value_so (hb hby d6_8) (fun T2 X2 e2 => ?_)
 refine Go.step (S' := T2.setTop (mkF m 14 #[rv so, iv 0, iv 0] [(.ref so), (.int 0), (.int 0), (.ref tb)])) (fun t k => ?_) ?_
 · refine XS.iloadN X2.here hx rfl (hb hby d6_11) rfl ?_
   refine XS.iloadN X2.here hx rfl (hb hby d6_12) rfl ?_
   refine XS.aloadN X2.here hx rfl (hb hby d6_13) rfl rfl ?_
   exact k
 refine Go.cV X2 hx hml hown hZ (own_w hw 44 rfl) (own_w hw 45 rfl) (own_w hw 47 rfl) (own_w hw 46 rfl) (own_w hw 5 rfl) (own_w hw 48 rfl) E_so (rmLen0_0 l Z a0 hw [] so tb kb cs h0 n0 O S_CS E_so F_value_so F_coder_so V_tb hcs) 3 [(.int 0), (.int 0), (.ref tb)] pd__28_29I (hb hby d6_14) e2 (fun _ T3 L3 X3 hQ3 => ?_)
 obtain ⟨rfl, Nq3, e3⟩ := hQ3
 have N3 := Fr.app N1 Nq3
 refine Go.cS X3 hx hml hown hZ (own_w hw 54 rfl) (own_w hw 55 rfl) (own_w hw 56 rfl) (own_w hw 57 rfl) (rmLX0 l Z a0 hw [] tb kb h0 n0 O V_tb) 0 [] pd__28_5bBIII_29I (hb hby d6_17) e3 (fun _ T4 L4 X4 hQ4 => ?_)
 obtain ⟨rfl, Nq4, e4⟩ := hQ4
 have N4 := Fr.app N3 Nq4
 refine Go.step (S' := T4.setTop (mkF m 36 #[rv so, iv 0, iv 0] [(.int (-1))])) (fun t k => ?_) ?_
 · refine XS.goto X4.here hx rfl (pc0 := 20) (pc' := 36) rfl (hb hby d6_20) (by decide) (by decide) ?_
   exact k
 exact Go.rt X4 hx Bd (w := (.int (-1))) rfl (Or.inl ⟨rfl, Or.inl rfl, _, rfl⟩) (hb hby d6_36) e4 ⟨rfl, N4, rfl⟩
abbrev y_25 : MethodName := ⟨"java/lang/String", "indexOf", "(I)I"⟩
theorem d5_0 : decode jdk_42_method_79_code 0 = .ok (.aload_n 0, 1) := by decide +kernel
theorem d5_1 : decode jdk_42_method_79_code 1 = .ok (.iload_n 1, 1) := by decide +kernel
theorem d5_2 : decode jdk_42_method_79_code 2 = .ok (.iconst 0, 1) := by decide +kernel
theorem d5_3 : decode jdk_42_method_79_code 3 = .ok (.invokevirtual 633, 3) := by decide +kernel
theorem d5_6 : decode jdk_42_method_79_code 6 = .ok (.ireturn, 1) := by decide +kernel
abbrev rm_rmI0_0 : Room := ({ frames := 3, cells := 0, slots := 0, locals := 42 } : Room)
def Q_rmI0_0 (Z : State) (so : Addr) (tb : Addr) (kb : ClassId) (cs : Int32) (h0 : Heap) (n0 : Nat) (v : Option Value) (h : Heap) (L : List Loc) : Prop := (v = some (.int (-1))) ∧ (Fr n0 L) ∧ (h = h0)
theorem rmI0_0 (l : Launch) (Z : State) (a0 : Array Value) (hw : HW a0 Z) (ws : List Jvm.Cond) (so : Addr) (tb : Addr) (kb : ClassId) (cs : Int32) (h0 : Heap) (n0 : Nat) (O : Old Z n0 h0) (S_CS : Sa_0 Z (.int cs)) (E_so : Exa Z h0 so "java/lang/String") (F_value_so : Fd_5 Z h0 so (.ref tb)) (F_coder_so : Fd_6 Z h0 so (.int 0)) (V_tb : Arv Z h0 tb kb .byte (0 : Int32) [] (.int 0)) (hcs : ¬ (cs = (0 : Int32))) :
    Mt l Z y_25 jdk_42_method_79_code 2 (some .int) ws rm_rmI0_0 #[(.ref so), (.int 0)] h0 (Q_rmI0_0 Z so tb kb cs h0 n0) := by
 refine own_met "java/lang/String" (plainFor_of_name pn_java_lang_String) #[rv so, iv 0] (fun m => rfl) (fun p e s m below meth c s₁ Bd hx hby hml hZ hown hnm X0 e0 => ?_)
 have N0 := Fr.nil n0
 refine Go.step (S' := s₁.setTop (mkF m 3 #[rv so, iv 0] [(.int 0), (.int 0), (.ref so)])) (fun t k => ?_) ?_
 · refine XS.aloadN X0.here hx rfl (hb hby d5_0) rfl rfl ?_
   refine XS.iloadN X0.here hx rfl (hb hby d5_1) rfl ?_
   refine XS.iconst X0.here hx rfl (hb hby d5_2) ?_
   exact k
 refine Go.cV X0 hx hml hown hZ (own_w hw 33 rfl) (own_w hw 34 rfl) (own_w hw 36 rfl) (own_w hw 35 rfl) (own_w hw 5 rfl) (own_w hw 37 rfl) E_so (rmII0_0 l Z a0 hw [] so tb kb cs h0 n0 O S_CS E_so F_value_so F_coder_so V_tb hcs) 0 [] pd__28II_29I (hb hby d5_3) e0 (fun _ T1 L1 X1 hQ1 => ?_)
 obtain ⟨rfl, Nq1, e1⟩ := hQ1
 have N1 := Fr.app N0 Nq1
 exact Go.rt X1 hx Bd (w := (.int (-1))) rfl (Or.inl ⟨rfl, Or.inl rfl, _, rfl⟩) (hb hby d5_6) e1 ⟨rfl, N1, rfl⟩
abbrev y_26 : MethodName := ⟨"com/example/loomlist/loomlist/core/Naming", "isStorable", "(Ljava/lang/String;)Z"⟩
theorem pn_com_example_loomlist_loomlist_core_Naming : plainName "com/example/loomlist/loomlist/core/Naming" = true := by first | (simp [plainName, overriddenIn]; done) | decide +kernel
theorem d4_0 : decode prog_32_method_6_code 0 = .ok (.aload_n 0, 1) := by decide +kernel
theorem d4_1 : decode prog_32_method_6_code 1 = .ok (.iconst 0, 1) := by decide +kernel
theorem d4_2 : decode prog_32_method_6_code 2 = .ok (.invokevirtual 97, 3) := by decide +kernel
theorem d4_5 : decode prog_32_method_6_code 5 = .ok (.ifCond .ge 7, 3) := by decide +kernel
theorem d4_8 : decode prog_32_method_6_code 8 = .ok (.iconst 1, 1) := by decide +kernel
theorem d4_9 : decode prog_32_method_6_code 9 = .ok (.goto 4, 3) := by decide +kernel
theorem d4_13 : decode prog_32_method_6_code 13 = .ok (.ireturn, 1) := by decide +kernel
abbrev rm_rmSt0_0 : Room := ({ frames := 4, cells := 0, slots := 0, locals := 55 } : Room)
def Q_rmSt0_0 (Z : State) (so : Addr) (tb : Addr) (kb : ClassId) (cs : Int32) (h0 : Heap) (n0 : Nat) (v : Option Value) (h : Heap) (L : List Loc) : Prop := (v = some (.int 1)) ∧ (Fr n0 L) ∧ (h = h0)
theorem rmSt0_0 (l : Launch) (Z : State) (a0 : Array Value) (hw : HW a0 Z) (ws : List Jvm.Cond) (so : Addr) (tb : Addr) (kb : ClassId) (cs : Int32) (h0 : Heap) (n0 : Nat) (O : Old Z n0 h0) (S_CS : Sa_0 Z (.int cs)) (E_so : Exa Z h0 so "java/lang/String") (F_value_so : Fd_5 Z h0 so (.ref tb)) (F_coder_so : Fd_6 Z h0 so (.int 0)) (V_tb : Arv Z h0 tb kb .byte (0 : Int32) [] (.int 0)) (hcs : ¬ (cs = (0 : Int32))) :
    Mt l Z y_26 prog_32_method_6_code 1 (some .boolean) ws rm_rmSt0_0 #[(.ref so)] h0 (Q_rmSt0_0 Z so tb kb cs h0 n0) := by
 refine own_met "com/example/loomlist/loomlist/core/Naming" (plainFor_of_name pn_com_example_loomlist_loomlist_core_Naming) #[rv so] (fun m => rfl) (fun p e s m below meth c s₁ Bd hx hby hml hZ hown hnm X0 e0 => ?_)
 have N0 := Fr.nil n0
 refine Go.step (S' := s₁.setTop (mkF m 2 #[rv so] [(.int 0), (.ref so)])) (fun t k => ?_) ?_
 · refine XS.aloadN X0.here hx rfl (hb hby d4_0) rfl rfl ?_
   refine XS.iconst X0.here hx rfl (hb hby d4_1) ?_
   exact k
 refine Go.cV X0 hx hml hown hZ (own_w hw 28 rfl) (own_w hw 29 rfl) (own_w hw 31 rfl) (own_w hw 30 rfl) (own_w hw 5 rfl) (own_w hw 32 rfl) E_so (rmI0_0 l Z a0 hw [] so tb kb cs h0 n0 O S_CS E_so F_value_so F_coder_so V_tb hcs) 0 [] pd__28I_29I (hb hby d4_2) e0 (fun _ T1 L1 X1 hQ1 => ?_)
 obtain ⟨rfl, Nq1, e1⟩ := hQ1
 have N1 := Fr.app N0 Nq1
 refine Go.step (S' := T1.setTop (mkF m 13 #[rv so] [(.int 1)])) (fun t k => ?_) ?_
 · refine XS.ifNo X1.here hx rfl (hb hby d4_5) rfl ((if0 _ _).trans (tlt ((by decide) : (-1 : Int32) < (0 : Int32))).2.1) ?_
   refine XS.iconst X1.here hx rfl (hb hby d4_8) ?_
   refine XS.goto X1.here hx rfl (pc0 := 9) (pc' := 13) rfl (hb hby d4_9) (by decide) (by decide) ?_
   exact k
 exact Go.rt X1 hx Bd (w := (.int 1)) (by decide) (Or.inl ⟨rfl, Or.inr (Or.inl rfl), _, rfl⟩) (hb hby d4_13) e1 ⟨rfl, N1, rfl⟩
abbrev y_27 : MethodName := ⟨"java/lang/StringLatin1", "indexOfChar", "([BIII)I"⟩
theorem d17_0 : decode jdk_43_method_23_code 0 = .ok (.iload_n 1, 1) := by decide +kernel
theorem d17_1 : decode jdk_43_method_23_code 1 = .ok (.i2b, 1) := by decide +kernel
theorem d17_2 : decode jdk_43_method_23_code 2 = .ok (.istore 4, 2) := by decide +kernel
theorem d17_4 : decode jdk_43_method_23_code 4 = .ok (.iload_n 2, 1) := by decide +kernel
theorem d17_5 : decode jdk_43_method_23_code 5 = .ok (.istore 5, 2) := by decide +kernel
theorem d17_7 : decode jdk_43_method_23_code 7 = .ok (.iload 5, 2) := by decide +kernel
theorem d17_9 : decode jdk_43_method_23_code 9 = .ok (.iload_n 3, 1) := by decide +kernel
theorem d17_10 : decode jdk_43_method_23_code 10 = .ok (.if_icmp .ge 21, 3) := by decide +kernel
theorem d17_13 : decode jdk_43_method_23_code 13 = .ok (.aload_n 0, 1) := by decide +kernel
theorem d17_14 : decode jdk_43_method_23_code 14 = .ok (.iload 5, 2) := by decide +kernel
theorem d17_16 : decode jdk_43_method_23_code 16 = .ok (.baload, 1) := by decide +kernel
theorem d17_17 : decode jdk_43_method_23_code 17 = .ok (.iload 4, 2) := by decide +kernel
theorem d17_19 : decode jdk_43_method_23_code 19 = .ok (.if_icmp .ne 6, 3) := by decide +kernel
theorem d17_22 : decode jdk_43_method_23_code 22 = .ok (.iload 5, 2) := by decide +kernel
theorem d17_24 : decode jdk_43_method_23_code 24 = .ok (.ireturn, 1) := by decide +kernel
theorem d17_25 : decode jdk_43_method_23_code 25 = .ok (.iinc 5 1, 3) := by decide +kernel
theorem d17_28 : decode jdk_43_method_23_code 28 = .ok (.goto (-21), 3) := by decide +kernel
theorem d17_31 : decode jdk_43_method_23_code 31 = .ok (.iconst (-1), 1) := by decide +kernel
theorem d17_32 : decode jdk_43_method_23_code 32 = .ok (.ireturn, 1) := by decide +kernel
abbrev rm_rmLI1 : Room := ({ frames := 0, cells := 0, slots := 0, locals := 0 } : Room)
def Q_rmLI1 (Z : State) (tb : Addr) (kb : ClassId) (x0 : Int32) (h0 : Heap) (n0 : Nat) (v : Option Value) (h : Heap) (L : List Loc) : Prop := ∃ r : Int32, (v = some (.int r)) ∧ (Fr n0 L) ∧ (h = h0) ∧ (r < (0 : Int32) ↔ (¬ ((x0.toInt8.toInt32) = (0 : Int32))))
theorem rmLI1 (l : Launch) (Z : State) (a0 : Array Value) (hw : HW a0 Z) (ws : List Jvm.Cond) (tb : Addr) (kb : ClassId) (x0 : Int32) (h0 : Heap) (n0 : Nat) (O : Old Z n0 h0) (V_tb : Arv Z h0 tb kb .byte (1 : Int32) [(.int (x0.toInt8.toInt32))] (.int 0)) :
    Mt l Z y_27 jdk_43_method_23_code 6 (some .int) ws rm_rmLI1 #[(.ref tb), (.int 0), (.int 0), (.int 1)] h0 (Q_rmLI1 Z tb kb x0 h0 n0) := by
 refine own_met "java/lang/StringLatin1" (plainFor_of_name pn_java_lang_StringLatin1) #[rv tb, iv 0, iv 0, iv 1, u_, u_] (fun m => rfl) (fun p e s m below meth c s₁ Bd hx hby hml hZ hown hnm X0 e0 => ?_)
 have N0 := Fr.nil n0
 refine Go.step (S' := s₁.setTop (mkF m 16 #[rv tb, iv 0, iv 0, iv 1, iv 0, iv 0] [(.int 0), (.ref tb)])) (fun t k => ?_) ?_
 · refine XS.iloadN X0.here hx rfl (hb hby d17_0) rfl ?_
   refine XS.i2b X0.here hx rfl (hb hby d17_1) rfl ?_
   refine XS.istore X0.here hx rfl (hb hby d17_2) rfl (l' := #[rv tb, iv 0, iv 0, iv 1, iv 0, u_]) rfl ?_
   refine XS.iloadN X0.here hx rfl (hb hby d17_4) rfl ?_
   refine XS.istore X0.here hx rfl (hb hby d17_5) rfl (l' := #[rv tb, iv 0, iv 0, iv 1, iv 0, iv 0]) rfl ?_
   refine XS.iload X0.here hx rfl (hb hby d17_7) rfl ?_
   show Steps p.tables e below (s₁.setTop (mkF m 9 #[rv tb, iv 0, iv 0, iv 1, iv 0, iv 0] [(.int 0)])) _
   refine XS.iloadN X0.here hx rfl (hb hby d17_9) rfl ?_
   refine XS.icmpNo X0.here hx rfl (hb hby d17_10) rfl (tlt ((by decide) : (0 : Int32) < (1 : Int32))).2.1 ?_
   refine XS.aloadN X0.here hx rfl (hb hby d17_13) rfl rfl ?_
   refine XS.iload X0.here hx rfl (hb hby d17_14) rfl ?_
   exact k
 refine Go.bal X0 hx hZ e0 V_tb (hb hby d17_16) (v := (.int (x0.toInt8.toInt32))) rfl ?_
 refine Go.step (S' := s₁.setTop (mkF m 19 #[rv tb, iv 0, iv 0, iv 1, iv 0, iv 0] [(.int 0), (.int (x0.toInt8.toInt32))])) (fun t k => ?_) ?_
 · refine XS.iload X0.here hx rfl (hb hby d17_17) rfl ?_
   exact k
 by_cases hc19 : (x0.toInt8.toInt32) = (0 : Int32)
 ·skip
  refine Go.step (S' := s₁.setTop (mkF m 24 #[rv tb, iv 0, iv 0, iv 1, iv 0, iv 0] [(.int 0)])) (fun t k => ?_) ?_
  · refine XS.icmpNo X0.here hx rfl (hb hby d17_19) rfl (teq (hc19 : (x0.toInt8.toInt32) = (0 : Int32))).2 ?_
    refine XS.iload X0.here hx rfl (hb hby d17_22) rfl ?_
    exact k
  exact Go.rt X0 hx Bd (w := (.int 0)) rfl (Or.inl ⟨rfl, Or.inl rfl, _, rfl⟩) (hb hby d17_24) e0 ⟨(0 : Int32), rfl, N0, rfl, ⟨fun q => absurd q (by decide), fun q => absurd hc19 q⟩⟩
 ·skip
  refine Go.step (S' := s₁.setTop (mkF m 32 #[rv tb, iv 0, iv 0, iv 1, iv 0, iv 1] [(.int (-1))])) (fun t k => ?_) ?_
  · refine XS.icmpYes X0.here hx rfl (pc0 := 19) (pc' := 25) rfl (hb hby d17_19) rfl (feq (hc19 : ¬ ((x0.toInt8.toInt32) = (0 : Int32)))).2 (by decide) (by decide) ?_
    refine XS.iinc X0.here hx rfl (hb hby d17_25) rfl (l' := #[rv tb, iv 0, iv 0, iv 1, iv 0, iv 1]) rfl ?_
    refine XS.goto X0.here hx rfl (pc0 := 28) (pc' := 7) rfl (hb hby d17_28) (by decide) (by decide) ?_
    refine XS.iload X0.here hx rfl (hb hby d17_7) rfl ?_
    refine XS.iloadN X0.here hx rfl (hb hby d17_9) rfl ?_
    refine XS.icmpYes X0.here hx rfl (pc0 := 10) (pc' := 31) rfl (hb hby d17_10) rfl (flt ((by decide) : ¬ ((1 : Int32) < (1 : Int32)))).2.1 (by decide) (by decide) ?_
    show Steps p.tables e below (s₁.setTop (mkF m 31 #[rv tb, iv 0, iv 0, iv 1, iv 0, iv 1] [])) _
    refine XS.iconst X0.here hx rfl (hb hby d17_31) ?_
    exact k
  exact Go.rt X0 hx Bd (w := (.int (-1))) rfl (Or.inl ⟨rfl, Or.inl rfl, _, rfl⟩) (hb hby d17_32) e0 ⟨(-1 : Int32), rfl, N0, rfl, ⟨fun _ => hc19, fun _ => by decide⟩⟩
theorem d10_29 : decode jdk_43_method_22_code 29 = .ok (.aload_n 0, 1) := by decide +kernel
theorem d10_30 : decode jdk_43_method_22_code 30 = .ok (.iload_n 1, 1) := by decide +kernel
theorem d10_31 : decode jdk_43_method_22_code 31 = .ok (.iload_n 2, 1) := by decide +kernel
theorem d10_32 : decode jdk_43_method_22_code 32 = .ok (.iload_n 3, 1) := by decide +kernel
theorem d10_33 : decode jdk_43_method_22_code 33 = .ok (.invokestatic 95, 3) := by decide +kernel
theorem d10_36 : decode jdk_43_method_22_code 36 = .ok (.ireturn, 1) := by decide +kernel
abbrev rm_rmLX1 : Room := ({ frames := 1, cells := 0, slots := 0, locals := 17 } : Room)
def Q_rmLX1 (Z : State) (tb : Addr) (kb : ClassId) (x0 : Int32) (h0 : Heap) (n0 : Nat) (v : Option Value) (h : Heap) (L : List Loc) : Prop := ∃ r : Int32, (v = some (.int r)) ∧ (Fr n0 L) ∧ (h = h0) ∧ (r < (0 : Int32) ↔ (¬ ((x0.toInt8.toInt32) = (0 : Int32))))
theorem rmLX1 (l : Launch) (Z : State) (a0 : Array Value) (hw : HW a0 Z) (ws : List Jvm.Cond) (tb : Addr) (kb : ClassId) (x0 : Int32) (h0 : Heap) (n0 : Nat) (O : Old Z n0 h0) (V_tb : Arv Z h0 tb kb .byte (1 : Int32) [(.int (x0.toInt8.toInt32))] (.int 0)) :
    Mt l Z y_22 jdk_43_method_22_code 4 (some .int) ws rm_rmLX1 #[(.ref tb), (.int 0), (.int 0), (.int 1)] h0 (Q_rmLX1 Z tb kb x0 h0 n0) := by
 refine own_met "java/lang/StringLatin1" (plainFor_of_name pn_java_lang_StringLatin1) #[rv tb, iv 0, iv 0, iv 1] (fun m => rfl) (fun p e s m below meth c s₁ Bd hx hby hml hZ hown hnm X0 e0 => ?_)
 have N0 := Fr.nil n0
 refine Go.step (S' := s₁.setTop (mkF m 1 #[rv tb, iv 0, iv 0, iv 1] [(.int 0)])) (fun t k => ?_) ?_
 · refine XS.iloadN X0.here hx rfl (hb hby d10_0) rfl ?_
   exact k
 refine Go.cS X0 hx hml hown hZ (own_w hw 58 rfl) (own_w hw 59 rfl) (own_w hw 56 rfl) (own_w hw 60 rfl) (rmCan l Z a0 hw []  h0 n0 O ) 0 [] pd__28I_29Z (hb hby d10_1) e0 (fun _ T1 L1 X1 hQ1 => ?_)
 obtain ⟨rfl, Nq1, e1⟩ := hQ1
 have N1 := Fr.app N0 Nq1
 refine Go.step (S' := T1.setTop (mkF m 11 #[rv tb, iv 0, iv 0, iv 1] [(.int 0), (.int 0)])) (fun t k => ?_) ?_
 · refine XS.ifYes X1.here hx rfl (pc0 := 4) (pc' := 9) rfl (hb hby d10_4) rfl ((if0 _ _).trans (feq ((by decide) : ¬ ((1 : Int32) = (0 : Int32)))).2) (by decide) (by decide) ?_
   refine XS.iloadN X1.here hx rfl (hb hby d10_9) rfl ?_
   refine XS.iconst X1.here hx rfl (hb hby d10_10) ?_
   exact k
 refine Go.cS X1 hx hml hown hZ (own_w hw 61 rfl) (own_w hw 62 rfl) (own_w hw 63 rfl) (own_w hw 64 rfl) (rmMxA l Z a0 hw [] (0 : Int32) (0 : Int32) h0 n0 O (by decide)) 0 [] pd__28II_29I (hb hby d10_11) e1 (fun _ T2 L2 X2 hQ2 => ?_)
 obtain ⟨rfl, Nq2, e2⟩ := hQ2
 have N2 := Fr.app N1 Nq2
 refine Go.step (S' := T2.setTop (mkF m 17 #[rv tb, iv 0, iv 0, iv 1] [(.ref tb), (.int 1)])) (fun t k => ?_) ?_
 · refine XS.istoreN X2.here hx rfl (hb hby d10_14) rfl (l' := #[rv tb, iv 0, iv 0, iv 1]) rfl ?_
   refine XS.iloadN X2.here hx rfl (hb hby d10_15) rfl ?_
   refine XS.aloadN X2.here hx rfl (hb hby d10_16) rfl rfl ?_
   exact k
 refine Go.len X2 hx hZ e2 V_tb (hb hby d10_17) ?_
 refine Go.cS X2 hx hml hown hZ (own_w hw 65 rfl) (own_w hw 66 rfl) (own_w hw 63 rfl) (own_w hw 67 rfl) (rmMnA l Z a0 hw [] (1 : Int32) (1 : Int32) h0 n0 O (by decide)) 0 [] pd__28II_29I (hb hby d10_18) e2 (fun _ T3 L3 X3 hQ3 => ?_)
 obtain ⟨rfl, Nq3, e3⟩ := hQ3
 have N3 := Fr.app N2 Nq3
 refine Go.step (S' := T3.setTop (mkF m 33 #[rv tb, iv 0, iv 0, iv 1] [(.int 1), (.int 0), (.int 0), (.ref tb)])) (fun t k => ?_) ?_
 · refine XS.istoreN X3.here hx rfl (hb hby d10_21) rfl (l' := #[rv tb, iv 0, iv 0, iv 1]) rfl ?_
   refine XS.iloadN X3.here hx rfl (hb hby d10_22) rfl ?_
   refine XS.iloadN X3.here hx rfl (hb hby d10_23) rfl ?_
   refine XS.icmpYes X3.here hx rfl (pc0 := 24) (pc' := 29) rfl (hb hby d10_24) rfl (tlt ((by decide) : (0 : Int32) < (1 : Int32))).1 (by decide) (by decide) ?_
   refine XS.aloadN X3.here hx rfl (hb hby d10_29) rfl rfl ?_
   refine XS.iloadN X3.here hx rfl (hb hby d10_30) rfl ?_
   show Steps p.tables e below (T3.setTop (mkF m 31 #[rv tb, iv 0, iv 0, iv 1] [(.int 0), (.ref tb)])) _
   refine XS.iloadN X3.here hx rfl (hb hby d10_31) rfl ?_
   refine XS.iloadN X3.here hx rfl (hb hby d10_32) rfl ?_
   exact k
 refine Go.cS X3 hx hml hown hZ (own_w hw 78 rfl) (own_w hw 79 rfl) (own_w hw 56 rfl) (own_w hw 80 rfl) (rmLI1 l Z a0 hw [] tb kb x0 h0 n0 O V_tb) 0 [] pd__28_5bBIII_29I (hb hby d10_33) e3 (fun _ T4 L4 X4 hQ4 => ?_)
 obtain ⟨r_4, rfl, Nq4, e4, kr_4⟩ := hQ4
 have N4 := Fr.app N3 Nq4
 exact Go.rt X4 hx Bd (w := (.int r_4)) rfl (Or.inl ⟨rfl, Or.inl rfl, _, rfl⟩) (hb hby d10_36) e4 ⟨r_4, rfl, N4, rfl, (by assumption)⟩
abbrev rm_rmLen1_0 : Room := ({ frames := 1, cells := 0, slots := 0, locals := 13 } : Room)
def Q_rmLen1_0 (Z : State) (so : Addr) (tb : Addr) (kb : ClassId) (x0 : Int32) (cs : Int32) (h0 : Heap) (n0 : Nat) (v : Option Value) (h : Heap) (L : List Loc) : Prop := (v = some (.int 1)) ∧ (Fr n0 L) ∧ (h = h0)
theorem rmLen1_0 (l : Launch) (Z : State) (a0 : Array Value) (hw : HW a0 Z) (ws : List Jvm.Cond) (so : Addr) (tb : Addr) (kb : ClassId) (x0 : Int32) (cs : Int32) (h0 : Heap) (n0 : Nat) (O : Old Z n0 h0) (S_CS : Sa_0 Z (.int cs)) (E_so : Exa Z h0 so "java/lang/String") (F_value_so : Fd_5 Z h0 so (.ref tb)) (F_coder_so : Fd_6 Z h0 so (.int 0)) (V_tb : Arv Z h0 tb kb .byte (1 : Int32) [(.int (x0.toInt8.toInt32))] (.int 0)) (hcs : ¬ (cs = (0 : Int32))) :
    Mt l Z y_23 jdk_42_method_54_code 1 (some .int) ws rm_rmLen1_0 #[(.ref so)] h0 (Q_rmLen1_0 Z so tb kb x0 cs h0 n0) := by
 refine own_met "java/lang/String" (plainFor_of_name pn_java_lang_String) #[rv so] (fun m => rfl) (fun p e s m below meth c s₁ Bd hx hby hml hZ hown hnm X0 e0 => ?_)
 have N0 := Fr.nil n0
 refine Go.step (S' := s₁.setTop (mkF m 1 #[rv so] [(.ref so)])) (fun t k => ?_) ?_
 · refine XS.aloadN X0.here hx rfl (hb hby d8_0) rfl rfl ?_
   exact k
 refine Go.gF X0 hx hZ hown (host := "") (Or.inl (own_w hw 22 rfl)) Via.refl e0 F_value_so (hb hby d8_1) (fun T1 X1 e1 => ?_)
 refine Go.len X1 hx hZ e1 V_tb (hb hby d8_4) ?_
 refine Go.step (S' := T1.setTop (mkF m 6 #[rv so] [(.ref so), (.int 1)])) (fun t k => ?_) ?_
 · refine XS.aloadN X1.here hx rfl (hb hby d8_5) rfl rfl ?_
   exact k
 refine Go.cV X1 hx hml hown hZ (own_w hw 49 rfl) (own_w hw 50 rfl) (own_w hw 52 rfl) (own_w hw 51 rfl) (own_w hw 5 rfl) (own_w hw 53 rfl) E_so (rmCod0 l Z a0 hw [] so cs h0 n0 O S_CS F_coder_so hcs) 1 [(.int 1)] pd__28_29B (hb hby d8_6) e1 (fun _ T2 L2 X2 hQ2 => ?_)
 obtain ⟨rfl, Nq2, e2⟩ := hQ2
 have N2 := Fr.app N0 Nq2
 refine Go.step (S' := T2.setTop (mkF m 10 #[rv so] [(.int 1)])) (fun t k => ?_) ?_
 · refine XS.ishr X2.here hx rfl (hb hby d8_9) rfl ?_
   exact k
 exact Go.rt X2 hx Bd (w := (.int 1)) rfl (Or.inl ⟨rfl, Or.inl rfl, _, rfl⟩) (hb hby d8_10) e2 ⟨rfl, N2, rfl⟩
abbrev rm_rmII1_0 : Room := ({ frames := 2, cells := 0, slots := 0, locals := 32 } : Room)
def Q_rmII1_0 (Z : State) (so : Addr) (tb : Addr) (kb : ClassId) (x0 : Int32) (cs : Int32) (h0 : Heap) (n0 : Nat) (v : Option Value) (h : Heap) (L : List Loc) : Prop := ∃ r : Int32, (v = some (.int r)) ∧ (Fr n0 L) ∧ (h = h0) ∧ (r < (0 : Int32) ↔ (¬ ((x0.toInt8.toInt32) = (0 : Int32))))
theorem rmII1_0 (l : Launch) (Z : State) (a0 : Array Value) (hw : HW a0 Z) (ws : List Jvm.Cond) (so : Addr) (tb : Addr) (kb : ClassId) (x0 : Int32) (cs : Int32) (h0 : Heap) (n0 : Nat) (O : Old Z n0 h0) (S_CS : Sa_0 Z (.int cs)) (E_so : Exa Z h0 so "java/lang/String") (F_value_so : Fd_5 Z h0 so (.ref tb)) (F_coder_so : Fd_6 Z h0 so (.int 0)) (V_tb : Arv Z h0 tb kb .byte (1 : Int32) [(.int (x0.toInt8.toInt32))] (.int 0)) (hcs : ¬ (cs = (0 : Int32))) :
    Mt l Z y_24 jdk_42_method_80_code 3 (some .int) ws rm_rmII1_0 #[(.ref so), (.int 0), (.int 0)] h0 (Q_rmII1_0 Z so tb kb x0 cs h0 n0) := by
 refine own_met "java/lang/String" (plainFor_of_name pn_java_lang_String) #[rv so, iv 0, iv 0] (fun m => rfl) (fun p e s m below meth c s₁ Bd hx hby hml hZ hown hnm X0 e0 => ?_)
 have N0 := Fr.nil n0
 refine Go.step (S' := s₁.setTop (mkF m 1 #[rv so, iv 0, iv 0] [(.ref so)])) (fun t k => ?_) ?_
 · refine XS.aloadN X0.here hx rfl (hb hby d6_0) rfl rfl ?_
   exact k
 refine Go.cV X0 hx hml hown hZ (own_w hw 38 rfl) (own_w hw 39 rfl) (own_w hw 41 rfl) (own_w hw 40 rfl) (own_w hw 5 rfl) (own_w hw 42 rfl) E_so (rmLat0 l Z a0 hw [] so cs h0 n0 O S_CS F_coder_so hcs) 0 [] pd__28_29Z (hb hby d6_1) e0 (fun _ T1 L1 X1 hQ1 => ?_)
 obtain ⟨rfl, Nq1, e1⟩ := hQ1
 have N1 := Fr.app N0 Nq1
 refine Go.step (S' := T1.setTop (mkF m 8 #[rv so, iv 0, iv 0] [(.ref so)])) (fun t k => ?_) ?_
 · refine XS.ifNo X1.here hx rfl (hb hby d6_4) rfl ((if0 _ _).trans (feq ((by decide) : ¬ ((1 : Int32) = (0 : Int32)))).1) ?_
   refine XS.aloadN X1.here hx rfl (hb hby d6_7) rfl rfl ?_
   exact k
 refine Go.gF X1 hx hZ hown (host := "") (Or.inl (own_w hw 22 rfl)) Via.refl e1 F_value_so (hb hby d6_8) (fun T2 X2 e2 => ?_)
 refine Go.step (S' := T2.setTop (mkF m 14 #[rv so, iv 0, iv 0] [(.ref so), (.int 0), (.int 0), (.ref tb)])) (fun t k => ?_) ?_
 · refine XS.iloadN X2.here hx rfl (hb hby d6_11) rfl ?_
   refine XS.iloadN X2.here hx rfl (hb hby d6_12) rfl ?_
   refine XS.aloadN X2.here hx rfl (hb hby d6_13) rfl rfl ?_
   exact k
 refine Go.cV X2 hx hml hown hZ (own_w hw 44 rfl) (own_w hw 45 rfl) (own_w hw 47 rfl) (own_w hw 46 rfl) (own_w hw 5 rfl) (own_w hw 48 rfl) E_so (rmLen1_0 l Z a0 hw [] so tb kb x0 cs h0 n0 O S_CS E_so F_value_so F_coder_so V_tb hcs) 3 [(.int 0), (.int 0), (.ref tb)] pd__28_29I (hb hby d6_14) e2 (fun _ T3 L3 X3 hQ3 => ?_)
 obtain ⟨rfl, Nq3, e3⟩ := hQ3
 have N3 := Fr.app N1 Nq3
 refine Go.cS X3 hx hml hown hZ (own_w hw 54 rfl) (own_w hw 55 rfl) (own_w hw 56 rfl) (own_w hw 57 rfl) (rmLX1 l Z a0 hw [] tb kb x0 h0 n0 O V_tb) 0 [] pd__28_5bBIII_29I (hb hby d6_17) e3 (fun _ T4 L4 X4 hQ4 => ?_)
 obtain ⟨r_4, rfl, Nq4, e4, kr_4⟩ := hQ4
 have N4 := Fr.app N3 Nq4
 refine Go.step (S' := T4.setTop (mkF m 36 #[rv so, iv 0, iv 0] [(.int r_4)])) (fun t k => ?_) ?_
 · refine XS.goto X4.here hx rfl (pc0 := 20) (pc' := 36) rfl (hb hby d6_20) (by decide) (by decide) ?_
   exact k
 exact Go.rt X4 hx Bd (w := (.int r_4)) rfl (Or.inl ⟨rfl, Or.inl rfl, _, rfl⟩) (hb hby d6_36) e4 ⟨r_4, rfl, N4, rfl, (by assumption)⟩
abbrev rm_rmI1_0 : Room := ({ frames := 3, cells := 0, slots := 0, locals := 46 } : Room)
def Q_rmI1_0 (Z : State) (so : Addr) (tb : Addr) (kb : ClassId) (x0 : Int32) (cs : Int32) (h0 : Heap) (n0 : Nat) (v : Option Value) (h : Heap) (L : List Loc) : Prop := ∃ r : Int32, (v = some (.int r)) ∧ (Fr n0 L) ∧ (h = h0) ∧ (r < (0 : Int32) ↔ (¬ ((x0.toInt8.toInt32) = (0 : Int32))))
theorem rmI1_0 (l : Launch) (Z : State) (a0 : Array Value) (hw : HW a0 Z) (ws : List Jvm.Cond) (so : Addr) (tb : Addr) (kb : ClassId) (x0 : Int32) (cs : Int32) (h0 : Heap) (n0 : Nat) (O : Old Z n0 h0) (S_CS : Sa_0 Z (.int cs)) (E_so : Exa Z h0 so "java/lang/String") (F_value_so : Fd_5 Z h0 so (.ref tb)) (F_coder_so : Fd_6 Z h0 so (.int 0)) (V_tb : Arv Z h0 tb kb .byte (1 : Int32) [(.int (x0.toInt8.toInt32))] (.int 0)) (hcs : ¬ (cs = (0 : Int32))) :
    Mt l Z y_25 jdk_42_method_79_code 2 (some .int) ws rm_rmI1_0 #[(.ref so), (.int 0)] h0 (Q_rmI1_0 Z so tb kb x0 cs h0 n0) := by
 refine own_met "java/lang/String" (plainFor_of_name pn_java_lang_String) #[rv so, iv 0] (fun m => rfl) (fun p e s m below meth c s₁ Bd hx hby hml hZ hown hnm X0 e0 => ?_)
 have N0 := Fr.nil n0
 refine Go.step (S' := s₁.setTop (mkF m 3 #[rv so, iv 0] [(.int 0), (.int 0), (.ref so)])) (fun t k => ?_) ?_
 · refine XS.aloadN X0.here hx rfl (hb hby d5_0) rfl rfl ?_
   refine XS.iloadN X0.here hx rfl (hb hby d5_1) rfl ?_
   refine XS.iconst X0.here hx rfl (hb hby d5_2) ?_
   exact k
 refine Go.cV X0 hx hml hown hZ (own_w hw 33 rfl) (own_w hw 34 rfl) (own_w hw 36 rfl) (own_w hw 35 rfl) (own_w hw 5 rfl) (own_w hw 37 rfl) E_so (rmII1_0 l Z a0 hw [] so tb kb x0 cs h0 n0 O S_CS E_so F_value_so F_coder_so V_tb hcs) 0 [] pd__28II_29I (hb hby d5_3) e0 (fun _ T1 L1 X1 hQ1 => ?_)
 obtain ⟨r_1, rfl, Nq1, e1, kr_1⟩ := hQ1
 have N1 := Fr.app N0 Nq1
 exact Go.rt X1 hx Bd (w := (.int r_1)) rfl (Or.inl ⟨rfl, Or.inl rfl, _, rfl⟩) (hb hby d5_6) e1 ⟨r_1, rfl, N1, rfl, (by assumption)⟩
theorem d4_12 : decode prog_32_method_6_code 12 = .ok (.iconst 0, 1) := by decide +kernel
abbrev rm_rmSt1_0 : Room := ({ frames := 4, cells := 0, slots := 0, locals := 59 } : Room)
def Q_rmSt1_0 (Z : State) (so : Addr) (tb : Addr) (kb : ClassId) (x0 : Int32) (cs : Int32) (h0 : Heap) (n0 : Nat) (v : Option Value) (h : Heap) (L : List Loc) : Prop := ∃ r : Int32, (v = some (.int r)) ∧ (Fr n0 L) ∧ (h = h0) ∧ ((r = (1 : Int32) ∧ (¬ ((x0.toInt8.toInt32) = (0 : Int32)))) ∨ (r = (0 : Int32) ∧ ¬ (¬ ((x0.toInt8.toInt32) = (0 : Int32)))))
theorem rmSt1_0 (l : Launch) (Z : State) (a0 : Array Value) (hw : HW a0 Z) (ws : List Jvm.Cond) (so : Addr) (tb : Addr) (kb : ClassId) (x0 : Int32) (cs : Int32) (h0 : Heap) (n0 : Nat) (O : Old Z n0 h0) (S_CS : Sa_0 Z (.int cs)) (E_so : Exa Z h0 so "java/lang/String") (F_value_so : Fd_5 Z h0 so (.ref tb)) (F_coder_so : Fd_6 Z h0 so (.int 0)) (V_tb : Arv Z h0 tb kb .byte (1 : Int32) [(.int (x0.toInt8.toInt32))] (.int 0)) (hcs : ¬ (cs = (0 : Int32))) :
    Mt l Z y_26 prog_32_method_6_code 1 (some .boolean) ws rm_rmSt1_0 #[(.ref so)] h0 (Q_rmSt1_0 Z so tb kb x0 cs h0 n0) := by
 refine own_met "com/example/loomlist/loomlist/core/Naming" (plainFor_of_name pn_com_example_loomlist_loomlist_core_Naming) #[rv so] (fun m => rfl) (fun p e s m below meth c s₁ Bd hx hby hml hZ hown hnm X0 e0 => ?_)
 have N0 := Fr.nil n0
 refine Go.step (S' := s₁.setTop (mkF m 2 #[rv so] [(.int 0), (.ref so)])) (fun t k => ?_) ?_
 · refine XS.aloadN X0.here hx rfl (hb hby d4_0) rfl rfl ?_
   refine XS.iconst X0.here hx rfl (hb hby d4_1) ?_
   exact k
 refine Go.cV X0 hx hml hown hZ (own_w hw 28 rfl) (own_w hw 29 rfl) (own_w hw 31 rfl) (own_w hw 30 rfl) (own_w hw 5 rfl) (own_w hw 32 rfl) E_so (rmI1_0 l Z a0 hw [] so tb kb x0 cs h0 n0 O S_CS E_so F_value_so F_coder_so V_tb hcs) 0 [] pd__28I_29I (hb hby d4_2) e0 (fun _ T1 L1 X1 hQ1 => ?_)
 obtain ⟨r_1, rfl, Nq1, e1, kr_1⟩ := hQ1
 have N1 := Fr.app N0 Nq1
 by_cases hc5 : r_1 < (0 : Int32)
 ·skip
  refine Go.step (S' := T1.setTop (mkF m 13 #[rv so] [(.int 1)])) (fun t k => ?_) ?_
  · refine XS.ifNo X1.here hx rfl (hb hby d4_5) rfl ((if0 _ _).trans (tlt (hc5 : r_1 < (0 : Int32))).2.1) ?_
    refine XS.iconst X1.here hx rfl (hb hby d4_8) ?_
    refine XS.goto X1.here hx rfl (pc0 := 9) (pc' := 13) rfl (hb hby d4_9) (by decide) (by decide) ?_
    exact k
  exact Go.rt X1 hx Bd (w := (.int 1)) (by decide) (Or.inl ⟨rfl, Or.inr (Or.inl rfl), _, rfl⟩) (hb hby d4_13) e1 ⟨(1 : Int32), rfl, N1, rfl, (Or.inl ⟨rfl, kr_1.mp hc5⟩)⟩
 ·skip
  refine Go.step (S' := T1.setTop (mkF m 13 #[rv so] [(.int 0)])) (fun t k => ?_) ?_
  · refine XS.ifYes X1.here hx rfl (pc0 := 5) (pc' := 12) rfl (hb hby d4_5) rfl ((if0 _ _).trans (flt (hc5 : ¬ (r_1 < (0 : Int32)))).2.1) (by decide) (by decide) ?_
    refine XS.iconst X1.here hx rfl (hb hby d4_12) ?_
    exact k
  exact Go.rt X1 hx Bd (w := (.int 0)) (by decide) (Or.inl ⟨rfl, Or.inr (Or.inl rfl), _, rfl⟩) (hb hby d4_13) e1 ⟨(0 : Int32), rfl, N1, rfl, (Or.inr ⟨rfl, fun q => hc5 (kr_1.mpr q)⟩)⟩
abbrev rm_rmLen1_1 : Room := ({ frames := 1, cells := 0, slots := 0, locals := 13 } : Room)
def Q_rmLen1_1 (Z : State) (so : Addr) (tb : Addr) (kb : ClassId) (x0 : Int32) (cs : Int32) (h0 : Heap) (n0 : Nat) (v : Option Value) (h : Heap) (L : List Loc) : Prop := (v = some (.int 1)) ∧ (Fr n0 L) ∧ (h = h0)
theorem rmLen1_1 (l : Launch) (Z : State) (a0 : Array Value) (hw : HW a0 Z) (ws : List Jvm.Cond) (so : Addr) (tb : Addr) (kb : ClassId) (x0 : Int32) (cs : Int32) (h0 : Heap) (n0 : Nat) (O : Old Z n0 h0) (S_CS : Sa_0 Z (.int cs)) (E_so : Exa Z h0 so "java/lang/String") (F_value_so : Fd_5 Z h0 so (.ref tb)) (F_coder_so : Fd_6 Z h0 so (.int 1)) (V_tb : Arv Z h0 tb kb .byte (2 : Int32) [(.int (own_lo x0)), (.int (own_hi x0))] (.int 0)) (hcs : ¬ (cs = (0 : Int32))) :
    Mt l Z y_23 jdk_42_method_54_code 1 (some .int) ws rm_rmLen1_1 #[(.ref so)] h0 (Q_rmLen1_1 Z so tb kb x0 cs h0 n0) := by
 refine own_met "java/lang/String" (plainFor_of_name pn_java_lang_String) #[rv so] (fun m => rfl) (fun p e s m below meth c s₁ Bd hx hby hml hZ hown hnm X0 e0 => ?_)
 have N0 := Fr.nil n0
 refine Go.step (S' := s₁.setTop (mkF m 1 #[rv so] [(.ref so)])) (fun t k => ?_) ?_
 · refine XS.aloadN X0.here hx rfl (hb hby d8_0) rfl rfl ?_
   exact k
 refine Go.gF X0 hx hZ hown (host := "") (Or.inl (own_w hw 22 rfl)) Via.refl e0 F_value_so (hb hby d8_1) (fun T1 X1 e1 => ?_)
 refine Go.len X1 hx hZ e1 V_tb (hb hby d8_4) ?_
 refine Go.step (S' := T1.setTop (mkF m 6 #[rv so] [(.ref so), (.int 2)])) (fun t k => ?_) ?_
 · refine XS.aloadN X1.here hx rfl (hb hby d8_5) rfl rfl ?_
   exact k
 refine Go.cV X1 hx hml hown hZ (own_w hw 49 rfl) (own_w hw 50 rfl) (own_w hw 52 rfl) (own_w hw 51 rfl) (own_w hw 5 rfl) (own_w hw 53 rfl) E_so (rmCod1 l Z a0 hw [] so cs h0 n0 O S_CS F_coder_so hcs) 1 [(.int 2)] pd__28_29B (hb hby d8_6) e1 (fun _ T2 L2 X2 hQ2 => ?_)
 obtain ⟨rfl, Nq2, e2⟩ := hQ2
 have N2 := Fr.app N0 Nq2
 refine Go.step (S' := T2.setTop (mkF m 10 #[rv so] [(.int 1)])) (fun t k => ?_) ?_
 · refine XS.ishr X2.here hx rfl (hb hby d8_9) rfl ?_
   exact k
 exact Go.rt X2 hx Bd (w := (.int 1)) rfl (Or.inl ⟨rfl, Or.inl rfl, _, rfl⟩) (hb hby d8_10) e2 ⟨rfl, N2, rfl⟩
theorem d6_23 : decode jdk_42_method_80_code 23 = .ok (.aload_n 0, 1) := by decide +kernel
theorem d6_24 : decode jdk_42_method_80_code 24 = .ok (.getfield 9, 3) := by decide +kernel
theorem d6_27 : decode jdk_42_method_80_code 27 = .ok (.iload_n 1, 1) := by decide +kernel
theorem d6_28 : decode jdk_42_method_80_code 28 = .ok (.iload_n 2, 1) := by decide +kernel
theorem d6_29 : decode jdk_42_method_80_code 29 = .ok (.aload_n 0, 1) := by decide +kernel
theorem d6_30 : decode jdk_42_method_80_code 30 = .ok (.invokevirtual 505, 3) := by decide +kernel
theorem d6_33 : decode jdk_42_method_80_code 33 = .ok (.invokestatic 640, 3) := by decide +kernel
abbrev rm_rmII1_1 : Room := ({ frames := 5, cells := 0, slots := 0, locals := 73 } : Room)
def Q_rmII1_1 (Z : State) (so : Addr) (tb : Addr) (kb : ClassId) (x0 : Int32) (cs : Int32) (sf : Value) (h0 : Heap) (n0 : Nat) (v : Option Value) (h : Heap) (L : List Loc) : Prop := ∃ r : Int32, (v = some (.int r)) ∧ (Fr n0 L) ∧ (h = h0) ∧ (r < (0 : Int32) ↔ (¬ (x0 = (0 : Int32))))
theorem rmII1_1 (l : Launch) (Z : State) (a0 : Array Value) (hw : HW a0 Z) (ws : List Jvm.Cond) (so : Addr) (tb : Addr) (kb : ClassId) (x0 : Int32) (cs : Int32) (sf : Value) (h0 : Heap) (n0 : Nat) (O : Old Z n0 h0) (S_CS : Sa_0 Z (.int cs)) (E_so : Exa Z h0 so "java/lang/String") (F_value_so : Fd_5 Z h0 so (.ref tb)) (F_coder_so : Fd_6 Z h0 so (.int 1)) (V_tb : Arv Z h0 tb kb .byte (2 : Int32) [(.int (own_lo x0)), (.int (own_hi x0))] (.int 0)) (S_AD : Sa_1 Z (.int 1)) (S_HI : Sa_2 Z (.int 0)) (S_LO : Sa_3 Z (.int 8)) (S_FM : Sa_4 Z sf) (hcs : ¬ (cs = (0 : Int32))) (hsf : sf.isRef = true) (rax0 : ¬ (x0 < (0 : Int32))) (rbx0 : ¬ ((65535 : Int32) < x0)) :
    Mt l Z y_24 jdk_42_method_80_code 3 (some .int) ws rm_rmII1_1 #[(.ref so), (.int 0), (.int 0)] h0 (Q_rmII1_1 Z so tb kb x0 cs sf h0 n0) := by
 refine own_met "java/lang/String" (plainFor_of_name pn_java_lang_String) #[rv so, iv 0, iv 0] (fun m => rfl) (fun p e s m below meth c s₁ Bd hx hby hml hZ hown hnm X0 e0 => ?_)
 have N0 := Fr.nil n0
 refine Go.step (S' := s₁.setTop (mkF m 1 #[rv so, iv 0, iv 0] [(.ref so)])) (fun t k => ?_) ?_
 · refine XS.aloadN X0.here hx rfl (hb hby d6_0) rfl rfl ?_
   exact k
 refine Go.cV X0 hx hml hown hZ (own_w hw 38 rfl) (own_w hw 39 rfl) (own_w hw 41 rfl) (own_w hw 40 rfl) (own_w hw 5 rfl) (own_w hw 42 rfl) E_so (rmLat1 l Z a0 hw [] so cs h0 n0 O S_CS F_coder_so hcs) 0 [] pd__28_29Z (hb hby d6_1) e0 (fun _ T1 L1 X1 hQ1 => ?_)
 obtain ⟨rfl, Nq1, e1⟩ := hQ1
 have N1 := Fr.app N0 Nq1
 refine Go.step (S' := T1.setTop (mkF m 24 #[rv so, iv 0, iv 0] [(.ref so)])) (fun t k => ?_) ?_
 · refine XS.ifYes X1.here hx rfl (pc0 := 4) (pc' := 23) rfl (hb hby d6_4) rfl ((if0 _ _).trans (teq ((by decide) : (0 : Int32) = (0 : Int32))).1) (by decide) (by decide) ?_
   refine XS.aloadN X1.here hx rfl (hb hby d6_23) rfl rfl ?_
   exact k
 refine Go.gF X1 hx hZ hown (host := "") (Or.inl (own_w hw 22 rfl)) Via.refl e1 F_value_so (hb hby d6_24) (fun T2 X2 e2 => ?_)
 refine Go.step (S' := T2.setTop (mkF m 30 #[rv so, iv 0, iv 0] [(.ref so), (.int 0), (.int 0), (.ref tb)])) (fun t k => ?_) ?_
 · refine XS.iloadN X2.here hx rfl (hb hby d6_27) rfl ?_
   refine XS.iloadN X2.here hx rfl (hb hby d6_28) rfl ?_
   refine XS.aloadN X2.here hx rfl (hb hby d6_29) rfl rfl ?_
   exact k
 refine Go.cV X2 hx hml hown hZ (own_w hw 44 rfl) (own_w hw 45 rfl) (own_w hw 47 rfl) (own_w hw 46 rfl) (own_w hw 5 rfl) (own_w hw 48 rfl) E_so (rmLen1_1 l Z a0 hw [] so tb kb x0 cs h0 n0 O S_CS E_so F_value_so F_coder_so V_tb hcs) 3 [(.int 0), (.int 0), (.ref tb)] pd__28_29I (hb hby d6_30) e2 (fun _ T3 L3 X3 hQ3 => ?_)
 obtain ⟨rfl, Nq3, e3⟩ := hQ3
 have N3 := Fr.app N1 Nq3
 refine Go.cS X3 hx hml hown hZ (own_w hw 100 rfl) (own_w hw 101 rfl) (own_w hw 70 rfl) (own_w hw 102 rfl) (rmIX1 l Z a0 hw [] tb kb sf x0 h0 n0 O S_AD S_HI S_LO V_tb S_FM hsf rax0 rbx0) 0 [] pd__28_5bBIII_29I (hb hby d6_33) e3 (fun _ T4 L4 X4 hQ4 => ?_)
 obtain ⟨r_4, rfl, Nq4, e4, kr_4⟩ := hQ4
 have N4 := Fr.app N3 Nq4
 exact Go.rt X4 hx Bd (w := (.int r_4)) rfl (Or.inl ⟨rfl, Or.inl rfl, _, rfl⟩) (hb hby d6_36) e4 ⟨r_4, rfl, N4, rfl, (by assumption)⟩
abbrev rm_rmI1_1 : Room := ({ frames := 6, cells := 0, slots := 0, locals := 87 } : Room)
def Q_rmI1_1 (Z : State) (so : Addr) (tb : Addr) (kb : ClassId) (x0 : Int32) (cs : Int32) (sf : Value) (h0 : Heap) (n0 : Nat) (v : Option Value) (h : Heap) (L : List Loc) : Prop := ∃ r : Int32, (v = some (.int r)) ∧ (Fr n0 L) ∧ (h = h0) ∧ (r < (0 : Int32) ↔ (¬ (x0 = (0 : Int32))))
theorem rmI1_1 (l : Launch) (Z : State) (a0 : Array Value) (hw : HW a0 Z) (ws : List Jvm.Cond) (so : Addr) (tb : Addr) (kb : ClassId) (x0 : Int32) (cs : Int32) (sf : Value) (h0 : Heap) (n0 : Nat) (O : Old Z n0 h0) (S_CS : Sa_0 Z (.int cs)) (E_so : Exa Z h0 so "java/lang/String") (F_value_so : Fd_5 Z h0 so (.ref tb)) (F_coder_so : Fd_6 Z h0 so (.int 1)) (V_tb : Arv Z h0 tb kb .byte (2 : Int32) [(.int (own_lo x0)), (.int (own_hi x0))] (.int 0)) (S_AD : Sa_1 Z (.int 1)) (S_HI : Sa_2 Z (.int 0)) (S_LO : Sa_3 Z (.int 8)) (S_FM : Sa_4 Z sf) (hcs : ¬ (cs = (0 : Int32))) (hsf : sf.isRef = true) (rax0 : ¬ (x0 < (0 : Int32))) (rbx0 : ¬ ((65535 : Int32) < x0)) :
    Mt l Z y_25 jdk_42_method_79_code 2 (some .int) ws rm_rmI1_1 #[(.ref so), (.int 0)] h0 (Q_rmI1_1 Z so tb kb x0 cs sf h0 n0) := by
 refine own_met "java/lang/String" (plainFor_of_name pn_java_lang_String) #[rv so, iv 0] (fun m => rfl) (fun p e s m below meth c s₁ Bd hx hby hml hZ hown hnm X0 e0 => ?_)
 have N0 := Fr.nil n0
 refine Go.step (S' := s₁.setTop (mkF m 3 #[rv so, iv 0] [(.int 0), (.int 0), (.ref so)])) (fun t k => ?_) ?_
 · refine XS.aloadN X0.here hx rfl (hb hby d5_0) rfl rfl ?_
   refine XS.iloadN X0.here hx rfl (hb hby d5_1) rfl ?_
   refine XS.iconst X0.here hx rfl (hb hby d5_2) ?_
   exact k
 refine Go.cV X0 hx hml hown hZ (own_w hw 33 rfl) (own_w hw 34 rfl) (own_w hw 36 rfl) (own_w hw 35 rfl) (own_w hw 5 rfl) (own_w hw 37 rfl) E_so (rmII1_1 l Z a0 hw [] so tb kb x0 cs sf h0 n0 O S_CS E_so F_value_so F_coder_so V_tb S_AD S_HI S_LO S_FM hcs hsf rax0 rbx0) 0 [] pd__28II_29I (hb hby d5_3) e0 (fun _ T1 L1 X1 hQ1 => ?_)
 obtain ⟨r_1, rfl, Nq1, e1, kr_1⟩ := hQ1
 have N1 := Fr.app N0 Nq1
 exact Go.rt X1 hx Bd (w := (.int r_1)) rfl (Or.inl ⟨rfl, Or.inl rfl, _, rfl⟩) (hb hby d5_6) e1 ⟨r_1, rfl, N1, rfl, (by assumption)⟩
abbrev rm_rmSt1_1 : Room := ({ frames := 7, cells := 0, slots := 0, locals := 100 } : Room)
def Q_rmSt1_1 (Z : State) (so : Addr) (tb : Addr) (kb : ClassId) (x0 : Int32) (cs : Int32) (sf : Value) (h0 : Heap) (n0 : Nat) (v : Option Value) (h : Heap) (L : List Loc) : Prop := ∃ r : Int32, (v = some (.int r)) ∧ (Fr n0 L) ∧ (h = h0) ∧ ((r = (1 : Int32) ∧ (¬ (x0 = (0 : Int32)))) ∨ (r = (0 : Int32) ∧ ¬ (¬ (x0 = (0 : Int32)))))
theorem rmSt1_1 (l : Launch) (Z : State) (a0 : Array Value) (hw : HW a0 Z) (ws : List Jvm.Cond) (so : Addr) (tb : Addr) (kb : ClassId) (x0 : Int32) (cs : Int32) (sf : Value) (h0 : Heap) (n0 : Nat) (O : Old Z n0 h0) (S_CS : Sa_0 Z (.int cs)) (E_so : Exa Z h0 so "java/lang/String") (F_value_so : Fd_5 Z h0 so (.ref tb)) (F_coder_so : Fd_6 Z h0 so (.int 1)) (V_tb : Arv Z h0 tb kb .byte (2 : Int32) [(.int (own_lo x0)), (.int (own_hi x0))] (.int 0)) (S_AD : Sa_1 Z (.int 1)) (S_HI : Sa_2 Z (.int 0)) (S_LO : Sa_3 Z (.int 8)) (S_FM : Sa_4 Z sf) (hcs : ¬ (cs = (0 : Int32))) (hsf : sf.isRef = true) (rax0 : ¬ (x0 < (0 : Int32))) (rbx0 : ¬ ((65535 : Int32) < x0)) :
    Mt l Z y_26 prog_32_method_6_code 1 (some .boolean) ws rm_rmSt1_1 #[(.ref so)] h0 (Q_rmSt1_1 Z so tb kb x0 cs sf h0 n0) := by
 refine own_met "com/example/loomlist/loomlist/core/Naming" (plainFor_of_name pn_com_example_loomlist_loomlist_core_Naming) #[rv so] (fun m => rfl) (fun p e s m below meth c s₁ Bd hx hby hml hZ hown hnm X0 e0 => ?_)
 have N0 := Fr.nil n0
 refine Go.step (S' := s₁.setTop (mkF m 2 #[rv so] [(.int 0), (.ref so)])) (fun t k => ?_) ?_
 · refine XS.aloadN X0.here hx rfl (hb hby d4_0) rfl rfl ?_
   refine XS.iconst X0.here hx rfl (hb hby d4_1) ?_
   exact k
 refine Go.cV X0 hx hml hown hZ (own_w hw 28 rfl) (own_w hw 29 rfl) (own_w hw 31 rfl) (own_w hw 30 rfl) (own_w hw 5 rfl) (own_w hw 32 rfl) E_so (rmI1_1 l Z a0 hw [] so tb kb x0 cs sf h0 n0 O S_CS E_so F_value_so F_coder_so V_tb S_AD S_HI S_LO S_FM hcs hsf rax0 rbx0) 0 [] pd__28I_29I (hb hby d4_2) e0 (fun _ T1 L1 X1 hQ1 => ?_)
 obtain ⟨r_1, rfl, Nq1, e1, kr_1⟩ := hQ1
 have N1 := Fr.app N0 Nq1
 by_cases hc5 : r_1 < (0 : Int32)
 ·skip
  refine Go.step (S' := T1.setTop (mkF m 13 #[rv so] [(.int 1)])) (fun t k => ?_) ?_
  · refine XS.ifNo X1.here hx rfl (hb hby d4_5) rfl ((if0 _ _).trans (tlt (hc5 : r_1 < (0 : Int32))).2.1) ?_
    refine XS.iconst X1.here hx rfl (hb hby d4_8) ?_
    refine XS.goto X1.here hx rfl (pc0 := 9) (pc' := 13) rfl (hb hby d4_9) (by decide) (by decide) ?_
    exact k
  exact Go.rt X1 hx Bd (w := (.int 1)) (by decide) (Or.inl ⟨rfl, Or.inr (Or.inl rfl), _, rfl⟩) (hb hby d4_13) e1 ⟨(1 : Int32), rfl, N1, rfl, (Or.inl ⟨rfl, kr_1.mp hc5⟩)⟩
 ·skip
  refine Go.step (S' := T1.setTop (mkF m 13 #[rv so] [(.int 0)])) (fun t k => ?_) ?_
  · refine XS.ifYes X1.here hx rfl (pc0 := 5) (pc' := 12) rfl (hb hby d4_5) rfl ((if0 _ _).trans (flt (hc5 : ¬ (r_1 < (0 : Int32)))).2.1) (by decide) (by decide) ?_
    refine XS.iconst X1.here hx rfl (hb hby d4_12) ?_
    exact k
  exact Go.rt X1 hx Bd (w := (.int 0)) (by decide) (Or.inl ⟨rfl, Or.inr (Or.inl rfl), _, rfl⟩) (hb hby d4_13) e1 ⟨(0 : Int32), rfl, N1, rfl, (Or.inr ⟨rfl, fun q => hc5 (kr_1.mpr q)⟩)⟩
abbrev rm_rmLI2 : Room := ({ frames := 0, cells := 0, slots := 0, locals := 0 } : Room)
def Q_rmLI2 (Z : State) (tb : Addr) (kb : ClassId) (x0 : Int32) (x1 : Int32) (h0 : Heap) (n0 : Nat) (v : Option Value) (h : Heap) (L : List Loc) : Prop := ∃ r : Int32, (v = some (.int r)) ∧ (Fr n0 L) ∧ (h = h0) ∧ (r < (0 : Int32) ↔ (¬ ((x0.toInt8.toInt32) = (0 : Int32)) ∧ ¬ ((x1.toInt8.toInt32) = (0 : Int32))))
theorem rmLI2 (l : Launch) (Z : State) (a0 : Array Value) (hw : HW a0 Z) (ws : List Jvm.Cond) (tb : Addr) (kb : ClassId) (x0 : Int32) (x1 : Int32) (h0 : Heap) (n0 : Nat) (O : Old Z n0 h0) (V_tb : Arv Z h0 tb kb .byte (2 : Int32) [(.int (x0.toInt8.toInt32)), (.int (x1.toInt8.toInt32))] (.int 0)) :
    Mt l Z y_27 jdk_43_method_23_code 6 (some .int) ws rm_rmLI2 #[(.ref tb), (.int 0), (.int 0), (.int 2)] h0 (Q_rmLI2 Z tb kb x0 x1 h0 n0) := by
 refine own_met "java/lang/StringLatin1" (plainFor_of_name pn_java_lang_StringLatin1) #[rv tb, iv 0, iv 0, iv 2, u_, u_] (fun m => rfl) (fun p e s m below meth c s₁ Bd hx hby hml hZ hown hnm X0 e0 => ?_)
 have N0 := Fr.nil n0
 refine Go.step (S' := s₁.setTop (mkF m 16 #[rv tb, iv 0, iv 0, iv 2, iv 0, iv 0] [(.int 0), (.ref tb)])) (fun t k => ?_) ?_
 · refine XS.iloadN X0.here hx rfl (hb hby d17_0) rfl ?_
   refine XS.i2b X0.here hx rfl (hb hby d17_1) rfl ?_
   refine XS.istore X0.here hx rfl (hb hby d17_2) rfl (l' := #[rv tb, iv 0, iv 0, iv 2, iv 0, u_]) rfl ?_
   refine XS.iloadN X0.here hx rfl (hb hby d17_4) rfl ?_
   refine XS.istore X0.here hx rfl (hb hby d17_5) rfl (l' := #[rv tb, iv 0, iv 0, iv 2, iv 0, iv 0]) rfl ?_
   refine XS.iload X0.here hx rfl (hb hby d17_7) rfl ?_
   show Steps p.tables e below (s₁.setTop (mkF m 9 #[rv tb, iv 0, iv 0, iv 2, iv 0, iv 0] [(.int 0)])) _
   refine XS.iloadN X0.here hx rfl (hb hby d17_9) rfl ?_
   refine XS.icmpNo X0.here hx rfl (hb hby d17_10) rfl (tlt ((by decide) : (0 : Int32) < (2 : Int32))).2.1 ?_
   refine XS.aloadN X0.here hx rfl (hb hby d17_13) rfl rfl ?_
   refine XS.iload X0.here hx rfl (hb hby d17_14) rfl ?_
   exact k
 refine Go.bal X0 hx hZ e0 V_tb (hb hby d17_16) (v := (.int (x0.toInt8.toInt32))) rfl ?_
 refine Go.step (S' := s₁.setTop (mkF m 19 #[rv tb, iv 0, iv 0, iv 2, iv 0, iv 0] [(.int 0), (.int (x0.toInt8.toInt32))])) (fun t k => ?_) ?_
 · refine XS.iload X0.here hx rfl (hb hby d17_17) rfl ?_
   exact k
 by_cases hc19 : (x0.toInt8.toInt32) = (0 : Int32)
 ·skip
  refine Go.step (S' := s₁.setTop (mkF m 24 #[rv tb, iv 0, iv 0, iv 2, iv 0, iv 0] [(.int 0)])) (fun t k => ?_) ?_
  · refine XS.icmpNo X0.here hx rfl (hb hby d17_19) rfl (teq (hc19 : (x0.toInt8.toInt32) = (0 : Int32))).2 ?_
    refine XS.iload X0.here hx rfl (hb hby d17_22) rfl ?_
    exact k
  exact Go.rt X0 hx Bd (w := (.int 0)) rfl (Or.inl ⟨rfl, Or.inl rfl, _, rfl⟩) (hb hby d17_24) e0 ⟨(0 : Int32), rfl, N0, rfl, ⟨fun q => absurd q (by decide), fun q => absurd hc19 q.1⟩⟩
 ·skip
  refine Go.step (S' := s₁.setTop (mkF m 16 #[rv tb, iv 0, iv 0, iv 2, iv 0, iv 1] [(.int 1), (.ref tb)])) (fun t k => ?_) ?_
  · refine XS.icmpYes X0.here hx rfl (pc0 := 19) (pc' := 25) rfl (hb hby d17_19) rfl (feq (hc19 : ¬ ((x0.toInt8.toInt32) = (0 : Int32)))).2 (by decide) (by decide) ?_
    refine XS.iinc X0.here hx rfl (hb hby d17_25) rfl (l' := #[rv tb, iv 0, iv 0, iv 2, iv 0, iv 1]) rfl ?_
    refine XS.goto X0.here hx rfl (pc0 := 28) (pc' := 7) rfl (hb hby d17_28) (by decide) (by decide) ?_
    refine XS.iload X0.here hx rfl (hb hby d17_7) rfl ?_
    refine XS.iloadN X0.here hx rfl (hb hby d17_9) rfl ?_
    refine XS.icmpNo X0.here hx rfl (hb hby d17_10) rfl (tlt ((by decide) : (1 : Int32) < (2 : Int32))).2.1 ?_
    show Steps p.tables e below (s₁.setTop (mkF m 13 #[rv tb, iv 0, iv 0, iv 2, iv 0, iv 1] [])) _
    refine XS.aloadN X0.here hx rfl (hb hby d17_13) rfl rfl ?_
    refine XS.iload X0.here hx rfl (hb hby d17_14) rfl ?_
    exact k
  refine Go.bal X0 hx hZ e0 V_tb (hb hby d17_16) (v := (.int (x1.toInt8.toInt32))) rfl ?_
  refine Go.step (S' := s₁.setTop (mkF m 19 #[rv tb, iv 0, iv 0, iv 2, iv 0, iv 1] [(.int 0), (.int (x1.toInt8.toInt32))])) (fun t k => ?_) ?_
  · refine XS.iload X0.here hx rfl (hb hby d17_17) rfl ?_
    exact k
  by_cases hc19_1 : (x1.toInt8.toInt32) = (0 : Int32)
  ·skip
   refine Go.step (S' := s₁.setTop (mkF m 24 #[rv tb, iv 0, iv 0, iv 2, iv 0, iv 1] [(.int 1)])) (fun t k => ?_) ?_
   · refine XS.icmpNo X0.here hx rfl (hb hby d17_19) rfl (teq (hc19_1 : (x1.toInt8.toInt32) = (0 : Int32))).2 ?_
     refine XS.iload X0.here hx rfl (hb hby d17_22) rfl ?_
     exact k
   exact Go.rt X0 hx Bd (w := (.int 1)) rfl (Or.inl ⟨rfl, Or.inl rfl, _, rfl⟩) (hb hby d17_24) e0 ⟨(1 : Int32), rfl, N0, rfl, ⟨fun q => absurd q (by decide), fun q => absurd hc19_1 q.2⟩⟩
  ·skip
   refine Go.step (S' := s₁.setTop (mkF m 32 #[rv tb, iv 0, iv 0, iv 2, iv 0, iv 2] [(.int (-1))])) (fun t k => ?_) ?_
   · refine XS.icmpYes X0.here hx rfl (pc0 := 19) (pc' := 25) rfl (hb hby d17_19) rfl (feq (hc19_1 : ¬ ((x1.toInt8.toInt32) = (0 : Int32)))).2 (by decide) (by decide) ?_
     refine XS.iinc X0.here hx rfl (hb hby d17_25) rfl (l' := #[rv tb, iv 0, iv 0, iv 2, iv 0, iv 2]) rfl ?_
     refine XS.goto X0.here hx rfl (pc0 := 28) (pc' := 7) rfl (hb hby d17_28) (by decide) (by decide) ?_
     refine XS.iload X0.here hx rfl (hb hby d17_7) rfl ?_
     refine XS.iloadN X0.here hx rfl (hb hby d17_9) rfl ?_
     refine XS.icmpYes X0.here hx rfl (pc0 := 10) (pc' := 31) rfl (hb hby d17_10) rfl (flt ((by decide) : ¬ ((2 : Int32) < (2 : Int32)))).2.1 (by decide) (by decide) ?_
     show Steps p.tables e below (s₁.setTop (mkF m 31 #[rv tb, iv 0, iv 0, iv 2, iv 0, iv 2] [])) _
     refine XS.iconst X0.here hx rfl (hb hby d17_31) ?_
     exact k
   exact Go.rt X0 hx Bd (w := (.int (-1))) rfl (Or.inl ⟨rfl, Or.inl rfl, _, rfl⟩) (hb hby d17_32) e0 ⟨(-1 : Int32), rfl, N0, rfl, ⟨fun _ => ⟨hc19, hc19_1⟩, fun _ => by decide⟩⟩
abbrev rm_rmLX2 : Room := ({ frames := 1, cells := 0, slots := 0, locals := 17 } : Room)
def Q_rmLX2 (Z : State) (tb : Addr) (kb : ClassId) (x0 : Int32) (x1 : Int32) (h0 : Heap) (n0 : Nat) (v : Option Value) (h : Heap) (L : List Loc) : Prop := ∃ r : Int32, (v = some (.int r)) ∧ (Fr n0 L) ∧ (h = h0) ∧ (r < (0 : Int32) ↔ (¬ ((x0.toInt8.toInt32) = (0 : Int32)) ∧ ¬ ((x1.toInt8.toInt32) = (0 : Int32))))
theorem rmLX2 (l : Launch) (Z : State) (a0 : Array Value) (hw : HW a0 Z) (ws : List Jvm.Cond) (tb : Addr) (kb : ClassId) (x0 : Int32) (x1 : Int32) (h0 : Heap) (n0 : Nat) (O : Old Z n0 h0) (V_tb : Arv Z h0 tb kb .byte (2 : Int32) [(.int (x0.toInt8.toInt32)), (.int (x1.toInt8.toInt32))] (.int 0)) :
    Mt l Z y_22 jdk_43_method_22_code 4 (some .int) ws rm_rmLX2 #[(.ref tb), (.int 0), (.int 0), (.int 2)] h0 (Q_rmLX2 Z tb kb x0 x1 h0 n0) := by
 refine own_met "java/lang/StringLatin1" (plainFor_of_name pn_java_lang_StringLatin1) #[rv tb, iv 0, iv 0, iv 2] (fun m => rfl) (fun p e s m below meth c s₁ Bd hx hby hml hZ hown hnm X0 e0 => ?_)
 have N0 := Fr.nil n0
 refine Go.step (S' := s₁.setTop (mkF m 1 #[rv tb, iv 0, iv 0, iv 2] [(.int 0)])) (fun t k => ?_) ?_
 · refine XS.iloadN X0.here hx rfl (hb hby d10_0) rfl ?_
   exact k
 refine Go.cS X0 hx hml hown hZ (own_w hw 58 rfl) (own_w hw 59 rfl) (own_w hw 56 rfl) (own_w hw 60 rfl) (rmCan l Z a0 hw []  h0 n0 O ) 0 [] pd__28I_29Z (hb hby d10_1) e0 (fun _ T1 L1 X1 hQ1 => ?_)
 obtain ⟨rfl, Nq1, e1⟩ := hQ1
 have N1 := Fr.app N0 Nq1
 refine Go.step (S' := T1.setTop (mkF m 11 #[rv tb, iv 0, iv 0, iv 2] [(.int 0), (.int 0)])) (fun t k => ?_) ?_
 · refine XS.ifYes X1.here hx rfl (pc0 := 4) (pc' := 9) rfl (hb hby d10_4) rfl ((if0 _ _).trans (feq ((by decide) : ¬ ((1 : Int32) = (0 : Int32)))).2) (by decide) (by decide) ?_
   refine XS.iloadN X1.here hx rfl (hb hby d10_9) rfl ?_
   refine XS.iconst X1.here hx rfl (hb hby d10_10) ?_
   exact k
 refine Go.cS X1 hx hml hown hZ (own_w hw 61 rfl) (own_w hw 62 rfl) (own_w hw 63 rfl) (own_w hw 64 rfl) (rmMxA l Z a0 hw [] (0 : Int32) (0 : Int32) h0 n0 O (by decide)) 0 [] pd__28II_29I (hb hby d10_11) e1 (fun _ T2 L2 X2 hQ2 => ?_)
 obtain ⟨rfl, Nq2, e2⟩ := hQ2
 have N2 := Fr.app N1 Nq2
 refine Go.step (S' := T2.setTop (mkF m 17 #[rv tb, iv 0, iv 0, iv 2] [(.ref tb), (.int 2)])) (fun t k => ?_) ?_
 · refine XS.istoreN X2.here hx rfl (hb hby d10_14) rfl (l' := #[rv tb, iv 0, iv 0, iv 2]) rfl ?_
   refine XS.iloadN X2.here hx rfl (hb hby d10_15) rfl ?_
   refine XS.aloadN X2.here hx rfl (hb hby d10_16) rfl rfl ?_
   exact k
 refine Go.len X2 hx hZ e2 V_tb (hb hby d10_17) ?_
 refine Go.cS X2 hx hml hown hZ (own_w hw 65 rfl) (own_w hw 66 rfl) (own_w hw 63 rfl) (own_w hw 67 rfl) (rmMnA l Z a0 hw [] (2 : Int32) (2 : Int32) h0 n0 O (by decide)) 0 [] pd__28II_29I (hb hby d10_18) e2 (fun _ T3 L3 X3 hQ3 => ?_)
 obtain ⟨rfl, Nq3, e3⟩ := hQ3
 have N3 := Fr.app N2 Nq3
 refine Go.step (S' := T3.setTop (mkF m 33 #[rv tb, iv 0, iv 0, iv 2] [(.int 2), (.int 0), (.int 0), (.ref tb)])) (fun t k => ?_) ?_
 · refine XS.istoreN X3.here hx rfl (hb hby d10_21) rfl (l' := #[rv tb, iv 0, iv 0, iv 2]) rfl ?_
   refine XS.iloadN X3.here hx rfl (hb hby d10_22) rfl ?_
   refine XS.iloadN X3.here hx rfl (hb hby d10_23) rfl ?_
   refine XS.icmpYes X3.here hx rfl (pc0 := 24) (pc' := 29) rfl (hb hby d10_24) rfl (tlt ((by decide) : (0 : Int32) < (2 : Int32))).1 (by decide) (by decide) ?_
   refine XS.aloadN X3.here hx rfl (hb hby d10_29) rfl rfl ?_
   refine XS.iloadN X3.here hx rfl (hb hby d10_30) rfl ?_
   show Steps p.tables e below (T3.setTop (mkF m 31 #[rv tb, iv 0, iv 0, iv 2] [(.int 0), (.ref tb)])) _
   refine XS.iloadN X3.here hx rfl (hb hby d10_31) rfl ?_
   refine XS.iloadN X3.here hx rfl (hb hby d10_32) rfl ?_
   exact k
 refine Go.cS X3 hx hml hown hZ (own_w hw 78 rfl) (own_w hw 79 rfl) (own_w hw 56 rfl) (own_w hw 80 rfl) (rmLI2 l Z a0 hw [] tb kb x0 x1 h0 n0 O V_tb) 0 [] pd__28_5bBIII_29I (hb hby d10_33) e3 (fun _ T4 L4 X4 hQ4 => ?_)
 obtain ⟨r_4, rfl, Nq4, e4, kr_4⟩ := hQ4
 have N4 := Fr.app N3 Nq4
 exact Go.rt X4 hx Bd (w := (.int r_4)) rfl (Or.inl ⟨rfl, Or.inl rfl, _, rfl⟩) (hb hby d10_36) e4 ⟨r_4, rfl, N4, rfl, (by assumption)⟩
abbrev rm_rmLen2_0 : Room := ({ frames := 1, cells := 0, slots := 0, locals := 13 } : Room)
def Q_rmLen2_0 (Z : State) (so : Addr) (tb : Addr) (kb : ClassId) (x0 : Int32) (x1 : Int32) (cs : Int32) (h0 : Heap) (n0 : Nat) (v : Option Value) (h : Heap) (L : List Loc) : Prop := (v = some (.int 2)) ∧ (Fr n0 L) ∧ (h = h0)
theorem rmLen2_0 (l : Launch) (Z : State) (a0 : Array Value) (hw : HW a0 Z) (ws : List Jvm.Cond) (so : Addr) (tb : Addr) (kb : ClassId) (x0 : Int32) (x1 : Int32) (cs : Int32) (h0 : Heap) (n0 : Nat) (O : Old Z n0 h0) (S_CS : Sa_0 Z (.int cs)) (E_so : Exa Z h0 so "java/lang/String") (F_value_so : Fd_5 Z h0 so (.ref tb)) (F_coder_so : Fd_6 Z h0 so (.int 0)) (V_tb : Arv Z h0 tb kb .byte (2 : Int32) [(.int (x0.toInt8.toInt32)), (.int (x1.toInt8.toInt32))] (.int 0)) (hcs : ¬ (cs = (0 : Int32))) :
    Mt l Z y_23 jdk_42_method_54_code 1 (some .int) ws rm_rmLen2_0 #[(.ref so)] h0 (Q_rmLen2_0 Z so tb kb x0 x1 cs h0 n0) := by
 refine own_met "java/lang/String" (plainFor_of_name pn_java_lang_String) #[rv so] (fun m => rfl) (fun p e s m below meth c s₁ Bd hx hby hml hZ hown hnm X0 e0 => ?_)
 have N0 := Fr.nil n0
 refine Go.step (S' := s₁.setTop (mkF m 1 #[rv so] [(.ref so)])) (fun t k => ?_) ?_
 · refine XS.aloadN X0.here hx rfl (hb hby d8_0) rfl rfl ?_
   exact k
 refine Go.gF X0 hx hZ hown (host := "") (Or.inl (own_w hw 22 rfl)) Via.refl e0 F_value_so (hb hby d8_1) (fun T1 X1 e1 => ?_)
 refine Go.len X1 hx hZ e1 V_tb (hb hby d8_4) ?_
 refine Go.step (S' := T1.setTop (mkF m 6 #[rv so] [(.ref so), (.int 2)])) (fun t k => ?_) ?_
 · refine XS.aloadN X1.here hx rfl (hb hby d8_5) rfl rfl ?_
   exact k
 refine Go.cV X1 hx hml hown hZ (own_w hw 49 rfl) (own_w hw 50 rfl) (own_w hw 52 rfl) (own_w hw 51 rfl) (own_w hw 5 rfl) (own_w hw 53 rfl) E_so (rmCod0 l Z a0 hw [] so cs h0 n0 O S_CS F_coder_so hcs) 1 [(.int 2)] pd__28_29B (hb hby d8_6) e1 (fun _ T2 L2 X2 hQ2 => ?_)
 obtain ⟨rfl, Nq2, e2⟩ := hQ2
 have N2 := Fr.app N0 Nq2
 refine Go.step (S' := T2.setTop (mkF m 10 #[rv so] [(.int 2)])) (fun t k => ?_) ?_
 · refine XS.ishr X2.here hx rfl (hb hby d8_9) rfl ?_
   exact k
 exact Go.rt X2 hx Bd (w := (.int 2)) rfl (Or.inl ⟨rfl, Or.inl rfl, _, rfl⟩) (hb hby d8_10) e2 ⟨rfl, N2, rfl⟩
abbrev rm_rmII2_0 : Room := ({ frames := 2, cells := 0, slots := 0, locals := 32 } : Room)
def Q_rmII2_0 (Z : State) (so : Addr) (tb : Addr) (kb : ClassId) (x0 : Int32) (x1 : Int32) (cs : Int32) (h0 : Heap) (n0 : Nat) (v : Option Value) (h : Heap) (L : List Loc) : Prop := ∃ r : Int32, (v = some (.int r)) ∧ (Fr n0 L) ∧ (h = h0) ∧ (r < (0 : Int32) ↔ (¬ ((x0.toInt8.toInt32) = (0 : Int32)) ∧ ¬ ((x1.toInt8.toInt32) = (0 : Int32))))
theorem rmII2_0 (l : Launch) (Z : State) (a0 : Array Value) (hw : HW a0 Z) (ws : List Jvm.Cond) (so : Addr) (tb : Addr) (kb : ClassId) (x0 : Int32) (x1 : Int32) (cs : Int32) (h0 : Heap) (n0 : Nat) (O : Old Z n0 h0) (S_CS : Sa_0 Z (.int cs)) (E_so : Exa Z h0 so "java/lang/String") (F_value_so : Fd_5 Z h0 so (.ref tb)) (F_coder_so : Fd_6 Z h0 so (.int 0)) (V_tb : Arv Z h0 tb kb .byte (2 : Int32) [(.int (x0.toInt8.toInt32)), (.int (x1.toInt8.toInt32))] (.int 0)) (hcs : ¬ (cs = (0 : Int32))) :
    Mt l Z y_24 jdk_42_method_80_code 3 (some .int) ws rm_rmII2_0 #[(.ref so), (.int 0), (.int 0)] h0 (Q_rmII2_0 Z so tb kb x0 x1 cs h0 n0) := by
 refine own_met "java/lang/String" (plainFor_of_name pn_java_lang_String) #[rv so, iv 0, iv 0] (fun m => rfl) (fun p e s m below meth c s₁ Bd hx hby hml hZ hown hnm X0 e0 => ?_)
 have N0 := Fr.nil n0
 refine Go.step (S' := s₁.setTop (mkF m 1 #[rv so, iv 0, iv 0] [(.ref so)])) (fun t k => ?_) ?_
 · refine XS.aloadN X0.here hx rfl (hb hby d6_0) rfl rfl ?_
   exact k
 refine Go.cV X0 hx hml hown hZ (own_w hw 38 rfl) (own_w hw 39 rfl) (own_w hw 41 rfl) (own_w hw 40 rfl) (own_w hw 5 rfl) (own_w hw 42 rfl) E_so (rmLat0 l Z a0 hw [] so cs h0 n0 O S_CS F_coder_so hcs) 0 [] pd__28_29Z (hb hby d6_1) e0 (fun _ T1 L1 X1 hQ1 => ?_)
 obtain ⟨rfl, Nq1, e1⟩ := hQ1
 have N1 := Fr.app N0 Nq1
 refine Go.step (S' := T1.setTop (mkF m 8 #[rv so, iv 0, iv 0] [(.ref so)])) (fun t k => ?_) ?_
 · refine XS.ifNo X1.here hx rfl (hb hby d6_4) rfl ((if0 _ _).trans (feq ((by decide) : ¬ ((1 : Int32) = (0 : Int32)))).1) ?_
   refine XS.aloadN X1.here hx rfl (hb hby d6_7) rfl rfl ?_
   exact k
 refine Go.gF X1 hx hZ hown (host := "") (Or.inl (own_w hw 22 rfl)) Via.refl e1 F_value_so (hb hby d6_8) (fun T2 X2 e2 => ?_)
 refine Go.step (S' := T2.setTop (mkF m 14 #[rv so, iv 0, iv 0] [(.ref so), (.int 0), (.int 0), (.ref tb)])) (fun t k => ?_) ?_
 · refine XS.iloadN X2.here hx rfl (hb hby d6_11) rfl ?_
   refine XS.iloadN X2.here hx rfl (hb hby d6_12) rfl ?_
   refine XS.aloadN X2.here hx rfl (hb hby d6_13) rfl rfl ?_
   exact k
 refine Go.cV X2 hx hml hown hZ (own_w hw 44 rfl) (own_w hw 45 rfl) (own_w hw 47 rfl) (own_w hw 46 rfl) (own_w hw 5 rfl) (own_w hw 48 rfl) E_so (rmLen2_0 l Z a0 hw [] so tb kb x0 x1 cs h0 n0 O S_CS E_so F_value_so F_coder_so V_tb hcs) 3 [(.int 0), (.int 0), (.ref tb)] pd__28_29I (hb hby d6_14) e2 (fun _ T3 L3 X3 hQ3 => ?_)
 obtain ⟨rfl, Nq3, e3⟩ := hQ3
 have N3 := Fr.app N1 Nq3
 refine Go.cS X3 hx hml hown hZ (own_w hw 54 rfl) (own_w hw 55 rfl) (own_w hw 56 rfl) (own_w hw 57 rfl) (rmLX2 l Z a0 hw [] tb kb x0 x1 h0 n0 O V_tb) 0 [] pd__28_5bBIII_29I (hb hby d6_17) e3 (fun _ T4 L4 X4 hQ4 => ?_)
 obtain ⟨r_4, rfl, Nq4, e4, kr_4⟩ := hQ4
 have N4 := Fr.app N3 Nq4
 refine Go.step (S' := T4.setTop (mkF m 36 #[rv so, iv 0, iv 0] [(.int r_4)])) (fun t k => ?_) ?_
 · refine XS.goto X4.here hx rfl (pc0 := 20) (pc' := 36) rfl (hb hby d6_20) (by decide) (by decide) ?_
   exact k
 exact Go.rt X4 hx Bd (w := (.int r_4)) rfl (Or.inl ⟨rfl, Or.inl rfl, _, rfl⟩) (hb hby d6_36) e4 ⟨r_4, rfl, N4, rfl, (by assumption)⟩
abbrev rm_rmI2_0 : Room := ({ frames := 3, cells := 0, slots := 0, locals := 46 } : Room)
def Q_rmI2_0 (Z : State) (so : Addr) (tb : Addr) (kb : ClassId) (x0 : Int32) (x1 : Int32) (cs : Int32) (h0 : Heap) (n0 : Nat) (v : Option Value) (h : Heap) (L : List Loc) : Prop := ∃ r : Int32, (v = some (.int r)) ∧ (Fr n0 L) ∧ (h = h0) ∧ (r < (0 : Int32) ↔ (¬ ((x0.toInt8.toInt32) = (0 : Int32)) ∧ ¬ ((x1.toInt8.toInt32) = (0 : Int32))))
theorem rmI2_0 (l : Launch) (Z : State) (a0 : Array Value) (hw : HW a0 Z) (ws : List Jvm.Cond) (so : Addr) (tb : Addr) (kb : ClassId) (x0 : Int32) (x1 : Int32) (cs : Int32) (h0 : Heap) (n0 : Nat) (O : Old Z n0 h0) (S_CS : Sa_0 Z (.int cs)) (E_so : Exa Z h0 so "java/lang/String") (F_value_so : Fd_5 Z h0 so (.ref tb)) (F_coder_so : Fd_6 Z h0 so (.int 0)) (V_tb : Arv Z h0 tb kb .byte (2 : Int32) [(.int (x0.toInt8.toInt32)), (.int (x1.toInt8.toInt32))] (.int 0)) (hcs : ¬ (cs = (0 : Int32))) :
    Mt l Z y_25 jdk_42_method_79_code 2 (some .int) ws rm_rmI2_0 #[(.ref so), (.int 0)] h0 (Q_rmI2_0 Z so tb kb x0 x1 cs h0 n0) := by
 refine own_met "java/lang/String" (plainFor_of_name pn_java_lang_String) #[rv so, iv 0] (fun m => rfl) (fun p e s m below meth c s₁ Bd hx hby hml hZ hown hnm X0 e0 => ?_)
 have N0 := Fr.nil n0
 refine Go.step (S' := s₁.setTop (mkF m 3 #[rv so, iv 0] [(.int 0), (.int 0), (.ref so)])) (fun t k => ?_) ?_
 · refine XS.aloadN X0.here hx rfl (hb hby d5_0) rfl rfl ?_
   refine XS.iloadN X0.here hx rfl (hb hby d5_1) rfl ?_
   refine XS.iconst X0.here hx rfl (hb hby d5_2) ?_
   exact k
 refine Go.cV X0 hx hml hown hZ (own_w hw 33 rfl) (own_w hw 34 rfl) (own_w hw 36 rfl) (own_w hw 35 rfl) (own_w hw 5 rfl) (own_w hw 37 rfl) E_so (rmII2_0 l Z a0 hw [] so tb kb x0 x1 cs h0 n0 O S_CS E_so F_value_so F_coder_so V_tb hcs) 0 [] pd__28II_29I (hb hby d5_3) e0 (fun _ T1 L1 X1 hQ1 => ?_)
 obtain ⟨r_1, rfl, Nq1, e1, kr_1⟩ := hQ1
 have N1 := Fr.app N0 Nq1
 exact Go.rt X1 hx Bd (w := (.int r_1)) rfl (Or.inl ⟨rfl, Or.inl rfl, _, rfl⟩) (hb hby d5_6) e1 ⟨r_1, rfl, N1, rfl, (by assumption)⟩
abbrev rm_rmSt2_0 : Room := ({ frames := 4, cells := 0, slots := 0, locals := 59 } : Room)
def Q_rmSt2_0 (Z : State) (so : Addr) (tb : Addr) (kb : ClassId) (x0 : Int32) (x1 : Int32) (cs : Int32) (h0 : Heap) (n0 : Nat) (v : Option Value) (h : Heap) (L : List Loc) : Prop := ∃ r : Int32, (v = some (.int r)) ∧ (Fr n0 L) ∧ (h = h0) ∧ ((r = (1 : Int32) ∧ (¬ ((x0.toInt8.toInt32) = (0 : Int32)) ∧ ¬ ((x1.toInt8.toInt32) = (0 : Int32)))) ∨ (r = (0 : Int32) ∧ ¬ (¬ ((x0.toInt8.toInt32) = (0 : Int32)) ∧ ¬ ((x1.toInt8.toInt32) = (0 : Int32)))))
theorem rmSt2_0 (l : Launch) (Z : State) (a0 : Array Value) (hw : HW a0 Z) (ws : List Jvm.Cond) (so : Addr) (tb : Addr) (kb : ClassId) (x0 : Int32) (x1 : Int32) (cs : Int32) (h0 : Heap) (n0 : Nat) (O : Old Z n0 h0) (S_CS : Sa_0 Z (.int cs)) (E_so : Exa Z h0 so "java/lang/String") (F_value_so : Fd_5 Z h0 so (.ref tb)) (F_coder_so : Fd_6 Z h0 so (.int 0)) (V_tb : Arv Z h0 tb kb .byte (2 : Int32) [(.int (x0.toInt8.toInt32)), (.int (x1.toInt8.toInt32))] (.int 0)) (hcs : ¬ (cs = (0 : Int32))) :
    Mt l Z y_26 prog_32_method_6_code 1 (some .boolean) ws rm_rmSt2_0 #[(.ref so)] h0 (Q_rmSt2_0 Z so tb kb x0 x1 cs h0 n0) := by
 refine own_met "com/example/loomlist/loomlist/core/Naming" (plainFor_of_name pn_com_example_loomlist_loomlist_core_Naming) #[rv so] (fun m => rfl) (fun p e s m below meth c s₁ Bd hx hby hml hZ hown hnm X0 e0 => ?_)
 have N0 := Fr.nil n0
 refine Go.step (S' := s₁.setTop (mkF m 2 #[rv so] [(.int 0), (.ref so)])) (fun t k => ?_) ?_
 · refine XS.aloadN X0.here hx rfl (hb hby d4_0) rfl rfl ?_
   refine XS.iconst X0.here hx rfl (hb hby d4_1) ?_
   exact k
 refine Go.cV X0 hx hml hown hZ (own_w hw 28 rfl) (own_w hw 29 rfl) (own_w hw 31 rfl) (own_w hw 30 rfl) (own_w hw 5 rfl) (own_w hw 32 rfl) E_so (rmI2_0 l Z a0 hw [] so tb kb x0 x1 cs h0 n0 O S_CS E_so F_value_so F_coder_so V_tb hcs) 0 [] pd__28I_29I (hb hby d4_2) e0 (fun _ T1 L1 X1 hQ1 => ?_)
 obtain ⟨r_1, rfl, Nq1, e1, kr_1⟩ := hQ1
 have N1 := Fr.app N0 Nq1
 by_cases hc5 : r_1 < (0 : Int32)
 ·skip
  refine Go.step (S' := T1.setTop (mkF m 13 #[rv so] [(.int 1)])) (fun t k => ?_) ?_
  · refine XS.ifNo X1.here hx rfl (hb hby d4_5) rfl ((if0 _ _).trans (tlt (hc5 : r_1 < (0 : Int32))).2.1) ?_
    refine XS.iconst X1.here hx rfl (hb hby d4_8) ?_
    refine XS.goto X1.here hx rfl (pc0 := 9) (pc' := 13) rfl (hb hby d4_9) (by decide) (by decide) ?_
    exact k
  exact Go.rt X1 hx Bd (w := (.int 1)) (by decide) (Or.inl ⟨rfl, Or.inr (Or.inl rfl), _, rfl⟩) (hb hby d4_13) e1 ⟨(1 : Int32), rfl, N1, rfl, (Or.inl ⟨rfl, kr_1.mp hc5⟩)⟩
 ·skip
  refine Go.step (S' := T1.setTop (mkF m 13 #[rv so] [(.int 0)])) (fun t k => ?_) ?_
  · refine XS.ifYes X1.here hx rfl (pc0 := 5) (pc' := 12) rfl (hb hby d4_5) rfl ((if0 _ _).trans (flt (hc5 : ¬ (r_1 < (0 : Int32)))).2.1) (by decide) (by decide) ?_
    refine XS.iconst X1.here hx rfl (hb hby d4_12) ?_
    exact k
  exact Go.rt X1 hx Bd (w := (.int 0)) (by decide) (Or.inl ⟨rfl, Or.inr (Or.inl rfl), _, rfl⟩) (hb hby d4_13) e1 ⟨(0 : Int32), rfl, N1, rfl, (Or.inr ⟨rfl, fun q => hc5 (kr_1.mpr q)⟩)⟩
abbrev rm_rmLen2_1 : Room := ({ frames := 1, cells := 0, slots := 0, locals := 13 } : Room)
def Q_rmLen2_1 (Z : State) (so : Addr) (tb : Addr) (kb : ClassId) (x0 : Int32) (x1 : Int32) (cs : Int32) (h0 : Heap) (n0 : Nat) (v : Option Value) (h : Heap) (L : List Loc) : Prop := (v = some (.int 2)) ∧ (Fr n0 L) ∧ (h = h0)
theorem rmLen2_1 (l : Launch) (Z : State) (a0 : Array Value) (hw : HW a0 Z) (ws : List Jvm.Cond) (so : Addr) (tb : Addr) (kb : ClassId) (x0 : Int32) (x1 : Int32) (cs : Int32) (h0 : Heap) (n0 : Nat) (O : Old Z n0 h0) (S_CS : Sa_0 Z (.int cs)) (E_so : Exa Z h0 so "java/lang/String") (F_value_so : Fd_5 Z h0 so (.ref tb)) (F_coder_so : Fd_6 Z h0 so (.int 1)) (V_tb : Arv Z h0 tb kb .byte (4 : Int32) [(.int (own_lo x0)), (.int (own_hi x0)), (.int (own_lo x1)), (.int (own_hi x1))] (.int 0)) (hcs : ¬ (cs = (0 : Int32))) :
    Mt l Z y_23 jdk_42_method_54_code 1 (some .int) ws rm_rmLen2_1 #[(.ref so)] h0 (Q_rmLen2_1 Z so tb kb x0 x1 cs h0 n0) := by
 refine own_met "java/lang/String" (plainFor_of_name pn_java_lang_String) #[rv so] (fun m => rfl) (fun p e s m below meth c s₁ Bd hx hby hml hZ hown hnm X0 e0 => ?_)
 have N0 := Fr.nil n0
 refine Go.step (S' := s₁.setTop (mkF m 1 #[rv so] [(.ref so)])) (fun t k => ?_) ?_
 · refine XS.aloadN X0.here hx rfl (hb hby d8_0) rfl rfl ?_
   exact k
 refine Go.gF X0 hx hZ hown (host := "") (Or.inl (own_w hw 22 rfl)) Via.refl e0 F_value_so (hb hby d8_1) (fun T1 X1 e1 => ?_)
 refine Go.len X1 hx hZ e1 V_tb (hb hby d8_4) ?_
 refine Go.step (S' := T1.setTop (mkF m 6 #[rv so] [(.ref so), (.int 4)])) (fun t k => ?_) ?_
 · refine XS.aloadN X1.here hx rfl (hb hby d8_5) rfl rfl ?_
   exact k
 refine Go.cV X1 hx hml hown hZ (own_w hw 49 rfl) (own_w hw 50 rfl) (own_w hw 52 rfl) (own_w hw 51 rfl) (own_w hw 5 rfl) (own_w hw 53 rfl) E_so (rmCod1 l Z a0 hw [] so cs h0 n0 O S_CS F_coder_so hcs) 1 [(.int 4)] pd__28_29B (hb hby d8_6) e1 (fun _ T2 L2 X2 hQ2 => ?_)
 obtain ⟨rfl, Nq2, e2⟩ := hQ2
 have N2 := Fr.app N0 Nq2
 refine Go.step (S' := T2.setTop (mkF m 10 #[rv so] [(.int 2)])) (fun t k => ?_) ?_
 · refine XS.ishr X2.here hx rfl (hb hby d8_9) rfl ?_
   exact k
 exact Go.rt X2 hx Bd (w := (.int 2)) rfl (Or.inl ⟨rfl, Or.inl rfl, _, rfl⟩) (hb hby d8_10) e2 ⟨rfl, N2, rfl⟩
abbrev rm_rmII2_1 : Room := ({ frames := 5, cells := 0, slots := 0, locals := 73 } : Room)
def Q_rmII2_1 (Z : State) (so : Addr) (tb : Addr) (kb : ClassId) (x0 : Int32) (x1 : Int32) (cs : Int32) (sf : Value) (h0 : Heap) (n0 : Nat) (v : Option Value) (h : Heap) (L : List Loc) : Prop := ∃ r : Int32, (v = some (.int r)) ∧ (Fr n0 L) ∧ (h = h0) ∧ (r < (0 : Int32) ↔ (¬ (x0 = (0 : Int32)) ∧ ¬ (x1 = (0 : Int32))))
theorem rmII2_1 (l : Launch) (Z : State) (a0 : Array Value) (hw : HW a0 Z) (ws : List Jvm.Cond) (so : Addr) (tb : Addr) (kb : ClassId) (x0 : Int32) (x1 : Int32) (cs : Int32) (sf : Value) (h0 : Heap) (n0 : Nat) (O : Old Z n0 h0) (S_CS : Sa_0 Z (.int cs)) (E_so : Exa Z h0 so "java/lang/String") (F_value_so : Fd_5 Z h0 so (.ref tb)) (F_coder_so : Fd_6 Z h0 so (.int 1)) (V_tb : Arv Z h0 tb kb .byte (4 : Int32) [(.int (own_lo x0)), (.int (own_hi x0)), (.int (own_lo x1)), (.int (own_hi x1))] (.int 0)) (S_AD : Sa_1 Z (.int 1)) (S_HI : Sa_2 Z (.int 0)) (S_LO : Sa_3 Z (.int 8)) (S_FM : Sa_4 Z sf) (hcs : ¬ (cs = (0 : Int32))) (hsf : sf.isRef = true) (rax0 : ¬ (x0 < (0 : Int32))) (rbx0 : ¬ ((65535 : Int32) < x0)) (rax1 : ¬ (x1 < (0 : Int32))) (rbx1 : ¬ ((65535 : Int32) < x1)) :
    Mt l Z y_24 jdk_42_method_80_code 3 (some .int) ws rm_rmII2_1 #[(.ref so), (.int 0), (.int 0)] h0 (Q_rmII2_1 Z so tb kb x0 x1 cs sf h0 n0) := by
 refine own_met "java/lang/String" (plainFor_of_name pn_java_lang_String) #[rv so, iv 0, iv 0] (fun m => rfl) (fun p e s m below meth c s₁ Bd hx hby hml hZ hown hnm X0 e0 => ?_)
 have N0 := Fr.nil n0
 refine Go.step (S' := s₁.setTop (mkF m 1 #[rv so, iv 0, iv 0] [(.ref so)])) (fun t k => ?_) ?_
 · refine XS.aloadN X0.here hx rfl (hb hby d6_0) rfl rfl ?_
   exact k
 refine Go.cV X0 hx hml hown hZ (own_w hw 38 rfl) (own_w hw 39 rfl) (own_w hw 41 rfl) (own_w hw 40 rfl) (own_w hw 5 rfl) (own_w hw 42 rfl) E_so (rmLat1 l Z a0 hw [] so cs h0 n0 O S_CS F_coder_so hcs) 0 [] pd__28_29Z (hb hby d6_1) e0 (fun _ T1 L1 X1 hQ1 => ?_)
 obtain ⟨rfl, Nq1, e1⟩ := hQ1
 have N1 := Fr.app N0 Nq1
 refine Go.step (S' := T1.setTop (mkF m 24 #[rv so, iv 0, iv 0] [(.ref so)])) (fun t k => ?_) ?_
 · refine XS.ifYes X1.here hx rfl (pc0 := 4) (pc' := 23) rfl (hb hby d6_4) rfl ((if0 _ _).trans (teq ((by decide) : (0 : Int32) = (0 : Int32))).1) (by decide) (by decide) ?_
   refine XS.aloadN X1.here hx rfl (hb hby d6_23) rfl rfl ?_
   exact k
 refine Go.gF X1 hx hZ hown (host := "") (Or.inl (own_w hw 22 rfl)) Via.refl e1 F_value_so (hb hby d6_24) (fun T2 X2 e2 => ?_)
 refine Go.step (S' := T2.setTop (mkF m 30 #[rv so, iv 0, iv 0] [(.ref so), (.int 0), (.int 0), (.ref tb)])) (fun t k => ?_) ?_
 · refine XS.iloadN X2.here hx rfl (hb hby d6_27) rfl ?_
   refine XS.iloadN X2.here hx rfl (hb hby d6_28) rfl ?_
   refine XS.aloadN X2.here hx rfl (hb hby d6_29) rfl rfl ?_
   exact k
 refine Go.cV X2 hx hml hown hZ (own_w hw 44 rfl) (own_w hw 45 rfl) (own_w hw 47 rfl) (own_w hw 46 rfl) (own_w hw 5 rfl) (own_w hw 48 rfl) E_so (rmLen2_1 l Z a0 hw [] so tb kb x0 x1 cs h0 n0 O S_CS E_so F_value_so F_coder_so V_tb hcs) 3 [(.int 0), (.int 0), (.ref tb)] pd__28_29I (hb hby d6_30) e2 (fun _ T3 L3 X3 hQ3 => ?_)
 obtain ⟨rfl, Nq3, e3⟩ := hQ3
 have N3 := Fr.app N1 Nq3
 refine Go.cS X3 hx hml hown hZ (own_w hw 100 rfl) (own_w hw 101 rfl) (own_w hw 70 rfl) (own_w hw 102 rfl) (rmIX2 l Z a0 hw [] tb kb sf x0 x1 h0 n0 O S_AD S_HI S_LO V_tb S_FM hsf rax0 rbx0 rax1 rbx1) 0 [] pd__28_5bBIII_29I (hb hby d6_33) e3 (fun _ T4 L4 X4 hQ4 => ?_)
 obtain ⟨r_4, rfl, Nq4, e4, kr_4⟩ := hQ4
 have N4 := Fr.app N3 Nq4
 exact Go.rt X4 hx Bd (w := (.int r_4)) rfl (Or.inl ⟨rfl, Or.inl rfl, _, rfl⟩) (hb hby d6_36) e4 ⟨r_4, rfl, N4, rfl, (by assumption)⟩
abbrev rm_rmI2_1 : Room := ({ frames := 6, cells := 0, slots := 0, locals := 87 } : Room)
def Q_rmI2_1 (Z : State) (so : Addr) (tb : Addr) (kb : ClassId) (x0 : Int32) (x1 : Int32) (cs : Int32) (sf : Value) (h0 : Heap) (n0 : Nat) (v : Option Value) (h : Heap) (L : List Loc) : Prop := ∃ r : Int32, (v = some (.int r)) ∧ (Fr n0 L) ∧ (h = h0) ∧ (r < (0 : Int32) ↔ (¬ (x0 = (0 : Int32)) ∧ ¬ (x1 = (0 : Int32))))
theorem rmI2_1 (l : Launch) (Z : State) (a0 : Array Value) (hw : HW a0 Z) (ws : List Jvm.Cond) (so : Addr) (tb : Addr) (kb : ClassId) (x0 : Int32) (x1 : Int32) (cs : Int32) (sf : Value) (h0 : Heap) (n0 : Nat) (O : Old Z n0 h0) (S_CS : Sa_0 Z (.int cs)) (E_so : Exa Z h0 so "java/lang/String") (F_value_so : Fd_5 Z h0 so (.ref tb)) (F_coder_so : Fd_6 Z h0 so (.int 1)) (V_tb : Arv Z h0 tb kb .byte (4 : Int32) [(.int (own_lo x0)), (.int (own_hi x0)), (.int (own_lo x1)), (.int (own_hi x1))] (.int 0)) (S_AD : Sa_1 Z (.int 1)) (S_HI : Sa_2 Z (.int 0)) (S_LO : Sa_3 Z (.int 8)) (S_FM : Sa_4 Z sf) (hcs : ¬ (cs = (0 : Int32))) (hsf : sf.isRef = true) (rax0 : ¬ (x0 < (0 : Int32))) (rbx0 : ¬ ((65535 : Int32) < x0)) (rax1 : ¬ (x1 < (0 : Int32))) (rbx1 : ¬ ((65535 : Int32) < x1)) :
    Mt l Z y_25 jdk_42_method_79_code 2 (some .int) ws rm_rmI2_1 #[(.ref so), (.int 0)] h0 (Q_rmI2_1 Z so tb kb x0 x1 cs sf h0 n0) := by
 refine own_met "java/lang/String" (plainFor_of_name pn_java_lang_String) #[rv so, iv 0] (fun m => rfl) (fun p e s m below meth c s₁ Bd hx hby hml hZ hown hnm X0 e0 => ?_)
 have N0 := Fr.nil n0
 refine Go.step (S' := s₁.setTop (mkF m 3 #[rv so, iv 0] [(.int 0), (.int 0), (.ref so)])) (fun t k => ?_) ?_
 · refine XS.aloadN X0.here hx rfl (hb hby d5_0) rfl rfl ?_
   refine XS.iloadN X0.here hx rfl (hb hby d5_1) rfl ?_
   refine XS.iconst X0.here hx rfl (hb hby d5_2) ?_
   exact k
 refine Go.cV X0 hx hml hown hZ (own_w hw 33 rfl) (own_w hw 34 rfl) (own_w hw 36 rfl) (own_w hw 35 rfl) (own_w hw 5 rfl) (own_w hw 37 rfl) E_so (rmII2_1 l Z a0 hw [] so tb kb x0 x1 cs sf h0 n0 O S_CS E_so F_value_so F_coder_so V_tb S_AD S_HI S_LO S_FM hcs hsf rax0 rbx0 rax1 rbx1) 0 [] pd__28II_29I (hb hby d5_3) e0 (fun _ T1 L1 X1 hQ1 => ?_)
 obtain ⟨r_1, rfl, Nq1, e1, kr_1⟩ := hQ1
 have N1 := Fr.app N0 Nq1
 exact Go.rt X1 hx Bd (w := (.int r_1)) rfl (Or.inl ⟨rfl, Or.inl rfl, _, rfl⟩) (hb hby d5_6) e1 ⟨r_1, rfl, N1, rfl, (by assumption)⟩
abbrev rm_rmSt2_1 : Room := ({ frames := 7, cells := 0, slots := 0, locals := 100 } : Room)
def Q_rmSt2_1 (Z : State) (so : Addr) (tb : Addr) (kb : ClassId) (x0 : Int32) (x1 : Int32) (cs : Int32) (sf : Value) (h0 : Heap) (n0 : Nat) (v : Option Value) (h : Heap) (L : List Loc) : Prop := ∃ r : Int32, (v = some (.int r)) ∧ (Fr n0 L) ∧ (h = h0) ∧ ((r = (1 : Int32) ∧ (¬ (x0 = (0 : Int32)) ∧ ¬ (x1 = (0 : Int32)))) ∨ (r = (0 : Int32) ∧ ¬ (¬ (x0 = (0 : Int32)) ∧ ¬ (x1 = (0 : Int32)))))
theorem rmSt2_1 (l : Launch) (Z : State) (a0 : Array Value) (hw : HW a0 Z) (ws : List Jvm.Cond) (so : Addr) (tb : Addr) (kb : ClassId) (x0 : Int32) (x1 : Int32) (cs : Int32) (sf : Value) (h0 : Heap) (n0 : Nat) (O : Old Z n0 h0) (S_CS : Sa_0 Z (.int cs)) (E_so : Exa Z h0 so "java/lang/String") (F_value_so : Fd_5 Z h0 so (.ref tb)) (F_coder_so : Fd_6 Z h0 so (.int 1)) (V_tb : Arv Z h0 tb kb .byte (4 : Int32) [(.int (own_lo x0)), (.int (own_hi x0)), (.int (own_lo x1)), (.int (own_hi x1))] (.int 0)) (S_AD : Sa_1 Z (.int 1)) (S_HI : Sa_2 Z (.int 0)) (S_LO : Sa_3 Z (.int 8)) (S_FM : Sa_4 Z sf) (hcs : ¬ (cs = (0 : Int32))) (hsf : sf.isRef = true) (rax0 : ¬ (x0 < (0 : Int32))) (rbx0 : ¬ ((65535 : Int32) < x0)) (rax1 : ¬ (x1 < (0 : Int32))) (rbx1 : ¬ ((65535 : Int32) < x1)) :
    Mt l Z y_26 prog_32_method_6_code 1 (some .boolean) ws rm_rmSt2_1 #[(.ref so)] h0 (Q_rmSt2_1 Z so tb kb x0 x1 cs sf h0 n0) := by
 refine own_met "com/example/loomlist/loomlist/core/Naming" (plainFor_of_name pn_com_example_loomlist_loomlist_core_Naming) #[rv so] (fun m => rfl) (fun p e s m below meth c s₁ Bd hx hby hml hZ hown hnm X0 e0 => ?_)
 have N0 := Fr.nil n0
 refine Go.step (S' := s₁.setTop (mkF m 2 #[rv so] [(.int 0), (.ref so)])) (fun t k => ?_) ?_
 · refine XS.aloadN X0.here hx rfl (hb hby d4_0) rfl rfl ?_
   refine XS.iconst X0.here hx rfl (hb hby d4_1) ?_
   exact k
 refine Go.cV X0 hx hml hown hZ (own_w hw 28 rfl) (own_w hw 29 rfl) (own_w hw 31 rfl) (own_w hw 30 rfl) (own_w hw 5 rfl) (own_w hw 32 rfl) E_so (rmI2_1 l Z a0 hw [] so tb kb x0 x1 cs sf h0 n0 O S_CS E_so F_value_so F_coder_so V_tb S_AD S_HI S_LO S_FM hcs hsf rax0 rbx0 rax1 rbx1) 0 [] pd__28I_29I (hb hby d4_2) e0 (fun _ T1 L1 X1 hQ1 => ?_)
 obtain ⟨r_1, rfl, Nq1, e1, kr_1⟩ := hQ1
 have N1 := Fr.app N0 Nq1
 by_cases hc5 : r_1 < (0 : Int32)
 ·skip
  refine Go.step (S' := T1.setTop (mkF m 13 #[rv so] [(.int 1)])) (fun t k => ?_) ?_
  · refine XS.ifNo X1.here hx rfl (hb hby d4_5) rfl ((if0 _ _).trans (tlt (hc5 : r_1 < (0 : Int32))).2.1) ?_
    refine XS.iconst X1.here hx rfl (hb hby d4_8) ?_
    refine XS.goto X1.here hx rfl (pc0 := 9) (pc' := 13) rfl (hb hby d4_9) (by decide) (by decide) ?_
    exact k
  exact Go.rt X1 hx Bd (w := (.int 1)) (by decide) (Or.inl ⟨rfl, Or.inr (Or.inl rfl), _, rfl⟩) (hb hby d4_13) e1 ⟨(1 : Int32), rfl, N1, rfl, (Or.inl ⟨rfl, kr_1.mp hc5⟩)⟩
 ·skip
  refine Go.step (S' := T1.setTop (mkF m 13 #[rv so] [(.int 0)])) (fun t k => ?_) ?_
  · refine XS.ifYes X1.here hx rfl (pc0 := 5) (pc' := 12) rfl (hb hby d4_5) rfl ((if0 _ _).trans (flt (hc5 : ¬ (r_1 < (0 : Int32)))).2.1) (by decide) (by decide) ?_
    refine XS.iconst X1.here hx rfl (hb hby d4_12) ?_
    exact k
  exact Go.rt X1 hx Bd (w := (.int 0)) (by decide) (Or.inl ⟨rfl, Or.inr (Or.inl rfl), _, rfl⟩) (hb hby d4_13) e1 ⟨(0 : Int32), rfl, N1, rfl, (Or.inr ⟨rfl, fun q => hc5 (kr_1.mpr q)⟩)⟩
abbrev rm_rmLI3 : Room := ({ frames := 0, cells := 0, slots := 0, locals := 0 } : Room)
def Q_rmLI3 (Z : State) (tb : Addr) (kb : ClassId) (x0 : Int32) (x1 : Int32) (x2 : Int32) (h0 : Heap) (n0 : Nat) (v : Option Value) (h : Heap) (L : List Loc) : Prop := ∃ r : Int32, (v = some (.int r)) ∧ (Fr n0 L) ∧ (h = h0) ∧ (r < (0 : Int32) ↔ (¬ ((x0.toInt8.toInt32) = (0 : Int32)) ∧ ¬ ((x1.toInt8.toInt32) = (0 : Int32)) ∧ ¬ ((x2.toInt8.toInt32) = (0 : Int32))))
theorem rmLI3 (l : Launch) (Z : State) (a0 : Array Value) (hw : HW a0 Z) (ws : List Jvm.Cond) (tb : Addr) (kb : ClassId) (x0 : Int32) (x1 : Int32) (x2 : Int32) (h0 : Heap) (n0 : Nat) (O : Old Z n0 h0) (V_tb : Arv Z h0 tb kb .byte (3 : Int32) [(.int (x0.toInt8.toInt32)), (.int (x1.toInt8.toInt32)), (.int (x2.toInt8.toInt32))] (.int 0)) :
    Mt l Z y_27 jdk_43_method_23_code 6 (some .int) ws rm_rmLI3 #[(.ref tb), (.int 0), (.int 0), (.int 3)] h0 (Q_rmLI3 Z tb kb x0 x1 x2 h0 n0) := by
 refine own_met "java/lang/StringLatin1" (plainFor_of_name pn_java_lang_StringLatin1) #[rv tb, iv 0, iv 0, iv 3, u_, u_] (fun m => rfl) (fun p e s m below meth c s₁ Bd hx hby hml hZ hown hnm X0 e0 => ?_)
 have N0 := Fr.nil n0
 refine Go.step (S' := s₁.setTop (mkF m 16 #[rv tb, iv 0, iv 0, iv 3, iv 0, iv 0] [(.int 0), (.ref tb)])) (fun t k => ?_) ?_
 · refine XS.iloadN X0.here hx rfl (hb hby d17_0) rfl ?_
   refine XS.i2b X0.here hx rfl (hb hby d17_1) rfl ?_
   refine XS.istore X0.here hx rfl (hb hby d17_2) rfl (l' := #[rv tb, iv 0, iv 0, iv 3, iv 0, u_]) rfl ?_
   refine XS.iloadN X0.here hx rfl (hb hby d17_4) rfl ?_
   refine XS.istore X0.here hx rfl (hb hby d17_5) rfl (l' := #[rv tb, iv 0, iv 0, iv 3, iv 0, iv 0]) rfl ?_
   refine XS.iload X0.here hx rfl (hb hby d17_7) rfl ?_
   show Steps p.tables e below (s₁.setTop (mkF m 9 #[rv tb, iv 0, iv 0, iv 3, iv 0, iv 0] [(.int 0)])) _
   refine XS.iloadN X0.here hx rfl (hb hby d17_9) rfl ?_
   refine XS.icmpNo X0.here hx rfl (hb hby d17_10) rfl (tlt ((by decide) : (0 : Int32) < (3 : Int32))).2.1 ?_
   refine XS.aloadN X0.here hx rfl (hb hby d17_13) rfl rfl ?_
   refine XS.iload X0.here hx rfl (hb hby d17_14) rfl ?_
   exact k
 refine Go.bal X0 hx hZ e0 V_tb (hb hby d17_16) (v := (.int (x0.toInt8.toInt32))) rfl ?_
 refine Go.step (S' := s₁.setTop (mkF m 19 #[rv tb, iv 0, iv 0, iv 3, iv 0, iv 0] [(.int 0), (.int (x0.toInt8.toInt32))])) (fun t k => ?_) ?_
 · refine XS.iload X0.here hx rfl (hb hby d17_17) rfl ?_
   exact k
 by_cases hc19 : (x0.toInt8.toInt32) = (0 : Int32)
 ·skip
  refine Go.step (S' := s₁.setTop (mkF m 24 #[rv tb, iv 0, iv 0, iv 3, iv 0, iv 0] [(.int 0)])) (fun t k => ?_) ?_
  · refine XS.icmpNo X0.here hx rfl (hb hby d17_19) rfl (teq (hc19 : (x0.toInt8.toInt32) = (0 : Int32))).2 ?_
    refine XS.iload X0.here hx rfl (hb hby d17_22) rfl ?_
    exact k
  exact Go.rt X0 hx Bd (w := (.int 0)) rfl (Or.inl ⟨rfl, Or.inl rfl, _, rfl⟩) (hb hby d17_24) e0 ⟨(0 : Int32), rfl, N0, rfl, ⟨fun q => absurd q (by decide), fun q => absurd hc19 q.1⟩⟩
 ·skip
  refine Go.step (S' := s₁.setTop (mkF m 16 #[rv tb, iv 0, iv 0, iv 3, iv 0, iv 1] [(.int 1), (.ref tb)])) (fun t k => ?_) ?_
  · refine XS.icmpYes X0.here hx rfl (pc0 := 19) (pc' := 25) rfl (hb hby d17_19) rfl (feq (hc19 : ¬ ((x0.toInt8.toInt32) = (0 : Int32)))).2 (by decide) (by decide) ?_
    refine XS.iinc X0.here hx rfl (hb hby d17_25) rfl (l' := #[rv tb, iv 0, iv 0, iv 3, iv 0, iv 1]) rfl ?_
    refine XS.goto X0.here hx rfl (pc0 := 28) (pc' := 7) rfl (hb hby d17_28) (by decide) (by decide) ?_
    refine XS.iload X0.here hx rfl (hb hby d17_7) rfl ?_
    refine XS.iloadN X0.here hx rfl (hb hby d17_9) rfl ?_
    refine XS.icmpNo X0.here hx rfl (hb hby d17_10) rfl (tlt ((by decide) : (1 : Int32) < (3 : Int32))).2.1 ?_
    show Steps p.tables e below (s₁.setTop (mkF m 13 #[rv tb, iv 0, iv 0, iv 3, iv 0, iv 1] [])) _
    refine XS.aloadN X0.here hx rfl (hb hby d17_13) rfl rfl ?_
    refine XS.iload X0.here hx rfl (hb hby d17_14) rfl ?_
    exact k
  refine Go.bal X0 hx hZ e0 V_tb (hb hby d17_16) (v := (.int (x1.toInt8.toInt32))) rfl ?_
  refine Go.step (S' := s₁.setTop (mkF m 19 #[rv tb, iv 0, iv 0, iv 3, iv 0, iv 1] [(.int 0), (.int (x1.toInt8.toInt32))])) (fun t k => ?_) ?_
  · refine XS.iload X0.here hx rfl (hb hby d17_17) rfl ?_
    exact k
  by_cases hc19_1 : (x1.toInt8.toInt32) = (0 : Int32)
  ·skip
   refine Go.step (S' := s₁.setTop (mkF m 24 #[rv tb, iv 0, iv 0, iv 3, iv 0, iv 1] [(.int 1)])) (fun t k => ?_) ?_
   · refine XS.icmpNo X0.here hx rfl (hb hby d17_19) rfl (teq (hc19_1 : (x1.toInt8.toInt32) = (0 : Int32))).2 ?_
     refine XS.iload X0.here hx rfl (hb hby d17_22) rfl ?_
     exact k
   exact Go.rt X0 hx Bd (w := (.int 1)) rfl (Or.inl ⟨rfl, Or.inl rfl, _, rfl⟩) (hb hby d17_24) e0 ⟨(1 : Int32), rfl, N0, rfl, ⟨fun q => absurd q (by decide), fun q => absurd hc19_1 q.2.1⟩⟩
  ·skip
   refine Go.step (S' := s₁.setTop (mkF m 16 #[rv tb, iv 0, iv 0, iv 3, iv 0, iv 2] [(.int 2), (.ref tb)])) (fun t k => ?_) ?_
   · refine XS.icmpYes X0.here hx rfl (pc0 := 19) (pc' := 25) rfl (hb hby d17_19) rfl (feq (hc19_1 : ¬ ((x1.toInt8.toInt32) = (0 : Int32)))).2 (by decide) (by decide) ?_
     refine XS.iinc X0.here hx rfl (hb hby d17_25) rfl (l' := #[rv tb, iv 0, iv 0, iv 3, iv 0, iv 2]) rfl ?_
     refine XS.goto X0.here hx rfl (pc0 := 28) (pc' := 7) rfl (hb hby d17_28) (by decide) (by decide) ?_
     refine XS.iload X0.here hx rfl (hb hby d17_7) rfl ?_
     refine XS.iloadN X0.here hx rfl (hb hby d17_9) rfl ?_
     refine XS.icmpNo X0.here hx rfl (hb hby d17_10) rfl (tlt ((by decide) : (2 : Int32) < (3 : Int32))).2.1 ?_
     show Steps p.tables e below (s₁.setTop (mkF m 13 #[rv tb, iv 0, iv 0, iv 3, iv 0, iv 2] [])) _
     refine XS.aloadN X0.here hx rfl (hb hby d17_13) rfl rfl ?_
     refine XS.iload X0.here hx rfl (hb hby d17_14) rfl ?_
     exact k
   refine Go.bal X0 hx hZ e0 V_tb (hb hby d17_16) (v := (.int (x2.toInt8.toInt32))) rfl ?_
   refine Go.step (S' := s₁.setTop (mkF m 19 #[rv tb, iv 0, iv 0, iv 3, iv 0, iv 2] [(.int 0), (.int (x2.toInt8.toInt32))])) (fun t k => ?_) ?_
   · refine XS.iload X0.here hx rfl (hb hby d17_17) rfl ?_
     exact k
   by_cases hc19_2 : (x2.toInt8.toInt32) = (0 : Int32)
   ·skip
    refine Go.step (S' := s₁.setTop (mkF m 24 #[rv tb, iv 0, iv 0, iv 3, iv 0, iv 2] [(.int 2)])) (fun t k => ?_) ?_
    · refine XS.icmpNo X0.here hx rfl (hb hby d17_19) rfl (teq (hc19_2 : (x2.toInt8.toInt32) = (0 : Int32))).2 ?_
      refine XS.iload X0.here hx rfl (hb hby d17_22) rfl ?_
      exact k
    exact Go.rt X0 hx Bd (w := (.int 2)) rfl (Or.inl ⟨rfl, Or.inl rfl, _, rfl⟩) (hb hby d17_24) e0 ⟨(2 : Int32), rfl, N0, rfl, ⟨fun q => absurd q (by decide), fun q => absurd hc19_2 q.2.2⟩⟩
   ·skip
    refine Go.step (S' := s₁.setTop (mkF m 32 #[rv tb, iv 0, iv 0, iv 3, iv 0, iv 3] [(.int (-1))])) (fun t k => ?_) ?_
    · refine XS.icmpYes X0.here hx rfl (pc0 := 19) (pc' := 25) rfl (hb hby d17_19) rfl (feq (hc19_2 : ¬ ((x2.toInt8.toInt32) = (0 : Int32)))).2 (by decide) (by decide) ?_
      refine XS.iinc X0.here hx rfl (hb hby d17_25) rfl (l' := #[rv tb, iv 0, iv 0, iv 3, iv 0, iv 3]) rfl ?_
      refine XS.goto X0.here hx rfl (pc0 := 28) (pc' := 7) rfl (hb hby d17_28) (by decide) (by decide) ?_
      refine XS.iload X0.here hx rfl (hb hby d17_7) rfl ?_
      refine XS.iloadN X0.here hx rfl (hb hby d17_9) rfl ?_
      refine XS.icmpYes X0.here hx rfl (pc0 := 10) (pc' := 31) rfl (hb hby d17_10) rfl (flt ((by decide) : ¬ ((3 : Int32) < (3 : Int32)))).2.1 (by decide) (by decide) ?_
      show Steps p.tables e below (s₁.setTop (mkF m 31 #[rv tb, iv 0, iv 0, iv 3, iv 0, iv 3] [])) _
      refine XS.iconst X0.here hx rfl (hb hby d17_31) ?_
      exact k
    exact Go.rt X0 hx Bd (w := (.int (-1))) rfl (Or.inl ⟨rfl, Or.inl rfl, _, rfl⟩) (hb hby d17_32) e0 ⟨(-1 : Int32), rfl, N0, rfl, ⟨fun _ => ⟨hc19, hc19_1, hc19_2⟩, fun _ => by decide⟩⟩
abbrev rm_rmLX3 : Room := ({ frames := 1, cells := 0, slots := 0, locals := 17 } : Room)
def Q_rmLX3 (Z : State) (tb : Addr) (kb : ClassId) (x0 : Int32) (x1 : Int32) (x2 : Int32) (h0 : Heap) (n0 : Nat) (v : Option Value) (h : Heap) (L : List Loc) : Prop := ∃ r : Int32, (v = some (.int r)) ∧ (Fr n0 L) ∧ (h = h0) ∧ (r < (0 : Int32) ↔ (¬ ((x0.toInt8.toInt32) = (0 : Int32)) ∧ ¬ ((x1.toInt8.toInt32) = (0 : Int32)) ∧ ¬ ((x2.toInt8.toInt32) = (0 : Int32))))
theorem rmLX3 (l : Launch) (Z : State) (a0 : Array Value) (hw : HW a0 Z) (ws : List Jvm.Cond) (tb : Addr) (kb : ClassId) (x0 : Int32) (x1 : Int32) (x2 : Int32) (h0 : Heap) (n0 : Nat) (O : Old Z n0 h0) (V_tb : Arv Z h0 tb kb .byte (3 : Int32) [(.int (x0.toInt8.toInt32)), (.int (x1.toInt8.toInt32)), (.int (x2.toInt8.toInt32))] (.int 0)) :
    Mt l Z y_22 jdk_43_method_22_code 4 (some .int) ws rm_rmLX3 #[(.ref tb), (.int 0), (.int 0), (.int 3)] h0 (Q_rmLX3 Z tb kb x0 x1 x2 h0 n0) := by
 refine own_met "java/lang/StringLatin1" (plainFor_of_name pn_java_lang_StringLatin1) #[rv tb, iv 0, iv 0, iv 3] (fun m => rfl) (fun p e s m below meth c s₁ Bd hx hby hml hZ hown hnm X0 e0 => ?_)
 have N0 := Fr.nil n0
 refine Go.step (S' := s₁.setTop (mkF m 1 #[rv tb, iv 0, iv 0, iv 3] [(.int 0)])) (fun t k => ?_) ?_
 · refine XS.iloadN X0.here hx rfl (hb hby d10_0) rfl ?_
   exact k
 refine Go.cS X0 hx hml hown hZ (own_w hw 58 rfl) (own_w hw 59 rfl) (own_w hw 56 rfl) (own_w hw 60 rfl) (rmCan l Z a0 hw []  h0 n0 O ) 0 [] pd__28I_29Z (hb hby d10_1) e0 (fun _ T1 L1 X1 hQ1 => ?_)
 obtain ⟨rfl, Nq1, e1⟩ := hQ1
 have N1 := Fr.app N0 Nq1
 refine Go.step (S' := T1.setTop (mkF m 11 #[rv tb, iv 0, iv 0, iv 3] [(.int 0), (.int 0)])) (fun t k => ?_) ?_
 · refine XS.ifYes X1.here hx rfl (pc0 := 4) (pc' := 9) rfl (hb hby d10_4) rfl ((if0 _ _).trans (feq ((by decide) : ¬ ((1 : Int32) = (0 : Int32)))).2) (by decide) (by decide) ?_
   refine XS.iloadN X1.here hx rfl (hb hby d10_9) rfl ?_
   refine XS.iconst X1.here hx rfl (hb hby d10_10) ?_
   exact k
 refine Go.cS X1 hx hml hown hZ (own_w hw 61 rfl) (own_w hw 62 rfl) (own_w hw 63 rfl) (own_w hw 64 rfl) (rmMxA l Z a0 hw [] (0 : Int32) (0 : Int32) h0 n0 O (by decide)) 0 [] pd__28II_29I (hb hby d10_11) e1 (fun _ T2 L2 X2 hQ2 => ?_)
 obtain ⟨rfl, Nq2, e2⟩ := hQ2
 have N2 := Fr.app N1 Nq2
 refine Go.step (S' := T2.setTop (mkF m 17 #[rv tb, iv 0, iv 0, iv 3] [(.ref tb), (.int 3)])) (fun t k => ?_) ?_
 · refine XS.istoreN X2.here hx rfl (hb hby d10_14) rfl (l' := #[rv tb, iv 0, iv 0, iv 3]) rfl ?_
   refine XS.iloadN X2.here hx rfl (hb hby d10_15) rfl ?_
   refine XS.aloadN X2.here hx rfl (hb hby d10_16) rfl rfl ?_
   exact k
 refine Go.len X2 hx hZ e2 V_tb (hb hby d10_17) ?_
 refine Go.cS X2 hx hml hown hZ (own_w hw 65 rfl) (own_w hw 66 rfl) (own_w hw 63 rfl) (own_w hw 67 rfl) (rmMnA l Z a0 hw [] (3 : Int32) (3 : Int32) h0 n0 O (by decide)) 0 [] pd__28II_29I (hb hby d10_18) e2 (fun _ T3 L3 X3 hQ3 => ?_)
 obtain ⟨rfl, Nq3, e3⟩ := hQ3
 have N3 := Fr.app N2 Nq3
 refine Go.step (S' := T3.setTop (mkF m 33 #[rv tb, iv 0, iv 0, iv 3] [(.int 3), (.int 0), (.int 0), (.ref tb)])) (fun t k => ?_) ?_
 · refine XS.istoreN X3.here hx rfl (hb hby d10_21) rfl (l' := #[rv tb, iv 0, iv 0, iv 3]) rfl ?_
   refine XS.iloadN X3.here hx rfl (hb hby d10_22) rfl ?_
   refine XS.iloadN X3.here hx rfl (hb hby d10_23) rfl ?_
   refine XS.icmpYes X3.here hx rfl (pc0 := 24) (pc' := 29) rfl (hb hby d10_24) rfl (tlt ((by decide) : (0 : Int32) < (3 : Int32))).1 (by decide) (by decide) ?_
   refine XS.aloadN X3.here hx rfl (hb hby d10_29) rfl rfl ?_
   refine XS.iloadN X3.here hx rfl (hb hby d10_30) rfl ?_
   show Steps p.tables e below (T3.setTop (mkF m 31 #[rv tb, iv 0, iv 0, iv 3] [(.int 0), (.ref tb)])) _
   refine XS.iloadN X3.here hx rfl (hb hby d10_31) rfl ?_
   refine XS.iloadN X3.here hx rfl (hb hby d10_32) rfl ?_
   exact k
 refine Go.cS X3 hx hml hown hZ (own_w hw 78 rfl) (own_w hw 79 rfl) (own_w hw 56 rfl) (own_w hw 80 rfl) (rmLI3 l Z a0 hw [] tb kb x0 x1 x2 h0 n0 O V_tb) 0 [] pd__28_5bBIII_29I (hb hby d10_33) e3 (fun _ T4 L4 X4 hQ4 => ?_)
 obtain ⟨r_4, rfl, Nq4, e4, kr_4⟩ := hQ4
 have N4 := Fr.app N3 Nq4
 exact Go.rt X4 hx Bd (w := (.int r_4)) rfl (Or.inl ⟨rfl, Or.inl rfl, _, rfl⟩) (hb hby d10_36) e4 ⟨r_4, rfl, N4, rfl, (by assumption)⟩
abbrev rm_rmLen3_0 : Room := ({ frames := 1, cells := 0, slots := 0, locals := 13 } : Room)
def Q_rmLen3_0 (Z : State) (so : Addr) (tb : Addr) (kb : ClassId) (x0 : Int32) (x1 : Int32) (x2 : Int32) (cs : Int32) (h0 : Heap) (n0 : Nat) (v : Option Value) (h : Heap) (L : List Loc) : Prop := (v = some (.int 3)) ∧ (Fr n0 L) ∧ (h = h0)
theorem rmLen3_0 (l : Launch) (Z : State) (a0 : Array Value) (hw : HW a0 Z) (ws : List Jvm.Cond) (so : Addr) (tb : Addr) (kb : ClassId) (x0 : Int32) (x1 : Int32) (x2 : Int32) (cs : Int32) (h0 : Heap) (n0 : Nat) (O : Old Z n0 h0) (S_CS : Sa_0 Z (.int cs)) (E_so : Exa Z h0 so "java/lang/String") (F_value_so : Fd_5 Z h0 so (.ref tb)) (F_coder_so : Fd_6 Z h0 so (.int 0)) (V_tb : Arv Z h0 tb kb .byte (3 : Int32) [(.int (x0.toInt8.toInt32)), (.int (x1.toInt8.toInt32)), (.int (x2.toInt8.toInt32))] (.int 0)) (hcs : ¬ (cs = (0 : Int32))) :
    Mt l Z y_23 jdk_42_method_54_code 1 (some .int) ws rm_rmLen3_0 #[(.ref so)] h0 (Q_rmLen3_0 Z so tb kb x0 x1 x2 cs h0 n0) := by
 refine own_met "java/lang/String" (plainFor_of_name pn_java_lang_String) #[rv so] (fun m => rfl) (fun p e s m below meth c s₁ Bd hx hby hml hZ hown hnm X0 e0 => ?_)
 have N0 := Fr.nil n0
 refine Go.step (S' := s₁.setTop (mkF m 1 #[rv so] [(.ref so)])) (fun t k => ?_) ?_
 · refine XS.aloadN X0.here hx rfl (hb hby d8_0) rfl rfl ?_
   exact k
 refine Go.gF X0 hx hZ hown (host := "") (Or.inl (own_w hw 22 rfl)) Via.refl e0 F_value_so (hb hby d8_1) (fun T1 X1 e1 => ?_)
 refine Go.len X1 hx hZ e1 V_tb (hb hby d8_4) ?_
 refine Go.step (S' := T1.setTop (mkF m 6 #[rv so] [(.ref so), (.int 3)])) (fun t k => ?_) ?_
 · refine XS.aloadN X1.here hx rfl (hb hby d8_5) rfl rfl ?_
   exact k
 refine Go.cV X1 hx hml hown hZ (own_w hw 49 rfl) (own_w hw 50 rfl) (own_w hw 52 rfl) (own_w hw 51 rfl) (own_w hw 5 rfl) (own_w hw 53 rfl) E_so (rmCod0 l Z a0 hw [] so cs h0 n0 O S_CS F_coder_so hcs) 1 [(.int 3)] pd__28_29B (hb hby d8_6) e1 (fun _ T2 L2 X2 hQ2 => ?_)
 obtain ⟨rfl, Nq2, e2⟩ := hQ2
 have N2 := Fr.app N0 Nq2
 refine Go.step (S' := T2.setTop (mkF m 10 #[rv so] [(.int 3)])) (fun t k => ?_) ?_
 · refine XS.ishr X2.here hx rfl (hb hby d8_9) rfl ?_
   exact k
 exact Go.rt X2 hx Bd (w := (.int 3)) rfl (Or.inl ⟨rfl, Or.inl rfl, _, rfl⟩) (hb hby d8_10) e2 ⟨rfl, N2, rfl⟩
abbrev rm_rmII3_0 : Room := ({ frames := 2, cells := 0, slots := 0, locals := 32 } : Room)
def Q_rmII3_0 (Z : State) (so : Addr) (tb : Addr) (kb : ClassId) (x0 : Int32) (x1 : Int32) (x2 : Int32) (cs : Int32) (h0 : Heap) (n0 : Nat) (v : Option Value) (h : Heap) (L : List Loc) : Prop := ∃ r : Int32, (v = some (.int r)) ∧ (Fr n0 L) ∧ (h = h0) ∧ (r < (0 : Int32) ↔ (¬ ((x0.toInt8.toInt32) = (0 : Int32)) ∧ ¬ ((x1.toInt8.toInt32) = (0 : Int32)) ∧ ¬ ((x2.toInt8.toInt32) = (0 : Int32))))
theorem rmII3_0 (l : Launch) (Z : State) (a0 : Array Value) (hw : HW a0 Z) (ws : List Jvm.Cond) (so : Addr) (tb : Addr) (kb : ClassId) (x0 : Int32) (x1 : Int32) (x2 : Int32) (cs : Int32) (h0 : Heap) (n0 : Nat) (O : Old Z n0 h0) (S_CS : Sa_0 Z (.int cs)) (E_so : Exa Z h0 so "java/lang/String") (F_value_so : Fd_5 Z h0 so (.ref tb)) (F_coder_so : Fd_6 Z h0 so (.int 0)) (V_tb : Arv Z h0 tb kb .byte (3 : Int32) [(.int (x0.toInt8.toInt32)), (.int (x1.toInt8.toInt32)), (.int (x2.toInt8.toInt32))] (.int 0)) (hcs : ¬ (cs = (0 : Int32))) :
    Mt l Z y_24 jdk_42_method_80_code 3 (some .int) ws rm_rmII3_0 #[(.ref so), (.int 0), (.int 0)] h0 (Q_rmII3_0 Z so tb kb x0 x1 x2 cs h0 n0) := by
 refine own_met "java/lang/String" (plainFor_of_name pn_java_lang_String) #[rv so, iv 0, iv 0] (fun m => rfl) (fun p e s m below meth c s₁ Bd hx hby hml hZ hown hnm X0 e0 => ?_)
 have N0 := Fr.nil n0
 refine Go.step (S' := s₁.setTop (mkF m 1 #[rv so, iv 0, iv 0] [(.ref so)])) (fun t k => ?_) ?_
 · refine XS.aloadN X0.here hx rfl (hb hby d6_0) rfl rfl ?_
   exact k
 refine Go.cV X0 hx hml hown hZ (own_w hw 38 rfl) (own_w hw 39 rfl) (own_w hw 41 rfl) (own_w hw 40 rfl) (own_w hw 5 rfl) (own_w hw 42 rfl) E_so (rmLat0 l Z a0 hw [] so cs h0 n0 O S_CS F_coder_so hcs) 0 [] pd__28_29Z (hb hby d6_1) e0 (fun _ T1 L1 X1 hQ1 => ?_)
 obtain ⟨rfl, Nq1, e1⟩ := hQ1
 have N1 := Fr.app N0 Nq1
 refine Go.step (S' := T1.setTop (mkF m 8 #[rv so, iv 0, iv 0] [(.ref so)])) (fun t k => ?_) ?_
 · refine XS.ifNo X1.here hx rfl (hb hby d6_4) rfl ((if0 _ _).trans (feq ((by decide) : ¬ ((1 : Int32) = (0 : Int32)))).1) ?_
   refine XS.aloadN X1.here hx rfl (hb hby d6_7) rfl rfl ?_
   exact k
 refine Go.gF X1 hx hZ hown (host := "") (Or.inl (own_w hw 22 rfl)) Via.refl e1 F_value_so (hb hby d6_8) (fun T2 X2 e2 => ?_)
 refine Go.step (S' := T2.setTop (mkF m 14 #[rv so, iv 0, iv 0] [(.ref so), (.int 0), (.int 0), (.ref tb)])) (fun t k => ?_) ?_
 · refine XS.iloadN X2.here hx rfl (hb hby d6_11) rfl ?_
   refine XS.iloadN X2.here hx rfl (hb hby d6_12) rfl ?_
   refine XS.aloadN X2.here hx rfl (hb hby d6_13) rfl rfl ?_
   exact k
 refine Go.cV X2 hx hml hown hZ (own_w hw 44 rfl) (own_w hw 45 rfl) (own_w hw 47 rfl) (own_w hw 46 rfl) (own_w hw 5 rfl) (own_w hw 48 rfl) E_so (rmLen3_0 l Z a0 hw [] so tb kb x0 x1 x2 cs h0 n0 O S_CS E_so F_value_so F_coder_so V_tb hcs) 3 [(.int 0), (.int 0), (.ref tb)] pd__28_29I (hb hby d6_14) e2 (fun _ T3 L3 X3 hQ3 => ?_)
 obtain ⟨rfl, Nq3, e3⟩ := hQ3
 have N3 := Fr.app N1 Nq3
 refine Go.cS X3 hx hml hown hZ (own_w hw 54 rfl) (own_w hw 55 rfl) (own_w hw 56 rfl) (own_w hw 57 rfl) (rmLX3 l Z a0 hw [] tb kb x0 x1 x2 h0 n0 O V_tb) 0 [] pd__28_5bBIII_29I (hb hby d6_17) e3 (fun _ T4 L4 X4 hQ4 => ?_)
 obtain ⟨r_4, rfl, Nq4, e4, kr_4⟩ := hQ4
 have N4 := Fr.app N3 Nq4
 refine Go.step (S' := T4.setTop (mkF m 36 #[rv so, iv 0, iv 0] [(.int r_4)])) (fun t k => ?_) ?_
 · refine XS.goto X4.here hx rfl (pc0 := 20) (pc' := 36) rfl (hb hby d6_20) (by decide) (by decide) ?_
   exact k
 exact Go.rt X4 hx Bd (w := (.int r_4)) rfl (Or.inl ⟨rfl, Or.inl rfl, _, rfl⟩) (hb hby d6_36) e4 ⟨r_4, rfl, N4, rfl, (by assumption)⟩
abbrev rm_rmI3_0 : Room := ({ frames := 3, cells := 0, slots := 0, locals := 46 } : Room)
def Q_rmI3_0 (Z : State) (so : Addr) (tb : Addr) (kb : ClassId) (x0 : Int32) (x1 : Int32) (x2 : Int32) (cs : Int32) (h0 : Heap) (n0 : Nat) (v : Option Value) (h : Heap) (L : List Loc) : Prop := ∃ r : Int32, (v = some (.int r)) ∧ (Fr n0 L) ∧ (h = h0) ∧ (r < (0 : Int32) ↔ (¬ ((x0.toInt8.toInt32) = (0 : Int32)) ∧ ¬ ((x1.toInt8.toInt32) = (0 : Int32)) ∧ ¬ ((x2.toInt8.toInt32) = (0 : Int32))))
theorem rmI3_0 (l : Launch) (Z : State) (a0 : Array Value) (hw : HW a0 Z) (ws : List Jvm.Cond) (so : Addr) (tb : Addr) (kb : ClassId) (x0 : Int32) (x1 : Int32) (x2 : Int32) (cs : Int32) (h0 : Heap) (n0 : Nat) (O : Old Z n0 h0) (S_CS : Sa_0 Z (.int cs)) (E_so : Exa Z h0 so "java/lang/String") (F_value_so : Fd_5 Z h0 so (.ref tb)) (F_coder_so : Fd_6 Z h0 so (.int 0)) (V_tb : Arv Z h0 tb kb .byte (3 : Int32) [(.int (x0.toInt8.toInt32)), (.int (x1.toInt8.toInt32)), (.int (x2.toInt8.toInt32))] (.int 0)) (hcs : ¬ (cs = (0 : Int32))) :
    Mt l Z y_25 jdk_42_method_79_code 2 (some .int) ws rm_rmI3_0 #[(.ref so), (.int 0)] h0 (Q_rmI3_0 Z so tb kb x0 x1 x2 cs h0 n0) := by
 refine own_met "java/lang/String" (plainFor_of_name pn_java_lang_String) #[rv so, iv 0] (fun m => rfl) (fun p e s m below meth c s₁ Bd hx hby hml hZ hown hnm X0 e0 => ?_)
 have N0 := Fr.nil n0
 refine Go.step (S' := s₁.setTop (mkF m 3 #[rv so, iv 0] [(.int 0), (.int 0), (.ref so)])) (fun t k => ?_) ?_
 · refine XS.aloadN X0.here hx rfl (hb hby d5_0) rfl rfl ?_
   refine XS.iloadN X0.here hx rfl (hb hby d5_1) rfl ?_
   refine XS.iconst X0.here hx rfl (hb hby d5_2) ?_
   exact k
 refine Go.cV X0 hx hml hown hZ (own_w hw 33 rfl) (own_w hw 34 rfl) (own_w hw 36 rfl) (own_w hw 35 rfl) (own_w hw 5 rfl) (own_w hw 37 rfl) E_so (rmII3_0 l Z a0 hw [] so tb kb x0 x1 x2 cs h0 n0 O S_CS E_so F_value_so F_coder_so V_tb hcs) 0 [] pd__28II_29I (hb hby d5_3) e0 (fun _ T1 L1 X1 hQ1 => ?_)
 obtain ⟨r_1, rfl, Nq1, e1, kr_1⟩ := hQ1
 have N1 := Fr.app N0 Nq1
 exact Go.rt X1 hx Bd (w := (.int r_1)) rfl (Or.inl ⟨rfl, Or.inl rfl, _, rfl⟩) (hb hby d5_6) e1 ⟨r_1, rfl, N1, rfl, (by assumption)⟩
abbrev rm_rmSt3_0 : Room := ({ frames := 4, cells := 0, slots := 0, locals := 59 } : Room)
def Q_rmSt3_0 (Z : State) (so : Addr) (tb : Addr) (kb : ClassId) (x0 : Int32) (x1 : Int32) (x2 : Int32) (cs : Int32) (h0 : Heap) (n0 : Nat) (v : Option Value) (h : Heap) (L : List Loc) : Prop := ∃ r : Int32, (v = some (.int r)) ∧ (Fr n0 L) ∧ (h = h0) ∧ ((r = (1 : Int32) ∧ (¬ ((x0.toInt8.toInt32) = (0 : Int32)) ∧ ¬ ((x1.toInt8.toInt32) = (0 : Int32)) ∧ ¬ ((x2.toInt8.toInt32) = (0 : Int32)))) ∨ (r = (0 : Int32) ∧ ¬ (¬ ((x0.toInt8.toInt32) = (0 : Int32)) ∧ ¬ ((x1.toInt8.toInt32) = (0 : Int32)) ∧ ¬ ((x2.toInt8.toInt32) = (0 : Int32)))))
theorem rmSt3_0 (l : Launch) (Z : State) (a0 : Array Value) (hw : HW a0 Z) (ws : List Jvm.Cond) (so : Addr) (tb : Addr) (kb : ClassId) (x0 : Int32) (x1 : Int32) (x2 : Int32) (cs : Int32) (h0 : Heap) (n0 : Nat) (O : Old Z n0 h0) (S_CS : Sa_0 Z (.int cs)) (E_so : Exa Z h0 so "java/lang/String") (F_value_so : Fd_5 Z h0 so (.ref tb)) (F_coder_so : Fd_6 Z h0 so (.int 0)) (V_tb : Arv Z h0 tb kb .byte (3 : Int32) [(.int (x0.toInt8.toInt32)), (.int (x1.toInt8.toInt32)), (.int (x2.toInt8.toInt32))] (.int 0)) (hcs : ¬ (cs = (0 : Int32))) :
    Mt l Z y_26 prog_32_method_6_code 1 (some .boolean) ws rm_rmSt3_0 #[(.ref so)] h0 (Q_rmSt3_0 Z so tb kb x0 x1 x2 cs h0 n0) := by
 refine own_met "com/example/loomlist/loomlist/core/Naming" (plainFor_of_name pn_com_example_loomlist_loomlist_core_Naming) #[rv so] (fun m => rfl) (fun p e s m below meth c s₁ Bd hx hby hml hZ hown hnm X0 e0 => ?_)
 have N0 := Fr.nil n0
 refine Go.step (S' := s₁.setTop (mkF m 2 #[rv so] [(.int 0), (.ref so)])) (fun t k => ?_) ?_
 · refine XS.aloadN X0.here hx rfl (hb hby d4_0) rfl rfl ?_
   refine XS.iconst X0.here hx rfl (hb hby d4_1) ?_
   exact k
 refine Go.cV X0 hx hml hown hZ (own_w hw 28 rfl) (own_w hw 29 rfl) (own_w hw 31 rfl) (own_w hw 30 rfl) (own_w hw 5 rfl) (own_w hw 32 rfl) E_so (rmI3_0 l Z a0 hw [] so tb kb x0 x1 x2 cs h0 n0 O S_CS E_so F_value_so F_coder_so V_tb hcs) 0 [] pd__28I_29I (hb hby d4_2) e0 (fun _ T1 L1 X1 hQ1 => ?_)
 obtain ⟨r_1, rfl, Nq1, e1, kr_1⟩ := hQ1
 have N1 := Fr.app N0 Nq1
 by_cases hc5 : r_1 < (0 : Int32)
 ·skip
  refine Go.step (S' := T1.setTop (mkF m 13 #[rv so] [(.int 1)])) (fun t k => ?_) ?_
  · refine XS.ifNo X1.here hx rfl (hb hby d4_5) rfl ((if0 _ _).trans (tlt (hc5 : r_1 < (0 : Int32))).2.1) ?_
    refine XS.iconst X1.here hx rfl (hb hby d4_8) ?_
    refine XS.goto X1.here hx rfl (pc0 := 9) (pc' := 13) rfl (hb hby d4_9) (by decide) (by decide) ?_
    exact k
  exact Go.rt X1 hx Bd (w := (.int 1)) (by decide) (Or.inl ⟨rfl, Or.inr (Or.inl rfl), _, rfl⟩) (hb hby d4_13) e1 ⟨(1 : Int32), rfl, N1, rfl, (Or.inl ⟨rfl, kr_1.mp hc5⟩)⟩
 ·skip
  refine Go.step (S' := T1.setTop (mkF m 13 #[rv so] [(.int 0)])) (fun t k => ?_) ?_
  · refine XS.ifYes X1.here hx rfl (pc0 := 5) (pc' := 12) rfl (hb hby d4_5) rfl ((if0 _ _).trans (flt (hc5 : ¬ (r_1 < (0 : Int32)))).2.1) (by decide) (by decide) ?_
    refine XS.iconst X1.here hx rfl (hb hby d4_12) ?_
    exact k
  exact Go.rt X1 hx Bd (w := (.int 0)) (by decide) (Or.inl ⟨rfl, Or.inr (Or.inl rfl), _, rfl⟩) (hb hby d4_13) e1 ⟨(0 : Int32), rfl, N1, rfl, (Or.inr ⟨rfl, fun q => hc5 (kr_1.mpr q)⟩)⟩
abbrev rm_rmLen3_1 : Room := ({ frames := 1, cells := 0, slots := 0, locals := 13 } : Room)
def Q_rmLen3_1 (Z : State) (so : Addr) (tb : Addr) (kb : ClassId) (x0 : Int32) (x1 : Int32) (x2 : Int32) (cs : Int32) (h0 : Heap) (n0 : Nat) (v : Option Value) (h : Heap) (L : List Loc) : Prop := (v = some (.int 3)) ∧ (Fr n0 L) ∧ (h = h0)
theorem rmLen3_1 (l : Launch) (Z : State) (a0 : Array Value) (hw : HW a0 Z) (ws : List Jvm.Cond) (so : Addr) (tb : Addr) (kb : ClassId) (x0 : Int32) (x1 : Int32) (x2 : Int32) (cs : Int32) (h0 : Heap) (n0 : Nat) (O : Old Z n0 h0) (S_CS : Sa_0 Z (.int cs)) (E_so : Exa Z h0 so "java/lang/String") (F_value_so : Fd_5 Z h0 so (.ref tb)) (F_coder_so : Fd_6 Z h0 so (.int 1)) (V_tb : Arv Z h0 tb kb .byte (6 : Int32) [(.int (own_lo x0)), (.int (own_hi x0)), (.int (own_lo x1)), (.int (own_hi x1)), (.int (own_lo x2)), (.int (own_hi x2))] (.int 0)) (hcs : ¬ (cs = (0 : Int32))) :
    Mt l Z y_23 jdk_42_method_54_code 1 (some .int) ws rm_rmLen3_1 #[(.ref so)] h0 (Q_rmLen3_1 Z so tb kb x0 x1 x2 cs h0 n0) := by
 refine own_met "java/lang/String" (plainFor_of_name pn_java_lang_String) #[rv so] (fun m => rfl) (fun p e s m below meth c s₁ Bd hx hby hml hZ hown hnm X0 e0 => ?_)
 have N0 := Fr.nil n0
 refine Go.step (S' := s₁.setTop (mkF m 1 #[rv so] [(.ref so)])) (fun t k => ?_) ?_
 · refine XS.aloadN X0.here hx rfl (hb hby d8_0) rfl rfl ?_
   exact k
 refine Go.gF X0 hx hZ hown (host := "") (Or.inl (own_w hw 22 rfl)) Via.refl e0 F_value_so (hb hby d8_1) (fun T1 X1 e1 => ?_)
 refine Go.len X1 hx hZ e1 V_tb (hb hby d8_4) ?_
 refine Go.step (S' := T1.setTop (mkF m 6 #[rv so] [(.ref so), (.int 6)])) (fun t k => ?_) ?_
 · refine XS.aloadN X1.here hx rfl (hb hby d8_5) rfl rfl ?_
   exact k
 refine Go.cV X1 hx hml hown hZ (own_w hw 49 rfl) (own_w hw 50 rfl) (own_w hw 52 rfl) (own_w hw 51 rfl) (own_w hw 5 rfl) (own_w hw 53 rfl) E_so (rmCod1 l Z a0 hw [] so cs h0 n0 O S_CS F_coder_so hcs) 1 [(.int 6)] pd__28_29B (hb hby d8_6) e1 (fun _ T2 L2 X2 hQ2 => ?_)
 obtain ⟨rfl, Nq2, e2⟩ := hQ2
 have N2 := Fr.app N0 Nq2
 refine Go.step (S' := T2.setTop (mkF m 10 #[rv so] [(.int 3)])) (fun t k => ?_) ?_
 · refine XS.ishr X2.here hx rfl (hb hby d8_9) rfl ?_
   exact k
 exact Go.rt X2 hx Bd (w := (.int 3)) rfl (Or.inl ⟨rfl, Or.inl rfl, _, rfl⟩) (hb hby d8_10) e2 ⟨rfl, N2, rfl⟩
abbrev rm_rmII3_1 : Room := ({ frames := 5, cells := 0, slots := 0, locals := 73 } : Room)
def Q_rmII3_1 (Z : State) (so : Addr) (tb : Addr) (kb : ClassId) (x0 : Int32) (x1 : Int32) (x2 : Int32) (cs : Int32) (sf : Value) (h0 : Heap) (n0 : Nat) (v : Option Value) (h : Heap) (L : List Loc) : Prop := ∃ r : Int32, (v = some (.int r)) ∧ (Fr n0 L) ∧ (h = h0) ∧ (r < (0 : Int32) ↔ (¬ (x0 = (0 : Int32)) ∧ ¬ (x1 = (0 : Int32)) ∧ ¬ (x2 = (0 : Int32))))
theorem rmII3_1 (l : Launch) (Z : State) (a0 : Array Value) (hw : HW a0 Z) (ws : List Jvm.Cond) (so : Addr) (tb : Addr) (kb : ClassId) (x0 : Int32) (x1 : Int32) (x2 : Int32) (cs : Int32) (sf : Value) (h0 : Heap) (n0 : Nat) (O : Old Z n0 h0) (S_CS : Sa_0 Z (.int cs)) (E_so : Exa Z h0 so "java/lang/String") (F_value_so : Fd_5 Z h0 so (.ref tb)) (F_coder_so : Fd_6 Z h0 so (.int 1)) (V_tb : Arv Z h0 tb kb .byte (6 : Int32) [(.int (own_lo x0)), (.int (own_hi x0)), (.int (own_lo x1)), (.int (own_hi x1)), (.int (own_lo x2)), (.int (own_hi x2))] (.int 0)) (S_AD : Sa_1 Z (.int 1)) (S_HI : Sa_2 Z (.int 0)) (S_LO : Sa_3 Z (.int 8)) (S_FM : Sa_4 Z sf) (hcs : ¬ (cs = (0 : Int32))) (hsf : sf.isRef = true) (rax0 : ¬ (x0 < (0 : Int32))) (rbx0 : ¬ ((65535 : Int32) < x0)) (rax1 : ¬ (x1 < (0 : Int32))) (rbx1 : ¬ ((65535 : Int32) < x1)) (rax2 : ¬ (x2 < (0 : Int32))) (rbx2 : ¬ ((65535 : Int32) < x2)) :
    Mt l Z y_24 jdk_42_method_80_code 3 (some .int) ws rm_rmII3_1 #[(.ref so), (.int 0), (.int 0)] h0 (Q_rmII3_1 Z so tb kb x0 x1 x2 cs sf h0 n0) := by
 refine own_met "java/lang/String" (plainFor_of_name pn_java_lang_String) #[rv so, iv 0, iv 0] (fun m => rfl) (fun p e s m below meth c s₁ Bd hx hby hml hZ hown hnm X0 e0 => ?_)
 have N0 := Fr.nil n0
 refine Go.step (S' := s₁.setTop (mkF m 1 #[rv so, iv 0, iv 0] [(.ref so)])) (fun t k => ?_) ?_
 · refine XS.aloadN X0.here hx rfl (hb hby d6_0) rfl rfl ?_
   exact k
 refine Go.cV X0 hx hml hown hZ (own_w hw 38 rfl) (own_w hw 39 rfl) (own_w hw 41 rfl) (own_w hw 40 rfl) (own_w hw 5 rfl) (own_w hw 42 rfl) E_so (rmLat1 l Z a0 hw [] so cs h0 n0 O S_CS F_coder_so hcs) 0 [] pd__28_29Z (hb hby d6_1) e0 (fun _ T1 L1 X1 hQ1 => ?_)
 obtain ⟨rfl, Nq1, e1⟩ := hQ1
 have N1 := Fr.app N0 Nq1
 refine Go.step (S' := T1.setTop (mkF m 24 #[rv so, iv 0, iv 0] [(.ref so)])) (fun t k => ?_) ?_
 · refine XS.ifYes X1.here hx rfl (pc0 := 4) (pc' := 23) rfl (hb hby d6_4) rfl ((if0 _ _).trans (teq ((by decide) : (0 : Int32) = (0 : Int32))).1) (by decide) (by decide) ?_
   refine XS.aloadN X1.here hx rfl (hb hby d6_23) rfl rfl ?_
   exact k
 refine Go.gF X1 hx hZ hown (host := "") (Or.inl (own_w hw 22 rfl)) Via.refl e1 F_value_so (hb hby d6_24) (fun T2 X2 e2 => ?_)
 refine Go.step (S' := T2.setTop (mkF m 30 #[rv so, iv 0, iv 0] [(.ref so), (.int 0), (.int 0), (.ref tb)])) (fun t k => ?_) ?_
 · refine XS.iloadN X2.here hx rfl (hb hby d6_27) rfl ?_
   refine XS.iloadN X2.here hx rfl (hb hby d6_28) rfl ?_
   refine XS.aloadN X2.here hx rfl (hb hby d6_29) rfl rfl ?_
   exact k
 refine Go.cV X2 hx hml hown hZ (own_w hw 44 rfl) (own_w hw 45 rfl) (own_w hw 47 rfl) (own_w hw 46 rfl) (own_w hw 5 rfl) (own_w hw 48 rfl) E_so (rmLen3_1 l Z a0 hw [] so tb kb x0 x1 x2 cs h0 n0 O S_CS E_so F_value_so F_coder_so V_tb hcs) 3 [(.int 0), (.int 0), (.ref tb)] pd__28_29I (hb hby d6_30) e2 (fun _ T3 L3 X3 hQ3 => ?_)
 obtain ⟨rfl, Nq3, e3⟩ := hQ3
 have N3 := Fr.app N1 Nq3
 refine Go.cS X3 hx hml hown hZ (own_w hw 100 rfl) (own_w hw 101 rfl) (own_w hw 70 rfl) (own_w hw 102 rfl) (rmIX3 l Z a0 hw [] tb kb sf x0 x1 x2 h0 n0 O S_AD S_HI S_LO V_tb S_FM hsf rax0 rbx0 rax1 rbx1 rax2 rbx2) 0 [] pd__28_5bBIII_29I (hb hby d6_33) e3 (fun _ T4 L4 X4 hQ4 => ?_)
 obtain ⟨r_4, rfl, Nq4, e4, kr_4⟩ := hQ4
 have N4 := Fr.app N3 Nq4
 exact Go.rt X4 hx Bd (w := (.int r_4)) rfl (Or.inl ⟨rfl, Or.inl rfl, _, rfl⟩) (hb hby d6_36) e4 ⟨r_4, rfl, N4, rfl, (by assumption)⟩
abbrev rm_rmI3_1 : Room := ({ frames := 6, cells := 0, slots := 0, locals := 87 } : Room)
def Q_rmI3_1 (Z : State) (so : Addr) (tb : Addr) (kb : ClassId) (x0 : Int32) (x1 : Int32) (x2 : Int32) (cs : Int32) (sf : Value) (h0 : Heap) (n0 : Nat) (v : Option Value) (h : Heap) (L : List Loc) : Prop := ∃ r : Int32, (v = some (.int r)) ∧ (Fr n0 L) ∧ (h = h0) ∧ (r < (0 : Int32) ↔ (¬ (x0 = (0 : Int32)) ∧ ¬ (x1 = (0 : Int32)) ∧ ¬ (x2 = (0 : Int32))))
theorem rmI3_1 (l : Launch) (Z : State) (a0 : Array Value) (hw : HW a0 Z) (ws : List Jvm.Cond) (so : Addr) (tb : Addr) (kb : ClassId) (x0 : Int32) (x1 : Int32) (x2 : Int32) (cs : Int32) (sf : Value) (h0 : Heap) (n0 : Nat) (O : Old Z n0 h0) (S_CS : Sa_0 Z (.int cs)) (E_so : Exa Z h0 so "java/lang/String") (F_value_so : Fd_5 Z h0 so (.ref tb)) (F_coder_so : Fd_6 Z h0 so (.int 1)) (V_tb : Arv Z h0 tb kb .byte (6 : Int32) [(.int (own_lo x0)), (.int (own_hi x0)), (.int (own_lo x1)), (.int (own_hi x1)), (.int (own_lo x2)), (.int (own_hi x2))] (.int 0)) (S_AD : Sa_1 Z (.int 1)) (S_HI : Sa_2 Z (.int 0)) (S_LO : Sa_3 Z (.int 8)) (S_FM : Sa_4 Z sf) (hcs : ¬ (cs = (0 : Int32))) (hsf : sf.isRef = true) (rax0 : ¬ (x0 < (0 : Int32))) (rbx0 : ¬ ((65535 : Int32) < x0)) (rax1 : ¬ (x1 < (0 : Int32))) (rbx1 : ¬ ((65535 : Int32) < x1)) (rax2 : ¬ (x2 < (0 : Int32))) (rbx2 : ¬ ((65535 : Int32) < x2)) :
    Mt l Z y_25 jdk_42_method_79_code 2 (some .int) ws rm_rmI3_1 #[(.ref so), (.int 0)] h0 (Q_rmI3_1 Z so tb kb x0 x1 x2 cs sf h0 n0) := by
 refine own_met "java/lang/String" (plainFor_of_name pn_java_lang_String) #[rv so, iv 0] (fun m => rfl) (fun p e s m below meth c s₁ Bd hx hby hml hZ hown hnm X0 e0 => ?_)
 have N0 := Fr.nil n0
 refine Go.step (S' := s₁.setTop (mkF m 3 #[rv so, iv 0] [(.int 0), (.int 0), (.ref so)])) (fun t k => ?_) ?_
 · refine XS.aloadN X0.here hx rfl (hb hby d5_0) rfl rfl ?_
   refine XS.iloadN X0.here hx rfl (hb hby d5_1) rfl ?_
   refine XS.iconst X0.here hx rfl (hb hby d5_2) ?_
   exact k
 refine Go.cV X0 hx hml hown hZ (own_w hw 33 rfl) (own_w hw 34 rfl) (own_w hw 36 rfl) (own_w hw 35 rfl) (own_w hw 5 rfl) (own_w hw 37 rfl) E_so (rmII3_1 l Z a0 hw [] so tb kb x0 x1 x2 cs sf h0 n0 O S_CS E_so F_value_so F_coder_so V_tb S_AD S_HI S_LO S_FM hcs hsf rax0 rbx0 rax1 rbx1 rax2 rbx2) 0 [] pd__28II_29I (hb hby d5_3) e0 (fun _ T1 L1 X1 hQ1 => ?_)
 obtain ⟨r_1, rfl, Nq1, e1, kr_1⟩ := hQ1
 have N1 := Fr.app N0 Nq1
 exact Go.rt X1 hx Bd (w := (.int r_1)) rfl (Or.inl ⟨rfl, Or.inl rfl, _, rfl⟩) (hb hby d5_6) e1 ⟨r_1, rfl, N1, rfl, (by assumption)⟩
abbrev rm_rmSt3_1 : Room := ({ frames := 7, cells := 0, slots := 0, locals := 100 } : Room)
def Q_rmSt3_1 (Z : State) (so : Addr) (tb : Addr) (kb : ClassId) (x0 : Int32) (x1 : Int32) (x2 : Int32) (cs : Int32) (sf : Value) (h0 : Heap) (n0 : Nat) (v : Option Value) (h : Heap) (L : List Loc) : Prop := ∃ r : Int32, (v = some (.int r)) ∧ (Fr n0 L) ∧ (h = h0) ∧ ((r = (1 : Int32) ∧ (¬ (x0 = (0 : Int32)) ∧ ¬ (x1 = (0 : Int32)) ∧ ¬ (x2 = (0 : Int32)))) ∨ (r = (0 : Int32) ∧ ¬ (¬ (x0 = (0 : Int32)) ∧ ¬ (x1 = (0 : Int32)) ∧ ¬ (x2 = (0 : Int32)))))
theorem rmSt3_1 (l : Launch) (Z : State) (a0 : Array Value) (hw : HW a0 Z) (ws : List Jvm.Cond) (so : Addr) (tb : Addr) (kb : ClassId) (x0 : Int32) (x1 : Int32) (x2 : Int32) (cs : Int32) (sf : Value) (h0 : Heap) (n0 : Nat) (O : Old Z n0 h0) (S_CS : Sa_0 Z (.int cs)) (E_so : Exa Z h0 so "java/lang/String") (F_value_so : Fd_5 Z h0 so (.ref tb)) (F_coder_so : Fd_6 Z h0 so (.int 1)) (V_tb : Arv Z h0 tb kb .byte (6 : Int32) [(.int (own_lo x0)), (.int (own_hi x0)), (.int (own_lo x1)), (.int (own_hi x1)), (.int (own_lo x2)), (.int (own_hi x2))] (.int 0)) (S_AD : Sa_1 Z (.int 1)) (S_HI : Sa_2 Z (.int 0)) (S_LO : Sa_3 Z (.int 8)) (S_FM : Sa_4 Z sf) (hcs : ¬ (cs = (0 : Int32))) (hsf : sf.isRef = true) (rax0 : ¬ (x0 < (0 : Int32))) (rbx0 : ¬ ((65535 : Int32) < x0)) (rax1 : ¬ (x1 < (0 : Int32))) (rbx1 : ¬ ((65535 : Int32) < x1)) (rax2 : ¬ (x2 < (0 : Int32))) (rbx2 : ¬ ((65535 : Int32) < x2)) :
    Mt l Z y_26 prog_32_method_6_code 1 (some .boolean) ws rm_rmSt3_1 #[(.ref so)] h0 (Q_rmSt3_1 Z so tb kb x0 x1 x2 cs sf h0 n0) := by
 refine own_met "com/example/loomlist/loomlist/core/Naming" (plainFor_of_name pn_com_example_loomlist_loomlist_core_Naming) #[rv so] (fun m => rfl) (fun p e s m below meth c s₁ Bd hx hby hml hZ hown hnm X0 e0 => ?_)
 have N0 := Fr.nil n0
 refine Go.step (S' := s₁.setTop (mkF m 2 #[rv so] [(.int 0), (.ref so)])) (fun t k => ?_) ?_
 · refine XS.aloadN X0.here hx rfl (hb hby d4_0) rfl rfl ?_
   refine XS.iconst X0.here hx rfl (hb hby d4_1) ?_
   exact k
 refine Go.cV X0 hx hml hown hZ (own_w hw 28 rfl) (own_w hw 29 rfl) (own_w hw 31 rfl) (own_w hw 30 rfl) (own_w hw 5 rfl) (own_w hw 32 rfl) E_so (rmI3_1 l Z a0 hw [] so tb kb x0 x1 x2 cs sf h0 n0 O S_CS E_so F_value_so F_coder_so V_tb S_AD S_HI S_LO S_FM hcs hsf rax0 rbx0 rax1 rbx1 rax2 rbx2) 0 [] pd__28I_29I (hb hby d4_2) e0 (fun _ T1 L1 X1 hQ1 => ?_)
 obtain ⟨r_1, rfl, Nq1, e1, kr_1⟩ := hQ1
 have N1 := Fr.app N0 Nq1
 by_cases hc5 : r_1 < (0 : Int32)
 ·skip
  refine Go.step (S' := T1.setTop (mkF m 13 #[rv so] [(.int 1)])) (fun t k => ?_) ?_
  · refine XS.ifNo X1.here hx rfl (hb hby d4_5) rfl ((if0 _ _).trans (tlt (hc5 : r_1 < (0 : Int32))).2.1) ?_
    refine XS.iconst X1.here hx rfl (hb hby d4_8) ?_
    refine XS.goto X1.here hx rfl (pc0 := 9) (pc' := 13) rfl (hb hby d4_9) (by decide) (by decide) ?_
    exact k
  exact Go.rt X1 hx Bd (w := (.int 1)) (by decide) (Or.inl ⟨rfl, Or.inr (Or.inl rfl), _, rfl⟩) (hb hby d4_13) e1 ⟨(1 : Int32), rfl, N1, rfl, (Or.inl ⟨rfl, kr_1.mp hc5⟩)⟩
 ·skip
  refine Go.step (S' := T1.setTop (mkF m 13 #[rv so] [(.int 0)])) (fun t k => ?_) ?_
  · refine XS.ifYes X1.here hx rfl (pc0 := 5) (pc' := 12) rfl (hb hby d4_5) rfl ((if0 _ _).trans (flt (hc5 : ¬ (r_1 < (0 : Int32)))).2.1) (by decide) (by decide) ?_
    refine XS.iconst X1.here hx rfl (hb hby d4_12) ?_
    exact k
  exact Go.rt X1 hx Bd (w := (.int 0)) (by decide) (Or.inl ⟨rfl, Or.inr (Or.inl rfl), _, rfl⟩) (hb hby d4_13) e1 ⟨(0 : Int32), rfl, N1, rfl, (Or.inr ⟨rfl, fun q => hc5 (kr_1.mpr q)⟩)⟩
abbrev rm_rmLI4 : Room := ({ frames := 0, cells := 0, slots := 0, locals := 0 } : Room)
def Q_rmLI4 (Z : State) (tb : Addr) (kb : ClassId) (x0 : Int32) (x1 : Int32) (x2 : Int32) (x3 : Int32) (h0 : Heap) (n0 : Nat) (v : Option Value) (h : Heap) (L : List Loc) : Prop := ∃ r : Int32, (v = some (.int r)) ∧ (Fr n0 L) ∧ (h = h0) ∧ (r < (0 : Int32) ↔ (¬ ((x0.toInt8.toInt32) = (0 : Int32)) ∧ ¬ ((x1.toInt8.toInt32) = (0 : Int32)) ∧ ¬ ((x2.toInt8.toInt32) = (0 : Int32)) ∧ ¬ ((x3.toInt8.toInt32) = (0 : Int32))))
theorem rmLI4 (l : Launch) (Z : State) (a0 : Array Value) (hw : HW a0 Z) (ws : List Jvm.Cond) (tb : Addr) (kb : ClassId) (x0 : Int32) (x1 : Int32) (x2 : Int32) (x3 : Int32) (h0 : Heap) (n0 : Nat) (O : Old Z n0 h0) (V_tb : Arv Z h0 tb kb .byte (4 : Int32) [(.int (x0.toInt8.toInt32)), (.int (x1.toInt8.toInt32)), (.int (x2.toInt8.toInt32)), (.int (x3.toInt8.toInt32))] (.int 0)) :
    Mt l Z y_27 jdk_43_method_23_code 6 (some .int) ws rm_rmLI4 #[(.ref tb), (.int 0), (.int 0), (.int 4)] h0 (Q_rmLI4 Z tb kb x0 x1 x2 x3 h0 n0) := by
 refine own_met "java/lang/StringLatin1" (plainFor_of_name pn_java_lang_StringLatin1) #[rv tb, iv 0, iv 0, iv 4, u_, u_] (fun m => rfl) (fun p e s m below meth c s₁ Bd hx hby hml hZ hown hnm X0 e0 => ?_)
 have N0 := Fr.nil n0
 refine Go.step (S' := s₁.setTop (mkF m 16 #[rv tb, iv 0, iv 0, iv 4, iv 0, iv 0] [(.int 0), (.ref tb)])) (fun t k => ?_) ?_
 · refine XS.iloadN X0.here hx rfl (hb hby d17_0) rfl ?_
   refine XS.i2b X0.here hx rfl (hb hby d17_1) rfl ?_
   refine XS.istore X0.here hx rfl (hb hby d17_2) rfl (l' := #[rv tb, iv 0, iv 0, iv 4, iv 0, u_]) rfl ?_
   refine XS.iloadN X0.here hx rfl (hb hby d17_4) rfl ?_
   refine XS.istore X0.here hx rfl (hb hby d17_5) rfl (l' := #[rv tb, iv 0, iv 0, iv 4, iv 0, iv 0]) rfl ?_
   refine XS.iload X0.here hx rfl (hb hby d17_7) rfl ?_
   show Steps p.tables e below (s₁.setTop (mkF m 9 #[rv tb, iv 0, iv 0, iv 4, iv 0, iv 0] [(.int 0)])) _
   refine XS.iloadN X0.here hx rfl (hb hby d17_9) rfl ?_
   refine XS.icmpNo X0.here hx rfl (hb hby d17_10) rfl (tlt ((by decide) : (0 : Int32) < (4 : Int32))).2.1 ?_
   refine XS.aloadN X0.here hx rfl (hb hby d17_13) rfl rfl ?_
   refine XS.iload X0.here hx rfl (hb hby d17_14) rfl ?_
   exact k
 refine Go.bal X0 hx hZ e0 V_tb (hb hby d17_16) (v := (.int (x0.toInt8.toInt32))) rfl ?_
 refine Go.step (S' := s₁.setTop (mkF m 19 #[rv tb, iv 0, iv 0, iv 4, iv 0, iv 0] [(.int 0), (.int (x0.toInt8.toInt32))])) (fun t k => ?_) ?_
 · refine XS.iload X0.here hx rfl (hb hby d17_17) rfl ?_
   exact k
 by_cases hc19 : (x0.toInt8.toInt32) = (0 : Int32)
 ·skip
  refine Go.step (S' := s₁.setTop (mkF m 24 #[rv tb, iv 0, iv 0, iv 4, iv 0, iv 0] [(.int 0)])) (fun t k => ?_) ?_
  · refine XS.icmpNo X0.here hx rfl (hb hby d17_19) rfl (teq (hc19 : (x0.toInt8.toInt32) = (0 : Int32))).2 ?_
    refine XS.iload X0.here hx rfl (hb hby d17_22) rfl ?_
    exact k
  exact Go.rt X0 hx Bd (w := (.int 0)) rfl (Or.inl ⟨rfl, Or.inl rfl, _, rfl⟩) (hb hby d17_24) e0 ⟨(0 : Int32), rfl, N0, rfl, ⟨fun q => absurd q (by decide), fun q => absurd hc19 q.1⟩⟩
 ·skip
  refine Go.step (S' := s₁.setTop (mkF m 16 #[rv tb, iv 0, iv 0, iv 4, iv 0, iv 1] [(.int 1), (.ref tb)])) (fun t k => ?_) ?_
  · refine XS.icmpYes X0.here hx rfl (pc0 := 19) (pc' := 25) rfl (hb hby d17_19) rfl (feq (hc19 : ¬ ((x0.toInt8.toInt32) = (0 : Int32)))).2 (by decide) (by decide) ?_
    refine XS.iinc X0.here hx rfl (hb hby d17_25) rfl (l' := #[rv tb, iv 0, iv 0, iv 4, iv 0, iv 1]) rfl ?_
    refine XS.goto X0.here hx rfl (pc0 := 28) (pc' := 7) rfl (hb hby d17_28) (by decide) (by decide) ?_
    refine XS.iload X0.here hx rfl (hb hby d17_7) rfl ?_
    refine XS.iloadN X0.here hx rfl (hb hby d17_9) rfl ?_
    refine XS.icmpNo X0.here hx rfl (hb hby d17_10) rfl (tlt ((by decide) : (1 : Int32) < (4 : Int32))).2.1 ?_
    show Steps p.tables e below (s₁.setTop (mkF m 13 #[rv tb, iv 0, iv 0, iv 4, iv 0, iv 1] [])) _
    refine XS.aloadN X0.here hx rfl (hb hby d17_13) rfl rfl ?_
    refine XS.iload X0.here hx rfl (hb hby d17_14) rfl ?_
    exact k
  refine Go.bal X0 hx hZ e0 V_tb (hb hby d17_16) (v := (.int (x1.toInt8.toInt32))) rfl ?_
  refine Go.step (S' := s₁.setTop (mkF m 19 #[rv tb, iv 0, iv 0, iv 4, iv 0, iv 1] [(.int 0), (.int (x1.toInt8.toInt32))])) (fun t k => ?_) ?_
  · refine XS.iload X0.here hx rfl (hb hby d17_17) rfl ?_
    exact k
  by_cases hc19_1 : (x1.toInt8.toInt32) = (0 : Int32)
  ·skip
   refine Go.step (S' := s₁.setTop (mkF m 24 #[rv tb, iv 0, iv 0, iv 4, iv 0, iv 1] [(.int 1)])) (fun t k => ?_) ?_
   · refine XS.icmpNo X0.here hx rfl (hb hby d17_19) rfl (teq (hc19_1 : (x1.toInt8.toInt32) = (0 : Int32))).2 ?_
     refine XS.iload X0.here hx rfl (hb hby d17_22) rfl ?_
     exact k
   exact Go.rt X0 hx Bd (w := (.int 1)) rfl (Or.inl ⟨rfl, Or.inl rfl, _, rfl⟩) (hb hby d17_24) e0 ⟨(1 : Int32), rfl, N0, rfl, ⟨fun q => absurd q (by decide), fun q => absurd hc19_1 q.2.1⟩⟩
  ·skip
   refine Go.step (S' := s₁.setTop (mkF m 16 #[rv tb, iv 0, iv 0, iv 4, iv 0, iv 2] [(.int 2), (.ref tb)])) (fun t k => ?_) ?_
   · refine XS.icmpYes X0.here hx rfl (pc0 := 19) (pc' := 25) rfl (hb hby d17_19) rfl (feq (hc19_1 : ¬ ((x1.toInt8.toInt32) = (0 : Int32)))).2 (by decide) (by decide) ?_
     refine XS.iinc X0.here hx rfl (hb hby d17_25) rfl (l' := #[rv tb, iv 0, iv 0, iv 4, iv 0, iv 2]) rfl ?_
     refine XS.goto X0.here hx rfl (pc0 := 28) (pc' := 7) rfl (hb hby d17_28) (by decide) (by decide) ?_
     refine XS.iload X0.here hx rfl (hb hby d17_7) rfl ?_
     refine XS.iloadN X0.here hx rfl (hb hby d17_9) rfl ?_
     refine XS.icmpNo X0.here hx rfl (hb hby d17_10) rfl (tlt ((by decide) : (2 : Int32) < (4 : Int32))).2.1 ?_
     show Steps p.tables e below (s₁.setTop (mkF m 13 #[rv tb, iv 0, iv 0, iv 4, iv 0, iv 2] [])) _
     refine XS.aloadN X0.here hx rfl (hb hby d17_13) rfl rfl ?_
     refine XS.iload X0.here hx rfl (hb hby d17_14) rfl ?_
     exact k
   refine Go.bal X0 hx hZ e0 V_tb (hb hby d17_16) (v := (.int (x2.toInt8.toInt32))) rfl ?_
   refine Go.step (S' := s₁.setTop (mkF m 19 #[rv tb, iv 0, iv 0, iv 4, iv 0, iv 2] [(.int 0), (.int (x2.toInt8.toInt32))])) (fun t k => ?_) ?_
   · refine XS.iload X0.here hx rfl (hb hby d17_17) rfl ?_
     exact k
   by_cases hc19_2 : (x2.toInt8.toInt32) = (0 : Int32)
   ·skip
    refine Go.step (S' := s₁.setTop (mkF m 24 #[rv tb, iv 0, iv 0, iv 4, iv 0, iv 2] [(.int 2)])) (fun t k => ?_) ?_
    · refine XS.icmpNo X0.here hx rfl (hb hby d17_19) rfl (teq (hc19_2 : (x2.toInt8.toInt32) = (0 : Int32))).2 ?_
      refine XS.iload X0.here hx rfl (hb hby d17_22) rfl ?_
      exact k
    exact Go.rt X0 hx Bd (w := (.int 2)) rfl (Or.inl ⟨rfl, Or.inl rfl, _, rfl⟩) (hb hby d17_24) e0 ⟨(2 : Int32), rfl, N0, rfl, ⟨fun q => absurd q (by decide), fun q => absurd hc19_2 q.2.2.1⟩⟩
   ·skip
    refine Go.step (S' := s₁.setTop (mkF m 16 #[rv tb, iv 0, iv 0, iv 4, iv 0, iv 3] [(.int 3), (.ref tb)])) (fun t k => ?_) ?_
    · refine XS.icmpYes X0.here hx rfl (pc0 := 19) (pc' := 25) rfl (hb hby d17_19) rfl (feq (hc19_2 : ¬ ((x2.toInt8.toInt32) = (0 : Int32)))).2 (by decide) (by decide) ?_
      refine XS.iinc X0.here hx rfl (hb hby d17_25) rfl (l' := #[rv tb, iv 0, iv 0, iv 4, iv 0, iv 3]) rfl ?_
      refine XS.goto X0.here hx rfl (pc0 := 28) (pc' := 7) rfl (hb hby d17_28) (by decide) (by decide) ?_
      refine XS.iload X0.here hx rfl (hb hby d17_7) rfl ?_
      refine XS.iloadN X0.here hx rfl (hb hby d17_9) rfl ?_
      refine XS.icmpNo X0.here hx rfl (hb hby d17_10) rfl (tlt ((by decide) : (3 : Int32) < (4 : Int32))).2.1 ?_
      show Steps p.tables e below (s₁.setTop (mkF m 13 #[rv tb, iv 0, iv 0, iv 4, iv 0, iv 3] [])) _
      refine XS.aloadN X0.here hx rfl (hb hby d17_13) rfl rfl ?_
      refine XS.iload X0.here hx rfl (hb hby d17_14) rfl ?_
      exact k
    refine Go.bal X0 hx hZ e0 V_tb (hb hby d17_16) (v := (.int (x3.toInt8.toInt32))) rfl ?_
    refine Go.step (S' := s₁.setTop (mkF m 19 #[rv tb, iv 0, iv 0, iv 4, iv 0, iv 3] [(.int 0), (.int (x3.toInt8.toInt32))])) (fun t k => ?_) ?_
    · refine XS.iload X0.here hx rfl (hb hby d17_17) rfl ?_
      exact k
    by_cases hc19_3 : (x3.toInt8.toInt32) = (0 : Int32)
    ·skip
     refine Go.step (S' := s₁.setTop (mkF m 24 #[rv tb, iv 0, iv 0, iv 4, iv 0, iv 3] [(.int 3)])) (fun t k => ?_) ?_
     · refine XS.icmpNo X0.here hx rfl (hb hby d17_19) rfl (teq (hc19_3 : (x3.toInt8.toInt32) = (0 : Int32))).2 ?_
       refine XS.iload X0.here hx rfl (hb hby d17_22) rfl ?_
       exact k
     exact Go.rt X0 hx Bd (w := (.int 3)) rfl (Or.inl ⟨rfl, Or.inl rfl, _, rfl⟩) (hb hby d17_24) e0 ⟨(3 : Int32), rfl, N0, rfl, ⟨fun q => absurd q (by decide), fun q => absurd hc19_3 q.2.2.2⟩⟩
    ·skip
     refine Go.step (S' := s₁.setTop (mkF m 32 #[rv tb, iv 0, iv 0, iv 4, iv 0, iv 4] [(.int (-1))])) (fun t k => ?_) ?_
     · refine XS.icmpYes X0.here hx rfl (pc0 := 19) (pc' := 25) rfl (hb hby d17_19) rfl (feq (hc19_3 : ¬ ((x3.toInt8.toInt32) = (0 : Int32)))).2 (by decide) (by decide) ?_
       refine XS.iinc X0.here hx rfl (hb hby d17_25) rfl (l' := #[rv tb, iv 0, iv 0, iv 4, iv 0, iv 4]) rfl ?_
       refine XS.goto X0.here hx rfl (pc0 := 28) (pc' := 7) rfl (hb hby d17_28) (by decide) (by decide) ?_
       refine XS.iload X0.here hx rfl (hb hby d17_7) rfl ?_
       refine XS.iloadN X0.here hx rfl (hb hby d17_9) rfl ?_
       refine XS.icmpYes X0.here hx rfl (pc0 := 10) (pc' := 31) rfl (hb hby d17_10) rfl (flt ((by decide) : ¬ ((4 : Int32) < (4 : Int32)))).2.1 (by decide) (by decide) ?_
       show Steps p.tables e below (s₁.setTop (mkF m 31 #[rv tb, iv 0, iv 0, iv 4, iv 0, iv 4] [])) _
       refine XS.iconst X0.here hx rfl (hb hby d17_31) ?_
       exact k
     exact Go.rt X0 hx Bd (w := (.int (-1))) rfl (Or.inl ⟨rfl, Or.inl rfl, _, rfl⟩) (hb hby d17_32) e0 ⟨(-1 : Int32), rfl, N0, rfl, ⟨fun _ => ⟨hc19, hc19_1, hc19_2, hc19_3⟩, fun _ => by decide⟩⟩
abbrev rm_rmLX4 : Room := ({ frames := 1, cells := 0, slots := 0, locals := 17 } : Room)
def Q_rmLX4 (Z : State) (tb : Addr) (kb : ClassId) (x0 : Int32) (x1 : Int32) (x2 : Int32) (x3 : Int32) (h0 : Heap) (n0 : Nat) (v : Option Value) (h : Heap) (L : List Loc) : Prop := ∃ r : Int32, (v = some (.int r)) ∧ (Fr n0 L) ∧ (h = h0) ∧ (r < (0 : Int32) ↔ (¬ ((x0.toInt8.toInt32) = (0 : Int32)) ∧ ¬ ((x1.toInt8.toInt32) = (0 : Int32)) ∧ ¬ ((x2.toInt8.toInt32) = (0 : Int32)) ∧ ¬ ((x3.toInt8.toInt32) = (0 : Int32))))
theorem rmLX4 (l : Launch) (Z : State) (a0 : Array Value) (hw : HW a0 Z) (ws : List Jvm.Cond) (tb : Addr) (kb : ClassId) (x0 : Int32) (x1 : Int32) (x2 : Int32) (x3 : Int32) (h0 : Heap) (n0 : Nat) (O : Old Z n0 h0) (V_tb : Arv Z h0 tb kb .byte (4 : Int32) [(.int (x0.toInt8.toInt32)), (.int (x1.toInt8.toInt32)), (.int (x2.toInt8.toInt32)), (.int (x3.toInt8.toInt32))] (.int 0)) :
    Mt l Z y_22 jdk_43_method_22_code 4 (some .int) ws rm_rmLX4 #[(.ref tb), (.int 0), (.int 0), (.int 4)] h0 (Q_rmLX4 Z tb kb x0 x1 x2 x3 h0 n0) := by
 refine own_met "java/lang/StringLatin1" (plainFor_of_name pn_java_lang_StringLatin1) #[rv tb, iv 0, iv 0, iv 4] (fun m => rfl) (fun p e s m below meth c s₁ Bd hx hby hml hZ hown hnm X0 e0 => ?_)
 have N0 := Fr.nil n0
 refine Go.step (S' := s₁.setTop (mkF m 1 #[rv tb, iv 0, iv 0, iv 4] [(.int 0)])) (fun t k => ?_) ?_
 · refine XS.iloadN X0.here hx rfl (hb hby d10_0) rfl ?_
   exact k
 refine Go.cS X0 hx hml hown hZ (own_w hw 58 rfl) (own_w hw 59 rfl) (own_w hw 56 rfl) (own_w hw 60 rfl) (rmCan l Z a0 hw []  h0 n0 O ) 0 [] pd__28I_29Z (hb hby d10_1) e0 (fun _ T1 L1 X1 hQ1 => ?_)
 obtain ⟨rfl, Nq1, e1⟩ := hQ1
 have N1 := Fr.app N0 Nq1
 refine Go.step (S' := T1.setTop (mkF m 11 #[rv tb, iv 0, iv 0, iv 4] [(.int 0), (.int 0)])) (fun t k => ?_) ?_
 · refine XS.ifYes X1.here hx rfl (pc0 := 4) (pc' := 9) rfl (hb hby d10_4) rfl ((if0 _ _).trans (feq ((by decide) : ¬ ((1 : Int32) = (0 : Int32)))).2) (by decide) (by decide) ?_
   refine XS.iloadN X1.here hx rfl (hb hby d10_9) rfl ?_
   refine XS.iconst X1.here hx rfl (hb hby d10_10) ?_
   exact k
 refine Go.cS X1 hx hml hown hZ (own_w hw 61 rfl) (own_w hw 62 rfl) (own_w hw 63 rfl) (own_w hw 64 rfl) (rmMxA l Z a0 hw [] (0 : Int32) (0 : Int32) h0 n0 O (by decide)) 0 [] pd__28II_29I (hb hby d10_11) e1 (fun _ T2 L2 X2 hQ2 => ?_)
 obtain ⟨rfl, Nq2, e2⟩ := hQ2
 have N2 := Fr.app N1 Nq2
 refine Go.step (S' := T2.setTop (mkF m 17 #[rv tb, iv 0, iv 0, iv 4] [(.ref tb), (.int 4)])) (fun t k => ?_) ?_
 · refine XS.istoreN X2.here hx rfl (hb hby d10_14) rfl (l' := #[rv tb, iv 0, iv 0, iv 4]) rfl ?_
   refine XS.iloadN X2.here hx rfl (hb hby d10_15) rfl ?_
   refine XS.aloadN X2.here hx rfl (hb hby d10_16) rfl rfl ?_
   exact k
 refine Go.len X2 hx hZ e2 V_tb (hb hby d10_17) ?_
 refine Go.cS X2 hx hml hown hZ (own_w hw 65 rfl) (own_w hw 66 rfl) (own_w hw 63 rfl) (own_w hw 67 rfl) (rmMnA l Z a0 hw [] (4 : Int32) (4 : Int32) h0 n0 O (by decide)) 0 [] pd__28II_29I (hb hby d10_18) e2 (fun _ T3 L3 X3 hQ3 => ?_)
 obtain ⟨rfl, Nq3, e3⟩ := hQ3
 have N3 := Fr.app N2 Nq3
 refine Go.step (S' := T3.setTop (mkF m 33 #[rv tb, iv 0, iv 0, iv 4] [(.int 4), (.int 0), (.int 0), (.ref tb)])) (fun t k => ?_) ?_
 · refine XS.istoreN X3.here hx rfl (hb hby d10_21) rfl (l' := #[rv tb, iv 0, iv 0, iv 4]) rfl ?_
   refine XS.iloadN X3.here hx rfl (hb hby d10_22) rfl ?_
   refine XS.iloadN X3.here hx rfl (hb hby d10_23) rfl ?_
   refine XS.icmpYes X3.here hx rfl (pc0 := 24) (pc' := 29) rfl (hb hby d10_24) rfl (tlt ((by decide) : (0 : Int32) < (4 : Int32))).1 (by decide) (by decide) ?_
   refine XS.aloadN X3.here hx rfl (hb hby d10_29) rfl rfl ?_
   refine XS.iloadN X3.here hx rfl (hb hby d10_30) rfl ?_
   show Steps p.tables e below (T3.setTop (mkF m 31 #[rv tb, iv 0, iv 0, iv 4] [(.int 0), (.ref tb)])) _
   refine XS.iloadN X3.here hx rfl (hb hby d10_31) rfl ?_
   refine XS.iloadN X3.here hx rfl (hb hby d10_32) rfl ?_
   exact k
 refine Go.cS X3 hx hml hown hZ (own_w hw 78 rfl) (own_w hw 79 rfl) (own_w hw 56 rfl) (own_w hw 80 rfl) (rmLI4 l Z a0 hw [] tb kb x0 x1 x2 x3 h0 n0 O V_tb) 0 [] pd__28_5bBIII_29I (hb hby d10_33) e3 (fun _ T4 L4 X4 hQ4 => ?_)
 obtain ⟨r_4, rfl, Nq4, e4, kr_4⟩ := hQ4
 have N4 := Fr.app N3 Nq4
 exact Go.rt X4 hx Bd (w := (.int r_4)) rfl (Or.inl ⟨rfl, Or.inl rfl, _, rfl⟩) (hb hby d10_36) e4 ⟨r_4, rfl, N4, rfl, (by assumption)⟩
abbrev rm_rmLen4_0 : Room := ({ frames := 1, cells := 0, slots := 0, locals := 13 } : Room)
def Q_rmLen4_0 (Z : State) (so : Addr) (tb : Addr) (kb : ClassId) (x0 : Int32) (x1 : Int32) (x2 : Int32) (x3 : Int32) (cs : Int32) (h0 : Heap) (n0 : Nat) (v : Option Value) (h : Heap) (L : List Loc) : Prop := (v = some (.int 4)) ∧ (Fr n0 L) ∧ (h = h0)
theorem rmLen4_0 (l : Launch) (Z : State) (a0 : Array Value) (hw : HW a0 Z) (ws : List Jvm.Cond) (so : Addr) (tb : Addr) (kb : ClassId) (x0 : Int32) (x1 : Int32) (x2 : Int32) (x3 : Int32) (cs : Int32) (h0 : Heap) (n0 : Nat) (O : Old Z n0 h0) (S_CS : Sa_0 Z (.int cs)) (E_so : Exa Z h0 so "java/lang/String") (F_value_so : Fd_5 Z h0 so (.ref tb)) (F_coder_so : Fd_6 Z h0 so (.int 0)) (V_tb : Arv Z h0 tb kb .byte (4 : Int32) [(.int (x0.toInt8.toInt32)), (.int (x1.toInt8.toInt32)), (.int (x2.toInt8.toInt32)), (.int (x3.toInt8.toInt32))] (.int 0)) (hcs : ¬ (cs = (0 : Int32))) :
    Mt l Z y_23 jdk_42_method_54_code 1 (some .int) ws rm_rmLen4_0 #[(.ref so)] h0 (Q_rmLen4_0 Z so tb kb x0 x1 x2 x3 cs h0 n0) := by
 refine own_met "java/lang/String" (plainFor_of_name pn_java_lang_String) #[rv so] (fun m => rfl) (fun p e s m below meth c s₁ Bd hx hby hml hZ hown hnm X0 e0 => ?_)
 have N0 := Fr.nil n0
 refine Go.step (S' := s₁.setTop (mkF m 1 #[rv so] [(.ref so)])) (fun t k => ?_) ?_
 · refine XS.aloadN X0.here hx rfl (hb hby d8_0) rfl rfl ?_
   exact k
 refine Go.gF X0 hx hZ hown (host := "") (Or.inl (own_w hw 22 rfl)) Via.refl e0 F_value_so (hb hby d8_1) (fun T1 X1 e1 => ?_)
 refine Go.len X1 hx hZ e1 V_tb (hb hby d8_4) ?_
 refine Go.step (S' := T1.setTop (mkF m 6 #[rv so] [(.ref so), (.int 4)])) (fun t k => ?_) ?_
 · refine XS.aloadN X1.here hx rfl (hb hby d8_5) rfl rfl ?_
   exact k
 refine Go.cV X1 hx hml hown hZ (own_w hw 49 rfl) (own_w hw 50 rfl) (own_w hw 52 rfl) (own_w hw 51 rfl) (own_w hw 5 rfl) (own_w hw 53 rfl) E_so (rmCod0 l Z a0 hw [] so cs h0 n0 O S_CS F_coder_so hcs) 1 [(.int 4)] pd__28_29B (hb hby d8_6) e1 (fun _ T2 L2 X2 hQ2 => ?_)
 obtain ⟨rfl, Nq2, e2⟩ := hQ2
 have N2 := Fr.app N0 Nq2
 refine Go.step (S' := T2.setTop (mkF m 10 #[rv so] [(.int 4)])) (fun t k => ?_) ?_
 · refine XS.ishr X2.here hx rfl (hb hby d8_9) rfl ?_
   exact k
 exact Go.rt X2 hx Bd (w := (.int 4)) rfl (Or.inl ⟨rfl, Or.inl rfl, _, rfl⟩) (hb hby d8_10) e2 ⟨rfl, N2, rfl⟩
abbrev rm_rmII4_0 : Room := ({ frames := 2, cells := 0, slots := 0, locals := 32 } : Room)
def Q_rmII4_0 (Z : State) (so : Addr) (tb : Addr) (kb : ClassId) (x0 : Int32) (x1 : Int32) (x2 : Int32) (x3 : Int32) (cs : Int32) (h0 : Heap) (n0 : Nat) (v : Option Value) (h : Heap) (L : List Loc) : Prop := ∃ r : Int32, (v = some (.int r)) ∧ (Fr n0 L) ∧ (h = h0) ∧ (r < (0 : Int32) ↔ (¬ ((x0.toInt8.toInt32) = (0 : Int32)) ∧ ¬ ((x1.toInt8.toInt32) = (0 : Int32)) ∧ ¬ ((x2.toInt8.toInt32) = (0 : Int32)) ∧ ¬ ((x3.toInt8.toInt32) = (0 : Int32))))
theorem rmII4_0 (l : Launch) (Z : State) (a0 : Array Value) (hw : HW a0 Z) (ws : List Jvm.Cond) (so : Addr) (tb : Addr) (kb : ClassId) (x0 : Int32) (x1 : Int32) (x2 : Int32) (x3 : Int32) (cs : Int32) (h0 : Heap) (n0 : Nat) (O : Old Z n0 h0) (S_CS : Sa_0 Z (.int cs)) (E_so : Exa Z h0 so "java/lang/String") (F_value_so : Fd_5 Z h0 so (.ref tb)) (F_coder_so : Fd_6 Z h0 so (.int 0)) (V_tb : Arv Z h0 tb kb .byte (4 : Int32) [(.int (x0.toInt8.toInt32)), (.int (x1.toInt8.toInt32)), (.int (x2.toInt8.toInt32)), (.int (x3.toInt8.toInt32))] (.int 0)) (hcs : ¬ (cs = (0 : Int32))) :
    Mt l Z y_24 jdk_42_method_80_code 3 (some .int) ws rm_rmII4_0 #[(.ref so), (.int 0), (.int 0)] h0 (Q_rmII4_0 Z so tb kb x0 x1 x2 x3 cs h0 n0) := by
 refine own_met "java/lang/String" (plainFor_of_name pn_java_lang_String) #[rv so, iv 0, iv 0] (fun m => rfl) (fun p e s m below meth c s₁ Bd hx hby hml hZ hown hnm X0 e0 => ?_)
 have N0 := Fr.nil n0
 refine Go.step (S' := s₁.setTop (mkF m 1 #[rv so, iv 0, iv 0] [(.ref so)])) (fun t k => ?_) ?_
 · refine XS.aloadN X0.here hx rfl (hb hby d6_0) rfl rfl ?_
   exact k
 refine Go.cV X0 hx hml hown hZ (own_w hw 38 rfl) (own_w hw 39 rfl) (own_w hw 41 rfl) (own_w hw 40 rfl) (own_w hw 5 rfl) (own_w hw 42 rfl) E_so (rmLat0 l Z a0 hw [] so cs h0 n0 O S_CS F_coder_so hcs) 0 [] pd__28_29Z (hb hby d6_1) e0 (fun _ T1 L1 X1 hQ1 => ?_)
 obtain ⟨rfl, Nq1, e1⟩ := hQ1
 have N1 := Fr.app N0 Nq1
 refine Go.step (S' := T1.setTop (mkF m 8 #[rv so, iv 0, iv 0] [(.ref so)])) (fun t k => ?_) ?_
 · refine XS.ifNo X1.here hx rfl (hb hby d6_4) rfl ((if0 _ _).trans (feq ((by decide) : ¬ ((1 : Int32) = (0 : Int32)))).1) ?_
   refine XS.aloadN X1.here hx rfl (hb hby d6_7) rfl rfl ?_
   exact k
 refine Go.gF X1 hx hZ hown (host := "") (Or.inl (own_w hw 22 rfl)) Via.refl e1 F_value_so (hb hby d6_8) (fun T2 X2 e2 => ?_)
 refine Go.step (S' := T2.setTop (mkF m 14 #[rv so, iv 0, iv 0] [(.ref so), (.int 0), (.int 0), (.ref tb)])) (fun t k => ?_) ?_
 · refine XS.iloadN X2.here hx rfl (hb hby d6_11) rfl ?_
   refine XS.iloadN X2.here hx rfl (hb hby d6_12) rfl ?_
   refine XS.aloadN X2.here hx rfl (hb hby d6_13) rfl rfl ?_
   exact k
 refine Go.cV X2 hx hml hown hZ (own_w hw 44 rfl) (own_w hw 45 rfl) (own_w hw 47 rfl) (own_w hw 46 rfl) (own_w hw 5 rfl) (own_w hw 48 rfl) E_so (rmLen4_0 l Z a0 hw [] so tb kb x0 x1 x2 x3 cs h0 n0 O S_CS E_so F_value_so F_coder_so V_tb hcs) 3 [(.int 0), (.int 0), (.ref tb)] pd__28_29I (hb hby d6_14) e2 (fun _ T3 L3 X3 hQ3 => ?_)
 obtain ⟨rfl, Nq3, e3⟩ := hQ3
 have N3 := Fr.app N1 Nq3
 refine Go.cS X3 hx hml hown hZ (own_w hw 54 rfl) (own_w hw 55 rfl) (own_w hw 56 rfl) (own_w hw 57 rfl) (rmLX4 l Z a0 hw [] tb kb x0 x1 x2 x3 h0 n0 O V_tb) 0 [] pd__28_5bBIII_29I (hb hby d6_17) e3 (fun _ T4 L4 X4 hQ4 => ?_)
 obtain ⟨r_4, rfl, Nq4, e4, kr_4⟩ := hQ4
 have N4 := Fr.app N3 Nq4
 refine Go.step (S' := T4.setTop (mkF m 36 #[rv so, iv 0, iv 0] [(.int r_4)])) (fun t k => ?_) ?_
 · refine XS.goto X4.here hx rfl (pc0 := 20) (pc' := 36) rfl (hb hby d6_20) (by decide) (by decide) ?_
   exact k
 exact Go.rt X4 hx Bd (w := (.int r_4)) rfl (Or.inl ⟨rfl, Or.inl rfl, _, rfl⟩) (hb hby d6_36) e4 ⟨r_4, rfl, N4, rfl, (by assumption)⟩
abbrev rm_rmI4_0 : Room := ({ frames := 3, cells := 0, slots := 0, locals := 46 } : Room)
def Q_rmI4_0 (Z : State) (so : Addr) (tb : Addr) (kb : ClassId) (x0 : Int32) (x1 : Int32) (x2 : Int32) (x3 : Int32) (cs : Int32) (h0 : Heap) (n0 : Nat) (v : Option Value) (h : Heap) (L : List Loc) : Prop := ∃ r : Int32, (v = some (.int r)) ∧ (Fr n0 L) ∧ (h = h0) ∧ (r < (0 : Int32) ↔ (¬ ((x0.toInt8.toInt32) = (0 : Int32)) ∧ ¬ ((x1.toInt8.toInt32) = (0 : Int32)) ∧ ¬ ((x2.toInt8.toInt32) = (0 : Int32)) ∧ ¬ ((x3.toInt8.toInt32) = (0 : Int32))))
theorem rmI4_0 (l : Launch) (Z : State) (a0 : Array Value) (hw : HW a0 Z) (ws : List Jvm.Cond) (so : Addr) (tb : Addr) (kb : ClassId) (x0 : Int32) (x1 : Int32) (x2 : Int32) (x3 : Int32) (cs : Int32) (h0 : Heap) (n0 : Nat) (O : Old Z n0 h0) (S_CS : Sa_0 Z (.int cs)) (E_so : Exa Z h0 so "java/lang/String") (F_value_so : Fd_5 Z h0 so (.ref tb)) (F_coder_so : Fd_6 Z h0 so (.int 0)) (V_tb : Arv Z h0 tb kb .byte (4 : Int32) [(.int (x0.toInt8.toInt32)), (.int (x1.toInt8.toInt32)), (.int (x2.toInt8.toInt32)), (.int (x3.toInt8.toInt32))] (.int 0)) (hcs : ¬ (cs = (0 : Int32))) :
    Mt l Z y_25 jdk_42_method_79_code 2 (some .int) ws rm_rmI4_0 #[(.ref so), (.int 0)] h0 (Q_rmI4_0 Z so tb kb x0 x1 x2 x3 cs h0 n0) := by
 refine own_met "java/lang/String" (plainFor_of_name pn_java_lang_String) #[rv so, iv 0] (fun m => rfl) (fun p e s m below meth c s₁ Bd hx hby hml hZ hown hnm X0 e0 => ?_)
 have N0 := Fr.nil n0
 refine Go.step (S' := s₁.setTop (mkF m 3 #[rv so, iv 0] [(.int 0), (.int 0), (.ref so)])) (fun t k => ?_) ?_
 · refine XS.aloadN X0.here hx rfl (hb hby d5_0) rfl rfl ?_
   refine XS.iloadN X0.here hx rfl (hb hby d5_1) rfl ?_
   refine XS.iconst X0.here hx rfl (hb hby d5_2) ?_
   exact k
 refine Go.cV X0 hx hml hown hZ (own_w hw 33 rfl) (own_w hw 34 rfl) (own_w hw 36 rfl) (own_w hw 35 rfl) (own_w hw 5 rfl) (own_w hw 37 rfl) E_so (rmII4_0 l Z a0 hw [] so tb kb x0 x1 x2 x3 cs h0 n0 O S_CS E_so F_value_so F_coder_so V_tb hcs) 0 [] pd__28II_29I (hb hby d5_3) e0 (fun _ T1 L1 X1 hQ1 => ?_)
 obtain ⟨r_1, rfl, Nq1, e1, kr_1⟩ := hQ1
 have N1 := Fr.app N0 Nq1
 exact Go.rt X1 hx Bd (w := (.int r_1)) rfl (Or.inl ⟨rfl, Or.inl rfl, _, rfl⟩) (hb hby d5_6) e1 ⟨r_1, rfl, N1, rfl, (by assumption)⟩
abbrev rm_rmSt4_0 : Room := ({ frames := 4, cells := 0, slots := 0, locals := 59 } : Room)
def Q_rmSt4_0 (Z : State) (so : Addr) (tb : Addr) (kb : ClassId) (x0 : Int32) (x1 : Int32) (x2 : Int32) (x3 : Int32) (cs : Int32) (h0 : Heap) (n0 : Nat) (v : Option Value) (h : Heap) (L : List Loc) : Prop := ∃ r : Int32, (v = some (.int r)) ∧ (Fr n0 L) ∧ (h = h0) ∧ ((r = (1 : Int32) ∧ (¬ ((x0.toInt8.toInt32) = (0 : Int32)) ∧ ¬ ((x1.toInt8.toInt32) = (0 : Int32)) ∧ ¬ ((x2.toInt8.toInt32) = (0 : Int32)) ∧ ¬ ((x3.toInt8.toInt32) = (0 : Int32)))) ∨ (r = (0 : Int32) ∧ ¬ (¬ ((x0.toInt8.toInt32) = (0 : Int32)) ∧ ¬ ((x1.toInt8.toInt32) = (0 : Int32)) ∧ ¬ ((x2.toInt8.toInt32) = (0 : Int32)) ∧ ¬ ((x3.toInt8.toInt32) = (0 : Int32)))))
theorem rmSt4_0 (l : Launch) (Z : State) (a0 : Array Value) (hw : HW a0 Z) (ws : List Jvm.Cond) (so : Addr) (tb : Addr) (kb : ClassId) (x0 : Int32) (x1 : Int32) (x2 : Int32) (x3 : Int32) (cs : Int32) (h0 : Heap) (n0 : Nat) (O : Old Z n0 h0) (S_CS : Sa_0 Z (.int cs)) (E_so : Exa Z h0 so "java/lang/String") (F_value_so : Fd_5 Z h0 so (.ref tb)) (F_coder_so : Fd_6 Z h0 so (.int 0)) (V_tb : Arv Z h0 tb kb .byte (4 : Int32) [(.int (x0.toInt8.toInt32)), (.int (x1.toInt8.toInt32)), (.int (x2.toInt8.toInt32)), (.int (x3.toInt8.toInt32))] (.int 0)) (hcs : ¬ (cs = (0 : Int32))) :
    Mt l Z y_26 prog_32_method_6_code 1 (some .boolean) ws rm_rmSt4_0 #[(.ref so)] h0 (Q_rmSt4_0 Z so tb kb x0 x1 x2 x3 cs h0 n0) := by
 refine own_met "com/example/loomlist/loomlist/core/Naming" (plainFor_of_name pn_com_example_loomlist_loomlist_core_Naming) #[rv so] (fun m => rfl) (fun p e s m below meth c s₁ Bd hx hby hml hZ hown hnm X0 e0 => ?_)
 have N0 := Fr.nil n0
 refine Go.step (S' := s₁.setTop (mkF m 2 #[rv so] [(.int 0), (.ref so)])) (fun t k => ?_) ?_
 · refine XS.aloadN X0.here hx rfl (hb hby d4_0) rfl rfl ?_
   refine XS.iconst X0.here hx rfl (hb hby d4_1) ?_
   exact k
 refine Go.cV X0 hx hml hown hZ (own_w hw 28 rfl) (own_w hw 29 rfl) (own_w hw 31 rfl) (own_w hw 30 rfl) (own_w hw 5 rfl) (own_w hw 32 rfl) E_so (rmI4_0 l Z a0 hw [] so tb kb x0 x1 x2 x3 cs h0 n0 O S_CS E_so F_value_so F_coder_so V_tb hcs) 0 [] pd__28I_29I (hb hby d4_2) e0 (fun _ T1 L1 X1 hQ1 => ?_)
 obtain ⟨r_1, rfl, Nq1, e1, kr_1⟩ := hQ1
 have N1 := Fr.app N0 Nq1
 by_cases hc5 : r_1 < (0 : Int32)
 ·skip
  refine Go.step (S' := T1.setTop (mkF m 13 #[rv so] [(.int 1)])) (fun t k => ?_) ?_
  · refine XS.ifNo X1.here hx rfl (hb hby d4_5) rfl ((if0 _ _).trans (tlt (hc5 : r_1 < (0 : Int32))).2.1) ?_
    refine XS.iconst X1.here hx rfl (hb hby d4_8) ?_
    refine XS.goto X1.here hx rfl (pc0 := 9) (pc' := 13) rfl (hb hby d4_9) (by decide) (by decide) ?_
    exact k
  exact Go.rt X1 hx Bd (w := (.int 1)) (by decide) (Or.inl ⟨rfl, Or.inr (Or.inl rfl), _, rfl⟩) (hb hby d4_13) e1 ⟨(1 : Int32), rfl, N1, rfl, (Or.inl ⟨rfl, kr_1.mp hc5⟩)⟩
 ·skip
  refine Go.step (S' := T1.setTop (mkF m 13 #[rv so] [(.int 0)])) (fun t k => ?_) ?_
  · refine XS.ifYes X1.here hx rfl (pc0 := 5) (pc' := 12) rfl (hb hby d4_5) rfl ((if0 _ _).trans (flt (hc5 : ¬ (r_1 < (0 : Int32)))).2.1) (by decide) (by decide) ?_
    refine XS.iconst X1.here hx rfl (hb hby d4_12) ?_
    exact k
  exact Go.rt X1 hx Bd (w := (.int 0)) (by decide) (Or.inl ⟨rfl, Or.inr (Or.inl rfl), _, rfl⟩) (hb hby d4_13) e1 ⟨(0 : Int32), rfl, N1, rfl, (Or.inr ⟨rfl, fun q => hc5 (kr_1.mpr q)⟩)⟩
abbrev rm_rmLen4_1 : Room := ({ frames := 1, cells := 0, slots := 0, locals := 13 } : Room)
def Q_rmLen4_1 (Z : State) (so : Addr) (tb : Addr) (kb : ClassId) (x0 : Int32) (x1 : Int32) (x2 : Int32) (x3 : Int32) (cs : Int32) (h0 : Heap) (n0 : Nat) (v : Option Value) (h : Heap) (L : List Loc) : Prop := (v = some (.int 4)) ∧ (Fr n0 L) ∧ (h = h0)
theorem rmLen4_1 (l : Launch) (Z : State) (a0 : Array Value) (hw : HW a0 Z) (ws : List Jvm.Cond) (so : Addr) (tb : Addr) (kb : ClassId) (x0 : Int32) (x1 : Int32) (x2 : Int32) (x3 : Int32) (cs : Int32) (h0 : Heap) (n0 : Nat) (O : Old Z n0 h0) (S_CS : Sa_0 Z (.int cs)) (E_so : Exa Z h0 so "java/lang/String") (F_value_so : Fd_5 Z h0 so (.ref tb)) (F_coder_so : Fd_6 Z h0 so (.int 1)) (V_tb : Arv Z h0 tb kb .byte (8 : Int32) [(.int (own_lo x0)), (.int (own_hi x0)), (.int (own_lo x1)), (.int (own_hi x1)), (.int (own_lo x2)), (.int (own_hi x2)), (.int (own_lo x3)), (.int (own_hi x3))] (.int 0)) (hcs : ¬ (cs = (0 : Int32))) :
    Mt l Z y_23 jdk_42_method_54_code 1 (some .int) ws rm_rmLen4_1 #[(.ref so)] h0 (Q_rmLen4_1 Z so tb kb x0 x1 x2 x3 cs h0 n0) := by
 refine own_met "java/lang/String" (plainFor_of_name pn_java_lang_String) #[rv so] (fun m => rfl) (fun p e s m below meth c s₁ Bd hx hby hml hZ hown hnm X0 e0 => ?_)
 have N0 := Fr.nil n0
 refine Go.step (S' := s₁.setTop (mkF m 1 #[rv so] [(.ref so)])) (fun t k => ?_) ?_
 · refine XS.aloadN X0.here hx rfl (hb hby d8_0) rfl rfl ?_
   exact k
 refine Go.gF X0 hx hZ hown (host := "") (Or.inl (own_w hw 22 rfl)) Via.refl e0 F_value_so (hb hby d8_1) (fun T1 X1 e1 => ?_)
 refine Go.len X1 hx hZ e1 V_tb (hb hby d8_4) ?_
 refine Go.step (S' := T1.setTop (mkF m 6 #[rv so] [(.ref so), (.int 8)])) (fun t k => ?_) ?_
 · refine XS.aloadN X1.here hx rfl (hb hby d8_5) rfl rfl ?_
   exact k
 refine Go.cV X1 hx hml hown hZ (own_w hw 49 rfl) (own_w hw 50 rfl) (own_w hw 52 rfl) (own_w hw 51 rfl) (own_w hw 5 rfl) (own_w hw 53 rfl) E_so (rmCod1 l Z a0 hw [] so cs h0 n0 O S_CS F_coder_so hcs) 1 [(.int 8)] pd__28_29B (hb hby d8_6) e1 (fun _ T2 L2 X2 hQ2 => ?_)
 obtain ⟨rfl, Nq2, e2⟩ := hQ2
 have N2 := Fr.app N0 Nq2
 refine Go.step (S' := T2.setTop (mkF m 10 #[rv so] [(.int 4)])) (fun t k => ?_) ?_
 · refine XS.ishr X2.here hx rfl (hb hby d8_9) rfl ?_
   exact k
 exact Go.rt X2 hx Bd (w := (.int 4)) rfl (Or.inl ⟨rfl, Or.inl rfl, _, rfl⟩) (hb hby d8_10) e2 ⟨rfl, N2, rfl⟩
abbrev rm_rmII4_1 : Room := ({ frames := 5, cells := 0, slots := 0, locals := 73 } : Room)
def Q_rmII4_1 (Z : State) (so : Addr) (tb : Addr) (kb : ClassId) (x0 : Int32) (x1 : Int32) (x2 : Int32) (x3 : Int32) (cs : Int32) (sf : Value) (h0 : Heap) (n0 : Nat) (v : Option Value) (h : Heap) (L : List Loc) : Prop := ∃ r : Int32, (v = some (.int r)) ∧ (Fr n0 L) ∧ (h = h0) ∧ (r < (0 : Int32) ↔ (¬ (x0 = (0 : Int32)) ∧ ¬ (x1 = (0 : Int32)) ∧ ¬ (x2 = (0 : Int32)) ∧ ¬ (x3 = (0 : Int32))))
theorem rmII4_1 (l : Launch) (Z : State) (a0 : Array Value) (hw : HW a0 Z) (ws : List Jvm.Cond) (so : Addr) (tb : Addr) (kb : ClassId) (x0 : Int32) (x1 : Int32) (x2 : Int32) (x3 : Int32) (cs : Int32) (sf : Value) (h0 : Heap) (n0 : Nat) (O : Old Z n0 h0) (S_CS : Sa_0 Z (.int cs)) (E_so : Exa Z h0 so "java/lang/String") (F_value_so : Fd_5 Z h0 so (.ref tb)) (F_coder_so : Fd_6 Z h0 so (.int 1)) (V_tb : Arv Z h0 tb kb .byte (8 : Int32) [(.int (own_lo x0)), (.int (own_hi x0)), (.int (own_lo x1)), (.int (own_hi x1)), (.int (own_lo x2)), (.int (own_hi x2)), (.int (own_lo x3)), (.int (own_hi x3))] (.int 0)) (S_AD : Sa_1 Z (.int 1)) (S_HI : Sa_2 Z (.int 0)) (S_LO : Sa_3 Z (.int 8)) (S_FM : Sa_4 Z sf) (hcs : ¬ (cs = (0 : Int32))) (hsf : sf.isRef = true) (rax0 : ¬ (x0 < (0 : Int32))) (rbx0 : ¬ ((65535 : Int32) < x0)) (rax1 : ¬ (x1 < (0 : Int32))) (rbx1 : ¬ ((65535 : Int32) < x1)) (rax2 : ¬ (x2 < (0 : Int32))) (rbx2 : ¬ ((65535 : Int32) < x2)) (rax3 : ¬ (x3 < (0 : Int32))) (rbx3 : ¬ ((65535 : Int32) < x3)) :
    Mt l Z y_24 jdk_42_method_80_code 3 (some .int) ws rm_rmII4_1 #[(.ref so), (.int 0), (.int 0)] h0 (Q_rmII4_1 Z so tb kb x0 x1 x2 x3 cs sf h0 n0) := by
 refine own_met "java/lang/String" (plainFor_of_name pn_java_lang_String) #[rv so, iv 0, iv 0] (fun m => rfl) (fun p e s m below meth c s₁ Bd hx hby hml hZ hown hnm X0 e0 => ?_)
 have N0 := Fr.nil n0
 refine Go.step (S' := s₁.setTop (mkF m 1 #[rv so, iv 0, iv 0] [(.ref so)])) (fun t k => ?_) ?_
 · refine XS.aloadN X0.here hx rfl (hb hby d6_0) rfl rfl ?_
   exact k
 refine Go.cV X0 hx hml hown hZ (own_w hw 38 rfl) (own_w hw 39 rfl) (own_w hw 41 rfl) (own_w hw 40 rfl) (own_w hw 5 rfl) (own_w hw 42 rfl) E_so (rmLat1 l Z a0 hw [] so cs h0 n0 O S_CS F_coder_so hcs) 0 [] pd__28_29Z (hb hby d6_1) e0 (fun _ T1 L1 X1 hQ1 => ?_)
 obtain ⟨rfl, Nq1, e1⟩ := hQ1
 have N1 := Fr.app N0 Nq1
 refine Go.step (S' := T1.setTop (mkF m 24 #[rv so, iv 0, iv 0] [(.ref so)])) (fun t k => ?_) ?_
 · refine XS.ifYes X1.here hx rfl (pc0 := 4) (pc' := 23) rfl (hb hby d6_4) rfl ((if0 _ _).trans (teq ((by decide) : (0 : Int32) = (0 : Int32))).1) (by decide) (by decide) ?_
   refine XS.aloadN X1.here hx rfl (hb hby d6_23) rfl rfl ?_
   exact k
 refine Go.gF X1 hx hZ hown (host := "") (Or.inl (own_w hw 22 rfl)) Via.refl e1 F_value_so (hb hby d6_24) (fun T2 X2 e2 => ?_)
 refine Go.step (S' := T2.setTop (mkF m 30 #[rv so, iv 0, iv 0] [(.ref so), (.int 0), (.int 0), (.ref tb)])) (fun t k => ?_) ?_
 · refine XS.iloadN X2.here hx rfl (hb hby d6_27) rfl ?_
   refine XS.iloadN X2.here hx rfl (hb hby d6_28) rfl ?_
   refine XS.aloadN X2.here hx rfl (hb hby d6_29) rfl rfl ?_
   exact k
 refine Go.cV X2 hx hml hown hZ (own_w hw 44 rfl) (own_w hw 45 rfl) (own_w hw 47 rfl) (own_w hw 46 rfl) (own_w hw 5 rfl) (own_w hw 48 rfl) E_so (rmLen4_1 l Z a0 hw [] so tb kb x0 x1 x2 x3 cs h0 n0 O S_CS E_so F_value_so F_coder_so V_tb hcs) 3 [(.int 0), (.int 0), (.ref tb)] pd__28_29I (hb hby d6_30) e2 (fun _ T3 L3 X3 hQ3 => ?_)
 obtain ⟨rfl, Nq3, e3⟩ := hQ3
 have N3 := Fr.app N1 Nq3
 refine Go.cS X3 hx hml hown hZ (own_w hw 100 rfl) (own_w hw 101 rfl) (own_w hw 70 rfl) (own_w hw 102 rfl) (rmIX4 l Z a0 hw [] tb kb sf x0 x1 x2 x3 h0 n0 O S_AD S_HI S_LO V_tb S_FM hsf rax0 rbx0 rax1 rbx1 rax2 rbx2 rax3 rbx3) 0 [] pd__28_5bBIII_29I (hb hby d6_33) e3 (fun _ T4 L4 X4 hQ4 => ?_)
 obtain ⟨r_4, rfl, Nq4, e4, kr_4⟩ := hQ4
 have N4 := Fr.app N3 Nq4
 exact Go.rt X4 hx Bd (w := (.int r_4)) rfl (Or.inl ⟨rfl, Or.inl rfl, _, rfl⟩) (hb hby d6_36) e4 ⟨r_4, rfl, N4, rfl, (by assumption)⟩
abbrev rm_rmI4_1 : Room := ({ frames := 6, cells := 0, slots := 0, locals := 87 } : Room)
def Q_rmI4_1 (Z : State) (so : Addr) (tb : Addr) (kb : ClassId) (x0 : Int32) (x1 : Int32) (x2 : Int32) (x3 : Int32) (cs : Int32) (sf : Value) (h0 : Heap) (n0 : Nat) (v : Option Value) (h : Heap) (L : List Loc) : Prop := ∃ r : Int32, (v = some (.int r)) ∧ (Fr n0 L) ∧ (h = h0) ∧ (r < (0 : Int32) ↔ (¬ (x0 = (0 : Int32)) ∧ ¬ (x1 = (0 : Int32)) ∧ ¬ (x2 = (0 : Int32)) ∧ ¬ (x3 = (0 : Int32))))
theorem rmI4_1 (l : Launch) (Z : State) (a0 : Array Value) (hw : HW a0 Z) (ws : List Jvm.Cond) (so : Addr) (tb : Addr) (kb : ClassId) (x0 : Int32) (x1 : Int32) (x2 : Int32) (x3 : Int32) (cs : Int32) (sf : Value) (h0 : Heap) (n0 : Nat) (O : Old Z n0 h0) (S_CS : Sa_0 Z (.int cs)) (E_so : Exa Z h0 so "java/lang/String") (F_value_so : Fd_5 Z h0 so (.ref tb)) (F_coder_so : Fd_6 Z h0 so (.int 1)) (V_tb : Arv Z h0 tb kb .byte (8 : Int32) [(.int (own_lo x0)), (.int (own_hi x0)), (.int (own_lo x1)), (.int (own_hi x1)), (.int (own_lo x2)), (.int (own_hi x2)), (.int (own_lo x3)), (.int (own_hi x3))] (.int 0)) (S_AD : Sa_1 Z (.int 1)) (S_HI : Sa_2 Z (.int 0)) (S_LO : Sa_3 Z (.int 8)) (S_FM : Sa_4 Z sf) (hcs : ¬ (cs = (0 : Int32))) (hsf : sf.isRef = true) (rax0 : ¬ (x0 < (0 : Int32))) (rbx0 : ¬ ((65535 : Int32) < x0)) (rax1 : ¬ (x1 < (0 : Int32))) (rbx1 : ¬ ((65535 : Int32) < x1)) (rax2 : ¬ (x2 < (0 : Int32))) (rbx2 : ¬ ((65535 : Int32) < x2)) (rax3 : ¬ (x3 < (0 : Int32))) (rbx3 : ¬ ((65535 : Int32) < x3)) :
    Mt l Z y_25 jdk_42_method_79_code 2 (some .int) ws rm_rmI4_1 #[(.ref so), (.int 0)] h0 (Q_rmI4_1 Z so tb kb x0 x1 x2 x3 cs sf h0 n0) := by
 refine own_met "java/lang/String" (plainFor_of_name pn_java_lang_String) #[rv so, iv 0] (fun m => rfl) (fun p e s m below meth c s₁ Bd hx hby hml hZ hown hnm X0 e0 => ?_)
 have N0 := Fr.nil n0
 refine Go.step (S' := s₁.setTop (mkF m 3 #[rv so, iv 0] [(.int 0), (.int 0), (.ref so)])) (fun t k => ?_) ?_
 · refine XS.aloadN X0.here hx rfl (hb hby d5_0) rfl rfl ?_
   refine XS.iloadN X0.here hx rfl (hb hby d5_1) rfl ?_
   refine XS.iconst X0.here hx rfl (hb hby d5_2) ?_
   exact k
 refine Go.cV X0 hx hml hown hZ (own_w hw 33 rfl) (own_w hw 34 rfl) (own_w hw 36 rfl) (own_w hw 35 rfl) (own_w hw 5 rfl) (own_w hw 37 rfl) E_so (rmII4_1 l Z a0 hw [] so tb kb x0 x1 x2 x3 cs sf h0 n0 O S_CS E_so F_value_so F_coder_so V_tb S_AD S_HI S_LO S_FM hcs hsf rax0 rbx0 rax1 rbx1 rax2 rbx2 rax3 rbx3) 0 [] pd__28II_29I (hb hby d5_3) e0 (fun _ T1 L1 X1 hQ1 => ?_)
 obtain ⟨r_1, rfl, Nq1, e1, kr_1⟩ := hQ1
 have N1 := Fr.app N0 Nq1
 exact Go.rt X1 hx Bd (w := (.int r_1)) rfl (Or.inl ⟨rfl, Or.inl rfl, _, rfl⟩) (hb hby d5_6) e1 ⟨r_1, rfl, N1, rfl, (by assumption)⟩
abbrev rm_rmSt4_1 : Room := ({ frames := 7, cells := 0, slots := 0, locals := 100 } : Room)
def Q_rmSt4_1 (Z : State) (so : Addr) (tb : Addr) (kb : ClassId) (x0 : Int32) (x1 : Int32) (x2 : Int32) (x3 : Int32) (cs : Int32) (sf : Value) (h0 : Heap) (n0 : Nat) (v : Option Value) (h : Heap) (L : List Loc) : Prop := ∃ r : Int32, (v = some (.int r)) ∧ (Fr n0 L) ∧ (h = h0) ∧ ((r = (1 : Int32) ∧ (¬ (x0 = (0 : Int32)) ∧ ¬ (x1 = (0 : Int32)) ∧ ¬ (x2 = (0 : Int32)) ∧ ¬ (x3 = (0 : Int32)))) ∨ (r = (0 : Int32) ∧ ¬ (¬ (x0 = (0 : Int32)) ∧ ¬ (x1 = (0 : Int32)) ∧ ¬ (x2 = (0 : Int32)) ∧ ¬ (x3 = (0 : Int32)))))
theorem rmSt4_1 (l : Launch) (Z : State) (a0 : Array Value) (hw : HW a0 Z) (ws : List Jvm.Cond) (so : Addr) (tb : Addr) (kb : ClassId) (x0 : Int32) (x1 : Int32) (x2 : Int32) (x3 : Int32) (cs : Int32) (sf : Value) (h0 : Heap) (n0 : Nat) (O : Old Z n0 h0) (S_CS : Sa_0 Z (.int cs)) (E_so : Exa Z h0 so "java/lang/String") (F_value_so : Fd_5 Z h0 so (.ref tb)) (F_coder_so : Fd_6 Z h0 so (.int 1)) (V_tb : Arv Z h0 tb kb .byte (8 : Int32) [(.int (own_lo x0)), (.int (own_hi x0)), (.int (own_lo x1)), (.int (own_hi x1)), (.int (own_lo x2)), (.int (own_hi x2)), (.int (own_lo x3)), (.int (own_hi x3))] (.int 0)) (S_AD : Sa_1 Z (.int 1)) (S_HI : Sa_2 Z (.int 0)) (S_LO : Sa_3 Z (.int 8)) (S_FM : Sa_4 Z sf) (hcs : ¬ (cs = (0 : Int32))) (hsf : sf.isRef = true) (rax0 : ¬ (x0 < (0 : Int32))) (rbx0 : ¬ ((65535 : Int32) < x0)) (rax1 : ¬ (x1 < (0 : Int32))) (rbx1 : ¬ ((65535 : Int32) < x1)) (rax2 : ¬ (x2 < (0 : Int32))) (rbx2 : ¬ ((65535 : Int32) < x2)) (rax3 : ¬ (x3 < (0 : Int32))) (rbx3 : ¬ ((65535 : Int32) < x3)) :
    Mt l Z y_26 prog_32_method_6_code 1 (some .boolean) ws rm_rmSt4_1 #[(.ref so)] h0 (Q_rmSt4_1 Z so tb kb x0 x1 x2 x3 cs sf h0 n0) := by
 refine own_met "com/example/loomlist/loomlist/core/Naming" (plainFor_of_name pn_com_example_loomlist_loomlist_core_Naming) #[rv so] (fun m => rfl) (fun p e s m below meth c s₁ Bd hx hby hml hZ hown hnm X0 e0 => ?_)
 have N0 := Fr.nil n0
 refine Go.step (S' := s₁.setTop (mkF m 2 #[rv so] [(.int 0), (.ref so)])) (fun t k => ?_) ?_
 · refine XS.aloadN X0.here hx rfl (hb hby d4_0) rfl rfl ?_
   refine XS.iconst X0.here hx rfl (hb hby d4_1) ?_
   exact k
 refine Go.cV X0 hx hml hown hZ (own_w hw 28 rfl) (own_w hw 29 rfl) (own_w hw 31 rfl) (own_w hw 30 rfl) (own_w hw 5 rfl) (own_w hw 32 rfl) E_so (rmI4_1 l Z a0 hw [] so tb kb x0 x1 x2 x3 cs sf h0 n0 O S_CS E_so F_value_so F_coder_so V_tb S_AD S_HI S_LO S_FM hcs hsf rax0 rbx0 rax1 rbx1 rax2 rbx2 rax3 rbx3) 0 [] pd__28I_29I (hb hby d4_2) e0 (fun _ T1 L1 X1 hQ1 => ?_)
 obtain ⟨r_1, rfl, Nq1, e1, kr_1⟩ := hQ1
 have N1 := Fr.app N0 Nq1
 by_cases hc5 : r_1 < (0 : Int32)
 ·skip
  refine Go.step (S' := T1.setTop (mkF m 13 #[rv so] [(.int 1)])) (fun t k => ?_) ?_
  · refine XS.ifNo X1.here hx rfl (hb hby d4_5) rfl ((if0 _ _).trans (tlt (hc5 : r_1 < (0 : Int32))).2.1) ?_
    refine XS.iconst X1.here hx rfl (hb hby d4_8) ?_
    refine XS.goto X1.here hx rfl (pc0 := 9) (pc' := 13) rfl (hb hby d4_9) (by decide) (by decide) ?_
    exact k
  exact Go.rt X1 hx Bd (w := (.int 1)) (by decide) (Or.inl ⟨rfl, Or.inr (Or.inl rfl), _, rfl⟩) (hb hby d4_13) e1 ⟨(1 : Int32), rfl, N1, rfl, (Or.inl ⟨rfl, kr_1.mp hc5⟩)⟩
 ·skip
  refine Go.step (S' := T1.setTop (mkF m 13 #[rv so] [(.int 0)])) (fun t k => ?_) ?_
  · refine XS.ifYes X1.here hx rfl (pc0 := 5) (pc' := 12) rfl (hb hby d4_5) rfl ((if0 _ _).trans (flt (hc5 : ¬ (r_1 < (0 : Int32)))).2.1) (by decide) (by decide) ?_
    refine XS.iconst X1.here hx rfl (hb hby d4_12) ?_
    exact k
  exact Go.rt X1 hx Bd (w := (.int 0)) (by decide) (Or.inl ⟨rfl, Or.inr (Or.inl rfl), _, rfl⟩) (hb hby d4_13) e1 ⟨(0 : Int32), rfl, N1, rfl, (Or.inr ⟨rfl, fun q => hc5 (kr_1.mpr q)⟩)⟩
theorem pn_com_example_loomlist_loomlist_core_NamingIsStorablePinLaw : plainName "com/example/loomlist/loomlist/core/NamingIsStorablePinLaw" = true := by first | (simp [plainName, overriddenIn]; done) | decide +kernel
theorem pd__28_5bC_29V : parseMethodDescriptor "([C)V" = some ⟨[(.array .char)], none⟩ := by decide +kernel
theorem pd__28Ljava_2flang_2fString_3b_29Z : parseMethodDescriptor "(Ljava/lang/String;)Z" = some ⟨[(.object "java/lang/String")], some .boolean⟩ := by decide +kernel
theorem ef_rm0 (m : MethodId) (p0 : Int32) (p1 : Int32) (p2 : Int32) (p3 : Int32) (p4 : Int32) : entryFrame m #[(.int p0), (.int p1), (.int p2), (.int p3), (.int p4)] maxLocals = mkF m 0 #[.val (.int p0), .val (.int p1), .val (.int p2), .val (.int p3), .val (.int p4), .unset, .unset, .unset, .unset, .unset, .unset, .unset, .unset, .unset] [] := by first | (simp [entryFrame, mkF, argsToLocals, Value.category, maxLocals]; done) | rfl
def Q_rm0 (Z : State) (p0 : Int32) (p1 : Int32) (p2 : Int32) (p3 : Int32) (p4 : Int32) (cs : Int32) (sf : Value) (h0 : Heap) (n0 : Nat) (v : Option Value) (h : Heap) (L : List Loc) : Prop := (v = some (.int 1)) ∧ (Fr n0 L) ∧ (Keep h0 h [])
theorem rm0 (l : Launch) (Z : State) (a0 : Array Value) (hw : ∀ d ∈ tables_1, d.before a0 Z = true) (ws : List Jvm.Cond) (p0 : Int32) (p1 : Int32) (p2 : Int32) (p3 : Int32) (p4 : Int32) (cs : Int32) (sf : Value) (h0 : Heap) (n0 : Nat) (O : Old Z n0 h0) (S_CS : Sa_0 Z (.int cs)) (S_FM : Sa_4 Z sf) (S_AD : Sa_1 Z (.int 1)) (S_HI : Sa_2 Z (.int 0)) (S_LO : Sa_3 Z (.int 8)) (hcs : ¬ (cs = (0 : Int32))) (hsf : sf.isRef = true) :
    MetFree l x (head1 (Jvm.Cond.code x code maxLocals ret :: ws) room_1) (fun A_ U => A_ = #[(.int p0), (.int p1), (.int p2), (.int p3), (.int p4)] ∧ Z.Warmed39 U.vm ∧ U.heap = h0 ∧ CHv Z EL_ U.vm h0) (fun _ _ _ _ _ => True) (fun _ U o U' => ∃ v L, o = .returned v ∧ Q_rm0 Z p0 p1 p2 p3 p4 cs sf h0 n0 v U'.heap L ∧ ReturnedEndW U o U' L room_1.cells room_1.slots) := by
 refine MetFree.of_bodySF (plainFor_of_name pn_com_example_loomlist_loomlist_core_NamingIsStorablePinLaw) hisR ?_
 intro p e s m args below meth c s₁ Bd hml0 hP hK
 obtain ⟨rfl, hZ, hh, CH⟩ := hP
 have hx := Bd.exec
 have hby := Bd.bytes
 have hml : c.maxLocals = 14 := hml0
 have hown : s.vm.findClass "com/example/loomlist/loomlist/core/NamingIsStorablePinLaw" = some m.cls := findClass_of_methodNamed Bd.named
 have hnm := (name_of_methodNamed Bd.named Bd.method).1
 have X0 : Stand p l e room_1 (s.setVm s.vm) m #[(.int p0), (.int p1), (.int p2), (.int p3), (.int p4)] below meth c s₁ [] 0 0 := Stand.of_body Bd
 have e0 : s₁.heap = h0 := by rw [← hh, Bd.state]; rfl
 have N0 := Fr.nil n0
 have K := Keep.refl h0 []
 have hS : s.Since s.vm 0 := (State.WarmedH.refl s).since 0
 have hk : 0 ≤ h0.size := Nat.zero_le _
 have wS := own_wS hw
 refine Go.step (p := p) (e := e) (below := below) (G := fun o U' => ∃ v L, o = .returned v ∧ Q_rm0 Z p0 p1 p2 p3 p4 cs sf h0 n0 v U'.heap L ∧ ReturnedEndW s o U' L room_1.cells room_1.slots) (S' := s₁.setTop (mkF m 0 #[iv p0, iv p1, iv p2, iv p3, iv p4, u_, u_, u_, u_, u_, u_, u_, u_, u_] [])) (fun t k => castTop (ef_rm0 m p0 p1 p2 p3 p4) k) ?_
 refine Go.step (S' := s₁.setTop (mkF m 7 #[iv p0, iv p1, iv p2, iv p3, iv p4, iv ((p0 &&& (65535 : Int32)).toUInt32.toUInt16.toUInt32.toInt32), u_, u_, u_, u_, u_, u_, u_, u_] [])) (fun t k => ?_) ?_
 · refine XS.iloadN X0.here hx rfl (hb hby at_0) rfl ?_
   refine X0.ldcInt hx hown (mvT hZ (own_w hw 0 rfl)) (g := (mkF m 1 #[iv p0, iv p1, iv p2, iv p3, iv p4, u_, u_, u_, u_, u_, u_, u_, u_, u_] [(.int p0)])) rfl (hb hby at_1) _ ?_
   refine XS.iand X0.here hx rfl (hb hby at_3) rfl ?_
   refine XS.i2c X0.here hx rfl (hb hby at_4) rfl ?_
   refine XS.istore X0.here hx rfl (hb hby at_5) rfl (l' := #[iv p0, iv p1, iv p2, iv p3, iv p4, iv ((p0 &&& (65535 : Int32)).toUInt32.toUInt16.toUInt32.toInt32), u_, u_, u_, u_, u_, u_, u_, u_]) rfl ?_
   exact k
 obtain ⟨x0, hd_x0⟩ : ∃ z : Int32, ((p0 &&& (65535 : Int32)).toUInt32.toUInt16.toUInt32.toInt32) = z := ⟨_, rfl⟩
 rw [hd_x0]
 show Go p e below _ (s₁.setTop (mkF m 7 #[iv p0, iv p1, iv p2, iv p3, iv p4, iv x0, u_, u_, u_, u_, u_, u_, u_, u_] []))
 refine Go.step (S' := s₁.setTop (mkF m 14 #[iv p0, iv p1, iv p2, iv p3, iv p4, iv x0, iv ((p1 &&& (65535 : Int32)).toUInt32.toUInt16.toUInt32.toInt32), u_, u_, u_, u_, u_, u_, u_] [])) (fun t k => ?_) ?_
 · refine XS.iloadN X0.here hx rfl (hb hby at_7) rfl ?_
   refine X0.ldcInt hx hown (mvT hZ (own_w hw 0 rfl)) (g := (mkF m 8 #[iv p0, iv p1, iv p2, iv p3, iv p4, iv x0, u_, u_, u_, u_, u_, u_, u_, u_] [(.int p1)])) rfl (hb hby at_8) _ ?_
   refine XS.iand X0.here hx rfl (hb hby at_10) rfl ?_
   refine XS.i2c X0.here hx rfl (hb hby at_11) rfl ?_
   refine XS.istore X0.here hx rfl (hb hby at_12) rfl (l' := #[iv p0, iv p1, iv p2, iv p3, iv p4, iv x0, iv ((p1 &&& (65535 : Int32)).toUInt32.toUInt16.toUInt32.toInt32), u_, u_, u_, u_, u_, u_, u_]) rfl ?_
   exact k
 obtain ⟨x1, hd_x1⟩ : ∃ z : Int32, ((p1 &&& (65535 : Int32)).toUInt32.toUInt16.toUInt32.toInt32) = z := ⟨_, rfl⟩
 rw [hd_x1]
 show Go p e below _ (s₁.setTop (mkF m 14 #[iv p0, iv p1, iv p2, iv p3, iv p4, iv x0, iv x1, u_, u_, u_, u_, u_, u_, u_] []))
 refine Go.step (S' := s₁.setTop (mkF m 21 #[iv p0, iv p1, iv p2, iv p3, iv p4, iv x0, iv x1, iv ((p2 &&& (65535 : Int32)).toUInt32.toUInt16.toUInt32.toInt32), u_, u_, u_, u_, u_, u_] [])) (fun t k => ?_) ?_
 · refine XS.iloadN X0.here hx rfl (hb hby at_14) rfl ?_
   refine X0.ldcInt hx hown (mvT hZ (own_w hw 0 rfl)) (g := (mkF m 15 #[iv p0, iv p1, iv p2, iv p3, iv p4, iv x0, iv x1, u_, u_, u_, u_, u_, u_, u_] [(.int p2)])) rfl (hb hby at_15) _ ?_
   refine XS.iand X0.here hx rfl (hb hby at_17) rfl ?_
   refine XS.i2c X0.here hx rfl (hb hby at_18) rfl ?_
   refine XS.istore X0.here hx rfl (hb hby at_19) rfl (l' := #[iv p0, iv p1, iv p2, iv p3, iv p4, iv x0, iv x1, iv ((p2 &&& (65535 : Int32)).toUInt32.toUInt16.toUInt32.toInt32), u_, u_, u_, u_, u_, u_]) rfl ?_
   exact k
 obtain ⟨x2, hd_x2⟩ : ∃ z : Int32, ((p2 &&& (65535 : Int32)).toUInt32.toUInt16.toUInt32.toInt32) = z := ⟨_, rfl⟩
 rw [hd_x2]
 show Go p e below _ (s₁.setTop (mkF m 21 #[iv p0, iv p1, iv p2, iv p3, iv p4, iv x0, iv x1, iv x2, u_, u_, u_, u_, u_, u_] []))
 refine Go.step (S' := s₁.setTop (mkF m 28 #[iv p0, iv p1, iv p2, iv p3, iv p4, iv x0, iv x1, iv x2, iv ((p3 &&& (65535 : Int32)).toUInt32.toUInt16.toUInt32.toInt32), u_, u_, u_, u_, u_] [])) (fun t k => ?_) ?_
 · refine XS.iloadN X0.here hx rfl (hb hby at_21) rfl ?_
   refine X0.ldcInt hx hown (mvT hZ (own_w hw 0 rfl)) (g := (mkF m 22 #[iv p0, iv p1, iv p2, iv p3, iv p4, iv x0, iv x1, iv x2, u_, u_, u_, u_, u_, u_] [(.int p3)])) rfl (hb hby at_22) _ ?_
   refine XS.iand X0.here hx rfl (hb hby at_24) rfl ?_
   refine XS.i2c X0.here hx rfl (hb hby at_25) rfl ?_
   refine XS.istore X0.here hx rfl (hb hby at_26) rfl (l' := #[iv p0, iv p1, iv p2, iv p3, iv p4, iv x0, iv x1, iv x2, iv ((p3 &&& (65535 : Int32)).toUInt32.toUInt16.toUInt32.toInt32), u_, u_, u_, u_, u_]) rfl ?_
   exact k
 obtain ⟨x3, hd_x3⟩ : ∃ z : Int32, ((p3 &&& (65535 : Int32)).toUInt32.toUInt16.toUInt32.toInt32) = z := ⟨_, rfl⟩
 rw [hd_x3]
 show Go p e below _ (s₁.setTop (mkF m 28 #[iv p0, iv p1, iv p2, iv p3, iv p4, iv x0, iv x1, iv x2, iv x3, u_, u_, u_, u_, u_] []))
 obtain ⟨rax0, rbx0⟩ := own_ch hd_x0
 obtain ⟨rax1, rbx1⟩ := own_ch hd_x1
 obtain ⟨rax2, rbx2⟩ := own_ch hd_x2
 obtain ⟨rax3, rbx3⟩ := own_ch hd_x3
 refine Go.step (S' := s₁.setTop (mkF m 37 #[iv p0, iv p1, iv p2, iv p3, iv p4, iv x0, iv x1, iv x2, iv x3, iv ((p4 &&& (2147483647 : Int32)) % (5 : Int32)), u_, u_, u_, u_] [])) (fun t k => ?_) ?_
 · refine XS.iload X0.here hx rfl (hb hby at_28) rfl ?_
   refine X0.ldcInt hx hown (mvT hZ (own_w hw 1 rfl)) (g := (mkF m 30 #[iv p0, iv p1, iv p2, iv p3, iv p4, iv x0, iv x1, iv x2, iv x3, u_, u_, u_, u_, u_] [(.int p4)])) rfl (hb hby at_30) _ ?_
   refine XS.iand X0.here hx rfl (hb hby at_32) rfl ?_
   refine XS.iconst X0.here hx rfl (hb hby at_33) ?_
   refine iremM X0 hx rfl (hb hby at_34) rfl (by decide) ?_
   refine XS.istore X0.here hx rfl (hb hby at_35) rfl (l' := #[iv p0, iv p1, iv p2, iv p3, iv p4, iv x0, iv x1, iv x2, iv x3, iv ((p4 &&& (2147483647 : Int32)) % (5 : Int32)), u_, u_, u_, u_]) rfl ?_
   exact k
 rcases own_mod5 p4 with hn5 | hn5 | hn5 | hn5 | hn5
 ·skip
  show Go p e below _ (s₁.setTop (mkF m 37 #[iv p0, iv p1, iv p2, iv p3, iv p4, iv x0, iv x1, iv x2, iv x3, iv ((p4 &&& (2147483647 : Int32)) % (5 : Int32)), u_, u_, u_, u_] []))
  rw [(hn5 : ((p4 &&& (2147483647 : Int32)) % (5 : Int32)) = (0 : Int32))]
  show Go p e below _ (s₁.setTop (mkF m 37 #[iv p0, iv p1, iv p2, iv p3, iv p4, iv x0, iv x1, iv x2, iv x3, iv 0, u_, u_, u_, u_] []))
  refine Go.step (S' := s₁.setTop (mkF m 43 #[iv p0, iv p1, iv p2, iv p3, iv p4, iv x0, iv x1, iv x2, iv x3, iv 0, u_, u_, u_, u_] [(.int 0)])) (fun t k => ?_) ?_
  · refine XS.iload X0.here hx rfl (hb hby at_37) rfl ?_
    refine XS.ifNo X0.here hx rfl (hb hby at_39) rfl ((if0 _ _).trans (teq ((by decide) : (0 : Int32) = (0 : Int32))).2) ?_
    refine XS.iconst X0.here hx rfl (hb hby at_42) ?_
    exact k
  obtain ⟨T1, h1, k1, X1, e1, E1, A1, st1⟩ := newP X0 hx hZ (own_w hw 2 rfl) e0 (g := (mkF m 43 #[iv p0, iv p1, iv p2, iv p3, iv p4, iv x0, iv x1, iv x2, iv x3, iv 0, u_, u_, u_, u_] [(.int 0)])) rfl (hb hby at_43) rfl (by decide) (cap := 0) (by decide) (by decide) (by decide) (by decide)
  obtain ⟨b1, g1⟩ : ∃ z, z = Array.size h0 := ⟨_, rfl⟩
  have g_b1 : n0 ≤ b1 := Nat.le_trans (old_le O) (Nat.le_of_eq g1.symm)
  have sz_b1 : h0.size ≤ b1 := Nat.le_trans K.1 (Nat.le_of_eq g1.symm)
  rw [← g1] at A1 st1
  have O := O.ext E1
  have CH := CHv.ext E1 CH
  have hk := Nat.le_trans hk E1.1
  have K := K.ext E1
  have V_b1 : Arv Z h1 b1 k1 .char (0 : Int32) [] (.int 0) := Arv.new A1 (by decide)
  refine Go.step st1 ?_
  refine Go.step (S' := T1.setTop (mkF m 147 #[iv p0, iv p1, iv p2, iv p3, iv p4, iv x0, iv x1, iv x2, iv x3, iv 0, rv b1, u_, u_, u_] [])) (fun t k => ?_) ?_
  · refine XS.astore X1.here hx rfl (hb hby at_45) rfl rfl (l' := #[iv p0, iv p1, iv p2, iv p3, iv p4, iv x0, iv x1, iv x2, iv x3, iv 0, rv b1, u_, u_, u_]) rfl ?_
    refine XS.goto X1.here hx rfl (pc0 := 47) (pc' := 147) rfl (hb hby at_47) (by decide) (by decide) ?_
    exact k
  obtain ⟨T2, h2, X2, e2, E2, A2, D2, -, st2⟩ := newO X1 hx hZ hown (own_w hw 3 rfl) (own_w hw 4 rfl) (own_w hw 5 rfl) e1 (g := (mkF m 147 #[iv p0, iv p1, iv p2, iv p3, iv p4, iv x0, iv x1, iv x2, iv x3, iv 0, rv b1, u_, u_, u_] [])) rfl (hb hby at_147) (by decide) (by decide)
  obtain ⟨b2, g2⟩ : ∃ z, z = Array.size h1 := ⟨_, rfl⟩
  have g_b2 : n0 ≤ b2 := Nat.le_trans (old_le O) (Nat.le_of_eq g2.symm)
  have sz_b2 : h0.size ≤ b2 := Nat.le_trans K.1 (Nat.le_of_eq g2.symm)
  have ne_b1_b2 : b1 ≠ b2 := Nat.ne_of_lt (Nat.lt_of_lt_of_le V_b1.lt (Nat.le_of_eq g2.symm))
  rw [← g2] at A2 D2 st2
  have O := O.ext E2
  have CH := CHv.ext E2 CH
  have hk := Nat.le_trans hk E2.1
  have K := K.ext E2
  have V_b1 := V_b1.ext E2
  have E_b2 := A2
  have F_value_b2 : Fd_5 Z h2 b2 .null := D2 (Or.inr (own_w hw 18 rfl)) (ty := (.array .byte)) (by decide)
  have F_coder_b2 : Fd_6 Z h2 b2 (.int 0) := D2 (Or.inr (own_w hw 19 rfl)) (ty := .byte) (by decide)
  refine Go.step st2 ?_
  refine Go.step (S' := T2.setTop (mkF m 153 #[iv p0, iv p1, iv p2, iv p3, iv p4, iv x0, iv x1, iv x2, iv x3, iv 0, rv b1, u_, u_, u_] [(.ref b1), (.ref b2), (.ref b2)])) (fun t k => ?_) ?_
  · refine XS.dup X2.here hx rfl (hb hby at_150) rfl rfl ?_
    refine XS.aload X2.here hx rfl (hb hby at_151) rfl rfl ?_
    exact k
  obtain ⟨_, _, ⟨T3, L3, k3, n3⟩, -, X3, hS3, hgr3, ⟨Lc3, hQ3, l3, y3, z3⟩, st3⟩ := X2.specialBackS hx (y := y_4) rfl hown (mvT hZ (own_w hw 6 rfl)) (mvT hZ (own_w hw 7 rfl)) (mvT hZ (own_w hw 8 rfl)) (by decide) (own_backX (W := 1) (rmNS0 l Z a0 hw [] b2 b1 k1 h2 n0 O E_b2 F_value_b2 F_coder_b2 V_b1 (by assumption)) hZ (own_w hw 8 rfl) (own_w hw 5 rfl) (by decide) (by decide) (fun vm' hvm => own_CHw hZ (own_EW hw) hvm CH)) (g := (mkF m 153 #[iv p0, iv p1, iv p2, iv p3, iv p4, iv x0, iv x1, iv x2, iv x3, iv 0, rv b1, u_, u_, u_] [(.ref b1), (.ref b2), (.ref b2)])) rfl (by rw [hml]; rfl) (Steps.refl _) (a := b2) (argsL := [(.ref b1)]) (rest := [(.ref b2)]) (lenOf pd__28_5bC_29V rfl) rfl (Nat.le_of_eq rfl) (hb hby at_153) (fun _ _ => ⟨rfl, e2, (by decide : 2 + 2 ≤ _), (by decide : 4 + 4 ≤ _)⟩)
  dsimp only [Pt.U, Pt.locs, Pt.cells, Pt.slots] at X3 l3 y3 z3 st3 hQ3 hS3 hgr3
  subst l3 y3 z3
  have hS := foldS hS (by rw [e2]; exact hk) hS3 hgr3
  have hown : (s.setVm T3.vm).vm.findClass "com/example/loomlist/loomlist/core/NamingIsStorablePinLaw" = some m.cls := by show T3.vm.findClass _ = _; rw [hS3.1.alike.findClass]; exact hown
  have hZ : Z.Warmed39 (s.setVm T3.vm).vm := State.Warmed39.trans hZ hS3.1
  have X3 : Stand p l e room_1 (s.setVm T3.vm) m #[(.int p0), (.int p1), (.int p2), (.int p3), (.int p4)] below meth c T3 _ _ _ := X3
  obtain ⟨tb_3, kb_3, rfl, Nq3, K3, P3_E, P3_Fv, P3_Fc, P3_V⟩ := hQ3
  have N3 := Fr.app N0 Nq3
  have O := O.keep K3 (allS g_b2 all0)
  have K := K.trans K3 (allS (Or.inr sz_b2) all0)
  have V_b1 := V_b1.keep K3 (ninS ne_b1_b2 nin0)
  have E_b2 := E_b2.keep K3
  have E_3 := P3_E
  have Fv_3 := P3_Fv
  have Fc_3 := P3_Fc
  have V_3 := P3_V
  have hk : T3.heap.size ≤ (T3.heap).size := Nat.le_refl _
  refine Go.step (fun t k => st3.trans k) ?_
  refine Go.step (S' := T3.setTop (mkF m 223 #[iv p0, iv p1, iv p2, iv p3, iv p4, iv x0, iv x1, iv x2, iv x3, iv 0, rv b1, rv b2, iv 0, iv 1] [(.ref b2)])) (fun t k => ?_) ?_
  · refine XS.astore X3.here hx rfl (hb hby at_156) rfl rfl (l' := #[iv p0, iv p1, iv p2, iv p3, iv p4, iv x0, iv x1, iv x2, iv x3, iv 0, rv b1, rv b2, u_, u_]) rfl ?_
    refine XS.iload X3.here hx rfl (hb hby at_158) rfl ?_
    refine XS.iconst X3.here hx rfl (hb hby at_160) ?_
    refine XS.icmpYes X3.here hx rfl (pc0 := 161) (pc' := 169) rfl (hb hby at_161) rfl (tlt ((by decide) : (0 : Int32) < (1 : Int32))).1 (by decide) (by decide) ?_
    refine XS.iload X3.here hx rfl (hb hby at_169) rfl ?_
    refine XS.iconst X3.here hx rfl (hb hby at_171) ?_
    show Steps p.tables e below (T3.setTop (mkF m 172 #[iv p0, iv p1, iv p2, iv p3, iv p4, iv x0, iv x1, iv x2, iv x3, iv 0, rv b1, rv b2, u_, u_] [(.int 2), (.int 0)])) _
    refine XS.icmpYes X3.here hx rfl (pc0 := 172) (pc' := 180) rfl (hb hby at_172) rfl (tlt ((by decide) : (0 : Int32) < (2 : Int32))).1 (by decide) (by decide) ?_
    refine XS.iload X3.here hx rfl (hb hby at_180) rfl ?_
    refine XS.iconst X3.here hx rfl (hb hby at_182) ?_
    refine XS.icmpYes X3.here hx rfl (pc0 := 183) (pc' := 191) rfl (hb hby at_183) rfl (tlt ((by decide) : (0 : Int32) < (3 : Int32))).1 (by decide) (by decide) ?_
    refine XS.iload X3.here hx rfl (hb hby at_191) rfl ?_
    refine XS.iconst X3.here hx rfl (hb hby at_193) ?_
    show Steps p.tables e below (T3.setTop (mkF m 194 #[iv p0, iv p1, iv p2, iv p3, iv p4, iv x0, iv x1, iv x2, iv x3, iv 0, rv b1, rv b2, u_, u_] [(.int 4), (.int 0)])) _
    refine XS.icmpYes X3.here hx rfl (pc0 := 194) (pc' := 206) rfl (hb hby at_194) rfl (tlt ((by decide) : (0 : Int32) < (4 : Int32))).1 (by decide) (by decide) ?_
    refine XS.iconst X3.here hx rfl (hb hby at_206) ?_
    refine XS.istore X3.here hx rfl (hb hby at_207) rfl (l' := #[iv p0, iv p1, iv p2, iv p3, iv p4, iv x0, iv x1, iv x2, iv x3, iv 0, rv b1, rv b2, iv 0, u_]) rfl ?_
    refine XS.iload X3.here hx rfl (hb hby at_209) rfl ?_
    refine XS.ifNo X3.here hx rfl (hb hby at_211) rfl ((if0 _ _).trans (teq ((by decide) : (0 : Int32) = (0 : Int32))).2) ?_
    refine XS.iconst X3.here hx rfl (hb hby at_214) ?_
    show Steps p.tables e below (T3.setTop (mkF m 215 #[iv p0, iv p1, iv p2, iv p3, iv p4, iv x0, iv x1, iv x2, iv x3, iv 0, rv b1, rv b2, iv 0, u_] [(.int 1)])) _
    refine XS.goto X3.here hx rfl (pc0 := 215) (pc' := 219) rfl (hb hby at_215) (by decide) (by decide) ?_
    refine XS.istore X3.here hx rfl (hb hby at_219) rfl (l' := #[iv p0, iv p1, iv p2, iv p3, iv p4, iv x0, iv x1, iv x2, iv x3, iv 0, rv b1, rv b2, iv 0, iv 1]) rfl ?_
    refine XS.aload X3.here hx rfl (hb hby at_221) rfl rfl ?_
    exact k
  refine Go.cS X3 hx hml hown hZ (own_w hw 24 rfl) (own_w hw 25 rfl) (own_w hw 26 rfl) (own_w hw 27 rfl) (rmSt0_0 l Z a0 hw [] b2 tb_3 kb_3 cs T3.heap n0 O S_CS E_b2 Fv_3 Fc_3 V_3 hcs) 0 [] pd__28Ljava_2flang_2fString_3b_29Z (hb hby at_223) (Eq.refl T3.heap) (fun _ T4 L4 X4 hQ4 => ?_)
  obtain ⟨rfl, Nq4, e4⟩ := hQ4
  have N4 := Fr.app N3 Nq4
  refine Go.step (S' := T4.setTop (mkF m 236 #[iv p0, iv p1, iv p2, iv p3, iv p4, iv x0, iv x1, iv x2, iv x3, iv 0, rv b1, rv b2, iv 0, iv 1] [(.int 1)])) (fun t k => ?_) ?_
  · refine XS.iload X4.here hx rfl (hb hby at_226) rfl ?_
    refine XS.icmpNo X4.here hx rfl (hb hby at_228) rfl (teq ((by decide) : (1 : Int32) = (1 : Int32))).2 ?_
    refine XS.iconst X4.here hx rfl (hb hby at_231) ?_
    refine XS.goto X4.here hx rfl (pc0 := 232) (pc' := 236) rfl (hb hby at_232) (by decide) (by decide) ?_
    exact k
  obtain ⟨fs, hr, hrun, hended, hR⟩ := X4.leaveW hS (by rw [e4]; exact hk) (v := some (.int 1)) (fun h => by rw [Bd.returns] at h; cases h)
  refine Go.fin (S' := T4.setFrames fs) ?_ hrun hended ⟨_, _, rfl, ?_, hR.1, hR.2.1, hR.2.2.1, hR.2.2.2.mono (by decide) (by decide)⟩
  · exact retOut X4 hx Bd.returns (by decide) (Or.inl ⟨rfl, Or.inr (Or.inl rfl), _, rfl⟩) (hb hby at_236) hr
  · show Q_rm0 Z p0 p1 p2 p3 p4 cs sf h0 n0 (some (.int 1)) T4.heap _
    rw [e4]
    exact ⟨rfl, N4, K⟩
 ·skip
  show Go p e below _ (s₁.setTop (mkF m 37 #[iv p0, iv p1, iv p2, iv p3, iv p4, iv x0, iv x1, iv x2, iv x3, iv ((p4 &&& (2147483647 : Int32)) % (5 : Int32)), u_, u_, u_, u_] []))
  rw [(hn5 : ((p4 &&& (2147483647 : Int32)) % (5 : Int32)) = (1 : Int32))]
  show Go p e below _ (s₁.setTop (mkF m 37 #[iv p0, iv p1, iv p2, iv p3, iv p4, iv x0, iv x1, iv x2, iv x3, iv 1, u_, u_, u_, u_] []))
  refine Go.step (S' := s₁.setTop (mkF m 57 #[iv p0, iv p1, iv p2, iv p3, iv p4, iv x0, iv x1, iv x2, iv x3, iv 1, u_, u_, u_, u_] [(.int 1)])) (fun t k => ?_) ?_
  · refine XS.iload X0.here hx rfl (hb hby at_37) rfl ?_
    refine XS.ifYes X0.here hx rfl (pc0 := 39) (pc' := 50) rfl (hb hby at_39) rfl ((if0 _ _).trans (feq ((by decide) : ¬ ((1 : Int32) = (0 : Int32)))).2) (by decide) (by decide) ?_
    refine XS.iload X0.here hx rfl (hb hby at_50) rfl ?_
    refine XS.iconst X0.here hx rfl (hb hby at_52) ?_
    refine XS.icmpNo X0.here hx rfl (hb hby at_53) rfl (teq ((by decide) : (1 : Int32) = (1 : Int32))).2 ?_
    refine XS.iconst X0.here hx rfl (hb hby at_56) ?_
    exact k
  obtain ⟨T5, h5, k5, X5, e5, E5, A5, st5⟩ := newP X0 hx hZ (own_w hw 2 rfl) e0 (g := (mkF m 57 #[iv p0, iv p1, iv p2, iv p3, iv p4, iv x0, iv x1, iv x2, iv x3, iv 1, u_, u_, u_, u_] [(.int 1)])) rfl (hb hby at_57) rfl (by decide) (cap := 1) (by decide) (by decide) (by decide) (by decide)
  obtain ⟨b5, g5⟩ : ∃ z, z = Array.size h0 := ⟨_, rfl⟩
  have g_b5 : n0 ≤ b5 := Nat.le_trans (old_le O) (Nat.le_of_eq g5.symm)
  have sz_b5 : h0.size ≤ b5 := Nat.le_trans K.1 (Nat.le_of_eq g5.symm)
  rw [← g5] at A5 st5
  have O := O.ext E5
  have CH := CHv.ext E5 CH
  have hk := Nat.le_trans hk E5.1
  have K := K.ext E5
  have V_b5 : Arv Z h5 b5 k5 .char (1 : Int32) [(.int 0)] (.int 0) := (Arv.new A5 (by decide)).pad (pad_rep [] (.int 0) 1)
  refine Go.step st5 ?_
  refine Go.step (S' := T5.setTop (mkF m 63 #[iv p0, iv p1, iv p2, iv p3, iv p4, iv x0, iv x1, iv x2, iv x3, iv 1, u_, u_, u_, u_] [(.int x0), (.int 0), (.ref b5), (.ref b5)])) (fun t k => ?_) ?_
  · refine XS.dup X5.here hx rfl (hb hby at_59) rfl rfl ?_
    refine XS.iconst X5.here hx rfl (hb hby at_60) ?_
    refine XS.iload X5.here hx rfl (hb hby at_61) rfl ?_
    exact k
  obtain ⟨cl6, Ar6, q6, S6, N6_, H6, G6⟩ := V_b5
  have hin6 : ¬ ((0 : Int32) < 0 ∨ cl6.slots.size ≤ ((0 : Int32)).toNatClampNeg) := inb_of S6 ⟨by decide, by decide⟩
  obtain ⟨T6, h6, X6, e6, W6, st6⟩ := stC X5 hx hZ e5 Ar6 (j := (0 : Int32)) hin6 (g := (mkF m 63 #[iv p0, iv p1, iv p2, iv p3, iv p4, iv x0, iv x1, iv x2, iv x3, iv 1, u_, u_, u_, u_] [(.int x0), (.int 0), (.ref b5), (.ref b5)])) rfl rfl (hb hby at_63)
  have O := O.wr W6 g_b5
  have hk := Nat.le_trans hk (Keep.of_wr W6).1
  have K := K.wr W6 (Or.inr sz_b5)
  have V_b5 : Arv Z h6 b5 k5 .char (1 : Int32) [(.int (x0.toUInt32.toUInt16.toUInt32.toInt32))] (.int 0) := Arv.set Ar6 q6 S6 N6_ H6 G6 (fits_nar_char _) W6 0 rfl (Nat.le_of_ble_eq_true rfl)
  rw [(own_cx rax0 rbx0 : (x0.toUInt32.toUInt16.toUInt32.toInt32) = x0)] at V_b5
  have N6 := Fr.snoc X6 N0 g_b5
  refine Go.step st6 ?_
  refine Go.step (S' := T6.setTop (mkF m 147 #[iv p0, iv p1, iv p2, iv p3, iv p4, iv x0, iv x1, iv x2, iv x3, iv 1, rv b5, u_, u_, u_] [])) (fun t k => ?_) ?_
  · refine XS.astore X6.here hx rfl (hb hby at_64) rfl rfl (l' := #[iv p0, iv p1, iv p2, iv p3, iv p4, iv x0, iv x1, iv x2, iv x3, iv 1, rv b5, u_, u_, u_]) rfl ?_
    refine XS.goto X6.here hx rfl (pc0 := 66) (pc' := 147) rfl (hb hby at_66) (by decide) (by decide) ?_
    exact k
  by_cases hu : (255 : Int32) < x0
  ·skip
   obtain ⟨T7, h7, X7, e7, E7, A7, D7, -, st7⟩ := newO X6 hx hZ hown (own_w hw 3 rfl) (own_w hw 4 rfl) (own_w hw 5 rfl) e6 (g := (mkF m 147 #[iv p0, iv p1, iv p2, iv p3, iv p4, iv x0, iv x1, iv x2, iv x3, iv 1, rv b5, u_, u_, u_] [])) rfl (hb hby at_147) (by decide) (by decide)
   obtain ⟨b7, g7⟩ : ∃ z, z = Array.size h6 := ⟨_, rfl⟩
   have g_b7 : n0 ≤ b7 := Nat.le_trans (old_le O) (Nat.le_of_eq g7.symm)
   have sz_b7 : h0.size ≤ b7 := Nat.le_trans K.1 (Nat.le_of_eq g7.symm)
   have ne_b5_b7 : b5 ≠ b7 := Nat.ne_of_lt (Nat.lt_of_lt_of_le V_b5.lt (Nat.le_of_eq g7.symm))
   rw [← g7] at A7 D7 st7
   have O := O.ext E7
   have hk := Nat.le_trans hk E7.1
   have K := K.ext E7
   have V_b5 := V_b5.ext E7
   have E_b7 := A7
   have F_value_b7 : Fd_5 Z h7 b7 .null := D7 (Or.inr (own_w hw 18 rfl)) (ty := (.array .byte)) (by decide)
   have F_coder_b7 : Fd_6 Z h7 b7 (.int 0) := D7 (Or.inr (own_w hw 19 rfl)) (ty := .byte) (by decide)
   refine Go.step st7 ?_
   refine Go.step (S' := T7.setTop (mkF m 153 #[iv p0, iv p1, iv p2, iv p3, iv p4, iv x0, iv x1, iv x2, iv x3, iv 1, rv b5, u_, u_, u_] [(.ref b5), (.ref b7), (.ref b7)])) (fun t k => ?_) ?_
   · refine XS.dup X7.here hx rfl (hb hby at_150) rfl rfl ?_
     refine XS.aload X7.here hx rfl (hb hby at_151) rfl rfl ?_
     exact k
   refine Go.cI X7 hx hml hown hZ (own_w hw 6 rfl) (own_w hw 7 rfl) (own_w hw 5 rfl) (own_w hw 8 rfl) (rmNSU1 l Z a0 hw [] b7 b5 k5 cs x0 h7 n0 O S_CS S_AD S_HI S_LO E_b7 F_value_b7 F_coder_b7 V_b5 (by assumption) hcs hu rax0 rbx0) 1 [(.ref b7)] pd__28_5bC_29V (hb hby at_153) e7 (fun _ T8 L8 X8 hQ8 => ?_)
   obtain ⟨tb_8, kb_8, rfl, Nq8, K8, P8_E, P8_Fv, P8_Fc, P8_V⟩ := hQ8
   have N8 := Fr.app N6 Nq8
   have O := O.keep K8 (allS g_b7 all0)
   have hk := Nat.le_trans hk K8.1
   have K := K.trans K8 (allS (Or.inr sz_b7) all0)
   have V_b5 := V_b5.keep K8 (ninS ne_b5_b7 nin0)
   have E_b7 := E_b7.keep K8
   have E_8 := P8_E
   have Fv_8 := P8_Fv
   have Fc_8 := P8_Fc
   have V_8 := P8_V
   refine Go.step (S' := T8.setTop (mkF m 166 #[iv p0, iv p1, iv p2, iv p3, iv p4, iv x0, iv x1, iv x2, iv x3, iv 1, rv b5, rv b7, u_, u_] [(.int x0)])) (fun t k => ?_) ?_
   · refine XS.astore X8.here hx rfl (hb hby at_156) rfl rfl (l' := #[iv p0, iv p1, iv p2, iv p3, iv p4, iv x0, iv x1, iv x2, iv x3, iv 1, rv b5, rv b7, u_, u_]) rfl ?_
     refine XS.iload X8.here hx rfl (hb hby at_158) rfl ?_
     refine XS.iconst X8.here hx rfl (hb hby at_160) ?_
     refine XS.icmpNo X8.here hx rfl (hb hby at_161) rfl (flt ((by decide) : ¬ ((1 : Int32) < (1 : Int32)))).1 ?_
     refine XS.iload X8.here hx rfl (hb hby at_164) rfl ?_
     exact k
   by_cases hc166 : x0 = (0 : Int32)
   ·skip
    refine Go.step (S' := T8.setTop (mkF m 223 #[iv p0, iv p1, iv p2, iv p3, iv p4, iv x0, iv x1, iv x2, iv x3, iv 1, rv b5, rv b7, iv 1, iv 0] [(.ref b7)])) (fun t k => ?_) ?_
    · refine XS.ifYes X8.here hx rfl (pc0 := 166) (pc' := 202) rfl (hb hby at_166) rfl ((if0 _ _).trans (teq (hc166 : x0 = (0 : Int32))).1) (by decide) (by decide) ?_
      refine XS.iconst X8.here hx rfl (hb hby at_202) ?_
      refine XS.goto X8.here hx rfl (pc0 := 203) (pc' := 207) rfl (hb hby at_203) (by decide) (by decide) ?_
      refine XS.istore X8.here hx rfl (hb hby at_207) rfl (l' := #[iv p0, iv p1, iv p2, iv p3, iv p4, iv x0, iv x1, iv x2, iv x3, iv 1, rv b5, rv b7, iv 1, u_]) rfl ?_
      refine XS.iload X8.here hx rfl (hb hby at_209) rfl ?_
      refine XS.ifYes X8.here hx rfl (pc0 := 211) (pc' := 218) rfl (hb hby at_211) rfl ((if0 _ _).trans (feq ((by decide) : ¬ ((1 : Int32) = (0 : Int32)))).2) (by decide) (by decide) ?_
      show Steps p.tables e below (T8.setTop (mkF m 218 #[iv p0, iv p1, iv p2, iv p3, iv p4, iv x0, iv x1, iv x2, iv x3, iv 1, rv b5, rv b7, iv 1, u_] [])) _
      refine XS.iconst X8.here hx rfl (hb hby at_218) ?_
      refine XS.istore X8.here hx rfl (hb hby at_219) rfl (l' := #[iv p0, iv p1, iv p2, iv p3, iv p4, iv x0, iv x1, iv x2, iv x3, iv 1, rv b5, rv b7, iv 1, iv 0]) rfl ?_
      refine XS.aload X8.here hx rfl (hb hby at_221) rfl rfl ?_
      exact k
    refine Go.cS X8 hx hml hown hZ (own_w hw 24 rfl) (own_w hw 25 rfl) (own_w hw 26 rfl) (own_w hw 27 rfl) (rmSt1_1 l Z a0 hw [] b7 tb_8 kb_8 x0 cs sf T8.heap n0 O S_CS E_b7 Fv_8 Fc_8 V_8 S_AD S_HI S_LO S_FM hcs hsf rax0 rbx0) 0 [] pd__28Ljava_2flang_2fString_3b_29Z (hb hby at_223) (Eq.refl T8.heap) (fun _ T9 L9 X9 hQ9 => ?_)
    obtain ⟨r_9, rfl, Nq9, e9, ks_9⟩ := hQ9
    have N9 := Fr.app N8 Nq9
    refine Go.step (S' := T9.setTop (mkF m 236 #[iv p0, iv p1, iv p2, iv p3, iv p4, iv x0, iv x1, iv x2, iv x3, iv 1, rv b5, rv b7, iv 1, iv 0] [(.int 1)])) (fun t k => ?_) ?_
    · refine XS.iload X9.here hx rfl (hb hby at_226) rfl ?_
      refine XS.icmpNo X9.here hx rfl (hb hby at_228) rfl (teq ((ks_9.elim (fun q => absurd hc166 q.2) (fun q => q.1)) : r_9 = (0 : Int32))).2 ?_
      refine XS.iconst X9.here hx rfl (hb hby at_231) ?_
      refine XS.goto X9.here hx rfl (pc0 := 232) (pc' := 236) rfl (hb hby at_232) (by decide) (by decide) ?_
      exact k
    obtain ⟨fs, hr, hrun, hended, hR⟩ := X9.leaveW hS (by rw [e9]; exact hk) (v := some (.int 1)) (fun h => by rw [Bd.returns] at h; cases h)
    refine Go.fin (S' := T9.setFrames fs) ?_ hrun hended ⟨_, _, rfl, ?_, hR.1, hR.2.1, hR.2.2.1, hR.2.2.2.mono (by decide) (by decide)⟩
    · exact retOut X9 hx Bd.returns (by decide) (Or.inl ⟨rfl, Or.inr (Or.inl rfl), _, rfl⟩) (hb hby at_236) hr
    · show Q_rm0 Z p0 p1 p2 p3 p4 cs sf h0 n0 (some (.int 1)) T9.heap _
      rw [e9]
      exact ⟨rfl, N9, K⟩
   ·skip
    refine Go.step (S' := T8.setTop (mkF m 223 #[iv p0, iv p1, iv p2, iv p3, iv p4, iv x0, iv x1, iv x2, iv x3, iv 1, rv b5, rv b7, iv 0, iv 1] [(.ref b7)])) (fun t k => ?_) ?_
    · refine XS.ifNo X8.here hx rfl (hb hby at_166) rfl ((if0 _ _).trans (feq (hc166 : ¬ (x0 = (0 : Int32)))).1) ?_
      refine XS.iload X8.here hx rfl (hb hby at_169) rfl ?_
      refine XS.iconst X8.here hx rfl (hb hby at_171) ?_
      refine XS.icmpYes X8.here hx rfl (pc0 := 172) (pc' := 180) rfl (hb hby at_172) rfl (tlt ((by decide) : (1 : Int32) < (2 : Int32))).1 (by decide) (by decide) ?_
      refine XS.iload X8.here hx rfl (hb hby at_180) rfl ?_
      refine XS.iconst X8.here hx rfl (hb hby at_182) ?_
      show Steps p.tables e below (T8.setTop (mkF m 183 #[iv p0, iv p1, iv p2, iv p3, iv p4, iv x0, iv x1, iv x2, iv x3, iv 1, rv b5, rv b7, u_, u_] [(.int 3), (.int 1)])) _
      refine XS.icmpYes X8.here hx rfl (pc0 := 183) (pc' := 191) rfl (hb hby at_183) rfl (tlt ((by decide) : (1 : Int32) < (3 : Int32))).1 (by decide) (by decide) ?_
      refine XS.iload X8.here hx rfl (hb hby at_191) rfl ?_
      refine XS.iconst X8.here hx rfl (hb hby at_193) ?_
      refine XS.icmpYes X8.here hx rfl (pc0 := 194) (pc' := 206) rfl (hb hby at_194) rfl (tlt ((by decide) : (1 : Int32) < (4 : Int32))).1 (by decide) (by decide) ?_
      refine XS.iconst X8.here hx rfl (hb hby at_206) ?_
      refine XS.istore X8.here hx rfl (hb hby at_207) rfl (l' := #[iv p0, iv p1, iv p2, iv p3, iv p4, iv x0, iv x1, iv x2, iv x3, iv 1, rv b5, rv b7, iv 0, u_]) rfl ?_
      show Steps p.tables e below (T8.setTop (mkF m 209 #[iv p0, iv p1, iv p2, iv p3, iv p4, iv x0, iv x1, iv x2, iv x3, iv 1, rv b5, rv b7, iv 0, u_] [])) _
      refine XS.iload X8.here hx rfl (hb hby at_209) rfl ?_
      refine XS.ifNo X8.here hx rfl (hb hby at_211) rfl ((if0 _ _).trans (teq ((by decide) : (0 : Int32) = (0 : Int32))).2) ?_
      refine XS.iconst X8.here hx rfl (hb hby at_214) ?_
      refine XS.goto X8.here hx rfl (pc0 := 215) (pc' := 219) rfl (hb hby at_215) (by decide) (by decide) ?_
      refine XS.istore X8.here hx rfl (hb hby at_219) rfl (l' := #[iv p0, iv p1, iv p2, iv p3, iv p4, iv x0, iv x1, iv x2, iv x3, iv 1, rv b5, rv b7, iv 0, iv 1]) rfl ?_
      refine XS.aload X8.here hx rfl (hb hby at_221) rfl rfl ?_
      exact k
    refine Go.cS X8 hx hml hown hZ (own_w hw 24 rfl) (own_w hw 25 rfl) (own_w hw 26 rfl) (own_w hw 27 rfl) (rmSt1_1 l Z a0 hw [] b7 tb_8 kb_8 x0 cs sf T8.heap n0 O S_CS E_b7 Fv_8 Fc_8 V_8 S_AD S_HI S_LO S_FM hcs hsf rax0 rbx0) 0 [] pd__28Ljava_2flang_2fString_3b_29Z (hb hby at_223) (Eq.refl T8.heap) (fun _ T10 L10 X10 hQ10 => ?_)
    obtain ⟨r_10, rfl, Nq10, e10, ks_10⟩ := hQ10
    have N10 := Fr.app N8 Nq10
    refine Go.step (S' := T10.setTop (mkF m 236 #[iv p0, iv p1, iv p2, iv p3, iv p4, iv x0, iv x1, iv x2, iv x3, iv 1, rv b5, rv b7, iv 0, iv 1] [(.int 1)])) (fun t k => ?_) ?_
    · refine XS.iload X10.here hx rfl (hb hby at_226) rfl ?_
      refine XS.icmpNo X10.here hx rfl (hb hby at_228) rfl (teq ((ks_10.elim (fun q => q.1) (fun q => absurd hc166 q.2)) : r_10 = (1 : Int32))).2 ?_
      refine XS.iconst X10.here hx rfl (hb hby at_231) ?_
      refine XS.goto X10.here hx rfl (pc0 := 232) (pc' := 236) rfl (hb hby at_232) (by decide) (by decide) ?_
      exact k
    obtain ⟨fs, hr, hrun, hended, hR⟩ := X10.leaveW hS (by rw [e10]; exact hk) (v := some (.int 1)) (fun h => by rw [Bd.returns] at h; cases h)
    refine Go.fin (S' := T10.setFrames fs) ?_ hrun hended ⟨_, _, rfl, ?_, hR.1, hR.2.1, hR.2.2.1, hR.2.2.2.mono (by decide) (by decide)⟩
    · exact retOut X10 hx Bd.returns (by decide) (Or.inl ⟨rfl, Or.inr (Or.inl rfl), _, rfl⟩) (hb hby at_236) hr
    · show Q_rm0 Z p0 p1 p2 p3 p4 cs sf h0 n0 (some (.int 1)) T10.heap _
      rw [e10]
      exact ⟨rfl, N10, K⟩
  ·skip
   have hu0 : ¬ ((255 : Int32) < x0) := fun q => hu q
   obtain ⟨T11, h11, X11, e11, E11, A11, D11, -, st11⟩ := newO X6 hx hZ hown (own_w hw 3 rfl) (own_w hw 4 rfl) (own_w hw 5 rfl) e6 (g := (mkF m 147 #[iv p0, iv p1, iv p2, iv p3, iv p4, iv x0, iv x1, iv x2, iv x3, iv 1, rv b5, u_, u_, u_] [])) rfl (hb hby at_147) (by decide) (by decide)
   obtain ⟨b11, g11⟩ : ∃ z, z = Array.size h6 := ⟨_, rfl⟩
   have g_b11 : n0 ≤ b11 := Nat.le_trans (old_le O) (Nat.le_of_eq g11.symm)
   have sz_b11 : h0.size ≤ b11 := Nat.le_trans K.1 (Nat.le_of_eq g11.symm)
   have ne_b5_b11 : b5 ≠ b11 := Nat.ne_of_lt (Nat.lt_of_lt_of_le V_b5.lt (Nat.le_of_eq g11.symm))
   rw [← g11] at A11 D11 st11
   have O := O.ext E11
   have hk := Nat.le_trans hk E11.1
   have K := K.ext E11
   have V_b5 := V_b5.ext E11
   have E_b11 := A11
   have F_value_b11 : Fd_5 Z h11 b11 .null := D11 (Or.inr (own_w hw 18 rfl)) (ty := (.array .byte)) (by decide)
   have F_coder_b11 : Fd_6 Z h11 b11 (.int 0) := D11 (Or.inr (own_w hw 19 rfl)) (ty := .byte) (by decide)
   refine Go.step st11 ?_
   refine Go.step (S' := T11.setTop (mkF m 153 #[iv p0, iv p1, iv p2, iv p3, iv p4, iv x0, iv x1, iv x2, iv x3, iv 1, rv b5, u_, u_, u_] [(.ref b5), (.ref b11), (.ref b11)])) (fun t k => ?_) ?_
   · refine XS.dup X11.here hx rfl (hb hby at_150) rfl rfl ?_
     refine XS.aload X11.here hx rfl (hb hby at_151) rfl rfl ?_
     exact k
   refine Go.cI X11 hx hml hown hZ (own_w hw 6 rfl) (own_w hw 7 rfl) (own_w hw 5 rfl) (own_w hw 8 rfl) (rmNS1 l Z a0 hw [] b11 b5 k5 cs x0 h11 n0 O S_CS E_b11 F_value_b11 F_coder_b11 V_b5 (by assumption) hcs hu0) 1 [(.ref b11)] pd__28_5bC_29V (hb hby at_153) e11 (fun _ T12 L12 X12 hQ12 => ?_)
   obtain ⟨tb_12, kb_12, rfl, Nq12, K12, P12_E, P12_Fv, P12_Fc, P12_V⟩ := hQ12
   have N12 := Fr.app N6 Nq12
   have O := O.keep K12 (allS g_b11 all0)
   have hk := Nat.le_trans hk K12.1
   have K := K.trans K12 (allS (Or.inr sz_b11) all0)
   have V_b5 := V_b5.keep K12 (ninS ne_b5_b11 nin0)
   have E_b11 := E_b11.keep K12
   have E_12 := P12_E
   have Fv_12 := P12_Fv
   have Fc_12 := P12_Fc
   have V_12 := P12_V
   refine Go.step (S' := T12.setTop (mkF m 166 #[iv p0, iv p1, iv p2, iv p3, iv p4, iv x0, iv x1, iv x2, iv x3, iv 1, rv b5, rv b11, u_, u_] [(.int x0)])) (fun t k => ?_) ?_
   · refine XS.astore X12.here hx rfl (hb hby at_156) rfl rfl (l' := #[iv p0, iv p1, iv p2, iv p3, iv p4, iv x0, iv x1, iv x2, iv x3, iv 1, rv b5, rv b11, u_, u_]) rfl ?_
     refine XS.iload X12.here hx rfl (hb hby at_158) rfl ?_
     refine XS.iconst X12.here hx rfl (hb hby at_160) ?_
     refine XS.icmpNo X12.here hx rfl (hb hby at_161) rfl (flt ((by decide) : ¬ ((1 : Int32) < (1 : Int32)))).1 ?_
     refine XS.iload X12.here hx rfl (hb hby at_164) rfl ?_
     exact k
   by_cases hc166 : x0 = (0 : Int32)
   ·skip
    refine Go.step (S' := T12.setTop (mkF m 223 #[iv p0, iv p1, iv p2, iv p3, iv p4, iv x0, iv x1, iv x2, iv x3, iv 1, rv b5, rv b11, iv 1, iv 0] [(.ref b11)])) (fun t k => ?_) ?_
    · refine XS.ifYes X12.here hx rfl (pc0 := 166) (pc' := 202) rfl (hb hby at_166) rfl ((if0 _ _).trans (teq (hc166 : x0 = (0 : Int32))).1) (by decide) (by decide) ?_
      refine XS.iconst X12.here hx rfl (hb hby at_202) ?_
      refine XS.goto X12.here hx rfl (pc0 := 203) (pc' := 207) rfl (hb hby at_203) (by decide) (by decide) ?_
      refine XS.istore X12.here hx rfl (hb hby at_207) rfl (l' := #[iv p0, iv p1, iv p2, iv p3, iv p4, iv x0, iv x1, iv x2, iv x3, iv 1, rv b5, rv b11, iv 1, u_]) rfl ?_
      refine XS.iload X12.here hx rfl (hb hby at_209) rfl ?_
      refine XS.ifYes X12.here hx rfl (pc0 := 211) (pc' := 218) rfl (hb hby at_211) rfl ((if0 _ _).trans (feq ((by decide) : ¬ ((1 : Int32) = (0 : Int32)))).2) (by decide) (by decide) ?_
      show Steps p.tables e below (T12.setTop (mkF m 218 #[iv p0, iv p1, iv p2, iv p3, iv p4, iv x0, iv x1, iv x2, iv x3, iv 1, rv b5, rv b11, iv 1, u_] [])) _
      refine XS.iconst X12.here hx rfl (hb hby at_218) ?_
      refine XS.istore X12.here hx rfl (hb hby at_219) rfl (l' := #[iv p0, iv p1, iv p2, iv p3, iv p4, iv x0, iv x1, iv x2, iv x3, iv 1, rv b5, rv b11, iv 1, iv 0]) rfl ?_
      refine XS.aload X12.here hx rfl (hb hby at_221) rfl rfl ?_
      exact k
    refine Go.cS X12 hx hml hown hZ (own_w hw 24 rfl) (own_w hw 25 rfl) (own_w hw 26 rfl) (own_w hw 27 rfl) (rmSt1_0 l Z a0 hw [] b11 tb_12 kb_12 x0 cs T12.heap n0 O S_CS E_b11 Fv_12 Fc_12 V_12 hcs) 0 [] pd__28Ljava_2flang_2fString_3b_29Z (hb hby at_223) (Eq.refl T12.heap) (fun _ T13 L13 X13 hQ13 => ?_)
    obtain ⟨r_13, rfl, Nq13, e13, ks_13⟩ := hQ13
    have N13 := Fr.app N12 Nq13
    refine Go.step (S' := T13.setTop (mkF m 236 #[iv p0, iv p1, iv p2, iv p3, iv p4, iv x0, iv x1, iv x2, iv x3, iv 1, rv b5, rv b11, iv 1, iv 0] [(.int 1)])) (fun t k => ?_) ?_
    · refine XS.iload X13.here hx rfl (hb hby at_226) rfl ?_
      refine XS.icmpNo X13.here hx rfl (hb hby at_228) rfl (teq ((ks_13.elim (fun q => absurd (own_bz0 hc166) q.2) (fun q => q.1)) : r_13 = (0 : Int32))).2 ?_
      refine XS.iconst X13.here hx rfl (hb hby at_231) ?_
      refine XS.goto X13.here hx rfl (pc0 := 232) (pc' := 236) rfl (hb hby at_232) (by decide) (by decide) ?_
      exact k
    obtain ⟨fs, hr, hrun, hended, hR⟩ := X13.leaveW hS (by rw [e13]; exact hk) (v := some (.int 1)) (fun h => by rw [Bd.returns] at h; cases h)
    refine Go.fin (S' := T13.setFrames fs) ?_ hrun hended ⟨_, _, rfl, ?_, hR.1, hR.2.1, hR.2.2.1, hR.2.2.2.mono (by decide) (by decide)⟩
    · exact retOut X13 hx Bd.returns (by decide) (Or.inl ⟨rfl, Or.inr (Or.inl rfl), _, rfl⟩) (hb hby at_236) hr
    · show Q_rm0 Z p0 p1 p2 p3 p4 cs sf h0 n0 (some (.int 1)) T13.heap _
      rw [e13]
      exact ⟨rfl, N13, K⟩
   ·skip
    refine Go.step (S' := T12.setTop (mkF m 223 #[iv p0, iv p1, iv p2, iv p3, iv p4, iv x0, iv x1, iv x2, iv x3, iv 1, rv b5, rv b11, iv 0, iv 1] [(.ref b11)])) (fun t k => ?_) ?_
    · refine XS.ifNo X12.here hx rfl (hb hby at_166) rfl ((if0 _ _).trans (feq (hc166 : ¬ (x0 = (0 : Int32)))).1) ?_
      refine XS.iload X12.here hx rfl (hb hby at_169) rfl ?_
      refine XS.iconst X12.here hx rfl (hb hby at_171) ?_
      refine XS.icmpYes X12.here hx rfl (pc0 := 172) (pc' := 180) rfl (hb hby at_172) rfl (tlt ((by decide) : (1 : Int32) < (2 : Int32))).1 (by decide) (by decide) ?_
      refine XS.iload X12.here hx rfl (hb hby at_180) rfl ?_
      refine XS.iconst X12.here hx rfl (hb hby at_182) ?_
      show Steps p.tables e below (T12.setTop (mkF m 183 #[iv p0, iv p1, iv p2, iv p3, iv p4, iv x0, iv x1, iv x2, iv x3, iv 1, rv b5, rv b11, u_, u_] [(.int 3), (.int 1)])) _
      refine XS.icmpYes X12.here hx rfl (pc0 := 183) (pc' := 191) rfl (hb hby at_183) rfl (tlt ((by decide) : (1 : Int32) < (3 : Int32))).1 (by decide) (by decide) ?_
      refine XS.iload X12.here hx rfl (hb hby at_191) rfl ?_
      refine XS.iconst X12.here hx rfl (hb hby at_193) ?_
      refine XS.icmpYes X12.here hx rfl (pc0 := 194) (pc' := 206) rfl (hb hby at_194) rfl (tlt ((by decide) : (1 : Int32) < (4 : Int32))).1 (by decide) (by decide) ?_
      refine XS.iconst X12.here hx rfl (hb hby at_206) ?_
      refine XS.istore X12.here hx rfl (hb hby at_207) rfl (l' := #[iv p0, iv p1, iv p2, iv p3, iv p4, iv x0, iv x1, iv x2, iv x3, iv 1, rv b5, rv b11, iv 0, u_]) rfl ?_
      show Steps p.tables e below (T12.setTop (mkF m 209 #[iv p0, iv p1, iv p2, iv p3, iv p4, iv x0, iv x1, iv x2, iv x3, iv 1, rv b5, rv b11, iv 0, u_] [])) _
      refine XS.iload X12.here hx rfl (hb hby at_209) rfl ?_
      refine XS.ifNo X12.here hx rfl (hb hby at_211) rfl ((if0 _ _).trans (teq ((by decide) : (0 : Int32) = (0 : Int32))).2) ?_
      refine XS.iconst X12.here hx rfl (hb hby at_214) ?_
      refine XS.goto X12.here hx rfl (pc0 := 215) (pc' := 219) rfl (hb hby at_215) (by decide) (by decide) ?_
      refine XS.istore X12.here hx rfl (hb hby at_219) rfl (l' := #[iv p0, iv p1, iv p2, iv p3, iv p4, iv x0, iv x1, iv x2, iv x3, iv 1, rv b5, rv b11, iv 0, iv 1]) rfl ?_
      refine XS.aload X12.here hx rfl (hb hby at_221) rfl rfl ?_
      exact k
    refine Go.cS X12 hx hml hown hZ (own_w hw 24 rfl) (own_w hw 25 rfl) (own_w hw 26 rfl) (own_w hw 27 rfl) (rmSt1_0 l Z a0 hw [] b11 tb_12 kb_12 x0 cs T12.heap n0 O S_CS E_b11 Fv_12 Fc_12 V_12 hcs) 0 [] pd__28Ljava_2flang_2fString_3b_29Z (hb hby at_223) (Eq.refl T12.heap) (fun _ T14 L14 X14 hQ14 => ?_)
    obtain ⟨r_14, rfl, Nq14, e14, ks_14⟩ := hQ14
    have N14 := Fr.app N12 Nq14
    refine Go.step (S' := T14.setTop (mkF m 236 #[iv p0, iv p1, iv p2, iv p3, iv p4, iv x0, iv x1, iv x2, iv x3, iv 1, rv b5, rv b11, iv 0, iv 1] [(.int 1)])) (fun t k => ?_) ?_
    · refine XS.iload X14.here hx rfl (hb hby at_226) rfl ?_
      refine XS.icmpNo X14.here hx rfl (hb hby at_228) rfl (teq ((ks_14.elim (fun q => q.1) (fun q => absurd (own_bz rax0 hu0 hc166) q.2)) : r_14 = (1 : Int32))).2 ?_
      refine XS.iconst X14.here hx rfl (hb hby at_231) ?_
      refine XS.goto X14.here hx rfl (pc0 := 232) (pc' := 236) rfl (hb hby at_232) (by decide) (by decide) ?_
      exact k
    obtain ⟨fs, hr, hrun, hended, hR⟩ := X14.leaveW hS (by rw [e14]; exact hk) (v := some (.int 1)) (fun h => by rw [Bd.returns] at h; cases h)
    refine Go.fin (S' := T14.setFrames fs) ?_ hrun hended ⟨_, _, rfl, ?_, hR.1, hR.2.1, hR.2.2.1, hR.2.2.2.mono (by decide) (by decide)⟩
    · exact retOut X14 hx Bd.returns (by decide) (Or.inl ⟨rfl, Or.inr (Or.inl rfl), _, rfl⟩) (hb hby at_236) hr
    · show Q_rm0 Z p0 p1 p2 p3 p4 cs sf h0 n0 (some (.int 1)) T14.heap _
      rw [e14]
      exact ⟨rfl, N14, K⟩
 ·skip
  show Go p e below _ (s₁.setTop (mkF m 37 #[iv p0, iv p1, iv p2, iv p3, iv p4, iv x0, iv x1, iv x2, iv x3, iv ((p4 &&& (2147483647 : Int32)) % (5 : Int32)), u_, u_, u_, u_] []))
  rw [(hn5 : ((p4 &&& (2147483647 : Int32)) % (5 : Int32)) = (2 : Int32))]
  show Go p e below _ (s₁.setTop (mkF m 37 #[iv p0, iv p1, iv p2, iv p3, iv p4, iv x0, iv x1, iv x2, iv x3, iv 2, u_, u_, u_, u_] []))
  refine Go.step (S' := s₁.setTop (mkF m 76 #[iv p0, iv p1, iv p2, iv p3, iv p4, iv x0, iv x1, iv x2, iv x3, iv 2, u_, u_, u_, u_] [(.int 2)])) (fun t k => ?_) ?_
  · refine XS.iload X0.here hx rfl (hb hby at_37) rfl ?_
    refine XS.ifYes X0.here hx rfl (pc0 := 39) (pc' := 50) rfl (hb hby at_39) rfl ((if0 _ _).trans (feq ((by decide) : ¬ ((2 : Int32) = (0 : Int32)))).2) (by decide) (by decide) ?_
    refine XS.iload X0.here hx rfl (hb hby at_50) rfl ?_
    refine XS.iconst X0.here hx rfl (hb hby at_52) ?_
    refine XS.icmpYes X0.here hx rfl (pc0 := 53) (pc' := 69) rfl (hb hby at_53) rfl (feq ((by decide) : ¬ ((2 : Int32) = (1 : Int32)))).2 (by decide) (by decide) ?_
    refine XS.iload X0.here hx rfl (hb hby at_69) rfl ?_
    show Steps p.tables e below (s₁.setTop (mkF m 71 #[iv p0, iv p1, iv p2, iv p3, iv p4, iv x0, iv x1, iv x2, iv x3, iv 2, u_, u_, u_, u_] [(.int 2)])) _
    refine XS.iconst X0.here hx rfl (hb hby at_71) ?_
    refine XS.icmpNo X0.here hx rfl (hb hby at_72) rfl (teq ((by decide) : (2 : Int32) = (2 : Int32))).2 ?_
    refine XS.iconst X0.here hx rfl (hb hby at_75) ?_
    exact k
  obtain ⟨T15, h15, k15, X15, e15, E15, A15, st15⟩ := newP X0 hx hZ (own_w hw 2 rfl) e0 (g := (mkF m 76 #[iv p0, iv p1, iv p2, iv p3, iv p4, iv x0, iv x1, iv x2, iv x3, iv 2, u_, u_, u_, u_] [(.int 2)])) rfl (hb hby at_76) rfl (by decide) (cap := 2) (by decide) (by decide) (by decide) (by decide)
  obtain ⟨b15, g15⟩ : ∃ z, z = Array.size h0 := ⟨_, rfl⟩
  have g_b15 : n0 ≤ b15 := Nat.le_trans (old_le O) (Nat.le_of_eq g15.symm)
  have sz_b15 : h0.size ≤ b15 := Nat.le_trans K.1 (Nat.le_of_eq g15.symm)
  rw [← g15] at A15 st15
  have O := O.ext E15
  have CH := CHv.ext E15 CH
  have hk := Nat.le_trans hk E15.1
  have K := K.ext E15
  have V_b15 : Arv Z h15 b15 k15 .char (2 : Int32) [(.int 0), (.int 0)] (.int 0) := (Arv.new A15 (by decide)).pad (pad_rep [] (.int 0) 2)
  refine Go.step st15 ?_
  refine Go.step (S' := T15.setTop (mkF m 82 #[iv p0, iv p1, iv p2, iv p3, iv p4, iv x0, iv x1, iv x2, iv x3, iv 2, u_, u_, u_, u_] [(.int x0), (.int 0), (.ref b15), (.ref b15)])) (fun t k => ?_) ?_
  · refine XS.dup X15.here hx rfl (hb hby at_78) rfl rfl ?_
    refine XS.iconst X15.here hx rfl (hb hby at_79) ?_
    refine XS.iload X15.here hx rfl (hb hby at_80) rfl ?_
    exact k
  obtain ⟨cl16, Ar16, q16, S16, N16_, H16, G16⟩ := V_b15
  have hin16 : ¬ ((0 : Int32) < 0 ∨ cl16.slots.size ≤ ((0 : Int32)).toNatClampNeg) := inb_of S16 ⟨by decide, by decide⟩
  obtain ⟨T16, h16, X16, e16, W16, st16⟩ := stC X15 hx hZ e15 Ar16 (j := (0 : Int32)) hin16 (g := (mkF m 82 #[iv p0, iv p1, iv p2, iv p3, iv p4, iv x0, iv x1, iv x2, iv x3, iv 2, u_, u_, u_, u_] [(.int x0), (.int 0), (.ref b15), (.ref b15)])) rfl rfl (hb hby at_82)
  have O := O.wr W16 g_b15
  have hk := Nat.le_trans hk (Keep.of_wr W16).1
  have K := K.wr W16 (Or.inr sz_b15)
  have V_b15 : Arv Z h16 b15 k15 .char (2 : Int32) [(.int (x0.toUInt32.toUInt16.toUInt32.toInt32)), (.int 0)] (.int 0) := Arv.set Ar16 q16 S16 N16_ H16 G16 (fits_nar_char _) W16 0 rfl (Nat.le_of_ble_eq_true rfl)
  rw [(own_cx rax0 rbx0 : (x0.toUInt32.toUInt16.toUInt32.toInt32) = x0)] at V_b15
  have N16 := Fr.snoc X16 N0 g_b15
  refine Go.step st16 ?_
  refine Go.step (S' := T16.setTop (mkF m 87 #[iv p0, iv p1, iv p2, iv p3, iv p4, iv x0, iv x1, iv x2, iv x3, iv 2, u_, u_, u_, u_] [(.int x1), (.int 1), (.ref b15), (.ref b15)])) (fun t k => ?_) ?_
  · refine XS.dup X16.here hx rfl (hb hby at_83) rfl rfl ?_
    refine XS.iconst X16.here hx rfl (hb hby at_84) ?_
    refine XS.iload X16.here hx rfl (hb hby at_85) rfl ?_
    exact k
  obtain ⟨cl17, Ar17, q17, S17, N17_, H17, G17⟩ := V_b15
  have hin17 : ¬ ((1 : Int32) < 0 ∨ cl17.slots.size ≤ ((1 : Int32)).toNatClampNeg) := inb_of S17 ⟨by decide, by decide⟩
  obtain ⟨T17, h17, X17, e17, W17, st17⟩ := stC X16 hx hZ e16 Ar17 (j := (1 : Int32)) hin17 (g := (mkF m 87 #[iv p0, iv p1, iv p2, iv p3, iv p4, iv x0, iv x1, iv x2, iv x3, iv 2, u_, u_, u_, u_] [(.int x1), (.int 1), (.ref b15), (.ref b15)])) rfl rfl (hb hby at_87)
  have O := O.wr W17 g_b15
  have hk := Nat.le_trans hk (Keep.of_wr W17).1
  have K := K.wr W17 (Or.inr sz_b15)
  have V_b15 : Arv Z h17 b15 k15 .char (2 : Int32) [(.int x0), (.int (x1.toUInt32.toUInt16.toUInt32.toInt32))] (.int 0) := Arv.set Ar17 q17 S17 N17_ H17 G17 (fits_nar_char _) W17 1 rfl (Nat.le_of_ble_eq_true rfl)
  rw [(own_cx rax1 rbx1 : (x1.toUInt32.toUInt16.toUInt32.toInt32) = x1)] at V_b15
  have N17 := Fr.snoc X17 N16 g_b15
  refine Go.step st17 ?_
  refine Go.step (S' := T17.setTop (mkF m 147 #[iv p0, iv p1, iv p2, iv p3, iv p4, iv x0, iv x1, iv x2, iv x3, iv 2, rv b15, u_, u_, u_] [])) (fun t k => ?_) ?_
  · refine XS.astore X17.here hx rfl (hb hby at_88) rfl rfl (l' := #[iv p0, iv p1, iv p2, iv p3, iv p4, iv x0, iv x1, iv x2, iv x3, iv 2, rv b15, u_, u_, u_]) rfl ?_
    refine XS.goto X17.here hx rfl (pc0 := 90) (pc' := 147) rfl (hb hby at_90) (by decide) (by decide) ?_
    exact k
  by_cases hu : ((255 : Int32) < x0) ∨ ((255 : Int32) < x1)
  ·skip
   obtain ⟨T18, h18, X18, e18, E18, A18, D18, -, st18⟩ := newO X17 hx hZ hown (own_w hw 3 rfl) (own_w hw 4 rfl) (own_w hw 5 rfl) e17 (g := (mkF m 147 #[iv p0, iv p1, iv p2, iv p3, iv p4, iv x0, iv x1, iv x2, iv x3, iv 2, rv b15, u_, u_, u_] [])) rfl (hb hby at_147) (by decide) (by decide)
   obtain ⟨b18, g18⟩ : ∃ z, z = Array.size h17 := ⟨_, rfl⟩
   have g_b18 : n0 ≤ b18 := Nat.le_trans (old_le O) (Nat.le_of_eq g18.symm)
   have sz_b18 : h0.size ≤ b18 := Nat.le_trans K.1 (Nat.le_of_eq g18.symm)
   have ne_b15_b18 : b15 ≠ b18 := Nat.ne_of_lt (Nat.lt_of_lt_of_le V_b15.lt (Nat.le_of_eq g18.symm))
   rw [← g18] at A18 D18 st18
   have O := O.ext E18
   have hk := Nat.le_trans hk E18.1
   have K := K.ext E18
   have V_b15 := V_b15.ext E18
   have E_b18 := A18
   have F_value_b18 : Fd_5 Z h18 b18 .null := D18 (Or.inr (own_w hw 18 rfl)) (ty := (.array .byte)) (by decide)
   have F_coder_b18 : Fd_6 Z h18 b18 (.int 0) := D18 (Or.inr (own_w hw 19 rfl)) (ty := .byte) (by decide)
   refine Go.step st18 ?_
   refine Go.step (S' := T18.setTop (mkF m 153 #[iv p0, iv p1, iv p2, iv p3, iv p4, iv x0, iv x1, iv x2, iv x3, iv 2, rv b15, u_, u_, u_] [(.ref b15), (.ref b18), (.ref b18)])) (fun t k => ?_) ?_
   · refine XS.dup X18.here hx rfl (hb hby at_150) rfl rfl ?_
     refine XS.aload X18.here hx rfl (hb hby at_151) rfl rfl ?_
     exact k
   refine Go.cI X18 hx hml hown hZ (own_w hw 6 rfl) (own_w hw 7 rfl) (own_w hw 5 rfl) (own_w hw 8 rfl) (rmNSU2 l Z a0 hw [] b18 b15 k15 cs x0 x1 h18 n0 O S_CS S_AD S_HI S_LO E_b18 F_value_b18 F_coder_b18 V_b15 (by assumption) hcs hu rax0 rbx0 rax1 rbx1) 1 [(.ref b18)] pd__28_5bC_29V (hb hby at_153) e18 (fun _ T19 L19 X19 hQ19 => ?_)
   obtain ⟨tb_19, kb_19, rfl, Nq19, K19, P19_E, P19_Fv, P19_Fc, P19_V⟩ := hQ19
   have N19 := Fr.app N17 Nq19
   have O := O.keep K19 (allS g_b18 all0)
   have hk := Nat.le_trans hk K19.1
   have K := K.trans K19 (allS (Or.inr sz_b18) all0)
   have V_b15 := V_b15.keep K19 (ninS ne_b15_b18 nin0)
   have E_b18 := E_b18.keep K19
   have E_19 := P19_E
   have Fv_19 := P19_Fv
   have Fc_19 := P19_Fc
   have V_19 := P19_V
   refine Go.step (S' := T19.setTop (mkF m 166 #[iv p0, iv p1, iv p2, iv p3, iv p4, iv x0, iv x1, iv x2, iv x3, iv 2, rv b15, rv b18, u_, u_] [(.int x0)])) (fun t k => ?_) ?_
   · refine XS.astore X19.here hx rfl (hb hby at_156) rfl rfl (l' := #[iv p0, iv p1, iv p2, iv p3, iv p4, iv x0, iv x1, iv x2, iv x3, iv 2, rv b15, rv b18, u_, u_]) rfl ?_
     refine XS.iload X19.here hx rfl (hb hby at_158) rfl ?_
     refine XS.iconst X19.here hx rfl (hb hby at_160) ?_
     refine XS.icmpNo X19.here hx rfl (hb hby at_161) rfl (flt ((by decide) : ¬ ((2 : Int32) < (1 : Int32)))).1 ?_
     refine XS.iload X19.here hx rfl (hb hby at_164) rfl ?_
     exact k
   by_cases hc166 : x0 = (0 : Int32)
   ·skip
    refine Go.step (S' := T19.setTop (mkF m 223 #[iv p0, iv p1, iv p2, iv p3, iv p4, iv x0, iv x1, iv x2, iv x3, iv 2, rv b15, rv b18, iv 1, iv 0] [(.ref b18)])) (fun t k => ?_) ?_
    · refine XS.ifYes X19.here hx rfl (pc0 := 166) (pc' := 202) rfl (hb hby at_166) rfl ((if0 _ _).trans (teq (hc166 : x0 = (0 : Int32))).1) (by decide) (by decide) ?_
      refine XS.iconst X19.here hx rfl (hb hby at_202) ?_
      refine XS.goto X19.here hx rfl (pc0 := 203) (pc' := 207) rfl (hb hby at_203) (by decide) (by decide) ?_
      refine XS.istore X19.here hx rfl (hb hby at_207) rfl (l' := #[iv p0, iv p1, iv p2, iv p3, iv p4, iv x0, iv x1, iv x2, iv x3, iv 2, rv b15, rv b18, iv 1, u_]) rfl ?_
      refine XS.iload X19.here hx rfl (hb hby at_209) rfl ?_
      refine XS.ifYes X19.here hx rfl (pc0 := 211) (pc' := 218) rfl (hb hby at_211) rfl ((if0 _ _).trans (feq ((by decide) : ¬ ((1 : Int32) = (0 : Int32)))).2) (by decide) (by decide) ?_
      show Steps p.tables e below (T19.setTop (mkF m 218 #[iv p0, iv p1, iv p2, iv p3, iv p4, iv x0, iv x1, iv x2, iv x3, iv 2, rv b15, rv b18, iv 1, u_] [])) _
      refine XS.iconst X19.here hx rfl (hb hby at_218) ?_
      refine XS.istore X19.here hx rfl (hb hby at_219) rfl (l' := #[iv p0, iv p1, iv p2, iv p3, iv p4, iv x0, iv x1, iv x2, iv x3, iv 2, rv b15, rv b18, iv 1, iv 0]) rfl ?_
      refine XS.aload X19.here hx rfl (hb hby at_221) rfl rfl ?_
      exact k
    refine Go.cS X19 hx hml hown hZ (own_w hw 24 rfl) (own_w hw 25 rfl) (own_w hw 26 rfl) (own_w hw 27 rfl) (rmSt2_1 l Z a0 hw [] b18 tb_19 kb_19 x0 x1 cs sf T19.heap n0 O S_CS E_b18 Fv_19 Fc_19 V_19 S_AD S_HI S_LO S_FM hcs hsf rax0 rbx0 rax1 rbx1) 0 [] pd__28Ljava_2flang_2fString_3b_29Z (hb hby at_223) (Eq.refl T19.heap) (fun _ T20 L20 X20 hQ20 => ?_)
    obtain ⟨r_20, rfl, Nq20, e20, ks_20⟩ := hQ20
    have N20 := Fr.app N19 Nq20
    refine Go.step (S' := T20.setTop (mkF m 236 #[iv p0, iv p1, iv p2, iv p3, iv p4, iv x0, iv x1, iv x2, iv x3, iv 2, rv b15, rv b18, iv 1, iv 0] [(.int 1)])) (fun t k => ?_) ?_
    · refine XS.iload X20.here hx rfl (hb hby at_226) rfl ?_
      refine XS.icmpNo X20.here hx rfl (hb hby at_228) rfl (teq ((ks_20.elim (fun q => absurd hc166 q.2.1) (fun q => q.1)) : r_20 = (0 : Int32))).2 ?_
      refine XS.iconst X20.here hx rfl (hb hby at_231) ?_
      refine XS.goto X20.here hx rfl (pc0 := 232) (pc' := 236) rfl (hb hby at_232) (by decide) (by decide) ?_
      exact k
    obtain ⟨fs, hr, hrun, hended, hR⟩ := X20.leaveW hS (by rw [e20]; exact hk) (v := some (.int 1)) (fun h => by rw [Bd.returns] at h; cases h)
    refine Go.fin (S' := T20.setFrames fs) ?_ hrun hended ⟨_, _, rfl, ?_, hR.1, hR.2.1, hR.2.2.1, hR.2.2.2.mono (by decide) (by decide)⟩
    · exact retOut X20 hx Bd.returns (by decide) (Or.inl ⟨rfl, Or.inr (Or.inl rfl), _, rfl⟩) (hb hby at_236) hr
    · show Q_rm0 Z p0 p1 p2 p3 p4 cs sf h0 n0 (some (.int 1)) T20.heap _
      rw [e20]
      exact ⟨rfl, N20, K⟩
   ·skip
    refine Go.step (S' := T19.setTop (mkF m 177 #[iv p0, iv p1, iv p2, iv p3, iv p4, iv x0, iv x1, iv x2, iv x3, iv 2, rv b15, rv b18, u_, u_] [(.int x1)])) (fun t k => ?_) ?_
    · refine XS.ifNo X19.here hx rfl (hb hby at_166) rfl ((if0 _ _).trans (feq (hc166 : ¬ (x0 = (0 : Int32)))).1) ?_
      refine XS.iload X19.here hx rfl (hb hby at_169) rfl ?_
      refine XS.iconst X19.here hx rfl (hb hby at_171) ?_
      refine XS.icmpNo X19.here hx rfl (hb hby at_172) rfl (flt ((by decide) : ¬ ((2 : Int32) < (2 : Int32)))).1 ?_
      refine XS.iload X19.here hx rfl (hb hby at_175) rfl ?_
      exact k
    by_cases hc177 : x1 = (0 : Int32)
    ·skip
     refine Go.step (S' := T19.setTop (mkF m 223 #[iv p0, iv p1, iv p2, iv p3, iv p4, iv x0, iv x1, iv x2, iv x3, iv 2, rv b15, rv b18, iv 1, iv 0] [(.ref b18)])) (fun t k => ?_) ?_
     · refine XS.ifYes X19.here hx rfl (pc0 := 177) (pc' := 202) rfl (hb hby at_177) rfl ((if0 _ _).trans (teq (hc177 : x1 = (0 : Int32))).1) (by decide) (by decide) ?_
       refine XS.iconst X19.here hx rfl (hb hby at_202) ?_
       refine XS.goto X19.here hx rfl (pc0 := 203) (pc' := 207) rfl (hb hby at_203) (by decide) (by decide) ?_
       refine XS.istore X19.here hx rfl (hb hby at_207) rfl (l' := #[iv p0, iv p1, iv p2, iv p3, iv p4, iv x0, iv x1, iv x2, iv x3, iv 2, rv b15, rv b18, iv 1, u_]) rfl ?_
       refine XS.iload X19.here hx rfl (hb hby at_209) rfl ?_
       refine XS.ifYes X19.here hx rfl (pc0 := 211) (pc' := 218) rfl (hb hby at_211) rfl ((if0 _ _).trans (feq ((by decide) : ¬ ((1 : Int32) = (0 : Int32)))).2) (by decide) (by decide) ?_
       show Steps p.tables e below (T19.setTop (mkF m 218 #[iv p0, iv p1, iv p2, iv p3, iv p4, iv x0, iv x1, iv x2, iv x3, iv 2, rv b15, rv b18, iv 1, u_] [])) _
       refine XS.iconst X19.here hx rfl (hb hby at_218) ?_
       refine XS.istore X19.here hx rfl (hb hby at_219) rfl (l' := #[iv p0, iv p1, iv p2, iv p3, iv p4, iv x0, iv x1, iv x2, iv x3, iv 2, rv b15, rv b18, iv 1, iv 0]) rfl ?_
       refine XS.aload X19.here hx rfl (hb hby at_221) rfl rfl ?_
       exact k
     refine Go.cS X19 hx hml hown hZ (own_w hw 24 rfl) (own_w hw 25 rfl) (own_w hw 26 rfl) (own_w hw 27 rfl) (rmSt2_1 l Z a0 hw [] b18 tb_19 kb_19 x0 x1 cs sf T19.heap n0 O S_CS E_b18 Fv_19 Fc_19 V_19 S_AD S_HI S_LO S_FM hcs hsf rax0 rbx0 rax1 rbx1) 0 [] pd__28Ljava_2flang_2fString_3b_29Z (hb hby at_223) (Eq.refl T19.heap) (fun _ T21 L21 X21 hQ21 => ?_)
     obtain ⟨r_21, rfl, Nq21, e21, ks_21⟩ := hQ21
     have N21 := Fr.app N19 Nq21
     refine Go.step (S' := T21.setTop (mkF m 236 #[iv p0, iv p1, iv p2, iv p3, iv p4, iv x0, iv x1, iv x2, iv x3, iv 2, rv b15, rv b18, iv 1, iv 0] [(.int 1)])) (fun t k => ?_) ?_
     · refine XS.iload X21.here hx rfl (hb hby at_226) rfl ?_
       refine XS.icmpNo X21.here hx rfl (hb hby at_228) rfl (teq ((ks_21.elim (fun q => absurd hc177 q.2.2) (fun q => q.1)) : r_21 = (0 : Int32))).2 ?_
       refine XS.iconst X21.here hx rfl (hb hby at_231) ?_
       refine XS.goto X21.here hx rfl (pc0 := 232) (pc' := 236) rfl (hb hby at_232) (by decide) (by decide) ?_
       exact k
     obtain ⟨fs, hr, hrun, hended, hR⟩ := X21.leaveW hS (by rw [e21]; exact hk) (v := some (.int 1)) (fun h => by rw [Bd.returns] at h; cases h)
     refine Go.fin (S' := T21.setFrames fs) ?_ hrun hended ⟨_, _, rfl, ?_, hR.1, hR.2.1, hR.2.2.1, hR.2.2.2.mono (by decide) (by decide)⟩
     · exact retOut X21 hx Bd.returns (by decide) (Or.inl ⟨rfl, Or.inr (Or.inl rfl), _, rfl⟩) (hb hby at_236) hr
     · show Q_rm0 Z p0 p1 p2 p3 p4 cs sf h0 n0 (some (.int 1)) T21.heap _
       rw [e21]
       exact ⟨rfl, N21, K⟩
    ·skip
     refine Go.step (S' := T19.setTop (mkF m 223 #[iv p0, iv p1, iv p2, iv p3, iv p4, iv x0, iv x1, iv x2, iv x3, iv 2, rv b15, rv b18, iv 0, iv 1] [(.ref b18)])) (fun t k => ?_) ?_
     · refine XS.ifNo X19.here hx rfl (hb hby at_177) rfl ((if0 _ _).trans (feq (hc177 : ¬ (x1 = (0 : Int32)))).1) ?_
       refine XS.iload X19.here hx rfl (hb hby at_180) rfl ?_
       refine XS.iconst X19.here hx rfl (hb hby at_182) ?_
       refine XS.icmpYes X19.here hx rfl (pc0 := 183) (pc' := 191) rfl (hb hby at_183) rfl (tlt ((by decide) : (2 : Int32) < (3 : Int32))).1 (by decide) (by decide) ?_
       refine XS.iload X19.here hx rfl (hb hby at_191) rfl ?_
       refine XS.iconst X19.here hx rfl (hb hby at_193) ?_
       show Steps p.tables e below (T19.setTop (mkF m 194 #[iv p0, iv p1, iv p2, iv p3, iv p4, iv x0, iv x1, iv x2, iv x3, iv 2, rv b15, rv b18, u_, u_] [(.int 4), (.int 2)])) _
       refine XS.icmpYes X19.here hx rfl (pc0 := 194) (pc' := 206) rfl (hb hby at_194) rfl (tlt ((by decide) : (2 : Int32) < (4 : Int32))).1 (by decide) (by decide) ?_
       refine XS.iconst X19.here hx rfl (hb hby at_206) ?_
       refine XS.istore X19.here hx rfl (hb hby at_207) rfl (l' := #[iv p0, iv p1, iv p2, iv p3, iv p4, iv x0, iv x1, iv x2, iv x3, iv 2, rv b15, rv b18, iv 0, u_]) rfl ?_
       refine XS.iload X19.here hx rfl (hb hby at_209) rfl ?_
       refine XS.ifNo X19.here hx rfl (hb hby at_211) rfl ((if0 _ _).trans (teq ((by decide) : (0 : Int32) = (0 : Int32))).2) ?_
       refine XS.iconst X19.here hx rfl (hb hby at_214) ?_
       show Steps p.tables e below (T19.setTop (mkF m 215 #[iv p0, iv p1, iv p2, iv p3, iv p4, iv x0, iv x1, iv x2, iv x3, iv 2, rv b15, rv b18, iv 0, u_] [(.int 1)])) _
       refine XS.goto X19.here hx rfl (pc0 := 215) (pc' := 219) rfl (hb hby at_215) (by decide) (by decide) ?_
       refine XS.istore X19.here hx rfl (hb hby at_219) rfl (l' := #[iv p0, iv p1, iv p2, iv p3, iv p4, iv x0, iv x1, iv x2, iv x3, iv 2, rv b15, rv b18, iv 0, iv 1]) rfl ?_
       refine XS.aload X19.here hx rfl (hb hby at_221) rfl rfl ?_
       exact k
     refine Go.cS X19 hx hml hown hZ (own_w hw 24 rfl) (own_w hw 25 rfl) (own_w hw 26 rfl) (own_w hw 27 rfl) (rmSt2_1 l Z a0 hw [] b18 tb_19 kb_19 x0 x1 cs sf T19.heap n0 O S_CS E_b18 Fv_19 Fc_19 V_19 S_AD S_HI S_LO S_FM hcs hsf rax0 rbx0 rax1 rbx1) 0 [] pd__28Ljava_2flang_2fString_3b_29Z (hb hby at_223) (Eq.refl T19.heap) (fun _ T22 L22 X22 hQ22 => ?_)
     obtain ⟨r_22, rfl, Nq22, e22, ks_22⟩ := hQ22
     have N22 := Fr.app N19 Nq22
     refine Go.step (S' := T22.setTop (mkF m 236 #[iv p0, iv p1, iv p2, iv p3, iv p4, iv x0, iv x1, iv x2, iv x3, iv 2, rv b15, rv b18, iv 0, iv 1] [(.int 1)])) (fun t k => ?_) ?_
     · refine XS.iload X22.here hx rfl (hb hby at_226) rfl ?_
       refine XS.icmpNo X22.here hx rfl (hb hby at_228) rfl (teq ((ks_22.elim (fun q => q.1) (fun q => absurd ⟨hc166, hc177⟩ q.2)) : r_22 = (1 : Int32))).2 ?_
       refine XS.iconst X22.here hx rfl (hb hby at_231) ?_
       refine XS.goto X22.here hx rfl (pc0 := 232) (pc' := 236) rfl (hb hby at_232) (by decide) (by decide) ?_
       exact k
     obtain ⟨fs, hr, hrun, hended, hR⟩ := X22.leaveW hS (by rw [e22]; exact hk) (v := some (.int 1)) (fun h => by rw [Bd.returns] at h; cases h)
     refine Go.fin (S' := T22.setFrames fs) ?_ hrun hended ⟨_, _, rfl, ?_, hR.1, hR.2.1, hR.2.2.1, hR.2.2.2.mono (by decide) (by decide)⟩
     · exact retOut X22 hx Bd.returns (by decide) (Or.inl ⟨rfl, Or.inr (Or.inl rfl), _, rfl⟩) (hb hby at_236) hr
     · show Q_rm0 Z p0 p1 p2 p3 p4 cs sf h0 n0 (some (.int 1)) T22.heap _
       rw [e22]
       exact ⟨rfl, N22, K⟩
  ·skip
   have hu0 : ¬ ((255 : Int32) < x0) := fun q => hu (Or.inl q)
   have hu1 : ¬ ((255 : Int32) < x1) := fun q => hu (Or.inr q)
   obtain ⟨T23, h23, X23, e23, E23, A23, D23, -, st23⟩ := newO X17 hx hZ hown (own_w hw 3 rfl) (own_w hw 4 rfl) (own_w hw 5 rfl) e17 (g := (mkF m 147 #[iv p0, iv p1, iv p2, iv p3, iv p4, iv x0, iv x1, iv x2, iv x3, iv 2, rv b15, u_, u_, u_] [])) rfl (hb hby at_147) (by decide) (by decide)
   obtain ⟨b23, g23⟩ : ∃ z, z = Array.size h17 := ⟨_, rfl⟩
   have g_b23 : n0 ≤ b23 := Nat.le_trans (old_le O) (Nat.le_of_eq g23.symm)
   have sz_b23 : h0.size ≤ b23 := Nat.le_trans K.1 (Nat.le_of_eq g23.symm)
   have ne_b15_b23 : b15 ≠ b23 := Nat.ne_of_lt (Nat.lt_of_lt_of_le V_b15.lt (Nat.le_of_eq g23.symm))
   rw [← g23] at A23 D23 st23
   have O := O.ext E23
   have hk := Nat.le_trans hk E23.1
   have K := K.ext E23
   have V_b15 := V_b15.ext E23
   have E_b23 := A23
   have F_value_b23 : Fd_5 Z h23 b23 .null := D23 (Or.inr (own_w hw 18 rfl)) (ty := (.array .byte)) (by decide)
   have F_coder_b23 : Fd_6 Z h23 b23 (.int 0) := D23 (Or.inr (own_w hw 19 rfl)) (ty := .byte) (by decide)
   refine Go.step st23 ?_
   refine Go.step (S' := T23.setTop (mkF m 153 #[iv p0, iv p1, iv p2, iv p3, iv p4, iv x0, iv x1, iv x2, iv x3, iv 2, rv b15, u_, u_, u_] [(.ref b15), (.ref b23), (.ref b23)])) (fun t k => ?_) ?_
   · refine XS.dup X23.here hx rfl (hb hby at_150) rfl rfl ?_
     refine XS.aload X23.here hx rfl (hb hby at_151) rfl rfl ?_
     exact k
   refine Go.cI X23 hx hml hown hZ (own_w hw 6 rfl) (own_w hw 7 rfl) (own_w hw 5 rfl) (own_w hw 8 rfl) (rmNS2 l Z a0 hw [] b23 b15 k15 cs x0 x1 h23 n0 O S_CS E_b23 F_value_b23 F_coder_b23 V_b15 (by assumption) hcs hu0 hu1) 1 [(.ref b23)] pd__28_5bC_29V (hb hby at_153) e23 (fun _ T24 L24 X24 hQ24 => ?_)
   obtain ⟨tb_24, kb_24, rfl, Nq24, K24, P24_E, P24_Fv, P24_Fc, P24_V⟩ := hQ24
   have N24 := Fr.app N17 Nq24
   have O := O.keep K24 (allS g_b23 all0)
   have hk := Nat.le_trans hk K24.1
   have K := K.trans K24 (allS (Or.inr sz_b23) all0)
   have V_b15 := V_b15.keep K24 (ninS ne_b15_b23 nin0)
   have E_b23 := E_b23.keep K24
   have E_24 := P24_E
   have Fv_24 := P24_Fv
   have Fc_24 := P24_Fc
   have V_24 := P24_V
   refine Go.step (S' := T24.setTop (mkF m 166 #[iv p0, iv p1, iv p2, iv p3, iv p4, iv x0, iv x1, iv x2, iv x3, iv 2, rv b15, rv b23, u_, u_] [(.int x0)])) (fun t k => ?_) ?_
   · refine XS.astore X24.here hx rfl (hb hby at_156) rfl rfl (l' := #[iv p0, iv p1, iv p2, iv p3, iv p4, iv x0, iv x1, iv x2, iv x3, iv 2, rv b15, rv b23, u_, u_]) rfl ?_
     refine XS.iload X24.here hx rfl (hb hby at_158) rfl ?_
     refine XS.iconst X24.here hx rfl (hb hby at_160) ?_
     refine XS.icmpNo X24.here hx rfl (hb hby at_161) rfl (flt ((by decide) : ¬ ((2 : Int32) < (1 : Int32)))).1 ?_
     refine XS.iload X24.here hx rfl (hb hby at_164) rfl ?_
     exact k
   by_cases hc166 : x0 = (0 : Int32)
   ·skip
    refine Go.step (S' := T24.setTop (mkF m 223 #[iv p0, iv p1, iv p2, iv p3, iv p4, iv x0, iv x1, iv x2, iv x3, iv 2, rv b15, rv b23, iv 1, iv 0] [(.ref b23)])) (fun t k => ?_) ?_
    · refine XS.ifYes X24.here hx rfl (pc0 := 166) (pc' := 202) rfl (hb hby at_166) rfl ((if0 _ _).trans (teq (hc166 : x0 = (0 : Int32))).1) (by decide) (by decide) ?_
      refine XS.iconst X24.here hx rfl (hb hby at_202) ?_
      refine XS.goto X24.here hx rfl (pc0 := 203) (pc' := 207) rfl (hb hby at_203) (by decide) (by decide) ?_
      refine XS.istore X24.here hx rfl (hb hby at_207) rfl (l' := #[iv p0, iv p1, iv p2, iv p3, iv p4, iv x0, iv x1, iv x2, iv x3, iv 2, rv b15, rv b23, iv 1, u_]) rfl ?_
      refine XS.iload X24.here hx rfl (hb hby at_209) rfl ?_
      refine XS.ifYes X24.here hx rfl (pc0 := 211) (pc' := 218) rfl (hb hby at_211) rfl ((if0 _ _).trans (feq ((by decide) : ¬ ((1 : Int32) = (0 : Int32)))).2) (by decide) (by decide) ?_
      show Steps p.tables e below (T24.setTop (mkF m 218 #[iv p0, iv p1, iv p2, iv p3, iv p4, iv x0, iv x1, iv x2, iv x3, iv 2, rv b15, rv b23, iv 1, u_] [])) _
      refine XS.iconst X24.here hx rfl (hb hby at_218) ?_
      refine XS.istore X24.here hx rfl (hb hby at_219) rfl (l' := #[iv p0, iv p1, iv p2, iv p3, iv p4, iv x0, iv x1, iv x2, iv x3, iv 2, rv b15, rv b23, iv 1, iv 0]) rfl ?_
      refine XS.aload X24.here hx rfl (hb hby at_221) rfl rfl ?_
      exact k
    refine Go.cS X24 hx hml hown hZ (own_w hw 24 rfl) (own_w hw 25 rfl) (own_w hw 26 rfl) (own_w hw 27 rfl) (rmSt2_0 l Z a0 hw [] b23 tb_24 kb_24 x0 x1 cs T24.heap n0 O S_CS E_b23 Fv_24 Fc_24 V_24 hcs) 0 [] pd__28Ljava_2flang_2fString_3b_29Z (hb hby at_223) (Eq.refl T24.heap) (fun _ T25 L25 X25 hQ25 => ?_)
    obtain ⟨r_25, rfl, Nq25, e25, ks_25⟩ := hQ25
    have N25 := Fr.app N24 Nq25
    refine Go.step (S' := T25.setTop (mkF m 236 #[iv p0, iv p1, iv p2, iv p3, iv p4, iv x0, iv x1, iv x2, iv x3, iv 2, rv b15, rv b23, iv 1, iv 0] [(.int 1)])) (fun t k => ?_) ?_
    · refine XS.iload X25.here hx rfl (hb hby at_226) rfl ?_
      refine XS.icmpNo X25.here hx rfl (hb hby at_228) rfl (teq ((ks_25.elim (fun q => absurd (own_bz0 hc166) q.2.1) (fun q => q.1)) : r_25 = (0 : Int32))).2 ?_
      refine XS.iconst X25.here hx rfl (hb hby at_231) ?_
      refine XS.goto X25.here hx rfl (pc0 := 232) (pc' := 236) rfl (hb hby at_232) (by decide) (by decide) ?_
      exact k
    obtain ⟨fs, hr, hrun, hended, hR⟩ := X25.leaveW hS (by rw [e25]; exact hk) (v := some (.int 1)) (fun h => by rw [Bd.returns] at h; cases h)
    refine Go.fin (S' := T25.setFrames fs) ?_ hrun hended ⟨_, _, rfl, ?_, hR.1, hR.2.1, hR.2.2.1, hR.2.2.2.mono (by decide) (by decide)⟩
    · exact retOut X25 hx Bd.returns (by decide) (Or.inl ⟨rfl, Or.inr (Or.inl rfl), _, rfl⟩) (hb hby at_236) hr
    · show Q_rm0 Z p0 p1 p2 p3 p4 cs sf h0 n0 (some (.int 1)) T25.heap _
      rw [e25]
      exact ⟨rfl, N25, K⟩
   ·skip
    refine Go.step (S' := T24.setTop (mkF m 177 #[iv p0, iv p1, iv p2, iv p3, iv p4, iv x0, iv x1, iv x2, iv x3, iv 2, rv b15, rv b23, u_, u_] [(.int x1)])) (fun t k => ?_) ?_
    · refine XS.ifNo X24.here hx rfl (hb hby at_166) rfl ((if0 _ _).trans (feq (hc166 : ¬ (x0 = (0 : Int32)))).1) ?_
      refine XS.iload X24.here hx rfl (hb hby at_169) rfl ?_
      refine XS.iconst X24.here hx rfl (hb hby at_171) ?_
      refine XS.icmpNo X24.here hx rfl (hb hby at_172) rfl (flt ((by decide) : ¬ ((2 : Int32) < (2 : Int32)))).1 ?_
      refine XS.iload X24.here hx rfl (hb hby at_175) rfl ?_
      exact k
    by_cases hc177 : x1 = (0 : Int32)
    ·skip
     refine Go.step (S' := T24.setTop (mkF m 223 #[iv p0, iv p1, iv p2, iv p3, iv p4, iv x0, iv x1, iv x2, iv x3, iv 2, rv b15, rv b23, iv 1, iv 0] [(.ref b23)])) (fun t k => ?_) ?_
     · refine XS.ifYes X24.here hx rfl (pc0 := 177) (pc' := 202) rfl (hb hby at_177) rfl ((if0 _ _).trans (teq (hc177 : x1 = (0 : Int32))).1) (by decide) (by decide) ?_
       refine XS.iconst X24.here hx rfl (hb hby at_202) ?_
       refine XS.goto X24.here hx rfl (pc0 := 203) (pc' := 207) rfl (hb hby at_203) (by decide) (by decide) ?_
       refine XS.istore X24.here hx rfl (hb hby at_207) rfl (l' := #[iv p0, iv p1, iv p2, iv p3, iv p4, iv x0, iv x1, iv x2, iv x3, iv 2, rv b15, rv b23, iv 1, u_]) rfl ?_
       refine XS.iload X24.here hx rfl (hb hby at_209) rfl ?_
       refine XS.ifYes X24.here hx rfl (pc0 := 211) (pc' := 218) rfl (hb hby at_211) rfl ((if0 _ _).trans (feq ((by decide) : ¬ ((1 : Int32) = (0 : Int32)))).2) (by decide) (by decide) ?_
       show Steps p.tables e below (T24.setTop (mkF m 218 #[iv p0, iv p1, iv p2, iv p3, iv p4, iv x0, iv x1, iv x2, iv x3, iv 2, rv b15, rv b23, iv 1, u_] [])) _
       refine XS.iconst X24.here hx rfl (hb hby at_218) ?_
       refine XS.istore X24.here hx rfl (hb hby at_219) rfl (l' := #[iv p0, iv p1, iv p2, iv p3, iv p4, iv x0, iv x1, iv x2, iv x3, iv 2, rv b15, rv b23, iv 1, iv 0]) rfl ?_
       refine XS.aload X24.here hx rfl (hb hby at_221) rfl rfl ?_
       exact k
     refine Go.cS X24 hx hml hown hZ (own_w hw 24 rfl) (own_w hw 25 rfl) (own_w hw 26 rfl) (own_w hw 27 rfl) (rmSt2_0 l Z a0 hw [] b23 tb_24 kb_24 x0 x1 cs T24.heap n0 O S_CS E_b23 Fv_24 Fc_24 V_24 hcs) 0 [] pd__28Ljava_2flang_2fString_3b_29Z (hb hby at_223) (Eq.refl T24.heap) (fun _ T26 L26 X26 hQ26 => ?_)
     obtain ⟨r_26, rfl, Nq26, e26, ks_26⟩ := hQ26
     have N26 := Fr.app N24 Nq26
     refine Go.step (S' := T26.setTop (mkF m 236 #[iv p0, iv p1, iv p2, iv p3, iv p4, iv x0, iv x1, iv x2, iv x3, iv 2, rv b15, rv b23, iv 1, iv 0] [(.int 1)])) (fun t k => ?_) ?_
     · refine XS.iload X26.here hx rfl (hb hby at_226) rfl ?_
       refine XS.icmpNo X26.here hx rfl (hb hby at_228) rfl (teq ((ks_26.elim (fun q => absurd (own_bz0 hc177) q.2.2) (fun q => q.1)) : r_26 = (0 : Int32))).2 ?_
       refine XS.iconst X26.here hx rfl (hb hby at_231) ?_
       refine XS.goto X26.here hx rfl (pc0 := 232) (pc' := 236) rfl (hb hby at_232) (by decide) (by decide) ?_
       exact k
     obtain ⟨fs, hr, hrun, hended, hR⟩ := X26.leaveW hS (by rw [e26]; exact hk) (v := some (.int 1)) (fun h => by rw [Bd.returns] at h; cases h)
     refine Go.fin (S' := T26.setFrames fs) ?_ hrun hended ⟨_, _, rfl, ?_, hR.1, hR.2.1, hR.2.2.1, hR.2.2.2.mono (by decide) (by decide)⟩
     · exact retOut X26 hx Bd.returns (by decide) (Or.inl ⟨rfl, Or.inr (Or.inl rfl), _, rfl⟩) (hb hby at_236) hr
     · show Q_rm0 Z p0 p1 p2 p3 p4 cs sf h0 n0 (some (.int 1)) T26.heap _
       rw [e26]
       exact ⟨rfl, N26, K⟩
    ·skip
     refine Go.step (S' := T24.setTop (mkF m 223 #[iv p0, iv p1, iv p2, iv p3, iv p4, iv x0, iv x1, iv x2, iv x3, iv 2, rv b15, rv b23, iv 0, iv 1] [(.ref b23)])) (fun t k => ?_) ?_
     · refine XS.ifNo X24.here hx rfl (hb hby at_177) rfl ((if0 _ _).trans (feq (hc177 : ¬ (x1 = (0 : Int32)))).1) ?_
       refine XS.iload X24.here hx rfl (hb hby at_180) rfl ?_
       refine XS.iconst X24.here hx rfl (hb hby at_182) ?_
       refine XS.icmpYes X24.here hx rfl (pc0 := 183) (pc' := 191) rfl (hb hby at_183) rfl (tlt ((by decide) : (2 : Int32) < (3 : Int32))).1 (by decide) (by decide) ?_
       refine XS.iload X24.here hx rfl (hb hby at_191) rfl ?_
       refine XS.iconst X24.here hx rfl (hb hby at_193) ?_
       show Steps p.tables e below (T24.setTop (mkF m 194 #[iv p0, iv p1, iv p2, iv p3, iv p4, iv x0, iv x1, iv x2, iv x3, iv 2, rv b15, rv b23, u_, u_] [(.int 4), (.int 2)])) _
       refine XS.icmpYes X24.here hx rfl (pc0 := 194) (pc' := 206) rfl (hb hby at_194) rfl (tlt ((by decide) : (2 : Int32) < (4 : Int32))).1 (by decide) (by decide) ?_
       refine XS.iconst X24.here hx rfl (hb hby at_206) ?_
       refine XS.istore X24.here hx rfl (hb hby at_207) rfl (l' := #[iv p0, iv p1, iv p2, iv p3, iv p4, iv x0, iv x1, iv x2, iv x3, iv 2, rv b15, rv b23, iv 0, u_]) rfl ?_
       refine XS.iload X24.here hx rfl (hb hby at_209) rfl ?_
       refine XS.ifNo X24.here hx rfl (hb hby at_211) rfl ((if0 _ _).trans (teq ((by decide) : (0 : Int32) = (0 : Int32))).2) ?_
       refine XS.iconst X24.here hx rfl (hb hby at_214) ?_
       show Steps p.tables e below (T24.setTop (mkF m 215 #[iv p0, iv p1, iv p2, iv p3, iv p4, iv x0, iv x1, iv x2, iv x3, iv 2, rv b15, rv b23, iv 0, u_] [(.int 1)])) _
       refine XS.goto X24.here hx rfl (pc0 := 215) (pc' := 219) rfl (hb hby at_215) (by decide) (by decide) ?_
       refine XS.istore X24.here hx rfl (hb hby at_219) rfl (l' := #[iv p0, iv p1, iv p2, iv p3, iv p4, iv x0, iv x1, iv x2, iv x3, iv 2, rv b15, rv b23, iv 0, iv 1]) rfl ?_
       refine XS.aload X24.here hx rfl (hb hby at_221) rfl rfl ?_
       exact k
     refine Go.cS X24 hx hml hown hZ (own_w hw 24 rfl) (own_w hw 25 rfl) (own_w hw 26 rfl) (own_w hw 27 rfl) (rmSt2_0 l Z a0 hw [] b23 tb_24 kb_24 x0 x1 cs T24.heap n0 O S_CS E_b23 Fv_24 Fc_24 V_24 hcs) 0 [] pd__28Ljava_2flang_2fString_3b_29Z (hb hby at_223) (Eq.refl T24.heap) (fun _ T27 L27 X27 hQ27 => ?_)
     obtain ⟨r_27, rfl, Nq27, e27, ks_27⟩ := hQ27
     have N27 := Fr.app N24 Nq27
     refine Go.step (S' := T27.setTop (mkF m 236 #[iv p0, iv p1, iv p2, iv p3, iv p4, iv x0, iv x1, iv x2, iv x3, iv 2, rv b15, rv b23, iv 0, iv 1] [(.int 1)])) (fun t k => ?_) ?_
     · refine XS.iload X27.here hx rfl (hb hby at_226) rfl ?_
       refine XS.icmpNo X27.here hx rfl (hb hby at_228) rfl (teq ((ks_27.elim (fun q => q.1) (fun q => absurd ⟨(own_bz rax0 hu0 hc166), (own_bz rax1 hu1 hc177)⟩ q.2)) : r_27 = (1 : Int32))).2 ?_
       refine XS.iconst X27.here hx rfl (hb hby at_231) ?_
       refine XS.goto X27.here hx rfl (pc0 := 232) (pc' := 236) rfl (hb hby at_232) (by decide) (by decide) ?_
       exact k
     obtain ⟨fs, hr, hrun, hended, hR⟩ := X27.leaveW hS (by rw [e27]; exact hk) (v := some (.int 1)) (fun h => by rw [Bd.returns] at h; cases h)
     refine Go.fin (S' := T27.setFrames fs) ?_ hrun hended ⟨_, _, rfl, ?_, hR.1, hR.2.1, hR.2.2.1, hR.2.2.2.mono (by decide) (by decide)⟩
     · exact retOut X27 hx Bd.returns (by decide) (Or.inl ⟨rfl, Or.inr (Or.inl rfl), _, rfl⟩) (hb hby at_236) hr
     · show Q_rm0 Z p0 p1 p2 p3 p4 cs sf h0 n0 (some (.int 1)) T27.heap _
       rw [e27]
       exact ⟨rfl, N27, K⟩
 ·skip
  show Go p e below _ (s₁.setTop (mkF m 37 #[iv p0, iv p1, iv p2, iv p3, iv p4, iv x0, iv x1, iv x2, iv x3, iv ((p4 &&& (2147483647 : Int32)) % (5 : Int32)), u_, u_, u_, u_] []))
  rw [(hn5 : ((p4 &&& (2147483647 : Int32)) % (5 : Int32)) = (3 : Int32))]
  show Go p e below _ (s₁.setTop (mkF m 37 #[iv p0, iv p1, iv p2, iv p3, iv p4, iv x0, iv x1, iv x2, iv x3, iv 3, u_, u_, u_, u_] []))
  refine Go.step (S' := s₁.setTop (mkF m 100 #[iv p0, iv p1, iv p2, iv p3, iv p4, iv x0, iv x1, iv x2, iv x3, iv 3, u_, u_, u_, u_] [(.int 3)])) (fun t k => ?_) ?_
  · refine XS.iload X0.here hx rfl (hb hby at_37) rfl ?_
    refine XS.ifYes X0.here hx rfl (pc0 := 39) (pc' := 50) rfl (hb hby at_39) rfl ((if0 _ _).trans (feq ((by decide) : ¬ ((3 : Int32) = (0 : Int32)))).2) (by decide) (by decide) ?_
    refine XS.iload X0.here hx rfl (hb hby at_50) rfl ?_
    refine XS.iconst X0.here hx rfl (hb hby at_52) ?_
    refine XS.icmpYes X0.here hx rfl (pc0 := 53) (pc' := 69) rfl (hb hby at_53) rfl (feq ((by decide) : ¬ ((3 : Int32) = (1 : Int32)))).2 (by decide) (by decide) ?_
    refine XS.iload X0.here hx rfl (hb hby at_69) rfl ?_
    show Steps p.tables e below (s₁.setTop (mkF m 71 #[iv p0, iv p1, iv p2, iv p3, iv p4, iv x0, iv x1, iv x2, iv x3, iv 3, u_, u_, u_, u_] [(.int 3)])) _
    refine XS.iconst X0.here hx rfl (hb hby at_71) ?_
    refine XS.icmpYes X0.here hx rfl (pc0 := 72) (pc' := 93) rfl (hb hby at_72) rfl (feq ((by decide) : ¬ ((3 : Int32) = (2 : Int32)))).2 (by decide) (by decide) ?_
    refine XS.iload X0.here hx rfl (hb hby at_93) rfl ?_
    refine XS.iconst X0.here hx rfl (hb hby at_95) ?_
    refine XS.icmpNo X0.here hx rfl (hb hby at_96) rfl (teq ((by decide) : (3 : Int32) = (3 : Int32))).2 ?_
    refine XS.iconst X0.here hx rfl (hb hby at_99) ?_
    exact k
  obtain ⟨T28, h28, k28, X28, e28, E28, A28, st28⟩ := newP X0 hx hZ (own_w hw 2 rfl) e0 (g := (mkF m 100 #[iv p0, iv p1, iv p2, iv p3, iv p4, iv x0, iv x1, iv x2, iv x3, iv 3, u_, u_, u_, u_] [(.int 3)])) rfl (hb hby at_100) rfl (by decide) (cap := 3) (by decide) (by decide) (by decide) (by decide)
  obtain ⟨b28, g28⟩ : ∃ z, z = Array.size h0 := ⟨_, rfl⟩
  have g_b28 : n0 ≤ b28 := Nat.le_trans (old_le O) (Nat.le_of_eq g28.symm)
  have sz_b28 : h0.size ≤ b28 := Nat.le_trans K.1 (Nat.le_of_eq g28.symm)
  rw [← g28] at A28 st28
  have O := O.ext E28
  have CH := CHv.ext E28 CH
  have hk := Nat.le_trans hk E28.1
  have K := K.ext E28
  have V_b28 : Arv Z h28 b28 k28 .char (3 : Int32) [(.int 0), (.int 0), (.int 0)] (.int 0) := (Arv.new A28 (by decide)).pad (pad_rep [] (.int 0) 3)
  refine Go.step st28 ?_
  refine Go.step (S' := T28.setTop (mkF m 106 #[iv p0, iv p1, iv p2, iv p3, iv p4, iv x0, iv x1, iv x2, iv x3, iv 3, u_, u_, u_, u_] [(.int x0), (.int 0), (.ref b28), (.ref b28)])) (fun t k => ?_) ?_
  · refine XS.dup X28.here hx rfl (hb hby at_102) rfl rfl ?_
    refine XS.iconst X28.here hx rfl (hb hby at_103) ?_
    refine XS.iload X28.here hx rfl (hb hby at_104) rfl ?_
    exact k
  obtain ⟨cl29, Ar29, q29, S29, N29_, H29, G29⟩ := V_b28
  have hin29 : ¬ ((0 : Int32) < 0 ∨ cl29.slots.size ≤ ((0 : Int32)).toNatClampNeg) := inb_of S29 ⟨by decide, by decide⟩
  obtain ⟨T29, h29, X29, e29, W29, st29⟩ := stC X28 hx hZ e28 Ar29 (j := (0 : Int32)) hin29 (g := (mkF m 106 #[iv p0, iv p1, iv p2, iv p3, iv p4, iv x0, iv x1, iv x2, iv x3, iv 3, u_, u_, u_, u_] [(.int x0), (.int 0), (.ref b28), (.ref b28)])) rfl rfl (hb hby at_106)
  have O := O.wr W29 g_b28
  have hk := Nat.le_trans hk (Keep.of_wr W29).1
  have K := K.wr W29 (Or.inr sz_b28)
  have V_b28 : Arv Z h29 b28 k28 .char (3 : Int32) [(.int (x0.toUInt32.toUInt16.toUInt32.toInt32)), (.int 0), (.int 0)] (.int 0) := Arv.set Ar29 q29 S29 N29_ H29 G29 (fits_nar_char _) W29 0 rfl (Nat.le_of_ble_eq_true rfl)
  rw [(own_cx rax0 rbx0 : (x0.toUInt32.toUInt16.toUInt32.toInt32) = x0)] at V_b28
  have N29 := Fr.snoc X29 N0 g_b28
  refine Go.step st29 ?_
  refine Go.step (S' := T29.setTop (mkF m 111 #[iv p0, iv p1, iv p2, iv p3, iv p4, iv x0, iv x1, iv x2, iv x3, iv 3, u_, u_, u_, u_] [(.int x1), (.int 1), (.ref b28), (.ref b28)])) (fun t k => ?_) ?_
  · refine XS.dup X29.here hx rfl (hb hby at_107) rfl rfl ?_
    refine XS.iconst X29.here hx rfl (hb hby at_108) ?_
    refine XS.iload X29.here hx rfl (hb hby at_109) rfl ?_
    exact k
  obtain ⟨cl30, Ar30, q30, S30, N30_, H30, G30⟩ := V_b28
  have hin30 : ¬ ((1 : Int32) < 0 ∨ cl30.slots.size ≤ ((1 : Int32)).toNatClampNeg) := inb_of S30 ⟨by decide, by decide⟩
  obtain ⟨T30, h30, X30, e30, W30, st30⟩ := stC X29 hx hZ e29 Ar30 (j := (1 : Int32)) hin30 (g := (mkF m 111 #[iv p0, iv p1, iv p2, iv p3, iv p4, iv x0, iv x1, iv x2, iv x3, iv 3, u_, u_, u_, u_] [(.int x1), (.int 1), (.ref b28), (.ref b28)])) rfl rfl (hb hby at_111)
  have O := O.wr W30 g_b28
  have hk := Nat.le_trans hk (Keep.of_wr W30).1
  have K := K.wr W30 (Or.inr sz_b28)
  have V_b28 : Arv Z h30 b28 k28 .char (3 : Int32) [(.int x0), (.int (x1.toUInt32.toUInt16.toUInt32.toInt32)), (.int 0)] (.int 0) := Arv.set Ar30 q30 S30 N30_ H30 G30 (fits_nar_char _) W30 1 rfl (Nat.le_of_ble_eq_true rfl)
  rw [(own_cx rax1 rbx1 : (x1.toUInt32.toUInt16.toUInt32.toInt32) = x1)] at V_b28
  have N30 := Fr.snoc X30 N29 g_b28
  refine Go.step st30 ?_
  refine Go.step (S' := T30.setTop (mkF m 116 #[iv p0, iv p1, iv p2, iv p3, iv p4, iv x0, iv x1, iv x2, iv x3, iv 3, u_, u_, u_, u_] [(.int x2), (.int 2), (.ref b28), (.ref b28)])) (fun t k => ?_) ?_
  · refine XS.dup X30.here hx rfl (hb hby at_112) rfl rfl ?_
    refine XS.iconst X30.here hx rfl (hb hby at_113) ?_
    refine XS.iload X30.here hx rfl (hb hby at_114) rfl ?_
    exact k
  obtain ⟨cl31, Ar31, q31, S31, N31_, H31, G31⟩ := V_b28
  have hin31 : ¬ ((2 : Int32) < 0 ∨ cl31.slots.size ≤ ((2 : Int32)).toNatClampNeg) := inb_of S31 ⟨by decide, by decide⟩
  obtain ⟨T31, h31, X31, e31, W31, st31⟩ := stC X30 hx hZ e30 Ar31 (j := (2 : Int32)) hin31 (g := (mkF m 116 #[iv p0, iv p1, iv p2, iv p3, iv p4, iv x0, iv x1, iv x2, iv x3, iv 3, u_, u_, u_, u_] [(.int x2), (.int 2), (.ref b28), (.ref b28)])) rfl rfl (hb hby at_116)
  have O := O.wr W31 g_b28
  have hk := Nat.le_trans hk (Keep.of_wr W31).1
  have K := K.wr W31 (Or.inr sz_b28)
  have V_b28 : Arv Z h31 b28 k28 .char (3 : Int32) [(.int x0), (.int x1), (.int (x2.toUInt32.toUInt16.toUInt32.toInt32))] (.int 0) := Arv.set Ar31 q31 S31 N31_ H31 G31 (fits_nar_char _) W31 2 rfl (Nat.le_of_ble_eq_true rfl)
  rw [(own_cx rax2 rbx2 : (x2.toUInt32.toUInt16.toUInt32.toInt32) = x2)] at V_b28
  have N31 := Fr.snoc X31 N30 g_b28
  refine Go.step st31 ?_
  refine Go.step (S' := T31.setTop (mkF m 147 #[iv p0, iv p1, iv p2, iv p3, iv p4, iv x0, iv x1, iv x2, iv x3, iv 3, rv b28, u_, u_, u_] [])) (fun t k => ?_) ?_
  · refine XS.astore X31.here hx rfl (hb hby at_117) rfl rfl (l' := #[iv p0, iv p1, iv p2, iv p3, iv p4, iv x0, iv x1, iv x2, iv x3, iv 3, rv b28, u_, u_, u_]) rfl ?_
    refine XS.goto X31.here hx rfl (pc0 := 119) (pc' := 147) rfl (hb hby at_119) (by decide) (by decide) ?_
    exact k
  by_cases hu : ((255 : Int32) < x0) ∨ ((255 : Int32) < x1) ∨ ((255 : Int32) < x2)
  ·skip
   obtain ⟨T32, h32, X32, e32, E32, A32, D32, -, st32⟩ := newO X31 hx hZ hown (own_w hw 3 rfl) (own_w hw 4 rfl) (own_w hw 5 rfl) e31 (g := (mkF m 147 #[iv p0, iv p1, iv p2, iv p3, iv p4, iv x0, iv x1, iv x2, iv x3, iv 3, rv b28, u_, u_, u_] [])) rfl (hb hby at_147) (by decide) (by decide)
   obtain ⟨b32, g32⟩ : ∃ z, z = Array.size h31 := ⟨_, rfl⟩
   have g_b32 : n0 ≤ b32 := Nat.le_trans (old_le O) (Nat.le_of_eq g32.symm)
   have sz_b32 : h0.size ≤ b32 := Nat.le_trans K.1 (Nat.le_of_eq g32.symm)
   have ne_b28_b32 : b28 ≠ b32 := Nat.ne_of_lt (Nat.lt_of_lt_of_le V_b28.lt (Nat.le_of_eq g32.symm))
   rw [← g32] at A32 D32 st32
   have O := O.ext E32
   have hk := Nat.le_trans hk E32.1
   have K := K.ext E32
   have V_b28 := V_b28.ext E32
   have E_b32 := A32
   have F_value_b32 : Fd_5 Z h32 b32 .null := D32 (Or.inr (own_w hw 18 rfl)) (ty := (.array .byte)) (by decide)
   have F_coder_b32 : Fd_6 Z h32 b32 (.int 0) := D32 (Or.inr (own_w hw 19 rfl)) (ty := .byte) (by decide)
   refine Go.step st32 ?_
   refine Go.step (S' := T32.setTop (mkF m 153 #[iv p0, iv p1, iv p2, iv p3, iv p4, iv x0, iv x1, iv x2, iv x3, iv 3, rv b28, u_, u_, u_] [(.ref b28), (.ref b32), (.ref b32)])) (fun t k => ?_) ?_
   · refine XS.dup X32.here hx rfl (hb hby at_150) rfl rfl ?_
     refine XS.aload X32.here hx rfl (hb hby at_151) rfl rfl ?_
     exact k
   refine Go.cI X32 hx hml hown hZ (own_w hw 6 rfl) (own_w hw 7 rfl) (own_w hw 5 rfl) (own_w hw 8 rfl) (rmNSU3 l Z a0 hw [] b32 b28 k28 cs x0 x1 x2 h32 n0 O S_CS S_AD S_HI S_LO E_b32 F_value_b32 F_coder_b32 V_b28 (by assumption) hcs hu rax0 rbx0 rax1 rbx1 rax2 rbx2) 1 [(.ref b32)] pd__28_5bC_29V (hb hby at_153) e32 (fun _ T33 L33 X33 hQ33 => ?_)
   obtain ⟨tb_33, kb_33, rfl, Nq33, K33, P33_E, P33_Fv, P33_Fc, P33_V⟩ := hQ33
   have N33 := Fr.app N31 Nq33
   have O := O.keep K33 (allS g_b32 all0)
   have hk := Nat.le_trans hk K33.1
   have K := K.trans K33 (allS (Or.inr sz_b32) all0)
   have V_b28 := V_b28.keep K33 (ninS ne_b28_b32 nin0)
   have E_b32 := E_b32.keep K33
   have E_33 := P33_E
   have Fv_33 := P33_Fv
   have Fc_33 := P33_Fc
   have V_33 := P33_V
   refine Go.step (S' := T33.setTop (mkF m 166 #[iv p0, iv p1, iv p2, iv p3, iv p4, iv x0, iv x1, iv x2, iv x3, iv 3, rv b28, rv b32, u_, u_] [(.int x0)])) (fun t k => ?_) ?_
   · refine XS.astore X33.here hx rfl (hb hby at_156) rfl rfl (l' := #[iv p0, iv p1, iv p2, iv p3, iv p4, iv x0, iv x1, iv x2, iv x3, iv 3, rv b28, rv b32, u_, u_]) rfl ?_
     refine XS.iload X33.here hx rfl (hb hby at_158) rfl ?_
     refine XS.iconst X33.here hx rfl (hb hby at_160) ?_
     refine XS.icmpNo X33.here hx rfl (hb hby at_161) rfl (flt ((by decide) : ¬ ((3 : Int32) < (1 : Int32)))).1 ?_
     refine XS.iload X33.here hx rfl (hb hby at_164) rfl ?_
     exact k
   by_cases hc166 : x0 = (0 : Int32)
   ·skip
    refine Go.step (S' := T33.setTop (mkF m 223 #[iv p0, iv p1, iv p2, iv p3, iv p4, iv x0, iv x1, iv x2, iv x3, iv 3, rv b28, rv b32, iv 1, iv 0] [(.ref b32)])) (fun t k => ?_) ?_
    · refine XS.ifYes X33.here hx rfl (pc0 := 166) (pc' := 202) rfl (hb hby at_166) rfl ((if0 _ _).trans (teq (hc166 : x0 = (0 : Int32))).1) (by decide) (by decide) ?_
      refine XS.iconst X33.here hx rfl (hb hby at_202) ?_
      refine XS.goto X33.here hx rfl (pc0 := 203) (pc' := 207) rfl (hb hby at_203) (by decide) (by decide) ?_
      refine XS.istore X33.here hx rfl (hb hby at_207) rfl (l' := #[iv p0, iv p1, iv p2, iv p3, iv p4, iv x0, iv x1, iv x2, iv x3, iv 3, rv b28, rv b32, iv 1, u_]) rfl ?_
      refine XS.iload X33.here hx rfl (hb hby at_209) rfl ?_
      refine XS.ifYes X33.here hx rfl (pc0 := 211) (pc' := 218) rfl (hb hby at_211) rfl ((if0 _ _).trans (feq ((by decide) : ¬ ((1 : Int32) = (0 : Int32)))).2) (by decide) (by decide) ?_
      show Steps p.tables e below (T33.setTop (mkF m 218 #[iv p0, iv p1, iv p2, iv p3, iv p4, iv x0, iv x1, iv x2, iv x3, iv 3, rv b28, rv b32, iv 1, u_] [])) _
      refine XS.iconst X33.here hx rfl (hb hby at_218) ?_
      refine XS.istore X33.here hx rfl (hb hby at_219) rfl (l' := #[iv p0, iv p1, iv p2, iv p3, iv p4, iv x0, iv x1, iv x2, iv x3, iv 3, rv b28, rv b32, iv 1, iv 0]) rfl ?_
      refine XS.aload X33.here hx rfl (hb hby at_221) rfl rfl ?_
      exact k
    refine Go.cS X33 hx hml hown hZ (own_w hw 24 rfl) (own_w hw 25 rfl) (own_w hw 26 rfl) (own_w hw 27 rfl) (rmSt3_1 l Z a0 hw [] b32 tb_33 kb_33 x0 x1 x2 cs sf T33.heap n0 O S_CS E_b32 Fv_33 Fc_33 V_33 S_AD S_HI S_LO S_FM hcs hsf rax0 rbx0 rax1 rbx1 rax2 rbx2) 0 [] pd__28Ljava_2flang_2fString_3b_29Z (hb hby at_223) (Eq.refl T33.heap) (fun _ T34 L34 X34 hQ34 => ?_)
    obtain ⟨r_34, rfl, Nq34, e34, ks_34⟩ := hQ34
    have N34 := Fr.app N33 Nq34
    refine Go.step (S' := T34.setTop (mkF m 236 #[iv p0, iv p1, iv p2, iv p3, iv p4, iv x0, iv x1, iv x2, iv x3, iv 3, rv b28, rv b32, iv 1, iv 0] [(.int 1)])) (fun t k => ?_) ?_
    · refine XS.iload X34.here hx rfl (hb hby at_226) rfl ?_
      refine XS.icmpNo X34.here hx rfl (hb hby at_228) rfl (teq ((ks_34.elim (fun q => absurd hc166 q.2.1) (fun q => q.1)) : r_34 = (0 : Int32))).2 ?_
      refine XS.iconst X34.here hx rfl (hb hby at_231) ?_
      refine XS.goto X34.here hx rfl (pc0 := 232) (pc' := 236) rfl (hb hby at_232) (by decide) (by decide) ?_
      exact k
    obtain ⟨fs, hr, hrun, hended, hR⟩ := X34.leaveW hS (by rw [e34]; exact hk) (v := some (.int 1)) (fun h => by rw [Bd.returns] at h; cases h)
    refine Go.fin (S' := T34.setFrames fs) ?_ hrun hended ⟨_, _, rfl, ?_, hR.1, hR.2.1, hR.2.2.1, hR.2.2.2.mono (by decide) (by decide)⟩
    · exact retOut X34 hx Bd.returns (by decide) (Or.inl ⟨rfl, Or.inr (Or.inl rfl), _, rfl⟩) (hb hby at_236) hr
    · show Q_rm0 Z p0 p1 p2 p3 p4 cs sf h0 n0 (some (.int 1)) T34.heap _
      rw [e34]
      exact ⟨rfl, N34, K⟩
   ·skip
    refine Go.step (S' := T33.setTop (mkF m 177 #[iv p0, iv p1, iv p2, iv p3, iv p4, iv x0, iv x1, iv x2, iv x3, iv 3, rv b28, rv b32, u_, u_] [(.int x1)])) (fun t k => ?_) ?_
    · refine XS.ifNo X33.here hx rfl (hb hby at_166) rfl ((if0 _ _).trans (feq (hc166 : ¬ (x0 = (0 : Int32)))).1) ?_
      refine XS.iload X33.here hx rfl (hb hby at_169) rfl ?_
      refine XS.iconst X33.here hx rfl (hb hby at_171) ?_
      refine XS.icmpNo X33.here hx rfl (hb hby at_172) rfl (flt ((by decide) : ¬ ((3 : Int32) < (2 : Int32)))).1 ?_
      refine XS.iload X33.here hx rfl (hb hby at_175) rfl ?_
      exact k
    by_cases hc177 : x1 = (0 : Int32)
    ·skip
     refine Go.step (S' := T33.setTop (mkF m 223 #[iv p0, iv p1, iv p2, iv p3, iv p4, iv x0, iv x1, iv x2, iv x3, iv 3, rv b28, rv b32, iv 1, iv 0] [(.ref b32)])) (fun t k => ?_) ?_
     · refine XS.ifYes X33.here hx rfl (pc0 := 177) (pc' := 202) rfl (hb hby at_177) rfl ((if0 _ _).trans (teq (hc177 : x1 = (0 : Int32))).1) (by decide) (by decide) ?_
       refine XS.iconst X33.here hx rfl (hb hby at_202) ?_
       refine XS.goto X33.here hx rfl (pc0 := 203) (pc' := 207) rfl (hb hby at_203) (by decide) (by decide) ?_
       refine XS.istore X33.here hx rfl (hb hby at_207) rfl (l' := #[iv p0, iv p1, iv p2, iv p3, iv p4, iv x0, iv x1, iv x2, iv x3, iv 3, rv b28, rv b32, iv 1, u_]) rfl ?_
       refine XS.iload X33.here hx rfl (hb hby at_209) rfl ?_
       refine XS.ifYes X33.here hx rfl (pc0 := 211) (pc' := 218) rfl (hb hby at_211) rfl ((if0 _ _).trans (feq ((by decide) : ¬ ((1 : Int32) = (0 : Int32)))).2) (by decide) (by decide) ?_
       show Steps p.tables e below (T33.setTop (mkF m 218 #[iv p0, iv p1, iv p2, iv p3, iv p4, iv x0, iv x1, iv x2, iv x3, iv 3, rv b28, rv b32, iv 1, u_] [])) _
       refine XS.iconst X33.here hx rfl (hb hby at_218) ?_
       refine XS.istore X33.here hx rfl (hb hby at_219) rfl (l' := #[iv p0, iv p1, iv p2, iv p3, iv p4, iv x0, iv x1, iv x2, iv x3, iv 3, rv b28, rv b32, iv 1, iv 0]) rfl ?_
       refine XS.aload X33.here hx rfl (hb hby at_221) rfl rfl ?_
       exact k
     refine Go.cS X33 hx hml hown hZ (own_w hw 24 rfl) (own_w hw 25 rfl) (own_w hw 26 rfl) (own_w hw 27 rfl) (rmSt3_1 l Z a0 hw [] b32 tb_33 kb_33 x0 x1 x2 cs sf T33.heap n0 O S_CS E_b32 Fv_33 Fc_33 V_33 S_AD S_HI S_LO S_FM hcs hsf rax0 rbx0 rax1 rbx1 rax2 rbx2) 0 [] pd__28Ljava_2flang_2fString_3b_29Z (hb hby at_223) (Eq.refl T33.heap) (fun _ T35 L35 X35 hQ35 => ?_)
     obtain ⟨r_35, rfl, Nq35, e35, ks_35⟩ := hQ35
     have N35 := Fr.app N33 Nq35
     refine Go.step (S' := T35.setTop (mkF m 236 #[iv p0, iv p1, iv p2, iv p3, iv p4, iv x0, iv x1, iv x2, iv x3, iv 3, rv b28, rv b32, iv 1, iv 0] [(.int 1)])) (fun t k => ?_) ?_
     · refine XS.iload X35.here hx rfl (hb hby at_226) rfl ?_
       refine XS.icmpNo X35.here hx rfl (hb hby at_228) rfl (teq ((ks_35.elim (fun q => absurd hc177 q.2.2.1) (fun q => q.1)) : r_35 = (0 : Int32))).2 ?_
       refine XS.iconst X35.here hx rfl (hb hby at_231) ?_
       refine XS.goto X35.here hx rfl (pc0 := 232) (pc' := 236) rfl (hb hby at_232) (by decide) (by decide) ?_
       exact k
     obtain ⟨fs, hr, hrun, hended, hR⟩ := X35.leaveW hS (by rw [e35]; exact hk) (v := some (.int 1)) (fun h => by rw [Bd.returns] at h; cases h)
     refine Go.fin (S' := T35.setFrames fs) ?_ hrun hended ⟨_, _, rfl, ?_, hR.1, hR.2.1, hR.2.2.1, hR.2.2.2.mono (by decide) (by decide)⟩
     · exact retOut X35 hx Bd.returns (by decide) (Or.inl ⟨rfl, Or.inr (Or.inl rfl), _, rfl⟩) (hb hby at_236) hr
     · show Q_rm0 Z p0 p1 p2 p3 p4 cs sf h0 n0 (some (.int 1)) T35.heap _
       rw [e35]
       exact ⟨rfl, N35, K⟩
    ·skip
     refine Go.step (S' := T33.setTop (mkF m 188 #[iv p0, iv p1, iv p2, iv p3, iv p4, iv x0, iv x1, iv x2, iv x3, iv 3, rv b28, rv b32, u_, u_] [(.int x2)])) (fun t k => ?_) ?_
     · refine XS.ifNo X33.here hx rfl (hb hby at_177) rfl ((if0 _ _).trans (feq (hc177 : ¬ (x1 = (0 : Int32)))).1) ?_
       refine XS.iload X33.here hx rfl (hb hby at_180) rfl ?_
       refine XS.iconst X33.here hx rfl (hb hby at_182) ?_
       refine XS.icmpNo X33.here hx rfl (hb hby at_183) rfl (flt ((by decide) : ¬ ((3 : Int32) < (3 : Int32)))).1 ?_
       refine XS.iload X33.here hx rfl (hb hby at_186) rfl ?_
       exact k
     by_cases hc188 : x2 = (0 : Int32)
     ·skip
      refine Go.step (S' := T33.setTop (mkF m 223 #[iv p0, iv p1, iv p2, iv p3, iv p4, iv x0, iv x1, iv x2, iv x3, iv 3, rv b28, rv b32, iv 1, iv 0] [(.ref b32)])) (fun t k => ?_) ?_
      · refine XS.ifYes X33.here hx rfl (pc0 := 188) (pc' := 202) rfl (hb hby at_188) rfl ((if0 _ _).trans (teq (hc188 : x2 = (0 : Int32))).1) (by decide) (by decide) ?_
        refine XS.iconst X33.here hx rfl (hb hby at_202) ?_
        refine XS.goto X33.here hx rfl (pc0 := 203) (pc' := 207) rfl (hb hby at_203) (by decide) (by decide) ?_
        refine XS.istore X33.here hx rfl (hb hby at_207) rfl (l' := #[iv p0, iv p1, iv p2, iv p3, iv p4, iv x0, iv x1, iv x2, iv x3, iv 3, rv b28, rv b32, iv 1, u_]) rfl ?_
        refine XS.iload X33.here hx rfl (hb hby at_209) rfl ?_
        refine XS.ifYes X33.here hx rfl (pc0 := 211) (pc' := 218) rfl (hb hby at_211) rfl ((if0 _ _).trans (feq ((by decide) : ¬ ((1 : Int32) = (0 : Int32)))).2) (by decide) (by decide) ?_
        show Steps p.tables e below (T33.setTop (mkF m 218 #[iv p0, iv p1, iv p2, iv p3, iv p4, iv x0, iv x1, iv x2, iv x3, iv 3, rv b28, rv b32, iv 1, u_] [])) _
        refine XS.iconst X33.here hx rfl (hb hby at_218) ?_
        refine XS.istore X33.here hx rfl (hb hby at_219) rfl (l' := #[iv p0, iv p1, iv p2, iv p3, iv p4, iv x0, iv x1, iv x2, iv x3, iv 3, rv b28, rv b32, iv 1, iv 0]) rfl ?_
        refine XS.aload X33.here hx rfl (hb hby at_221) rfl rfl ?_
        exact k
      refine Go.cS X33 hx hml hown hZ (own_w hw 24 rfl) (own_w hw 25 rfl) (own_w hw 26 rfl) (own_w hw 27 rfl) (rmSt3_1 l Z a0 hw [] b32 tb_33 kb_33 x0 x1 x2 cs sf T33.heap n0 O S_CS E_b32 Fv_33 Fc_33 V_33 S_AD S_HI S_LO S_FM hcs hsf rax0 rbx0 rax1 rbx1 rax2 rbx2) 0 [] pd__28Ljava_2flang_2fString_3b_29Z (hb hby at_223) (Eq.refl T33.heap) (fun _ T36 L36 X36 hQ36 => ?_)
      obtain ⟨r_36, rfl, Nq36, e36, ks_36⟩ := hQ36
      have N36 := Fr.app N33 Nq36
      refine Go.step (S' := T36.setTop (mkF m 236 #[iv p0, iv p1, iv p2, iv p3, iv p4, iv x0, iv x1, iv x2, iv x3, iv 3, rv b28, rv b32, iv 1, iv 0] [(.int 1)])) (fun t k => ?_) ?_
      · refine XS.iload X36.here hx rfl (hb hby at_226) rfl ?_
        refine XS.icmpNo X36.here hx rfl (hb hby at_228) rfl (teq ((ks_36.elim (fun q => absurd hc188 q.2.2.2) (fun q => q.1)) : r_36 = (0 : Int32))).2 ?_
        refine XS.iconst X36.here hx rfl (hb hby at_231) ?_
        refine XS.goto X36.here hx rfl (pc0 := 232) (pc' := 236) rfl (hb hby at_232) (by decide) (by decide) ?_
        exact k
      obtain ⟨fs, hr, hrun, hended, hR⟩ := X36.leaveW hS (by rw [e36]; exact hk) (v := some (.int 1)) (fun h => by rw [Bd.returns] at h; cases h)
      refine Go.fin (S' := T36.setFrames fs) ?_ hrun hended ⟨_, _, rfl, ?_, hR.1, hR.2.1, hR.2.2.1, hR.2.2.2.mono (by decide) (by decide)⟩
      · exact retOut X36 hx Bd.returns (by decide) (Or.inl ⟨rfl, Or.inr (Or.inl rfl), _, rfl⟩) (hb hby at_236) hr
      · show Q_rm0 Z p0 p1 p2 p3 p4 cs sf h0 n0 (some (.int 1)) T36.heap _
        rw [e36]
        exact ⟨rfl, N36, K⟩
     ·skip
      refine Go.step (S' := T33.setTop (mkF m 223 #[iv p0, iv p1, iv p2, iv p3, iv p4, iv x0, iv x1, iv x2, iv x3, iv 3, rv b28, rv b32, iv 0, iv 1] [(.ref b32)])) (fun t k => ?_) ?_
      · refine XS.ifNo X33.here hx rfl (hb hby at_188) rfl ((if0 _ _).trans (feq (hc188 : ¬ (x2 = (0 : Int32)))).1) ?_
        refine XS.iload X33.here hx rfl (hb hby at_191) rfl ?_
        refine XS.iconst X33.here hx rfl (hb hby at_193) ?_
        refine XS.icmpYes X33.here hx rfl (pc0 := 194) (pc' := 206) rfl (hb hby at_194) rfl (tlt ((by decide) : (3 : Int32) < (4 : Int32))).1 (by decide) (by decide) ?_
        refine XS.iconst X33.here hx rfl (hb hby at_206) ?_
        refine XS.istore X33.here hx rfl (hb hby at_207) rfl (l' := #[iv p0, iv p1, iv p2, iv p3, iv p4, iv x0, iv x1, iv x2, iv x3, iv 3, rv b28, rv b32, iv 0, u_]) rfl ?_
        show Steps p.tables e below (T33.setTop (mkF m 209 #[iv p0, iv p1, iv p2, iv p3, iv p4, iv x0, iv x1, iv x2, iv x3, iv 3, rv b28, rv b32, iv 0, u_] [])) _
        refine XS.iload X33.here hx rfl (hb hby at_209) rfl ?_
        refine XS.ifNo X33.here hx rfl (hb hby at_211) rfl ((if0 _ _).trans (teq ((by decide) : (0 : Int32) = (0 : Int32))).2) ?_
        refine XS.iconst X33.here hx rfl (hb hby at_214) ?_
        refine XS.goto X33.here hx rfl (pc0 := 215) (pc' := 219) rfl (hb hby at_215) (by decide) (by decide) ?_
        refine XS.istore X33.here hx rfl (hb hby at_219) rfl (l' := #[iv p0, iv p1, iv p2, iv p3, iv p4, iv x0, iv x1, iv x2, iv x3, iv 3, rv b28, rv b32, iv 0, iv 1]) rfl ?_
        refine XS.aload X33.here hx rfl (hb hby at_221) rfl rfl ?_
        exact k
      refine Go.cS X33 hx hml hown hZ (own_w hw 24 rfl) (own_w hw 25 rfl) (own_w hw 26 rfl) (own_w hw 27 rfl) (rmSt3_1 l Z a0 hw [] b32 tb_33 kb_33 x0 x1 x2 cs sf T33.heap n0 O S_CS E_b32 Fv_33 Fc_33 V_33 S_AD S_HI S_LO S_FM hcs hsf rax0 rbx0 rax1 rbx1 rax2 rbx2) 0 [] pd__28Ljava_2flang_2fString_3b_29Z (hb hby at_223) (Eq.refl T33.heap) (fun _ T37 L37 X37 hQ37 => ?_)
      obtain ⟨r_37, rfl, Nq37, e37, ks_37⟩ := hQ37
      have N37 := Fr.app N33 Nq37
      refine Go.step (S' := T37.setTop (mkF m 236 #[iv p0, iv p1, iv p2, iv p3, iv p4, iv x0, iv x1, iv x2, iv x3, iv 3, rv b28, rv b32, iv 0, iv 1] [(.int 1)])) (fun t k => ?_) ?_
      · refine XS.iload X37.here hx rfl (hb hby at_226) rfl ?_
        refine XS.icmpNo X37.here hx rfl (hb hby at_228) rfl (teq ((ks_37.elim (fun q => q.1) (fun q => absurd ⟨hc166, hc177, hc188⟩ q.2)) : r_37 = (1 : Int32))).2 ?_
        refine XS.iconst X37.here hx rfl (hb hby at_231) ?_
        refine XS.goto X37.here hx rfl (pc0 := 232) (pc' := 236) rfl (hb hby at_232) (by decide) (by decide) ?_
        exact k
      obtain ⟨fs, hr, hrun, hended, hR⟩ := X37.leaveW hS (by rw [e37]; exact hk) (v := some (.int 1)) (fun h => by rw [Bd.returns] at h; cases h)
      refine Go.fin (S' := T37.setFrames fs) ?_ hrun hended ⟨_, _, rfl, ?_, hR.1, hR.2.1, hR.2.2.1, hR.2.2.2.mono (by decide) (by decide)⟩
      · exact retOut X37 hx Bd.returns (by decide) (Or.inl ⟨rfl, Or.inr (Or.inl rfl), _, rfl⟩) (hb hby at_236) hr
      · show Q_rm0 Z p0 p1 p2 p3 p4 cs sf h0 n0 (some (.int 1)) T37.heap _
        rw [e37]
        exact ⟨rfl, N37, K⟩
  ·skip
   have hu0 : ¬ ((255 : Int32) < x0) := fun q => hu (Or.inl q)
   have hu1 : ¬ ((255 : Int32) < x1) := fun q => hu (Or.inr (Or.inl q))
   have hu2 : ¬ ((255 : Int32) < x2) := fun q => hu (Or.inr (Or.inr q))
   obtain ⟨T38, h38, X38, e38, E38, A38, D38, -, st38⟩ := newO X31 hx hZ hown (own_w hw 3 rfl) (own_w hw 4 rfl) (own_w hw 5 rfl) e31 (g := (mkF m 147 #[iv p0, iv p1, iv p2, iv p3, iv p4, iv x0, iv x1, iv x2, iv x3, iv 3, rv b28, u_, u_, u_] [])) rfl (hb hby at_147) (by decide) (by decide)
   obtain ⟨b38, g38⟩ : ∃ z, z = Array.size h31 := ⟨_, rfl⟩
   have g_b38 : n0 ≤ b38 := Nat.le_trans (old_le O) (Nat.le_of_eq g38.symm)
   have sz_b38 : h0.size ≤ b38 := Nat.le_trans K.1 (Nat.le_of_eq g38.symm)
   have ne_b28_b38 : b28 ≠ b38 := Nat.ne_of_lt (Nat.lt_of_lt_of_le V_b28.lt (Nat.le_of_eq g38.symm))
   rw [← g38] at A38 D38 st38
   have O := O.ext E38
   have hk := Nat.le_trans hk E38.1
   have K := K.ext E38
   have V_b28 := V_b28.ext E38
   have E_b38 := A38
   have F_value_b38 : Fd_5 Z h38 b38 .null := D38 (Or.inr (own_w hw 18 rfl)) (ty := (.array .byte)) (by decide)
   have F_coder_b38 : Fd_6 Z h38 b38 (.int 0) := D38 (Or.inr (own_w hw 19 rfl)) (ty := .byte) (by decide)
   refine Go.step st38 ?_
   refine Go.step (S' := T38.setTop (mkF m 153 #[iv p0, iv p1, iv p2, iv p3, iv p4, iv x0, iv x1, iv x2, iv x3, iv 3, rv b28, u_, u_, u_] [(.ref b28), (.ref b38), (.ref b38)])) (fun t k => ?_) ?_
   · refine XS.dup X38.here hx rfl (hb hby at_150) rfl rfl ?_
     refine XS.aload X38.here hx rfl (hb hby at_151) rfl rfl ?_
     exact k
   refine Go.cI X38 hx hml hown hZ (own_w hw 6 rfl) (own_w hw 7 rfl) (own_w hw 5 rfl) (own_w hw 8 rfl) (rmNS3 l Z a0 hw [] b38 b28 k28 cs x0 x1 x2 h38 n0 O S_CS E_b38 F_value_b38 F_coder_b38 V_b28 (by assumption) hcs hu0 hu1 hu2) 1 [(.ref b38)] pd__28_5bC_29V (hb hby at_153) e38 (fun _ T39 L39 X39 hQ39 => ?_)
   obtain ⟨tb_39, kb_39, rfl, Nq39, K39, P39_E, P39_Fv, P39_Fc, P39_V⟩ := hQ39
   have N39 := Fr.app N31 Nq39
   have O := O.keep K39 (allS g_b38 all0)
   have hk := Nat.le_trans hk K39.1
   have K := K.trans K39 (allS (Or.inr sz_b38) all0)
   have V_b28 := V_b28.keep K39 (ninS ne_b28_b38 nin0)
   have E_b38 := E_b38.keep K39
   have E_39 := P39_E
   have Fv_39 := P39_Fv
   have Fc_39 := P39_Fc
   have V_39 := P39_V
   refine Go.step (S' := T39.setTop (mkF m 166 #[iv p0, iv p1, iv p2, iv p3, iv p4, iv x0, iv x1, iv x2, iv x3, iv 3, rv b28, rv b38, u_, u_] [(.int x0)])) (fun t k => ?_) ?_
   · refine XS.astore X39.here hx rfl (hb hby at_156) rfl rfl (l' := #[iv p0, iv p1, iv p2, iv p3, iv p4, iv x0, iv x1, iv x2, iv x3, iv 3, rv b28, rv b38, u_, u_]) rfl ?_
     refine XS.iload X39.here hx rfl (hb hby at_158) rfl ?_
     refine XS.iconst X39.here hx rfl (hb hby at_160) ?_
     refine XS.icmpNo X39.here hx rfl (hb hby at_161) rfl (flt ((by decide) : ¬ ((3 : Int32) < (1 : Int32)))).1 ?_
     refine XS.iload X39.here hx rfl (hb hby at_164) rfl ?_
     exact k
   by_cases hc166 : x0 = (0 : Int32)
   ·skip
    refine Go.step (S' := T39.setTop (mkF m 223 #[iv p0, iv p1, iv p2, iv p3, iv p4, iv x0, iv x1, iv x2, iv x3, iv 3, rv b28, rv b38, iv 1, iv 0] [(.ref b38)])) (fun t k => ?_) ?_
    · refine XS.ifYes X39.here hx rfl (pc0 := 166) (pc' := 202) rfl (hb hby at_166) rfl ((if0 _ _).trans (teq (hc166 : x0 = (0 : Int32))).1) (by decide) (by decide) ?_
      refine XS.iconst X39.here hx rfl (hb hby at_202) ?_
      refine XS.goto X39.here hx rfl (pc0 := 203) (pc' := 207) rfl (hb hby at_203) (by decide) (by decide) ?_
      refine XS.istore X39.here hx rfl (hb hby at_207) rfl (l' := #[iv p0, iv p1, iv p2, iv p3, iv p4, iv x0, iv x1, iv x2, iv x3, iv 3, rv b28, rv b38, iv 1, u_]) rfl ?_
      refine XS.iload X39.here hx rfl (hb hby at_209) rfl ?_
      refine XS.ifYes X39.here hx rfl (pc0 := 211) (pc' := 218) rfl (hb hby at_211) rfl ((if0 _ _).trans (feq ((by decide) : ¬ ((1 : Int32) = (0 : Int32)))).2) (by decide) (by decide) ?_
      show Steps p.tables e below (T39.setTop (mkF m 218 #[iv p0, iv p1, iv p2, iv p3, iv p4, iv x0, iv x1, iv x2, iv x3, iv 3, rv b28, rv b38, iv 1, u_] [])) _
      refine XS.iconst X39.here hx rfl (hb hby at_218) ?_
      refine XS.istore X39.here hx rfl (hb hby at_219) rfl (l' := #[iv p0, iv p1, iv p2, iv p3, iv p4, iv x0, iv x1, iv x2, iv x3, iv 3, rv b28, rv b38, iv 1, iv 0]) rfl ?_
      refine XS.aload X39.here hx rfl (hb hby at_221) rfl rfl ?_
      exact k
    refine Go.cS X39 hx hml hown hZ (own_w hw 24 rfl) (own_w hw 25 rfl) (own_w hw 26 rfl) (own_w hw 27 rfl) (rmSt3_0 l Z a0 hw [] b38 tb_39 kb_39 x0 x1 x2 cs T39.heap n0 O S_CS E_b38 Fv_39 Fc_39 V_39 hcs) 0 [] pd__28Ljava_2flang_2fString_3b_29Z (hb hby at_223) (Eq.refl T39.heap) (fun _ T40 L40 X40 hQ40 => ?_)
    obtain ⟨r_40, rfl, Nq40, e40, ks_40⟩ := hQ40
    have N40 := Fr.app N39 Nq40
    refine Go.step (S' := T40.setTop (mkF m 236 #[iv p0, iv p1, iv p2, iv p3, iv p4, iv x0, iv x1, iv x2, iv x3, iv 3, rv b28, rv b38, iv 1, iv 0] [(.int 1)])) (fun t k => ?_) ?_
    · refine XS.iload X40.here hx rfl (hb hby at_226) rfl ?_
      refine XS.icmpNo X40.here hx rfl (hb hby at_228) rfl (teq ((ks_40.elim (fun q => absurd (own_bz0 hc166) q.2.1) (fun q => q.1)) : r_40 = (0 : Int32))).2 ?_
      refine XS.iconst X40.here hx rfl (hb hby at_231) ?_
      refine XS.goto X40.here hx rfl (pc0 := 232) (pc' := 236) rfl (hb hby at_232) (by decide) (by decide) ?_
      exact k
    obtain ⟨fs, hr, hrun, hended, hR⟩ := X40.leaveW hS (by rw [e40]; exact hk) (v := some (.int 1)) (fun h => by rw [Bd.returns] at h; cases h)
    refine Go.fin (S' := T40.setFrames fs) ?_ hrun hended ⟨_, _, rfl, ?_, hR.1, hR.2.1, hR.2.2.1, hR.2.2.2.mono (by decide) (by decide)⟩
    · exact retOut X40 hx Bd.returns (by decide) (Or.inl ⟨rfl, Or.inr (Or.inl rfl), _, rfl⟩) (hb hby at_236) hr
    · show Q_rm0 Z p0 p1 p2 p3 p4 cs sf h0 n0 (some (.int 1)) T40.heap _
      rw [e40]
      exact ⟨rfl, N40, K⟩
   ·skip
    refine Go.step (S' := T39.setTop (mkF m 177 #[iv p0, iv p1, iv p2, iv p3, iv p4, iv x0, iv x1, iv x2, iv x3, iv 3, rv b28, rv b38, u_, u_] [(.int x1)])) (fun t k => ?_) ?_
    · refine XS.ifNo X39.here hx rfl (hb hby at_166) rfl ((if0 _ _).trans (feq (hc166 : ¬ (x0 = (0 : Int32)))).1) ?_
      refine XS.iload X39.here hx rfl (hb hby at_169) rfl ?_
      refine XS.iconst X39.here hx rfl (hb hby at_171) ?_
      refine XS.icmpNo X39.here hx rfl (hb hby at_172) rfl (flt ((by decide) : ¬ ((3 : Int32) < (2 : Int32)))).1 ?_
      refine XS.iload X39.here hx rfl (hb hby at_175) rfl ?_
      exact k
    by_cases hc177 : x1 = (0 : Int32)
    ·skip
     refine Go.step (S' := T39.setTop (mkF m 223 #[iv p0, iv p1, iv p2, iv p3, iv p4, iv x0, iv x1, iv x2, iv x3, iv 3, rv b28, rv b38, iv 1, iv 0] [(.ref b38)])) (fun t k => ?_) ?_
     · refine XS.ifYes X39.here hx rfl (pc0 := 177) (pc' := 202) rfl (hb hby at_177) rfl ((if0 _ _).trans (teq (hc177 : x1 = (0 : Int32))).1) (by decide) (by decide) ?_
       refine XS.iconst X39.here hx rfl (hb hby at_202) ?_
       refine XS.goto X39.here hx rfl (pc0 := 203) (pc' := 207) rfl (hb hby at_203) (by decide) (by decide) ?_
       refine XS.istore X39.here hx rfl (hb hby at_207) rfl (l' := #[iv p0, iv p1, iv p2, iv p3, iv p4, iv x0, iv x1, iv x2, iv x3, iv 3, rv b28, rv b38, iv 1, u_]) rfl ?_
       refine XS.iload X39.here hx rfl (hb hby at_209) rfl ?_
       refine XS.ifYes X39.here hx rfl (pc0 := 211) (pc' := 218) rfl (hb hby at_211) rfl ((if0 _ _).trans (feq ((by decide) : ¬ ((1 : Int32) = (0 : Int32)))).2) (by decide) (by decide) ?_
       show Steps p.tables e below (T39.setTop (mkF m 218 #[iv p0, iv p1, iv p2, iv p3, iv p4, iv x0, iv x1, iv x2, iv x3, iv 3, rv b28, rv b38, iv 1, u_] [])) _
       refine XS.iconst X39.here hx rfl (hb hby at_218) ?_
       refine XS.istore X39.here hx rfl (hb hby at_219) rfl (l' := #[iv p0, iv p1, iv p2, iv p3, iv p4, iv x0, iv x1, iv x2, iv x3, iv 3, rv b28, rv b38, iv 1, iv 0]) rfl ?_
       refine XS.aload X39.here hx rfl (hb hby at_221) rfl rfl ?_
       exact k
     refine Go.cS X39 hx hml hown hZ (own_w hw 24 rfl) (own_w hw 25 rfl) (own_w hw 26 rfl) (own_w hw 27 rfl) (rmSt3_0 l Z a0 hw [] b38 tb_39 kb_39 x0 x1 x2 cs T39.heap n0 O S_CS E_b38 Fv_39 Fc_39 V_39 hcs) 0 [] pd__28Ljava_2flang_2fString_3b_29Z (hb hby at_223) (Eq.refl T39.heap) (fun _ T41 L41 X41 hQ41 => ?_)
     obtain ⟨r_41, rfl, Nq41, e41, ks_41⟩ := hQ41
     have N41 := Fr.app N39 Nq41
     refine Go.step (S' := T41.setTop (mkF m 236 #[iv p0, iv p1, iv p2, iv p3, iv p4, iv x0, iv x1, iv x2, iv x3, iv 3, rv b28, rv b38, iv 1, iv 0] [(.int 1)])) (fun t k => ?_) ?_
     · refine XS.iload X41.here hx rfl (hb hby at_226) rfl ?_
       refine XS.icmpNo X41.here hx rfl (hb hby at_228) rfl (teq ((ks_41.elim (fun q => absurd (own_bz0 hc177) q.2.2.1) (fun q => q.1)) : r_41 = (0 : Int32))).2 ?_
       refine XS.iconst X41.here hx rfl (hb hby at_231) ?_
       refine XS.goto X41.here hx rfl (pc0 := 232) (pc' := 236) rfl (hb hby at_232) (by decide) (by decide) ?_
       exact k
     obtain ⟨fs, hr, hrun, hended, hR⟩ := X41.leaveW hS (by rw [e41]; exact hk) (v := some (.int 1)) (fun h => by rw [Bd.returns] at h; cases h)
     refine Go.fin (S' := T41.setFrames fs) ?_ hrun hended ⟨_, _, rfl, ?_, hR.1, hR.2.1, hR.2.2.1, hR.2.2.2.mono (by decide) (by decide)⟩
     · exact retOut X41 hx Bd.returns (by decide) (Or.inl ⟨rfl, Or.inr (Or.inl rfl), _, rfl⟩) (hb hby at_236) hr
     · show Q_rm0 Z p0 p1 p2 p3 p4 cs sf h0 n0 (some (.int 1)) T41.heap _
       rw [e41]
       exact ⟨rfl, N41, K⟩
    ·skip
     refine Go.step (S' := T39.setTop (mkF m 188 #[iv p0, iv p1, iv p2, iv p3, iv p4, iv x0, iv x1, iv x2, iv x3, iv 3, rv b28, rv b38, u_, u_] [(.int x2)])) (fun t k => ?_) ?_
     · refine XS.ifNo X39.here hx rfl (hb hby at_177) rfl ((if0 _ _).trans (feq (hc177 : ¬ (x1 = (0 : Int32)))).1) ?_
       refine XS.iload X39.here hx rfl (hb hby at_180) rfl ?_
       refine XS.iconst X39.here hx rfl (hb hby at_182) ?_
       refine XS.icmpNo X39.here hx rfl (hb hby at_183) rfl (flt ((by decide) : ¬ ((3 : Int32) < (3 : Int32)))).1 ?_
       refine XS.iload X39.here hx rfl (hb hby at_186) rfl ?_
       exact k
     by_cases hc188 : x2 = (0 : Int32)
     ·skip
      refine Go.step (S' := T39.setTop (mkF m 223 #[iv p0, iv p1, iv p2, iv p3, iv p4, iv x0, iv x1, iv x2, iv x3, iv 3, rv b28, rv b38, iv 1, iv 0] [(.ref b38)])) (fun t k => ?_) ?_
      · refine XS.ifYes X39.here hx rfl (pc0 := 188) (pc' := 202) rfl (hb hby at_188) rfl ((if0 _ _).trans (teq (hc188 : x2 = (0 : Int32))).1) (by decide) (by decide) ?_
        refine XS.iconst X39.here hx rfl (hb hby at_202) ?_
        refine XS.goto X39.here hx rfl (pc0 := 203) (pc' := 207) rfl (hb hby at_203) (by decide) (by decide) ?_
        refine XS.istore X39.here hx rfl (hb hby at_207) rfl (l' := #[iv p0, iv p1, iv p2, iv p3, iv p4, iv x0, iv x1, iv x2, iv x3, iv 3, rv b28, rv b38, iv 1, u_]) rfl ?_
        refine XS.iload X39.here hx rfl (hb hby at_209) rfl ?_
        refine XS.ifYes X39.here hx rfl (pc0 := 211) (pc' := 218) rfl (hb hby at_211) rfl ((if0 _ _).trans (feq ((by decide) : ¬ ((1 : Int32) = (0 : Int32)))).2) (by decide) (by decide) ?_
        show Steps p.tables e below (T39.setTop (mkF m 218 #[iv p0, iv p1, iv p2, iv p3, iv p4, iv x0, iv x1, iv x2, iv x3, iv 3, rv b28, rv b38, iv 1, u_] [])) _
        refine XS.iconst X39.here hx rfl (hb hby at_218) ?_
        refine XS.istore X39.here hx rfl (hb hby at_219) rfl (l' := #[iv p0, iv p1, iv p2, iv p3, iv p4, iv x0, iv x1, iv x2, iv x3, iv 3, rv b28, rv b38, iv 1, iv 0]) rfl ?_
        refine XS.aload X39.here hx rfl (hb hby at_221) rfl rfl ?_
        exact k
      refine Go.cS X39 hx hml hown hZ (own_w hw 24 rfl) (own_w hw 25 rfl) (own_w hw 26 rfl) (own_w hw 27 rfl) (rmSt3_0 l Z a0 hw [] b38 tb_39 kb_39 x0 x1 x2 cs T39.heap n0 O S_CS E_b38 Fv_39 Fc_39 V_39 hcs) 0 [] pd__28Ljava_2flang_2fString_3b_29Z (hb hby at_223) (Eq.refl T39.heap) (fun _ T42 L42 X42 hQ42 => ?_)
      obtain ⟨r_42, rfl, Nq42, e42, ks_42⟩ := hQ42
      have N42 := Fr.app N39 Nq42
      refine Go.step (S' := T42.setTop (mkF m 236 #[iv p0, iv p1, iv p2, iv p3, iv p4, iv x0, iv x1, iv x2, iv x3, iv 3, rv b28, rv b38, iv 1, iv 0] [(.int 1)])) (fun t k => ?_) ?_
      · refine XS.iload X42.here hx rfl (hb hby at_226) rfl ?_
        refine XS.icmpNo X42.here hx rfl (hb hby at_228) rfl (teq ((ks_42.elim (fun q => absurd (own_bz0 hc188) q.2.2.2) (fun q => q.1)) : r_42 = (0 : Int32))).2 ?_
        refine XS.iconst X42.here hx rfl (hb hby at_231) ?_
        refine XS.goto X42.here hx rfl (pc0 := 232) (pc' := 236) rfl (hb hby at_232) (by decide) (by decide) ?_
        exact k
      obtain ⟨fs, hr, hrun, hended, hR⟩ := X42.leaveW hS (by rw [e42]; exact hk) (v := some (.int 1)) (fun h => by rw [Bd.returns] at h; cases h)
      refine Go.fin (S' := T42.setFrames fs) ?_ hrun hended ⟨_, _, rfl, ?_, hR.1, hR.2.1, hR.2.2.1, hR.2.2.2.mono (by decide) (by decide)⟩
      · exact retOut X42 hx Bd.returns (by decide) (Or.inl ⟨rfl, Or.inr (Or.inl rfl), _, rfl⟩) (hb hby at_236) hr
      · show Q_rm0 Z p0 p1 p2 p3 p4 cs sf h0 n0 (some (.int 1)) T42.heap _
        rw [e42]
        exact ⟨rfl, N42, K⟩
     ·skip
      refine Go.step (S' := T39.setTop (mkF m 223 #[iv p0, iv p1, iv p2, iv p3, iv p4, iv x0, iv x1, iv x2, iv x3, iv 3, rv b28, rv b38, iv 0, iv 1] [(.ref b38)])) (fun t k => ?_) ?_
      · refine XS.ifNo X39.here hx rfl (hb hby at_188) rfl ((if0 _ _).trans (feq (hc188 : ¬ (x2 = (0 : Int32)))).1) ?_
        refine XS.iload X39.here hx rfl (hb hby at_191) rfl ?_
        refine XS.iconst X39.here hx rfl (hb hby at_193) ?_
        refine XS.icmpYes X39.here hx rfl (pc0 := 194) (pc' := 206) rfl (hb hby at_194) rfl (tlt ((by decide) : (3 : Int32) < (4 : Int32))).1 (by decide) (by decide) ?_
        refine XS.iconst X39.here hx rfl (hb hby at_206) ?_
        refine XS.istore X39.here hx rfl (hb hby at_207) rfl (l' := #[iv p0, iv p1, iv p2, iv p3, iv p4, iv x0, iv x1, iv x2, iv x3, iv 3, rv b28, rv b38, iv 0, u_]) rfl ?_
        show Steps p.tables e below (T39.setTop (mkF m 209 #[iv p0, iv p1, iv p2, iv p3, iv p4, iv x0, iv x1, iv x2, iv x3, iv 3, rv b28, rv b38, iv 0, u_] [])) _
        refine XS.iload X39.here hx rfl (hb hby at_209) rfl ?_
        refine XS.ifNo X39.here hx rfl (hb hby at_211) rfl ((if0 _ _).trans (teq ((by decide) : (0 : Int32) = (0 : Int32))).2) ?_
        refine XS.iconst X39.here hx rfl (hb hby at_214) ?_
        refine XS.goto X39.here hx rfl (pc0 := 215) (pc' := 219) rfl (hb hby at_215) (by decide) (by decide) ?_
        refine XS.istore X39.here hx rfl (hb hby at_219) rfl (l' := #[iv p0, iv p1, iv p2, iv p3, iv p4, iv x0, iv x1, iv x2, iv x3, iv 3, rv b28, rv b38, iv 0, iv 1]) rfl ?_
        refine XS.aload X39.here hx rfl (hb hby at_221) rfl rfl ?_
        exact k
      refine Go.cS X39 hx hml hown hZ (own_w hw 24 rfl) (own_w hw 25 rfl) (own_w hw 26 rfl) (own_w hw 27 rfl) (rmSt3_0 l Z a0 hw [] b38 tb_39 kb_39 x0 x1 x2 cs T39.heap n0 O S_CS E_b38 Fv_39 Fc_39 V_39 hcs) 0 [] pd__28Ljava_2flang_2fString_3b_29Z (hb hby at_223) (Eq.refl T39.heap) (fun _ T43 L43 X43 hQ43 => ?_)
      obtain ⟨r_43, rfl, Nq43, e43, ks_43⟩ := hQ43
      have N43 := Fr.app N39 Nq43
      refine Go.step (S' := T43.setTop (mkF m 236 #[iv p0, iv p1, iv p2, iv p3, iv p4, iv x0, iv x1, iv x2, iv x3, iv 3, rv b28, rv b38, iv 0, iv 1] [(.int 1)])) (fun t k => ?_) ?_
      · refine XS.iload X43.here hx rfl (hb hby at_226) rfl ?_
        refine XS.icmpNo X43.here hx rfl (hb hby at_228) rfl (teq ((ks_43.elim (fun q => q.1) (fun q => absurd ⟨(own_bz rax0 hu0 hc166), (own_bz rax1 hu1 hc177), (own_bz rax2 hu2 hc188)⟩ q.2)) : r_43 = (1 : Int32))).2 ?_
        refine XS.iconst X43.here hx rfl (hb hby at_231) ?_
        refine XS.goto X43.here hx rfl (pc0 := 232) (pc' := 236) rfl (hb hby at_232) (by decide) (by decide) ?_
        exact k
      obtain ⟨fs, hr, hrun, hended, hR⟩ := X43.leaveW hS (by rw [e43]; exact hk) (v := some (.int 1)) (fun h => by rw [Bd.returns] at h; cases h)
      refine Go.fin (S' := T43.setFrames fs) ?_ hrun hended ⟨_, _, rfl, ?_, hR.1, hR.2.1, hR.2.2.1, hR.2.2.2.mono (by decide) (by decide)⟩
      · exact retOut X43 hx Bd.returns (by decide) (Or.inl ⟨rfl, Or.inr (Or.inl rfl), _, rfl⟩) (hb hby at_236) hr
      · show Q_rm0 Z p0 p1 p2 p3 p4 cs sf h0 n0 (some (.int 1)) T43.heap _
        rw [e43]
        exact ⟨rfl, N43, K⟩
 ·skip
  show Go p e below _ (s₁.setTop (mkF m 37 #[iv p0, iv p1, iv p2, iv p3, iv p4, iv x0, iv x1, iv x2, iv x3, iv ((p4 &&& (2147483647 : Int32)) % (5 : Int32)), u_, u_, u_, u_] []))
  rw [(hn5 : ((p4 &&& (2147483647 : Int32)) % (5 : Int32)) = (4 : Int32))]
  show Go p e below _ (s₁.setTop (mkF m 37 #[iv p0, iv p1, iv p2, iv p3, iv p4, iv x0, iv x1, iv x2, iv x3, iv 4, u_, u_, u_, u_] []))
  refine Go.step (S' := s₁.setTop (mkF m 123 #[iv p0, iv p1, iv p2, iv p3, iv p4, iv x0, iv x1, iv x2, iv x3, iv 4, u_, u_, u_, u_] [(.int 4)])) (fun t k => ?_) ?_
  · refine XS.iload X0.here hx rfl (hb hby at_37) rfl ?_
    refine XS.ifYes X0.here hx rfl (pc0 := 39) (pc' := 50) rfl (hb hby at_39) rfl ((if0 _ _).trans (feq ((by decide) : ¬ ((4 : Int32) = (0 : Int32)))).2) (by decide) (by decide) ?_
    refine XS.iload X0.here hx rfl (hb hby at_50) rfl ?_
    refine XS.iconst X0.here hx rfl (hb hby at_52) ?_
    refine XS.icmpYes X0.here hx rfl (pc0 := 53) (pc' := 69) rfl (hb hby at_53) rfl (feq ((by decide) : ¬ ((4 : Int32) = (1 : Int32)))).2 (by decide) (by decide) ?_
    refine XS.iload X0.here hx rfl (hb hby at_69) rfl ?_
    show Steps p.tables e below (s₁.setTop (mkF m 71 #[iv p0, iv p1, iv p2, iv p3, iv p4, iv x0, iv x1, iv x2, iv x3, iv 4, u_, u_, u_, u_] [(.int 4)])) _
    refine XS.iconst X0.here hx rfl (hb hby at_71) ?_
    refine XS.icmpYes X0.here hx rfl (pc0 := 72) (pc' := 93) rfl (hb hby at_72) rfl (feq ((by decide) : ¬ ((4 : Int32) = (2 : Int32)))).2 (by decide) (by decide) ?_
    refine XS.iload X0.here hx rfl (hb hby at_93) rfl ?_
    refine XS.iconst X0.here hx rfl (hb hby at_95) ?_
    refine XS.icmpYes X0.here hx rfl (pc0 := 96) (pc' := 122) rfl (hb hby at_96) rfl (feq ((by decide) : ¬ ((4 : Int32) = (3 : Int32)))).2 (by decide) (by decide) ?_
    refine XS.iconst X0.here hx rfl (hb hby at_122) ?_
    exact k
  obtain ⟨T44, h44, k44, X44, e44, E44, A44, st44⟩ := newP X0 hx hZ (own_w hw 2 rfl) e0 (g := (mkF m 123 #[iv p0, iv p1, iv p2, iv p3, iv p4, iv x0, iv x1, iv x2, iv x3, iv 4, u_, u_, u_, u_] [(.int 4)])) rfl (hb hby at_123) rfl (by decide) (cap := 4) (by decide) (by decide) (by decide) (by decide)
  obtain ⟨b44, g44⟩ : ∃ z, z = Array.size h0 := ⟨_, rfl⟩
  have g_b44 : n0 ≤ b44 := Nat.le_trans (old_le O) (Nat.le_of_eq g44.symm)
  have sz_b44 : h0.size ≤ b44 := Nat.le_trans K.1 (Nat.le_of_eq g44.symm)
  rw [← g44] at A44 st44
  have O := O.ext E44
  have CH := CHv.ext E44 CH
  have hk := Nat.le_trans hk E44.1
  have K := K.ext E44
  have V_b44 : Arv Z h44 b44 k44 .char (4 : Int32) [(.int 0), (.int 0), (.int 0), (.int 0)] (.int 0) := (Arv.new A44 (by decide)).pad (pad_rep [] (.int 0) 4)
  refine Go.step st44 ?_
  refine Go.step (S' := T44.setTop (mkF m 129 #[iv p0, iv p1, iv p2, iv p3, iv p4, iv x0, iv x1, iv x2, iv x3, iv 4, u_, u_, u_, u_] [(.int x0), (.int 0), (.ref b44), (.ref b44)])) (fun t k => ?_) ?_
  · refine XS.dup X44.here hx rfl (hb hby at_125) rfl rfl ?_
    refine XS.iconst X44.here hx rfl (hb hby at_126) ?_
    refine XS.iload X44.here hx rfl (hb hby at_127) rfl ?_
    exact k
  obtain ⟨cl45, Ar45, q45, S45, N45_, H45, G45⟩ := V_b44
  have hin45 : ¬ ((0 : Int32) < 0 ∨ cl45.slots.size ≤ ((0 : Int32)).toNatClampNeg) := inb_of S45 ⟨by decide, by decide⟩
  obtain ⟨T45, h45, X45, e45, W45, st45⟩ := stC X44 hx hZ e44 Ar45 (j := (0 : Int32)) hin45 (g := (mkF m 129 #[iv p0, iv p1, iv p2, iv p3, iv p4, iv x0, iv x1, iv x2, iv x3, iv 4, u_, u_, u_, u_] [(.int x0), (.int 0), (.ref b44), (.ref b44)])) rfl rfl (hb hby at_129)
  have O := O.wr W45 g_b44
  have hk := Nat.le_trans hk (Keep.of_wr W45).1
  have K := K.wr W45 (Or.inr sz_b44)
  have V_b44 : Arv Z h45 b44 k44 .char (4 : Int32) [(.int (x0.toUInt32.toUInt16.toUInt32.toInt32)), (.int 0), (.int 0), (.int 0)] (.int 0) := Arv.set Ar45 q45 S45 N45_ H45 G45 (fits_nar_char _) W45 0 rfl (Nat.le_of_ble_eq_true rfl)
  rw [(own_cx rax0 rbx0 : (x0.toUInt32.toUInt16.toUInt32.toInt32) = x0)] at V_b44
  have N45 := Fr.snoc X45 N0 g_b44
  refine Go.step st45 ?_
  refine Go.step (S' := T45.setTop (mkF m 134 #[iv p0, iv p1, iv p2, iv p3, iv p4, iv x0, iv x1, iv x2, iv x3, iv 4, u_, u_, u_, u_] [(.int x1), (.int 1), (.ref b44), (.ref b44)])) (fun t k => ?_) ?_
  · refine XS.dup X45.here hx rfl (hb hby at_130) rfl rfl ?_
    refine XS.iconst X45.here hx rfl (hb hby at_131) ?_
    refine XS.iload X45.here hx rfl (hb hby at_132) rfl ?_
    exact k
  obtain ⟨cl46, Ar46, q46, S46, N46_, H46, G46⟩ := V_b44
  have hin46 : ¬ ((1 : Int32) < 0 ∨ cl46.slots.size ≤ ((1 : Int32)).toNatClampNeg) := inb_of S46 ⟨by decide, by decide⟩
  obtain ⟨T46, h46, X46, e46, W46, st46⟩ := stC X45 hx hZ e45 Ar46 (j := (1 : Int32)) hin46 (g := (mkF m 134 #[iv p0, iv p1, iv p2, iv p3, iv p4, iv x0, iv x1, iv x2, iv x3, iv 4, u_, u_, u_, u_] [(.int x1), (.int 1), (.ref b44), (.ref b44)])) rfl rfl (hb hby at_134)
  have O := O.wr W46 g_b44
  have hk := Nat.le_trans hk (Keep.of_wr W46).1
  have K := K.wr W46 (Or.inr sz_b44)
  have V_b44 : Arv Z h46 b44 k44 .char (4 : Int32) [(.int x0), (.int (x1.toUInt32.toUInt16.toUInt32.toInt32)), (.int 0), (.int 0)] (.int 0) := Arv.set Ar46 q46 S46 N46_ H46 G46 (fits_nar_char _) W46 1 rfl (Nat.le_of_ble_eq_true rfl)
  rw [(own_cx rax1 rbx1 : (x1.toUInt32.toUInt16.toUInt32.toInt32) = x1)] at V_b44
  have N46 := Fr.snoc X46 N45 g_b44
  refine Go.step st46 ?_
  refine Go.step (S' := T46.setTop (mkF m 139 #[iv p0, iv p1, iv p2, iv p3, iv p4, iv x0, iv x1, iv x2, iv x3, iv 4, u_, u_, u_, u_] [(.int x2), (.int 2), (.ref b44), (.ref b44)])) (fun t k => ?_) ?_
  · refine XS.dup X46.here hx rfl (hb hby at_135) rfl rfl ?_
    refine XS.iconst X46.here hx rfl (hb hby at_136) ?_
    refine XS.iload X46.here hx rfl (hb hby at_137) rfl ?_
    exact k
  obtain ⟨cl47, Ar47, q47, S47, N47_, H47, G47⟩ := V_b44
  have hin47 : ¬ ((2 : Int32) < 0 ∨ cl47.slots.size ≤ ((2 : Int32)).toNatClampNeg) := inb_of S47 ⟨by decide, by decide⟩
  obtain ⟨T47, h47, X47, e47, W47, st47⟩ := stC X46 hx hZ e46 Ar47 (j := (2 : Int32)) hin47 (g := (mkF m 139 #[iv p0, iv p1, iv p2, iv p3, iv p4, iv x0, iv x1, iv x2, iv x3, iv 4, u_, u_, u_, u_] [(.int x2), (.int 2), (.ref b44), (.ref b44)])) rfl rfl (hb hby at_139)
  have O := O.wr W47 g_b44
  have hk := Nat.le_trans hk (Keep.of_wr W47).1
  have K := K.wr W47 (Or.inr sz_b44)
  have V_b44 : Arv Z h47 b44 k44 .char (4 : Int32) [(.int x0), (.int x1), (.int (x2.toUInt32.toUInt16.toUInt32.toInt32)), (.int 0)] (.int 0) := Arv.set Ar47 q47 S47 N47_ H47 G47 (fits_nar_char _) W47 2 rfl (Nat.le_of_ble_eq_true rfl)
  rw [(own_cx rax2 rbx2 : (x2.toUInt32.toUInt16.toUInt32.toInt32) = x2)] at V_b44
  have N47 := Fr.snoc X47 N46 g_b44
  refine Go.step st47 ?_
  refine Go.step (S' := T47.setTop (mkF m 144 #[iv p0, iv p1, iv p2, iv p3, iv p4, iv x0, iv x1, iv x2, iv x3, iv 4, u_, u_, u_, u_] [(.int x3), (.int 3), (.ref b44), (.ref b44)])) (fun t k => ?_) ?_
  · refine XS.dup X47.here hx rfl (hb hby at_140) rfl rfl ?_
    refine XS.iconst X47.here hx rfl (hb hby at_141) ?_
    refine XS.iload X47.here hx rfl (hb hby at_142) rfl ?_
    exact k
  obtain ⟨cl48, Ar48, q48, S48, N48_, H48, G48⟩ := V_b44
  have hin48 : ¬ ((3 : Int32) < 0 ∨ cl48.slots.size ≤ ((3 : Int32)).toNatClampNeg) := inb_of S48 ⟨by decide, by decide⟩
  obtain ⟨T48, h48, X48, e48, W48, st48⟩ := stC X47 hx hZ e47 Ar48 (j := (3 : Int32)) hin48 (g := (mkF m 144 #[iv p0, iv p1, iv p2, iv p3, iv p4, iv x0, iv x1, iv x2, iv x3, iv 4, u_, u_, u_, u_] [(.int x3), (.int 3), (.ref b44), (.ref b44)])) rfl rfl (hb hby at_144)
  have O := O.wr W48 g_b44
  have hk := Nat.le_trans hk (Keep.of_wr W48).1
  have K := K.wr W48 (Or.inr sz_b44)
  have V_b44 : Arv Z h48 b44 k44 .char (4 : Int32) [(.int x0), (.int x1), (.int x2), (.int (x3.toUInt32.toUInt16.toUInt32.toInt32))] (.int 0) := Arv.set Ar48 q48 S48 N48_ H48 G48 (fits_nar_char _) W48 3 rfl (Nat.le_of_ble_eq_true rfl)
  rw [(own_cx rax3 rbx3 : (x3.toUInt32.toUInt16.toUInt32.toInt32) = x3)] at V_b44
  have N48 := Fr.snoc X48 N47 g_b44
  refine Go.step st48 ?_
  refine Go.step (S' := T48.setTop (mkF m 147 #[iv p0, iv p1, iv p2, iv p3, iv p4, iv x0, iv x1, iv x2, iv x3, iv 4, rv b44, u_, u_, u_] [])) (fun t k => ?_) ?_
  · refine XS.astore X48.here hx rfl (hb hby at_145) rfl rfl (l' := #[iv p0, iv p1, iv p2, iv p3, iv p4, iv x0, iv x1, iv x2, iv x3, iv 4, rv b44, u_, u_, u_]) rfl ?_
    exact k
  by_cases hu : ((255 : Int32) < x0) ∨ ((255 : Int32) < x1) ∨ ((255 : Int32) < x2) ∨ ((255 : Int32) < x3)
  ·skip
   obtain ⟨T49, h49, X49, e49, E49, A49, D49, -, st49⟩ := newO X48 hx hZ hown (own_w hw 3 rfl) (own_w hw 4 rfl) (own_w hw 5 rfl) e48 (g := (mkF m 147 #[iv p0, iv p1, iv p2, iv p3, iv p4, iv x0, iv x1, iv x2, iv x3, iv 4, rv b44, u_, u_, u_] [])) rfl (hb hby at_147) (by decide) (by decide)
   obtain ⟨b49, g49⟩ : ∃ z, z = Array.size h48 := ⟨_, rfl⟩
   have g_b49 : n0 ≤ b49 := Nat.le_trans (old_le O) (Nat.le_of_eq g49.symm)
   have sz_b49 : h0.size ≤ b49 := Nat.le_trans K.1 (Nat.le_of_eq g49.symm)
   have ne_b44_b49 : b44 ≠ b49 := Nat.ne_of_lt (Nat.lt_of_lt_of_le V_b44.lt (Nat.le_of_eq g49.symm))
   rw [← g49] at A49 D49 st49
   have O := O.ext E49
   have hk := Nat.le_trans hk E49.1
   have K := K.ext E49
   have V_b44 := V_b44.ext E49
   have E_b49 := A49
   have F_value_b49 : Fd_5 Z h49 b49 .null := D49 (Or.inr (own_w hw 18 rfl)) (ty := (.array .byte)) (by decide)
   have F_coder_b49 : Fd_6 Z h49 b49 (.int 0) := D49 (Or.inr (own_w hw 19 rfl)) (ty := .byte) (by decide)
   refine Go.step st49 ?_
   refine Go.step (S' := T49.setTop (mkF m 153 #[iv p0, iv p1, iv p2, iv p3, iv p4, iv x0, iv x1, iv x2, iv x3, iv 4, rv b44, u_, u_, u_] [(.ref b44), (.ref b49), (.ref b49)])) (fun t k => ?_) ?_
   · refine XS.dup X49.here hx rfl (hb hby at_150) rfl rfl ?_
     refine XS.aload X49.here hx rfl (hb hby at_151) rfl rfl ?_
     exact k
   refine Go.cI X49 hx hml hown hZ (own_w hw 6 rfl) (own_w hw 7 rfl) (own_w hw 5 rfl) (own_w hw 8 rfl) (rmNSU4 l Z a0 hw [] b49 b44 k44 cs x0 x1 x2 x3 h49 n0 O S_CS S_AD S_HI S_LO E_b49 F_value_b49 F_coder_b49 V_b44 (by assumption) hcs hu rax0 rbx0 rax1 rbx1 rax2 rbx2 rax3 rbx3) 1 [(.ref b49)] pd__28_5bC_29V (hb hby at_153) e49 (fun _ T50 L50 X50 hQ50 => ?_)
   obtain ⟨tb_50, kb_50, rfl, Nq50, K50, P50_E, P50_Fv, P50_Fc, P50_V⟩ := hQ50
   have N50 := Fr.app N48 Nq50
   have O := O.keep K50 (allS g_b49 all0)
   have hk := Nat.le_trans hk K50.1
   have K := K.trans K50 (allS (Or.inr sz_b49) all0)
   have V_b44 := V_b44.keep K50 (ninS ne_b44_b49 nin0)
   have E_b49 := E_b49.keep K50
   have E_50 := P50_E
   have Fv_50 := P50_Fv
   have Fc_50 := P50_Fc
   have V_50 := P50_V
   refine Go.step (S' := T50.setTop (mkF m 166 #[iv p0, iv p1, iv p2, iv p3, iv p4, iv x0, iv x1, iv x2, iv x3, iv 4, rv b44, rv b49, u_, u_] [(.int x0)])) (fun t k => ?_) ?_
   · refine XS.astore X50.here hx rfl (hb hby at_156) rfl rfl (l' := #[iv p0, iv p1, iv p2, iv p3, iv p4, iv x0, iv x1, iv x2, iv x3, iv 4, rv b44, rv b49, u_, u_]) rfl ?_
     refine XS.iload X50.here hx rfl (hb hby at_158) rfl ?_
     refine XS.iconst X50.here hx rfl (hb hby at_160) ?_
     refine XS.icmpNo X50.here hx rfl (hb hby at_161) rfl (flt ((by decide) : ¬ ((4 : Int32) < (1 : Int32)))).1 ?_
     refine XS.iload X50.here hx rfl (hb hby at_164) rfl ?_
     exact k
   by_cases hc166 : x0 = (0 : Int32)
   ·skip
    refine Go.step (S' := T50.setTop (mkF m 223 #[iv p0, iv p1, iv p2, iv p3, iv p4, iv x0, iv x1, iv x2, iv x3, iv 4, rv b44, rv b49, iv 1, iv 0] [(.ref b49)])) (fun t k => ?_) ?_
    · refine XS.ifYes X50.here hx rfl (pc0 := 166) (pc' := 202) rfl (hb hby at_166) rfl ((if0 _ _).trans (teq (hc166 : x0 = (0 : Int32))).1) (by decide) (by decide) ?_
      refine XS.iconst X50.here hx rfl (hb hby at_202) ?_
      refine XS.goto X50.here hx rfl (pc0 := 203) (pc' := 207) rfl (hb hby at_203) (by decide) (by decide) ?_
      refine XS.istore X50.here hx rfl (hb hby at_207) rfl (l' := #[iv p0, iv p1, iv p2, iv p3, iv p4, iv x0, iv x1, iv x2, iv x3, iv 4, rv b44, rv b49, iv 1, u_]) rfl ?_
      refine XS.iload X50.here hx rfl (hb hby at_209) rfl ?_
      refine XS.ifYes X50.here hx rfl (pc0 := 211) (pc' := 218) rfl (hb hby at_211) rfl ((if0 _ _).trans (feq ((by decide) : ¬ ((1 : Int32) = (0 : Int32)))).2) (by decide) (by decide) ?_
      show Steps p.tables e below (T50.setTop (mkF m 218 #[iv p0, iv p1, iv p2, iv p3, iv p4, iv x0, iv x1, iv x2, iv x3, iv 4, rv b44, rv b49, iv 1, u_] [])) _
      refine XS.iconst X50.here hx rfl (hb hby at_218) ?_
      refine XS.istore X50.here hx rfl (hb hby at_219) rfl (l' := #[iv p0, iv p1, iv p2, iv p3, iv p4, iv x0, iv x1, iv x2, iv x3, iv 4, rv b44, rv b49, iv 1, iv 0]) rfl ?_
      refine XS.aload X50.here hx rfl (hb hby at_221) rfl rfl ?_
      exact k
    refine Go.cS X50 hx hml hown hZ (own_w hw 24 rfl) (own_w hw 25 rfl) (own_w hw 26 rfl) (own_w hw 27 rfl) (rmSt4_1 l Z a0 hw [] b49 tb_50 kb_50 x0 x1 x2 x3 cs sf T50.heap n0 O S_CS E_b49 Fv_50 Fc_50 V_50 S_AD S_HI S_LO S_FM hcs hsf rax0 rbx0 rax1 rbx1 rax2 rbx2 rax3 rbx3) 0 [] pd__28Ljava_2flang_2fString_3b_29Z (hb hby at_223) (Eq.refl T50.heap) (fun _ T51 L51 X51 hQ51 => ?_)
    obtain ⟨r_51, rfl, Nq51, e51, ks_51⟩ := hQ51
    have N51 := Fr.app N50 Nq51
    refine Go.step (S' := T51.setTop (mkF m 236 #[iv p0, iv p1, iv p2, iv p3, iv p4, iv x0, iv x1, iv x2, iv x3, iv 4, rv b44, rv b49, iv 1, iv 0] [(.int 1)])) (fun t k => ?_) ?_
    · refine XS.iload X51.here hx rfl (hb hby at_226) rfl ?_
      refine XS.icmpNo X51.here hx rfl (hb hby at_228) rfl (teq ((ks_51.elim (fun q => absurd hc166 q.2.1) (fun q => q.1)) : r_51 = (0 : Int32))).2 ?_
      refine XS.iconst X51.here hx rfl (hb hby at_231) ?_
      refine XS.goto X51.here hx rfl (pc0 := 232) (pc' := 236) rfl (hb hby at_232) (by decide) (by decide) ?_
      exact k
    obtain ⟨fs, hr, hrun, hended, hR⟩ := X51.leaveW hS (by rw [e51]; exact hk) (v := some (.int 1)) (fun h => by rw [Bd.returns] at h; cases h)
    refine Go.fin (S' := T51.setFrames fs) ?_ hrun hended ⟨_, _, rfl, ?_, hR.1, hR.2.1, hR.2.2.1, hR.2.2.2.mono (by decide) (by decide)⟩
    · exact retOut X51 hx Bd.returns (by decide) (Or.inl ⟨rfl, Or.inr (Or.inl rfl), _, rfl⟩) (hb hby at_236) hr
    · show Q_rm0 Z p0 p1 p2 p3 p4 cs sf h0 n0 (some (.int 1)) T51.heap _
      rw [e51]
      exact ⟨rfl, N51, K⟩
   ·skip
    refine Go.step (S' := T50.setTop (mkF m 177 #[iv p0, iv p1, iv p2, iv p3, iv p4, iv x0, iv x1, iv x2, iv x3, iv 4, rv b44, rv b49, u_, u_] [(.int x1)])) (fun t k => ?_) ?_
    · refine XS.ifNo X50.here hx rfl (hb hby at_166) rfl ((if0 _ _).trans (feq (hc166 : ¬ (x0 = (0 : Int32)))).1) ?_
      refine XS.iload X50.here hx rfl (hb hby at_169) rfl ?_
      refine XS.iconst X50.here hx rfl (hb hby at_171) ?_
      refine XS.icmpNo X50.here hx rfl (hb hby at_172) rfl (flt ((by decide) : ¬ ((4 : Int32) < (2 : Int32)))).1 ?_
      refine XS.iload X50.here hx rfl (hb hby at_175) rfl ?_
      exact k
    by_cases hc177 : x1 = (0 : Int32)
    ·skip
     refine Go.step (S' := T50.setTop (mkF m 223 #[iv p0, iv p1, iv p2, iv p3, iv p4, iv x0, iv x1, iv x2, iv x3, iv 4, rv b44, rv b49, iv 1, iv 0] [(.ref b49)])) (fun t k => ?_) ?_
     · refine XS.ifYes X50.here hx rfl (pc0 := 177) (pc' := 202) rfl (hb hby at_177) rfl ((if0 _ _).trans (teq (hc177 : x1 = (0 : Int32))).1) (by decide) (by decide) ?_
       refine XS.iconst X50.here hx rfl (hb hby at_202) ?_
       refine XS.goto X50.here hx rfl (pc0 := 203) (pc' := 207) rfl (hb hby at_203) (by decide) (by decide) ?_
       refine XS.istore X50.here hx rfl (hb hby at_207) rfl (l' := #[iv p0, iv p1, iv p2, iv p3, iv p4, iv x0, iv x1, iv x2, iv x3, iv 4, rv b44, rv b49, iv 1, u_]) rfl ?_
       refine XS.iload X50.here hx rfl (hb hby at_209) rfl ?_
       refine XS.ifYes X50.here hx rfl (pc0 := 211) (pc' := 218) rfl (hb hby at_211) rfl ((if0 _ _).trans (feq ((by decide) : ¬ ((1 : Int32) = (0 : Int32)))).2) (by decide) (by decide) ?_
       show Steps p.tables e below (T50.setTop (mkF m 218 #[iv p0, iv p1, iv p2, iv p3, iv p4, iv x0, iv x1, iv x2, iv x3, iv 4, rv b44, rv b49, iv 1, u_] [])) _
       refine XS.iconst X50.here hx rfl (hb hby at_218) ?_
       refine XS.istore X50.here hx rfl (hb hby at_219) rfl (l' := #[iv p0, iv p1, iv p2, iv p3, iv p4, iv x0, iv x1, iv x2, iv x3, iv 4, rv b44, rv b49, iv 1, iv 0]) rfl ?_
       refine XS.aload X50.here hx rfl (hb hby at_221) rfl rfl ?_
       exact k
     refine Go.cS X50 hx hml hown hZ (own_w hw 24 rfl) (own_w hw 25 rfl) (own_w hw 26 rfl) (own_w hw 27 rfl) (rmSt4_1 l Z a0 hw [] b49 tb_50 kb_50 x0 x1 x2 x3 cs sf T50.heap n0 O S_CS E_b49 Fv_50 Fc_50 V_50 S_AD S_HI S_LO S_FM hcs hsf rax0 rbx0 rax1 rbx1 rax2 rbx2 rax3 rbx3) 0 [] pd__28Ljava_2flang_2fString_3b_29Z (hb hby at_223) (Eq.refl T50.heap) (fun _ T52 L52 X52 hQ52 => ?_)
     obtain ⟨r_52, rfl, Nq52, e52, ks_52⟩ := hQ52
     have N52 := Fr.app N50 Nq52
     refine Go.step (S' := T52.setTop (mkF m 236 #[iv p0, iv p1, iv p2, iv p3, iv p4, iv x0, iv x1, iv x2, iv x3, iv 4, rv b44, rv b49, iv 1, iv 0] [(.int 1)])) (fun t k => ?_) ?_
     · refine XS.iload X52.here hx rfl (hb hby at_226) rfl ?_
       refine XS.icmpNo X52.here hx rfl (hb hby at_228) rfl (teq ((ks_52.elim (fun q => absurd hc177 q.2.2.1) (fun q => q.1)) : r_52 = (0 : Int32))).2 ?_
       refine XS.iconst X52.here hx rfl (hb hby at_231) ?_
       refine XS.goto X52.here hx rfl (pc0 := 232) (pc' := 236) rfl (hb hby at_232) (by decide) (by decide) ?_
       exact k
     obtain ⟨fs, hr, hrun, hended, hR⟩ := X52.leaveW hS (by rw [e52]; exact hk) (v := some (.int 1)) (fun h => by rw [Bd.returns] at h; cases h)
     refine Go.fin (S' := T52.setFrames fs) ?_ hrun hended ⟨_, _, rfl, ?_, hR.1, hR.2.1, hR.2.2.1, hR.2.2.2.mono (by decide) (by decide)⟩
     · exact retOut X52 hx Bd.returns (by decide) (Or.inl ⟨rfl, Or.inr (Or.inl rfl), _, rfl⟩) (hb hby at_236) hr
     · show Q_rm0 Z p0 p1 p2 p3 p4 cs sf h0 n0 (some (.int 1)) T52.heap _
       rw [e52]
       exact ⟨rfl, N52, K⟩
    ·skip
     refine Go.step (S' := T50.setTop (mkF m 188 #[iv p0, iv p1, iv p2, iv p3, iv p4, iv x0, iv x1, iv x2, iv x3, iv 4, rv b44, rv b49, u_, u_] [(.int x2)])) (fun t k => ?_) ?_
     · refine XS.ifNo X50.here hx rfl (hb hby at_177) rfl ((if0 _ _).trans (feq (hc177 : ¬ (x1 = (0 : Int32)))).1) ?_
       refine XS.iload X50.here hx rfl (hb hby at_180) rfl ?_
       refine XS.iconst X50.here hx rfl (hb hby at_182) ?_
       refine XS.icmpNo X50.here hx rfl (hb hby at_183) rfl (flt ((by decide) : ¬ ((4 : Int32) < (3 : Int32)))).1 ?_
       refine XS.iload X50.here hx rfl (hb hby at_186) rfl ?_
       exact k
     by_cases hc188 : x2 = (0 : Int32)
     ·skip
      refine Go.step (S' := T50.setTop (mkF m 223 #[iv p0, iv p1, iv p2, iv p3, iv p4, iv x0, iv x1, iv x2, iv x3, iv 4, rv b44, rv b49, iv 1, iv 0] [(.ref b49)])) (fun t k => ?_) ?_
      · refine XS.ifYes X50.here hx rfl (pc0 := 188) (pc' := 202) rfl (hb hby at_188) rfl ((if0 _ _).trans (teq (hc188 : x2 = (0 : Int32))).1) (by decide) (by decide) ?_
        refine XS.iconst X50.here hx rfl (hb hby at_202) ?_
        refine XS.goto X50.here hx rfl (pc0 := 203) (pc' := 207) rfl (hb hby at_203) (by decide) (by decide) ?_
        refine XS.istore X50.here hx rfl (hb hby at_207) rfl (l' := #[iv p0, iv p1, iv p2, iv p3, iv p4, iv x0, iv x1, iv x2, iv x3, iv 4, rv b44, rv b49, iv 1, u_]) rfl ?_
        refine XS.iload X50.here hx rfl (hb hby at_209) rfl ?_
        refine XS.ifYes X50.here hx rfl (pc0 := 211) (pc' := 218) rfl (hb hby at_211) rfl ((if0 _ _).trans (feq ((by decide) : ¬ ((1 : Int32) = (0 : Int32)))).2) (by decide) (by decide) ?_
        show Steps p.tables e below (T50.setTop (mkF m 218 #[iv p0, iv p1, iv p2, iv p3, iv p4, iv x0, iv x1, iv x2, iv x3, iv 4, rv b44, rv b49, iv 1, u_] [])) _
        refine XS.iconst X50.here hx rfl (hb hby at_218) ?_
        refine XS.istore X50.here hx rfl (hb hby at_219) rfl (l' := #[iv p0, iv p1, iv p2, iv p3, iv p4, iv x0, iv x1, iv x2, iv x3, iv 4, rv b44, rv b49, iv 1, iv 0]) rfl ?_
        refine XS.aload X50.here hx rfl (hb hby at_221) rfl rfl ?_
        exact k
      refine Go.cS X50 hx hml hown hZ (own_w hw 24 rfl) (own_w hw 25 rfl) (own_w hw 26 rfl) (own_w hw 27 rfl) (rmSt4_1 l Z a0 hw [] b49 tb_50 kb_50 x0 x1 x2 x3 cs sf T50.heap n0 O S_CS E_b49 Fv_50 Fc_50 V_50 S_AD S_HI S_LO S_FM hcs hsf rax0 rbx0 rax1 rbx1 rax2 rbx2 rax3 rbx3) 0 [] pd__28Ljava_2flang_2fString_3b_29Z (hb hby at_223) (Eq.refl T50.heap) (fun _ T53 L53 X53 hQ53 => ?_)
      obtain ⟨r_53, rfl, Nq53, e53, ks_53⟩ := hQ53
      have N53 := Fr.app N50 Nq53
      refine Go.step (S' := T53.setTop (mkF m 236 #[iv p0, iv p1, iv p2, iv p3, iv p4, iv x0, iv x1, iv x2, iv x3, iv 4, rv b44, rv b49, iv 1, iv 0] [(.int 1)])) (fun t k => ?_) ?_
      · refine XS.iload X53.here hx rfl (hb hby at_226) rfl ?_
        refine XS.icmpNo X53.here hx rfl (hb hby at_228) rfl (teq ((ks_53.elim (fun q => absurd hc188 q.2.2.2.1) (fun q => q.1)) : r_53 = (0 : Int32))).2 ?_
        refine XS.iconst X53.here hx rfl (hb hby at_231) ?_
        refine XS.goto X53.here hx rfl (pc0 := 232) (pc' := 236) rfl (hb hby at_232) (by decide) (by decide) ?_
        exact k
      obtain ⟨fs, hr, hrun, hended, hR⟩ := X53.leaveW hS (by rw [e53]; exact hk) (v := some (.int 1)) (fun h => by rw [Bd.returns] at h; cases h)
      refine Go.fin (S' := T53.setFrames fs) ?_ hrun hended ⟨_, _, rfl, ?_, hR.1, hR.2.1, hR.2.2.1, hR.2.2.2.mono (by decide) (by decide)⟩
      · exact retOut X53 hx Bd.returns (by decide) (Or.inl ⟨rfl, Or.inr (Or.inl rfl), _, rfl⟩) (hb hby at_236) hr
      · show Q_rm0 Z p0 p1 p2 p3 p4 cs sf h0 n0 (some (.int 1)) T53.heap _
        rw [e53]
        exact ⟨rfl, N53, K⟩
     ·skip
      refine Go.step (S' := T50.setTop (mkF m 199 #[iv p0, iv p1, iv p2, iv p3, iv p4, iv x0, iv x1, iv x2, iv x3, iv 4, rv b44, rv b49, u_, u_] [(.int x3)])) (fun t k => ?_) ?_
      · refine XS.ifNo X50.here hx rfl (hb hby at_188) rfl ((if0 _ _).trans (feq (hc188 : ¬ (x2 = (0 : Int32)))).1) ?_
        refine XS.iload X50.here hx rfl (hb hby at_191) rfl ?_
        refine XS.iconst X50.here hx rfl (hb hby at_193) ?_
        refine XS.icmpNo X50.here hx rfl (hb hby at_194) rfl (flt ((by decide) : ¬ ((4 : Int32) < (4 : Int32)))).1 ?_
        refine XS.iload X50.here hx rfl (hb hby at_197) rfl ?_
        exact k
      by_cases hc199 : x3 = (0 : Int32)
      ·skip
       refine Go.step (S' := T50.setTop (mkF m 223 #[iv p0, iv p1, iv p2, iv p3, iv p4, iv x0, iv x1, iv x2, iv x3, iv 4, rv b44, rv b49, iv 1, iv 0] [(.ref b49)])) (fun t k => ?_) ?_
       · refine XS.ifNo X50.here hx rfl (hb hby at_199) rfl ((if0 _ _).trans (teq (hc199 : x3 = (0 : Int32))).2) ?_
         refine XS.iconst X50.here hx rfl (hb hby at_202) ?_
         refine XS.goto X50.here hx rfl (pc0 := 203) (pc' := 207) rfl (hb hby at_203) (by decide) (by decide) ?_
         refine XS.istore X50.here hx rfl (hb hby at_207) rfl (l' := #[iv p0, iv p1, iv p2, iv p3, iv p4, iv x0, iv x1, iv x2, iv x3, iv 4, rv b44, rv b49, iv 1, u_]) rfl ?_
         refine XS.iload X50.here hx rfl (hb hby at_209) rfl ?_
         refine XS.ifYes X50.here hx rfl (pc0 := 211) (pc' := 218) rfl (hb hby at_211) rfl ((if0 _ _).trans (feq ((by decide) : ¬ ((1 : Int32) = (0 : Int32)))).2) (by decide) (by decide) ?_
         show Steps p.tables e below (T50.setTop (mkF m 218 #[iv p0, iv p1, iv p2, iv p3, iv p4, iv x0, iv x1, iv x2, iv x3, iv 4, rv b44, rv b49, iv 1, u_] [])) _
         refine XS.iconst X50.here hx rfl (hb hby at_218) ?_
         refine XS.istore X50.here hx rfl (hb hby at_219) rfl (l' := #[iv p0, iv p1, iv p2, iv p3, iv p4, iv x0, iv x1, iv x2, iv x3, iv 4, rv b44, rv b49, iv 1, iv 0]) rfl ?_
         refine XS.aload X50.here hx rfl (hb hby at_221) rfl rfl ?_
         exact k
       refine Go.cS X50 hx hml hown hZ (own_w hw 24 rfl) (own_w hw 25 rfl) (own_w hw 26 rfl) (own_w hw 27 rfl) (rmSt4_1 l Z a0 hw [] b49 tb_50 kb_50 x0 x1 x2 x3 cs sf T50.heap n0 O S_CS E_b49 Fv_50 Fc_50 V_50 S_AD S_HI S_LO S_FM hcs hsf rax0 rbx0 rax1 rbx1 rax2 rbx2 rax3 rbx3) 0 [] pd__28Ljava_2flang_2fString_3b_29Z (hb hby at_223) (Eq.refl T50.heap) (fun _ T54 L54 X54 hQ54 => ?_)
       obtain ⟨r_54, rfl, Nq54, e54, ks_54⟩ := hQ54
       have N54 := Fr.app N50 Nq54
       refine Go.step (S' := T54.setTop (mkF m 236 #[iv p0, iv p1, iv p2, iv p3, iv p4, iv x0, iv x1, iv x2, iv x3, iv 4, rv b44, rv b49, iv 1, iv 0] [(.int 1)])) (fun t k => ?_) ?_
       · refine XS.iload X54.here hx rfl (hb hby at_226) rfl ?_
         refine XS.icmpNo X54.here hx rfl (hb hby at_228) rfl (teq ((ks_54.elim (fun q => absurd hc199 q.2.2.2.2) (fun q => q.1)) : r_54 = (0 : Int32))).2 ?_
         refine XS.iconst X54.here hx rfl (hb hby at_231) ?_
         refine XS.goto X54.here hx rfl (pc0 := 232) (pc' := 236) rfl (hb hby at_232) (by decide) (by decide) ?_
         exact k
       obtain ⟨fs, hr, hrun, hended, hR⟩ := X54.leaveW hS (by rw [e54]; exact hk) (v := some (.int 1)) (fun h => by rw [Bd.returns] at h; cases h)
       refine Go.fin (S' := T54.setFrames fs) ?_ hrun hended ⟨_, _, rfl, ?_, hR.1, hR.2.1, hR.2.2.1, hR.2.2.2.mono (by decide) (by decide)⟩
       · exact retOut X54 hx Bd.returns (by decide) (Or.inl ⟨rfl, Or.inr (Or.inl rfl), _, rfl⟩) (hb hby at_236) hr
       · show Q_rm0 Z p0 p1 p2 p3 p4 cs sf h0 n0 (some (.int 1)) T54.heap _
         rw [e54]
         exact ⟨rfl, N54, K⟩
      ·skip
       refine Go.step (S' := T50.setTop (mkF m 223 #[iv p0, iv p1, iv p2, iv p3, iv p4, iv x0, iv x1, iv x2, iv x3, iv 4, rv b44, rv b49, iv 0, iv 1] [(.ref b49)])) (fun t k => ?_) ?_
       · refine XS.ifYes X50.here hx rfl (pc0 := 199) (pc' := 206) rfl (hb hby at_199) rfl ((if0 _ _).trans (feq (hc199 : ¬ (x3 = (0 : Int32)))).2) (by decide) (by decide) ?_
         refine XS.iconst X50.here hx rfl (hb hby at_206) ?_
         refine XS.istore X50.here hx rfl (hb hby at_207) rfl (l' := #[iv p0, iv p1, iv p2, iv p3, iv p4, iv x0, iv x1, iv x2, iv x3, iv 4, rv b44, rv b49, iv 0, u_]) rfl ?_
         refine XS.iload X50.here hx rfl (hb hby at_209) rfl ?_
         refine XS.ifNo X50.here hx rfl (hb hby at_211) rfl ((if0 _ _).trans (teq ((by decide) : (0 : Int32) = (0 : Int32))).2) ?_
         refine XS.iconst X50.here hx rfl (hb hby at_214) ?_
         show Steps p.tables e below (T50.setTop (mkF m 215 #[iv p0, iv p1, iv p2, iv p3, iv p4, iv x0, iv x1, iv x2, iv x3, iv 4, rv b44, rv b49, iv 0, u_] [(.int 1)])) _
         refine XS.goto X50.here hx rfl (pc0 := 215) (pc' := 219) rfl (hb hby at_215) (by decide) (by decide) ?_
         refine XS.istore X50.here hx rfl (hb hby at_219) rfl (l' := #[iv p0, iv p1, iv p2, iv p3, iv p4, iv x0, iv x1, iv x2, iv x3, iv 4, rv b44, rv b49, iv 0, iv 1]) rfl ?_
         refine XS.aload X50.here hx rfl (hb hby at_221) rfl rfl ?_
         exact k
       refine Go.cS X50 hx hml hown hZ (own_w hw 24 rfl) (own_w hw 25 rfl) (own_w hw 26 rfl) (own_w hw 27 rfl) (rmSt4_1 l Z a0 hw [] b49 tb_50 kb_50 x0 x1 x2 x3 cs sf T50.heap n0 O S_CS E_b49 Fv_50 Fc_50 V_50 S_AD S_HI S_LO S_FM hcs hsf rax0 rbx0 rax1 rbx1 rax2 rbx2 rax3 rbx3) 0 [] pd__28Ljava_2flang_2fString_3b_29Z (hb hby at_223) (Eq.refl T50.heap) (fun _ T55 L55 X55 hQ55 => ?_)
       obtain ⟨r_55, rfl, Nq55, e55, ks_55⟩ := hQ55
       have N55 := Fr.app N50 Nq55
       refine Go.step (S' := T55.setTop (mkF m 236 #[iv p0, iv p1, iv p2, iv p3, iv p4, iv x0, iv x1, iv x2, iv x3, iv 4, rv b44, rv b49, iv 0, iv 1] [(.int 1)])) (fun t k => ?_) ?_
       · refine XS.iload X55.here hx rfl (hb hby at_226) rfl ?_
         refine XS.icmpNo X55.here hx rfl (hb hby at_228) rfl (teq ((ks_55.elim (fun q => q.1) (fun q => absurd ⟨hc166, hc177, hc188, hc199⟩ q.2)) : r_55 = (1 : Int32))).2 ?_
         refine XS.iconst X55.here hx rfl (hb hby at_231) ?_
         refine XS.goto X55.here hx rfl (pc0 := 232) (pc' := 236) rfl (hb hby at_232) (by decide) (by decide) ?_
         exact k
       obtain ⟨fs, hr, hrun, hended, hR⟩ := X55.leaveW hS (by rw [e55]; exact hk) (v := some (.int 1)) (fun h => by rw [Bd.returns] at h; cases h)
       refine Go.fin (S' := T55.setFrames fs) ?_ hrun hended ⟨_, _, rfl, ?_, hR.1, hR.2.1, hR.2.2.1, hR.2.2.2.mono (by decide) (by decide)⟩
       · exact retOut X55 hx Bd.returns (by decide) (Or.inl ⟨rfl, Or.inr (Or.inl rfl), _, rfl⟩) (hb hby at_236) hr
       · show Q_rm0 Z p0 p1 p2 p3 p4 cs sf h0 n0 (some (.int 1)) T55.heap _
         rw [e55]
         exact ⟨rfl, N55, K⟩
  ·skip
   have hu0 : ¬ ((255 : Int32) < x0) := fun q => hu (Or.inl q)
   have hu1 : ¬ ((255 : Int32) < x1) := fun q => hu (Or.inr (Or.inl q))
   have hu2 : ¬ ((255 : Int32) < x2) := fun q => hu (Or.inr (Or.inr (Or.inl q)))
   have hu3 : ¬ ((255 : Int32) < x3) := fun q => hu (Or.inr (Or.inr (Or.inr q)))
   obtain ⟨T56, h56, X56, e56, E56, A56, D56, -, st56⟩ := newO X48 hx hZ hown (own_w hw 3 rfl) (own_w hw 4 rfl) (own_w hw 5 rfl) e48 (g := (mkF m 147 #[iv p0, iv p1, iv p2, iv p3, iv p4, iv x0, iv x1, iv x2, iv x3, iv 4, rv b44, u_, u_, u_] [])) rfl (hb hby at_147) (by decide) (by decide)
   obtain ⟨b56, g56⟩ : ∃ z, z = Array.size h48 := ⟨_, rfl⟩
   have g_b56 : n0 ≤ b56 := Nat.le_trans (old_le O) (Nat.le_of_eq g56.symm)
   have sz_b56 : h0.size ≤ b56 := Nat.le_trans K.1 (Nat.le_of_eq g56.symm)
   have ne_b44_b56 : b44 ≠ b56 := Nat.ne_of_lt (Nat.lt_of_lt_of_le V_b44.lt (Nat.le_of_eq g56.symm))
   rw [← g56] at A56 D56 st56
   have O := O.ext E56
   have hk := Nat.le_trans hk E56.1
   have K := K.ext E56
   have V_b44 := V_b44.ext E56
   have E_b56 := A56
   have F_value_b56 : Fd_5 Z h56 b56 .null := D56 (Or.inr (own_w hw 18 rfl)) (ty := (.array .byte)) (by decide)
   have F_coder_b56 : Fd_6 Z h56 b56 (.int 0) := D56 (Or.inr (own_w hw 19 rfl)) (ty := .byte) (by decide)
   refine Go.step st56 ?_
   refine Go.step (S' := T56.setTop (mkF m 153 #[iv p0, iv p1, iv p2, iv p3, iv p4, iv x0, iv x1, iv x2, iv x3, iv 4, rv b44, u_, u_, u_] [(.ref b44), (.ref b56), (.ref b56)])) (fun t k => ?_) ?_
   · refine XS.dup X56.here hx rfl (hb hby at_150) rfl rfl ?_
     refine XS.aload X56.here hx rfl (hb hby at_151) rfl rfl ?_
     exact k
   refine Go.cI X56 hx hml hown hZ (own_w hw 6 rfl) (own_w hw 7 rfl) (own_w hw 5 rfl) (own_w hw 8 rfl) (rmNS4 l Z a0 hw [] b56 b44 k44 cs x0 x1 x2 x3 h56 n0 O S_CS E_b56 F_value_b56 F_coder_b56 V_b44 (by assumption) hcs hu0 hu1 hu2 hu3) 1 [(.ref b56)] pd__28_5bC_29V (hb hby at_153) e56 (fun _ T57 L57 X57 hQ57 => ?_)
   obtain ⟨tb_57, kb_57, rfl, Nq57, K57, P57_E, P57_Fv, P57_Fc, P57_V⟩ := hQ57
   have N57 := Fr.app N48 Nq57
   have O := O.keep K57 (allS g_b56 all0)
   have hk := Nat.le_trans hk K57.1
   have K := K.trans K57 (allS (Or.inr sz_b56) all0)
   have V_b44 := V_b44.keep K57 (ninS ne_b44_b56 nin0)
   have E_b56 := E_b56.keep K57
   have E_57 := P57_E
   have Fv_57 := P57_Fv
   have Fc_57 := P57_Fc
   have V_57 := P57_V
   refine Go.step (S' := T57.setTop (mkF m 166 #[iv p0, iv p1, iv p2, iv p3, iv p4, iv x0, iv x1, iv x2, iv x3, iv 4, rv b44, rv b56, u_, u_] [(.int x0)])) (fun t k => ?_) ?_
   · refine XS.astore X57.here hx rfl (hb hby at_156) rfl rfl (l' := #[iv p0, iv p1, iv p2, iv p3, iv p4, iv x0, iv x1, iv x2, iv x3, iv 4, rv b44, rv b56, u_, u_]) rfl ?_
     refine XS.iload X57.here hx rfl (hb hby at_158) rfl ?_
     refine XS.iconst X57.here hx rfl (hb hby at_160) ?_
     refine XS.icmpNo X57.here hx rfl (hb hby at_161) rfl (flt ((by decide) : ¬ ((4 : Int32) < (1 : Int32)))).1 ?_
     refine XS.iload X57.here hx rfl (hb hby at_164) rfl ?_
     exact k
   by_cases hc166 : x0 = (0 : Int32)
   ·skip
    refine Go.step (S' := T57.setTop (mkF m 223 #[iv p0, iv p1, iv p2, iv p3, iv p4, iv x0, iv x1, iv x2, iv x3, iv 4, rv b44, rv b56, iv 1, iv 0] [(.ref b56)])) (fun t k => ?_) ?_
    · refine XS.ifYes X57.here hx rfl (pc0 := 166) (pc' := 202) rfl (hb hby at_166) rfl ((if0 _ _).trans (teq (hc166 : x0 = (0 : Int32))).1) (by decide) (by decide) ?_
      refine XS.iconst X57.here hx rfl (hb hby at_202) ?_
      refine XS.goto X57.here hx rfl (pc0 := 203) (pc' := 207) rfl (hb hby at_203) (by decide) (by decide) ?_
      refine XS.istore X57.here hx rfl (hb hby at_207) rfl (l' := #[iv p0, iv p1, iv p2, iv p3, iv p4, iv x0, iv x1, iv x2, iv x3, iv 4, rv b44, rv b56, iv 1, u_]) rfl ?_
      refine XS.iload X57.here hx rfl (hb hby at_209) rfl ?_
      refine XS.ifYes X57.here hx rfl (pc0 := 211) (pc' := 218) rfl (hb hby at_211) rfl ((if0 _ _).trans (feq ((by decide) : ¬ ((1 : Int32) = (0 : Int32)))).2) (by decide) (by decide) ?_
      show Steps p.tables e below (T57.setTop (mkF m 218 #[iv p0, iv p1, iv p2, iv p3, iv p4, iv x0, iv x1, iv x2, iv x3, iv 4, rv b44, rv b56, iv 1, u_] [])) _
      refine XS.iconst X57.here hx rfl (hb hby at_218) ?_
      refine XS.istore X57.here hx rfl (hb hby at_219) rfl (l' := #[iv p0, iv p1, iv p2, iv p3, iv p4, iv x0, iv x1, iv x2, iv x3, iv 4, rv b44, rv b56, iv 1, iv 0]) rfl ?_
      refine XS.aload X57.here hx rfl (hb hby at_221) rfl rfl ?_
      exact k
    refine Go.cS X57 hx hml hown hZ (own_w hw 24 rfl) (own_w hw 25 rfl) (own_w hw 26 rfl) (own_w hw 27 rfl) (rmSt4_0 l Z a0 hw [] b56 tb_57 kb_57 x0 x1 x2 x3 cs T57.heap n0 O S_CS E_b56 Fv_57 Fc_57 V_57 hcs) 0 [] pd__28Ljava_2flang_2fString_3b_29Z (hb hby at_223) (Eq.refl T57.heap) (fun _ T58 L58 X58 hQ58 => ?_)
    obtain ⟨r_58, rfl, Nq58, e58, ks_58⟩ := hQ58
    have N58 := Fr.app N57 Nq58
    refine Go.step (S' := T58.setTop (mkF m 236 #[iv p0, iv p1, iv p2, iv p3, iv p4, iv x0, iv x1, iv x2, iv x3, iv 4, rv b44, rv b56, iv 1, iv 0] [(.int 1)])) (fun t k => ?_) ?_
    · refine XS.iload X58.here hx rfl (hb hby at_226) rfl ?_
      refine XS.icmpNo X58.here hx rfl (hb hby at_228) rfl (teq ((ks_58.elim (fun q => absurd (own_bz0 hc166) q.2.1) (fun q => q.1)) : r_58 = (0 : Int32))).2 ?_
      refine XS.iconst X58.here hx rfl (hb hby at_231) ?_
      refine XS.goto X58.here hx rfl (pc0 := 232) (pc' := 236) rfl (hb hby at_232) (by decide) (by decide) ?_
      exact k
    obtain ⟨fs, hr, hrun, hended, hR⟩ := X58.leaveW hS (by rw [e58]; exact hk) (v := some (.int 1)) (fun h => by rw [Bd.returns] at h; cases h)
    refine Go.fin (S' := T58.setFrames fs) ?_ hrun hended ⟨_, _, rfl, ?_, hR.1, hR.2.1, hR.2.2.1, hR.2.2.2.mono (by decide) (by decide)⟩
    · exact retOut X58 hx Bd.returns (by decide) (Or.inl ⟨rfl, Or.inr (Or.inl rfl), _, rfl⟩) (hb hby at_236) hr
    · show Q_rm0 Z p0 p1 p2 p3 p4 cs sf h0 n0 (some (.int 1)) T58.heap _
      rw [e58]
      exact ⟨rfl, N58, K⟩
   ·skip
    refine Go.step (S' := T57.setTop (mkF m 177 #[iv p0, iv p1, iv p2, iv p3, iv p4, iv x0, iv x1, iv x2, iv x3, iv 4, rv b44, rv b56, u_, u_] [(.int x1)])) (fun t k => ?_) ?_
    · refine XS.ifNo X57.here hx rfl (hb hby at_166) rfl ((if0 _ _).trans (feq (hc166 : ¬ (x0 = (0 : Int32)))).1) ?_
      refine XS.iload X57.here hx rfl (hb hby at_169) rfl ?_
      refine XS.iconst X57.here hx rfl (hb hby at_171) ?_
      refine XS.icmpNo X57.here hx rfl (hb hby at_172) rfl (flt ((by decide) : ¬ ((4 : Int32) < (2 : Int32)))).1 ?_
      refine XS.iload X57.here hx rfl (hb hby at_175) rfl ?_
      exact k
    by_cases hc177 : x1 = (0 : Int32)
    ·skip
     refine Go.step (S' := T57.setTop (mkF m 223 #[iv p0, iv p1, iv p2, iv p3, iv p4, iv x0, iv x1, iv x2, iv x3, iv 4, rv b44, rv b56, iv 1, iv 0] [(.ref b56)])) (fun t k => ?_) ?_
     · refine XS.ifYes X57.here hx rfl (pc0 := 177) (pc' := 202) rfl (hb hby at_177) rfl ((if0 _ _).trans (teq (hc177 : x1 = (0 : Int32))).1) (by decide) (by decide) ?_
       refine XS.iconst X57.here hx rfl (hb hby at_202) ?_
       refine XS.goto X57.here hx rfl (pc0 := 203) (pc' := 207) rfl (hb hby at_203) (by decide) (by decide) ?_
       refine XS.istore X57.here hx rfl (hb hby at_207) rfl (l' := #[iv p0, iv p1, iv p2, iv p3, iv p4, iv x0, iv x1, iv x2, iv x3, iv 4, rv b44, rv b56, iv 1, u_]) rfl ?_
       refine XS.iload X57.here hx rfl (hb hby at_209) rfl ?_
       refine XS.ifYes X57.here hx rfl (pc0 := 211) (pc' := 218) rfl (hb hby at_211) rfl ((if0 _ _).trans (feq ((by decide) : ¬ ((1 : Int32) = (0 : Int32)))).2) (by decide) (by decide) ?_
       show Steps p.tables e below (T57.setTop (mkF m 218 #[iv p0, iv p1, iv p2, iv p3, iv p4, iv x0, iv x1, iv x2, iv x3, iv 4, rv b44, rv b56, iv 1, u_] [])) _
       refine XS.iconst X57.here hx rfl (hb hby at_218) ?_
       refine XS.istore X57.here hx rfl (hb hby at_219) rfl (l' := #[iv p0, iv p1, iv p2, iv p3, iv p4, iv x0, iv x1, iv x2, iv x3, iv 4, rv b44, rv b56, iv 1, iv 0]) rfl ?_
       refine XS.aload X57.here hx rfl (hb hby at_221) rfl rfl ?_
       exact k
     refine Go.cS X57 hx hml hown hZ (own_w hw 24 rfl) (own_w hw 25 rfl) (own_w hw 26 rfl) (own_w hw 27 rfl) (rmSt4_0 l Z a0 hw [] b56 tb_57 kb_57 x0 x1 x2 x3 cs T57.heap n0 O S_CS E_b56 Fv_57 Fc_57 V_57 hcs) 0 [] pd__28Ljava_2flang_2fString_3b_29Z (hb hby at_223) (Eq.refl T57.heap) (fun _ T59 L59 X59 hQ59 => ?_)
     obtain ⟨r_59, rfl, Nq59, e59, ks_59⟩ := hQ59
     have N59 := Fr.app N57 Nq59
     refine Go.step (S' := T59.setTop (mkF m 236 #[iv p0, iv p1, iv p2, iv p3, iv p4, iv x0, iv x1, iv x2, iv x3, iv 4, rv b44, rv b56, iv 1, iv 0] [(.int 1)])) (fun t k => ?_) ?_
     · refine XS.iload X59.here hx rfl (hb hby at_226) rfl ?_
       refine XS.icmpNo X59.here hx rfl (hb hby at_228) rfl (teq ((ks_59.elim (fun q => absurd (own_bz0 hc177) q.2.2.1) (fun q => q.1)) : r_59 = (0 : Int32))).2 ?_
       refine XS.iconst X59.here hx rfl (hb hby at_231) ?_
       refine XS.goto X59.here hx rfl (pc0 := 232) (pc' := 236) rfl (hb hby at_232) (by decide) (by decide) ?_
       exact k
     obtain ⟨fs, hr, hrun, hended, hR⟩ := X59.leaveW hS (by rw [e59]; exact hk) (v := some (.int 1)) (fun h => by rw [Bd.returns] at h; cases h)
     refine Go.fin (S' := T59.setFrames fs) ?_ hrun hended ⟨_, _, rfl, ?_, hR.1, hR.2.1, hR.2.2.1, hR.2.2.2.mono (by decide) (by decide)⟩
     · exact retOut X59 hx Bd.returns (by decide) (Or.inl ⟨rfl, Or.inr (Or.inl rfl), _, rfl⟩) (hb hby at_236) hr
     · show Q_rm0 Z p0 p1 p2 p3 p4 cs sf h0 n0 (some (.int 1)) T59.heap _
       rw [e59]
       exact ⟨rfl, N59, K⟩
    ·skip
     refine Go.step (S' := T57.setTop (mkF m 188 #[iv p0, iv p1, iv p2, iv p3, iv p4, iv x0, iv x1, iv x2, iv x3, iv 4, rv b44, rv b56, u_, u_] [(.int x2)])) (fun t k => ?_) ?_
     · refine XS.ifNo X57.here hx rfl (hb hby at_177) rfl ((if0 _ _).trans (feq (hc177 : ¬ (x1 = (0 : Int32)))).1) ?_
       refine XS.iload X57.here hx rfl (hb hby at_180) rfl ?_
       refine XS.iconst X57.here hx rfl (hb hby at_182) ?_
       refine XS.icmpNo X57.here hx rfl (hb hby at_183) rfl (flt ((by decide) : ¬ ((4 : Int32) < (3 : Int32)))).1 ?_
       refine XS.iload X57.here hx rfl (hb hby at_186) rfl ?_
       exact k
     by_cases hc188 : x2 = (0 : Int32)
     ·skip
      refine Go.step (S' := T57.setTop (mkF m 223 #[iv p0, iv p1, iv p2, iv p3, iv p4, iv x0, iv x1, iv x2, iv x3, iv 4, rv b44, rv b56, iv 1, iv 0] [(.ref b56)])) (fun t k => ?_) ?_
      · refine XS.ifYes X57.here hx rfl (pc0 := 188) (pc' := 202) rfl (hb hby at_188) rfl ((if0 _ _).trans (teq (hc188 : x2 = (0 : Int32))).1) (by decide) (by decide) ?_
        refine XS.iconst X57.here hx rfl (hb hby at_202) ?_
        refine XS.goto X57.here hx rfl (pc0 := 203) (pc' := 207) rfl (hb hby at_203) (by decide) (by decide) ?_
        refine XS.istore X57.here hx rfl (hb hby at_207) rfl (l' := #[iv p0, iv p1, iv p2, iv p3, iv p4, iv x0, iv x1, iv x2, iv x3, iv 4, rv b44, rv b56, iv 1, u_]) rfl ?_
        refine XS.iload X57.here hx rfl (hb hby at_209) rfl ?_
        refine XS.ifYes X57.here hx rfl (pc0 := 211) (pc' := 218) rfl (hb hby at_211) rfl ((if0 _ _).trans (feq ((by decide) : ¬ ((1 : Int32) = (0 : Int32)))).2) (by decide) (by decide) ?_
        show Steps p.tables e below (T57.setTop (mkF m 218 #[iv p0, iv p1, iv p2, iv p3, iv p4, iv x0, iv x1, iv x2, iv x3, iv 4, rv b44, rv b56, iv 1, u_] [])) _
        refine XS.iconst X57.here hx rfl (hb hby at_218) ?_
        refine XS.istore X57.here hx rfl (hb hby at_219) rfl (l' := #[iv p0, iv p1, iv p2, iv p3, iv p4, iv x0, iv x1, iv x2, iv x3, iv 4, rv b44, rv b56, iv 1, iv 0]) rfl ?_
        refine XS.aload X57.here hx rfl (hb hby at_221) rfl rfl ?_
        exact k
      refine Go.cS X57 hx hml hown hZ (own_w hw 24 rfl) (own_w hw 25 rfl) (own_w hw 26 rfl) (own_w hw 27 rfl) (rmSt4_0 l Z a0 hw [] b56 tb_57 kb_57 x0 x1 x2 x3 cs T57.heap n0 O S_CS E_b56 Fv_57 Fc_57 V_57 hcs) 0 [] pd__28Ljava_2flang_2fString_3b_29Z (hb hby at_223) (Eq.refl T57.heap) (fun _ T60 L60 X60 hQ60 => ?_)
      obtain ⟨r_60, rfl, Nq60, e60, ks_60⟩ := hQ60
      have N60 := Fr.app N57 Nq60
      refine Go.step (S' := T60.setTop (mkF m 236 #[iv p0, iv p1, iv p2, iv p3, iv p4, iv x0, iv x1, iv x2, iv x3, iv 4, rv b44, rv b56, iv 1, iv 0] [(.int 1)])) (fun t k => ?_) ?_
      · refine XS.iload X60.here hx rfl (hb hby at_226) rfl ?_
        refine XS.icmpNo X60.here hx rfl (hb hby at_228) rfl (teq ((ks_60.elim (fun q => absurd (own_bz0 hc188) q.2.2.2.1) (fun q => q.1)) : r_60 = (0 : Int32))).2 ?_
        refine XS.iconst X60.here hx rfl (hb hby at_231) ?_
        refine XS.goto X60.here hx rfl (pc0 := 232) (pc' := 236) rfl (hb hby at_232) (by decide) (by decide) ?_
        exact k
      obtain ⟨fs, hr, hrun, hended, hR⟩ := X60.leaveW hS (by rw [e60]; exact hk) (v := some (.int 1)) (fun h => by rw [Bd.returns] at h; cases h)
      refine Go.fin (S' := T60.setFrames fs) ?_ hrun hended ⟨_, _, rfl, ?_, hR.1, hR.2.1, hR.2.2.1, hR.2.2.2.mono (by decide) (by decide)⟩
      · exact retOut X60 hx Bd.returns (by decide) (Or.inl ⟨rfl, Or.inr (Or.inl rfl), _, rfl⟩) (hb hby at_236) hr
      · show Q_rm0 Z p0 p1 p2 p3 p4 cs sf h0 n0 (some (.int 1)) T60.heap _
        rw [e60]
        exact ⟨rfl, N60, K⟩
     ·skip
      refine Go.step (S' := T57.setTop (mkF m 199 #[iv p0, iv p1, iv p2, iv p3, iv p4, iv x0, iv x1, iv x2, iv x3, iv 4, rv b44, rv b56, u_, u_] [(.int x3)])) (fun t k => ?_) ?_
      · refine XS.ifNo X57.here hx rfl (hb hby at_188) rfl ((if0 _ _).trans (feq (hc188 : ¬ (x2 = (0 : Int32)))).1) ?_
        refine XS.iload X57.here hx rfl (hb hby at_191) rfl ?_
        refine XS.iconst X57.here hx rfl (hb hby at_193) ?_
        refine XS.icmpNo X57.here hx rfl (hb hby at_194) rfl (flt ((by decide) : ¬ ((4 : Int32) < (4 : Int32)))).1 ?_
        refine XS.iload X57.here hx rfl (hb hby at_197) rfl ?_
        exact k
      by_cases hc199 : x3 = (0 : Int32)
      ·skip
       refine Go.step (S' := T57.setTop (mkF m 223 #[iv p0, iv p1, iv p2, iv p3, iv p4, iv x0, iv x1, iv x2, iv x3, iv 4, rv b44, rv b56, iv 1, iv 0] [(.ref b56)])) (fun t k => ?_) ?_
       · refine XS.ifNo X57.here hx rfl (hb hby at_199) rfl ((if0 _ _).trans (teq (hc199 : x3 = (0 : Int32))).2) ?_
         refine XS.iconst X57.here hx rfl (hb hby at_202) ?_
         refine XS.goto X57.here hx rfl (pc0 := 203) (pc' := 207) rfl (hb hby at_203) (by decide) (by decide) ?_
         refine XS.istore X57.here hx rfl (hb hby at_207) rfl (l' := #[iv p0, iv p1, iv p2, iv p3, iv p4, iv x0, iv x1, iv x2, iv x3, iv 4, rv b44, rv b56, iv 1, u_]) rfl ?_
         refine XS.iload X57.here hx rfl (hb hby at_209) rfl ?_
         refine XS.ifYes X57.here hx rfl (pc0 := 211) (pc' := 218) rfl (hb hby at_211) rfl ((if0 _ _).trans (feq ((by decide) : ¬ ((1 : Int32) = (0 : Int32)))).2) (by decide) (by decide) ?_
         show Steps p.tables e below (T57.setTop (mkF m 218 #[iv p0, iv p1, iv p2, iv p3, iv p4, iv x0, iv x1, iv x2, iv x3, iv 4, rv b44, rv b56, iv 1, u_] [])) _
         refine XS.iconst X57.here hx rfl (hb hby at_218) ?_
         refine XS.istore X57.here hx rfl (hb hby at_219) rfl (l' := #[iv p0, iv p1, iv p2, iv p3, iv p4, iv x0, iv x1, iv x2, iv x3, iv 4, rv b44, rv b56, iv 1, iv 0]) rfl ?_
         refine XS.aload X57.here hx rfl (hb hby at_221) rfl rfl ?_
         exact k
       refine Go.cS X57 hx hml hown hZ (own_w hw 24 rfl) (own_w hw 25 rfl) (own_w hw 26 rfl) (own_w hw 27 rfl) (rmSt4_0 l Z a0 hw [] b56 tb_57 kb_57 x0 x1 x2 x3 cs T57.heap n0 O S_CS E_b56 Fv_57 Fc_57 V_57 hcs) 0 [] pd__28Ljava_2flang_2fString_3b_29Z (hb hby at_223) (Eq.refl T57.heap) (fun _ T61 L61 X61 hQ61 => ?_)
       obtain ⟨r_61, rfl, Nq61, e61, ks_61⟩ := hQ61
       have N61 := Fr.app N57 Nq61
       refine Go.step (S' := T61.setTop (mkF m 236 #[iv p0, iv p1, iv p2, iv p3, iv p4, iv x0, iv x1, iv x2, iv x3, iv 4, rv b44, rv b56, iv 1, iv 0] [(.int 1)])) (fun t k => ?_) ?_
       · refine XS.iload X61.here hx rfl (hb hby at_226) rfl ?_
         refine XS.icmpNo X61.here hx rfl (hb hby at_228) rfl (teq ((ks_61.elim (fun q => absurd (own_bz0 hc199) q.2.2.2.2) (fun q => q.1)) : r_61 = (0 : Int32))).2 ?_
         refine XS.iconst X61.here hx rfl (hb hby at_231) ?_
         refine XS.goto X61.here hx rfl (pc0 := 232) (pc' := 236) rfl (hb hby at_232) (by decide) (by decide) ?_
         exact k
       obtain ⟨fs, hr, hrun, hended, hR⟩ := X61.leaveW hS (by rw [e61]; exact hk) (v := some (.int 1)) (fun h => by rw [Bd.returns] at h; cases h)
       refine Go.fin (S' := T61.setFrames fs) ?_ hrun hended ⟨_, _, rfl, ?_, hR.1, hR.2.1, hR.2.2.1, hR.2.2.2.mono (by decide) (by decide)⟩
       · exact retOut X61 hx Bd.returns (by decide) (Or.inl ⟨rfl, Or.inr (Or.inl rfl), _, rfl⟩) (hb hby at_236) hr
       · show Q_rm0 Z p0 p1 p2 p3 p4 cs sf h0 n0 (some (.int 1)) T61.heap _
         rw [e61]
         exact ⟨rfl, N61, K⟩
      ·skip
       refine Go.step (S' := T57.setTop (mkF m 223 #[iv p0, iv p1, iv p2, iv p3, iv p4, iv x0, iv x1, iv x2, iv x3, iv 4, rv b44, rv b56, iv 0, iv 1] [(.ref b56)])) (fun t k => ?_) ?_
       · refine XS.ifYes X57.here hx rfl (pc0 := 199) (pc' := 206) rfl (hb hby at_199) rfl ((if0 _ _).trans (feq (hc199 : ¬ (x3 = (0 : Int32)))).2) (by decide) (by decide) ?_
         refine XS.iconst X57.here hx rfl (hb hby at_206) ?_
         refine XS.istore X57.here hx rfl (hb hby at_207) rfl (l' := #[iv p0, iv p1, iv p2, iv p3, iv p4, iv x0, iv x1, iv x2, iv x3, iv 4, rv b44, rv b56, iv 0, u_]) rfl ?_
         refine XS.iload X57.here hx rfl (hb hby at_209) rfl ?_
         refine XS.ifNo X57.here hx rfl (hb hby at_211) rfl ((if0 _ _).trans (teq ((by decide) : (0 : Int32) = (0 : Int32))).2) ?_
         refine XS.iconst X57.here hx rfl (hb hby at_214) ?_
         show Steps p.tables e below (T57.setTop (mkF m 215 #[iv p0, iv p1, iv p2, iv p3, iv p4, iv x0, iv x1, iv x2, iv x3, iv 4, rv b44, rv b56, iv 0, u_] [(.int 1)])) _
         refine XS.goto X57.here hx rfl (pc0 := 215) (pc' := 219) rfl (hb hby at_215) (by decide) (by decide) ?_
         refine XS.istore X57.here hx rfl (hb hby at_219) rfl (l' := #[iv p0, iv p1, iv p2, iv p3, iv p4, iv x0, iv x1, iv x2, iv x3, iv 4, rv b44, rv b56, iv 0, iv 1]) rfl ?_
         refine XS.aload X57.here hx rfl (hb hby at_221) rfl rfl ?_
         exact k
       refine Go.cS X57 hx hml hown hZ (own_w hw 24 rfl) (own_w hw 25 rfl) (own_w hw 26 rfl) (own_w hw 27 rfl) (rmSt4_0 l Z a0 hw [] b56 tb_57 kb_57 x0 x1 x2 x3 cs T57.heap n0 O S_CS E_b56 Fv_57 Fc_57 V_57 hcs) 0 [] pd__28Ljava_2flang_2fString_3b_29Z (hb hby at_223) (Eq.refl T57.heap) (fun _ T62 L62 X62 hQ62 => ?_)
       obtain ⟨r_62, rfl, Nq62, e62, ks_62⟩ := hQ62
       have N62 := Fr.app N57 Nq62
       refine Go.step (S' := T62.setTop (mkF m 236 #[iv p0, iv p1, iv p2, iv p3, iv p4, iv x0, iv x1, iv x2, iv x3, iv 4, rv b44, rv b56, iv 0, iv 1] [(.int 1)])) (fun t k => ?_) ?_
       · refine XS.iload X62.here hx rfl (hb hby at_226) rfl ?_
         refine XS.icmpNo X62.here hx rfl (hb hby at_228) rfl (teq ((ks_62.elim (fun q => q.1) (fun q => absurd ⟨(own_bz rax0 hu0 hc166), (own_bz rax1 hu1 hc177), (own_bz rax2 hu2 hc188), (own_bz rax3 hu3 hc199)⟩ q.2)) : r_62 = (1 : Int32))).2 ?_
         refine XS.iconst X62.here hx rfl (hb hby at_231) ?_
         refine XS.goto X62.here hx rfl (pc0 := 232) (pc' := 236) rfl (hb hby at_232) (by decide) (by decide) ?_
         exact k
       obtain ⟨fs, hr, hrun, hended, hR⟩ := X62.leaveW hS (by rw [e62]; exact hk) (v := some (.int 1)) (fun h => by rw [Bd.returns] at h; cases h)
       refine Go.fin (S' := T62.setFrames fs) ?_ hrun hended ⟨_, _, rfl, ?_, hR.1, hR.2.1, hR.2.2.1, hR.2.2.2.mono (by decide) (by decide)⟩
       · exact retOut X62 hx Bd.returns (by decide) (Or.inl ⟨rfl, Or.inr (Or.inl rfl), _, rfl⟩) (hb hby at_236) hr
       · show Q_rm0 Z p0 p1 p2 p3 p4 cs sf h0 n0 (some (.int 1)) T62.heap _
         rw [e62]
         exact ⟨rfl, N62, K⟩
set_option maxRecDepth 65536 in
set_option maxHeartbeats 4000000 in
theorem comes_1 {Post : Tables → Env → Array Value → State → Outcome → State → Prop} (hpost : ∀ tb e args s v u, (limb_1_1.after args s (.returned v) u = true ∧ limb_1_2.after args s (.returned v) u = true ∧ True) → ReturnedEndW s (.returned v) u (Jvm.fieldLocs frame_1_writes args s ++ Jvm.arrayLocs frame_1_arrays args s ++ Jvm.staticLocs frame_1_statics s) 24 1152 → Post tb e args s (.returned v) u) :
    ArmFor flags0 classFile x code maxLocals ret World_1 tables_1 room_1 Calls_1 rest_1 Pre_1 Post := by
  intro l hfl _ _ p e ha hc hk s m args below hf hA hF happ hP
  obtain ⟨hcalls, hrest, hpre⟩ := hP
  obtain ⟨-, -, -, hnamed, -, -, -, hat⟩ := (Spec.applies_iff hf).mp happ
  obtain ⟨hg, hn⟩ := and_e (Cond.before_iff.mp (show (Jvm.Cond.and given_1 narrow_1).before args s = true from hpre))
  obtain ⟨hgl, hgr⟩ := and_e hg
  obtain ⟨hgrl, hgrr⟩ := and_e hgr
  obtain ⟨hgrrl, hgrrr⟩ := and_e hgrr
  obtain ⟨hgrrrl, hgrrrr⟩ := and_e hgrrr
  obtain ⟨hgrrrrl, hgrrrrr⟩ := and_e hgrrrr
  obtain ⟨w0, w1, w2, w3, w4, rfl⟩ : ∃ w0 w1 w2 w3 w4 : Value, args = #[w0, w1, w2, w3, w4] := by
    have hs : args.size = 5 := by simpa [Cond.value, given_1] using hgl
    obtain ⟨L⟩ := args
    match L, hs with
    | [w0, w1, w2, w3, w4], _ => exact ⟨w0, w1, w2, w3, w4, rfl⟩
  have hw := fun d (hd : d ∈ tables_1) => atoms_spec (ws := Jvm.Cond.code x code maxLocals ret :: tables_1) hat d (List.mem_cons_of_mem _ hd)
  have hfit : Fit s := fun {y c} hc i hi => by
    obtain ⟨ha, rfl⟩ := Array.getElem?_eq_some_iff.mp hc
    have q := List.all_eq_true.mp ((Array.all_eq_true_iff_forall_mem.mp hF) _ (Array.getElem_mem ha)) i (List.mem_range.mpr hi)
    simpa [Array.getElem?_eq_getElem hi] using q
  obtain ⟨hsets, hown0⟩ := atoms_of _ (rest_1_c_eq ▸ (show rest_1_c.before _ s = true from hrest))
  obtain ⟨i0, ei0⟩ := is_v hgrl
  obtain rfl : w0 = (.int i0) := Option.some.inj ei0
  obtain ⟨i1, ei1⟩ := is_v hgrrl
  obtain rfl : w1 = (.int i1) := Option.some.inj ei1
  obtain ⟨i2, ei2⟩ := is_v hgrrrl
  obtain rfl : w2 = (.int i2) := Option.some.inj ei2
  obtain ⟨i3, ei3⟩ := is_v hgrrrrl
  obtain rfl : w3 = (.int i3) := Option.some.inj ei3
  obtain ⟨i4, ei4⟩ := is_v hgrrrrr
  obtain rfl : w4 = (.int i4) := Option.some.inj ei4
  obtain ⟨cs, evCS⟩ := is_v (Cond.before_iff.mp (hsets _ (List.mem_of_getElem? (i := 1) rfl)))
  have S_CS := Sta.start evCS (Or.inl (hsets _ (List.mem_of_getElem? (i := 0) rfl)))
  have hcs : ¬ (cs = (0 : Int32)) := fun q => by have := not_v (Cond.before_iff.mp (hsets _ (List.mem_of_getElem? (i := 2) rfl))); rw [eq_i evCS (Term.int_eval 0) (by rw [q])] at this; cases this
  obtain ⟨sf, evFM, hsf⟩ := isR_v (Cond.before_iff.mp (hsets _ (List.mem_of_getElem? (i := 8) rfl)))
  have S_FM := Sta.start evFM (Or.inl (hsets _ (List.mem_of_getElem? (i := 7) rfl)))
  have S_AD := Sta.start (own_eqI (Cond.before_iff.mp (hsets _ (List.mem_of_getElem? (i := 12) rfl)))) (Or.inl (hsets _ (List.mem_of_getElem? (i := 11) rfl)))
  have S_HI := Sta.start (own_eqI (Cond.before_iff.mp (hsets _ (List.mem_of_getElem? (i := 15) rfl)))) (Or.inl (hsets _ (List.mem_of_getElem? (i := 14) rfl)))
  have S_LO := Sta.start (own_eqI (Cond.before_iff.mp (hsets _ (List.mem_of_getElem? (i := 18) rfl)))) (Or.inl (hsets _ (List.mem_of_getElem? (i := 17) rfl)))
  have CH0 : CHv s EL_ s.vm s.heap := CHv.start (own_EW hw) (fun p hp => hcalls.1 p hp) (hsets _ (List.mem_of_getElem? (i := 2) rfl)) (own_w hw 17 rfl) (own_w hw 4 rfl)
  obtain ⟨n, o, h1, h2, h3, _, L, rfl, ⟨rfl, N, -⟩, hq⟩ := rm0 l s _ hw tables_1 i0 i1 i2 i3 i4 cs sf s.heap s.heap.size (Old.start s) S_CS S_FM S_AD S_HI S_LO hcs hsf p e ha hc hk s m _ below hf ((Spec.applies_iff_loose hf).mp happ).1 ⟨rfl, State.Warmed39.refl s, rfl, CH0⟩ trivial
  refine ⟨n, _, h1, h2, h3, hpost _ _ _ _ _ _ ⟨Cond.after_iff.mpr rfl, Cond.after_iff.mpr (eq_i res_at (Term.int_eval (1)) rfl), trivial⟩ ⟨hq.1, hq.2.1, hq.2.2.1, (hq.2.2.2.sift fun y hy => Or.inr (N y hy)).mono (by decide) (by decide)⟩⟩
theorem main_1_1 : Claimed_1_1 := comes_1 fun _ _ _ _ _ _ h hF => ⟨h.1, hF⟩
theorem main_1_2 : Claimed_1_2 := comes_1 fun _ _ _ _ _ _ h hF => ⟨h.2.1, hF⟩
end Jvm.Pilot.@@N@@
namespace Jvm.Pilot.@@N@@
open Jvm Jvm.ClassFile Sem Op Lib Jvm.Free Jvm.Stand Jvm.Pilot.@@N@@.Jvm.D
/-! MADE BY PROGRAM (witnessworld.py) out of the Statement's table words and the real class files: 21 classes; the members and pool entries that the words name. The judged class is class 1, her method 1. -/
namespace start1
open Jvm.ClassFile
def u (s : String) : CpInfo := .utf8 (stringToUtf16 s)
/-- a pool by its gaps: so many unusable entries, then the entry; so many at the end -/
def gap : Nat → List CpInfo → List CpInfo
  | 0, r => r
  | n + 1, r => .unusable :: gap n r
def poolList (es : List (Nat × CpInfo)) (last : Nat) : List CpInfo := es.foldr (fun e r => gap e.1 (e.2 :: r)) (gap last [])
def pool (es : List (Nat × CpInfo)) (last : Nat) : Array CpInfo := ⟨poolList es last⟩
def fileOf (pool : Array CpInfo) (this : Nat) (attrs : Array Attribute := #[]) (ms : Array MethodInfo := #[]) (fl : Nat := 33) (sup : Nat := 0) (ifs : Array Nat := #[]) (fds : Array FieldInfo := #[]) : ClassFile where
  minorVersion := 0
  majorVersion := 65
  constantPool := pool
  accessFlags := fl
  thisClass := this
  superClass := sup
  interfaces := ifs
  fields := fds
  methods := ms
  attributes := attrs
def plain (name : String) (sup : Option ClassId) : Class where
  name := name
  kind := .ordinary
  loader := none
  accessFlags := 33
  super := sup
  interfaces := #[]
  cf := none
  fields := #[]
  methods := #[]
  instanceTypes := #[]
  staticTypes := #[]
  resolved := #[]
  callSites := []
  init := .initialized
  statics := none
  mirror := none

def pool0 : Array CpInfo := pool [(5, u "<init>"), (0, u "()V"), (1, .class_ 10), (1, u "java/lang/Object")] 113

def k0c0 : Code := { maxStack := 0, maxLocals := 1, code := object_method_1_code, exceptionTable := #[], attributes := #[] }
def k0m0 : Method := { name := "<init>", desc := "()V", sig := { parameters := [], returnType := none }, accessFlags := 1, code := some k0c0 }
/-- java/lang/Object -/
def k0 : Class := { plain "java/lang/Object" none with
  accessFlags := 33
  interfaces := #[]
  cf := some (fileOf pool0 8 #[] #[{ accessFlags := 1, nameIndex := 5, descriptorIndex := 6, attributes := #[] }] 33 0 #[] #[])
  fields := #[]
  methods := #[k0m0]
  instanceTypes := #[]
  staticTypes := #[]
  resolved := Array.replicate 124 none
  statics := none }

def pool1 : Array CpInfo := pool [(2, .class_ 4), (1, u "java/lang/Object"), (0, u "<init>"), (0, u "()V"), (0, .integer 65535), (0, .integer 2147483647), (0, .class_ 10), (0, u "java/lang/String"), (0, .methodref 9 12), (0, .nameAndType 5 13), (0, u "([C)V"), (0, .methodref 15 16), (0, .class_ 17), (0, .nameAndType 18 19), (0, u "com/example/loomlist/loomlist/core/Naming"), (0, u "isStorable"), (0, u "(Ljava/lang/String;)Z"), (0, .class_ 21), (0, u "com/example/loomlist/loomlist/core/NamingIsStorablePinLaw"), (2, u "law"), (0, u "(IIIII)Z")] 5

def k1m0 : Method := { name := "<init>", desc := "()V", sig := { parameters := [], returnType := none }, accessFlags := 2, code := none }
def k1c1 : Code := { maxStack := 4, maxLocals := 14, code := code, exceptionTable := #[], attributes := #[] }
def k1m1 : Method := { name := "law", desc := "(IIIII)Z", sig := { parameters := [.int, .int, .int, .int, .int], returnType := some .boolean }, accessFlags := 9, code := some k1c1 }
/-- com/example/loomlist/loomlist/core/NamingIsStorablePinLaw -/
def k1 : Class := { plain "com/example/loomlist/loomlist/core/NamingIsStorablePinLaw" (some 0) with
  accessFlags := 49
  interfaces := #[]
  cf := some (fileOf pool1 20 #[] #[{ accessFlags := 2, nameIndex := 5, descriptorIndex := 6, attributes := #[] }, { accessFlags := 9, nameIndex := 24, descriptorIndex := 25, attributes := #[] }] 49 2 #[] #[])
  fields := #[]
  methods := #[k1m0, k1m1]
  instanceTypes := #[]
  staticTypes := #[]
  resolved := Array.replicate 31 none
  statics := none }

def pool2 : Array CpInfo := pool [(1, .class_ 2), (0, u "java/io/Serializable"), (0, .class_ 4), (0, u "java/lang/Object")] 2

/-- java/io/Serializable -/
def k2 : Class := { plain "java/io/Serializable" (some 0) with
  accessFlags := 1537
  interfaces := #[]
  cf := some (fileOf pool2 1 #[] #[] 1537 3 #[] #[])
  fields := #[]
  methods := #[]
  instanceTypes := #[]
  staticTypes := #[]
  resolved := Array.replicate 7 none
  statics := none }

def pool3 : Array CpInfo := pool [(1, .class_ 2), (0, u "java/lang/Comparable"), (0, .class_ 4), (0, u "java/lang/Object")] 7

/-- java/lang/Comparable -/
def k3 : Class := { plain "java/lang/Comparable" (some 0) with
  accessFlags := 1537
  interfaces := #[]
  cf := some (fileOf pool3 1 #[] #[] 1537 3 #[] #[])
  fields := #[]
  methods := #[]
  instanceTypes := #[]
  staticTypes := #[]
  resolved := Array.replicate 12 none
  statics := none }

def pool4 : Array CpInfo := pool [(2, .class_ 4), (1, u "java/lang/CharSequence"), (42, .class_ 48), (0, u "java/lang/CharSequence$1CodePointIterator"), (10, .class_ 60), (0, u "java/lang/CharSequence$1CharIterator"), (5, .class_ 67), (0, u "java/lang/Object")] 63

/-- java/lang/CharSequence -/
def k4 : Class := { plain "java/lang/CharSequence" (some 0) with
  accessFlags := 1537
  interfaces := #[]
  cf := some (fileOf pool4 2 #[.nestMembers #[47, 59]] #[] 1537 66 #[] #[])
  fields := #[]
  methods := #[]
  instanceTypes := #[]
  staticTypes := #[]
  resolved := Array.replicate 131 none
  statics := none }

def pool5 : Array CpInfo := pool [(1, .class_ 2), (0, u "java/lang/constant/Constable"), (0, .class_ 4), (0, u "java/lang/Object")] 6

/-- java/lang/constant/Constable -/
def k5 : Class := { plain "java/lang/constant/Constable" (some 0) with
  accessFlags := 1537
  interfaces := #[]
  cf := some (fileOf pool5 1 #[] #[] 1537 3 #[] #[])
  fields := #[]
  methods := #[]
  instanceTypes := #[]
  staticTypes := #[]
  resolved := Array.replicate 11 none
  statics := none }

def pool6 : Array CpInfo := pool [(1, .class_ 2), (0, u "java/lang/constant/ConstantDesc"), (0, .class_ 4), (0, u "java/lang/Object")] 32

/-- java/lang/constant/ConstantDesc -/
def k6 : Class := { plain "java/lang/constant/ConstantDesc" (some 0) with
  accessFlags := 1537
  interfaces := #[]
  cf := some (fileOf pool6 1 #[] #[] 1537 3 #[] #[])
  fields := #[]
  methods := #[]
  instanceTypes := #[]
  staticTypes := #[]
  resolved := Array.replicate 37 none
  statics := none }

def pool7 : Array CpInfo := pool [(1, .methodref 2 3), (0, .class_ 4), (0, .nameAndType 5 6), (0, u "java/lang/Object"), (0, u "<init>"), (0, u "()V"), (0, .string 8), (0, u ""), (0, .fieldref 10 11), (0, .class_ 12), (0, .nameAndType 13 14), (0, u "java/lang/String"), (0, u "value"), (0, u "[B"), (0, .fieldref 10 16), (0, .nameAndType 17 18), (0, u "coder"), (0, u "B"), (2, u "hash"), (0, u "I"), (2, u "hashIsZero"), (0, u "Z"), (0, .methodref 10 28), (0, .nameAndType 5 29), (0, u "([CIILjava/lang/Void;)V"), (8, .fieldref 10 39), (0, .nameAndType 40 26), (0, u "COMPACT_STRINGS"), (1, .class_ 44), (1, u "java/lang/StringUTF16"), (0, u "compress"), (1, .methodref 42 48), (0, .nameAndType 49 50), (0, u "coderFromArrayLen"), (0, u "([BI)B"), (56, .class_ 109), (1, u "java/lang/StringLatin1"), (32, u "()Z"), (34, .methodref 42 178), (0, .nameAndType 45 179), (0, u "([CII)[B"), (154, u "()I"), (0, .methodref 10 336), (0, .nameAndType 17 337), (0, u "()B"), (154, .methodref 10 493), (0, .nameAndType 494 142), (0, u "isLatin1"), (10, .methodref 10 506), (0, .nameAndType 507 334), (0, u "length"), (5, u "checkFromToIndex"), (9, u "checkBoundsBeginEnd"), (0, u "(III)V"), (50, .class_ 576), (0, u "java/lang/CharSequence"), (22, u "CASE_INSENSITIVE_ORDER"), (0, u "Ljava/util/Comparator;"), (32, .methodref 10 634), (0, .nameAndType 635 636), (0, u "indexOf"), (0, u "(II)I"), (0, .methodref 107 638), (0, .nameAndType 635 639), (0, u "([BIII)I"), (0, .methodref 42 638), (124, u "(I)I"), (244, u "([C)V"), (42, .fieldref 1054 1055), (0, .class_ 1056), (0, .nameAndType 1057 1058), (0, u "jdk/internal/util/Preconditions"), (0, u "SIOOBE_FORMATTER"), (0, u "Ljava/util/function/BiFunction;"), (3, .methodref 1054 1063), (0, .nameAndType 513 1064), (0, u "(IIILjava/util/function/BiFunction;)I"), (36, u "serialPersistentFields"), (0, u "[Ljava/io/ObjectStreamField;"), (0, .class_ 1104), (0, u "java/lang/String$CaseInsensitiveComparator"), (1, .class_ 1107), (0, u "java/io/Serializable"), (0, .class_ 1109), (0, u "java/lang/Comparable"), (0, .class_ 1111), (0, u "java/lang/constant/Constable"), (0, .class_ 1113), (0, u "java/lang/constant/ConstantDesc"), (2, u "serialVersionUID"), (0, u "J"), (3, u "REPL"), (0, u "C"), (2, u "LATIN1"), (1, u "UTF16")] 323

def k7m0 : Method := { name := "<init>", desc := "()V", sig := { parameters := [], returnType := none }, accessFlags := 1, code := none }
def k7c1 : Code := { maxStack := 5, maxLocals := 2, code := jdk_42_method_3_code, exceptionTable := #[], attributes := #[] }
def k7m1 : Method := { name := "<init>", desc := "([C)V", sig := { parameters := [(.array .char)], returnType := none }, accessFlags := 1, code := some k7c1 }
def k7c2 : Code := { maxStack := 2, maxLocals := 1, code := jdk_42_method_54_code, exceptionTable := #[], attributes := #[] }
def k7m2 : Method := { name := "length", desc := "()I", sig := { parameters := [], returnType := some .int }, accessFlags := 1, code := some k7c2 }
def k7c3 : Code := { maxStack := 3, maxLocals := 2, code := jdk_42_method_79_code, exceptionTable := #[], attributes := #[] }
def k7m3 : Method := { name := "indexOf", desc := "(I)I", sig := { parameters := [.int], returnType := some .int }, accessFlags := 1, code := some k7c3 }
def k7c4 : Code := { maxStack := 4, maxLocals := 3, code := jdk_42_method_80_code, exceptionTable := #[], attributes := #[] }
def k7m4 : Method := { name := "indexOf", desc := "(II)I", sig := { parameters := [.int, .int], returnType := some .int }, accessFlags := 1, code := some k7c4 }
def k7c5 : Code := { maxStack := 4, maxLocals := 6, code := jdk_42_method_149_code, exceptionTable := #[], attributes := #[] }
def k7m5 : Method := { name := "<init>", desc := "([CIILjava/lang/Void;)V", sig := { parameters := [(.array .char), .int, .int, (.object "java/lang/Void")], returnType := none }, accessFlags := 2, code := some k7c5 }
def k7c6 : Code := { maxStack := 1, maxLocals := 1, code := jdk_42_method_152_code, exceptionTable := #[], attributes := #[] }
def k7m6 : Method := { name := "coder", desc := "()B", sig := { parameters := [], returnType := some .byte }, accessFlags := 0, code := some k7c6 }
def k7c7 : Code := { maxStack := 1, maxLocals := 1, code := jdk_42_method_154_code, exceptionTable := #[], attributes := #[] }
def k7m7 : Method := { name := "isLatin1", desc := "()Z", sig := { parameters := [], returnType := some .boolean }, accessFlags := 0, code := some k7c7 }
def k7c8 : Code := { maxStack := 4, maxLocals := 3, code := jdk_42_method_158_code, exceptionTable := #[], attributes := #[] }
def k7m8 : Method := { name := "checkBoundsBeginEnd", desc := "(III)V", sig := { parameters := [.int, .int, .int], returnType := none }, accessFlags := 8, code := some k7c8 }
/-- java/lang/String -/
def k7 : Class := { plain "java/lang/String" (some 0) with
  accessFlags := 49
  interfaces := #[2, 3, 4, 5, 6]
  cf := some (fileOf pool7 10 #[.nestMembers #[1103]] #[{ accessFlags := 1, nameIndex := 5, descriptorIndex := 6, attributes := #[] }, { accessFlags := 1, nameIndex := 5, descriptorIndex := 1010, attributes := #[] }, { accessFlags := 1, nameIndex := 507, descriptorIndex := 334, attributes := #[] }, { accessFlags := 1, nameIndex := 635, descriptorIndex := 765, attributes := #[] }, { accessFlags := 1, nameIndex := 635, descriptorIndex := 636, attributes := #[] }, { accessFlags := 2, nameIndex := 5, descriptorIndex := 29, attributes := #[] }, { accessFlags := 0, nameIndex := 17, descriptorIndex := 337, attributes := #[] }, { accessFlags := 0, nameIndex := 494, descriptorIndex := 142, attributes := #[] }, { accessFlags := 8, nameIndex := 523, descriptorIndex := 524, attributes := #[] }] 49 2 #[1106, 1108, 575, 1110, 1112] #[{ accessFlags := 18, nameIndex := 13, descriptorIndex := 14, attributes := #[] }, { accessFlags := 18, nameIndex := 17, descriptorIndex := 18, attributes := #[] }, { accessFlags := 2, nameIndex := 21, descriptorIndex := 22, attributes := #[] }, { accessFlags := 2, nameIndex := 25, descriptorIndex := 26, attributes := #[] }, { accessFlags := 26, nameIndex := 1116, descriptorIndex := 1117, attributes := #[] }, { accessFlags := 24, nameIndex := 40, descriptorIndex := 26, attributes := #[] }, { accessFlags := 26, nameIndex := 1101, descriptorIndex := 1102, attributes := #[] }, { accessFlags := 26, nameIndex := 1121, descriptorIndex := 1122, attributes := #[] }, { accessFlags := 25, nameIndex := 599, descriptorIndex := 600, attributes := #[] }, { accessFlags := 24, nameIndex := 1125, descriptorIndex := 18, attributes := #[] }, { accessFlags := 24, nameIndex := 1127, descriptorIndex := 18, attributes := #[] }])
  fields := #[{ name := "value", type := (.array .byte), accessFlags := 18, slot := 0, constantValue := 0 }, { name := "coder", type := .byte, accessFlags := 18, slot := 1, constantValue := 0 }, { name := "hash", type := .int, accessFlags := 2, slot := 2, constantValue := 0 }, { name := "hashIsZero", type := .boolean, accessFlags := 2, slot := 3, constantValue := 0 }, { name := "serialVersionUID", type := .long, accessFlags := 26, slot := 0, constantValue := 0 }, { name := "COMPACT_STRINGS", type := .boolean, accessFlags := 24, slot := 1, constantValue := 0 }, { name := "serialPersistentFields", type := (.array (.object "java/io/ObjectStreamField")), accessFlags := 26, slot := 2, constantValue := 0 }, { name := "REPL", type := .char, accessFlags := 26, slot := 3, constantValue := 0 }, { name := "CASE_INSENSITIVE_ORDER", type := (.object "java/util/Comparator"), accessFlags := 25, slot := 4, constantValue := 0 }, { name := "LATIN1", type := .byte, accessFlags := 24, slot := 5, constantValue := 0 }, { name := "UTF16", type := .byte, accessFlags := 24, slot := 6, constantValue := 0 }]
  methods := #[k7m0, k7m1, k7m2, k7m3, k7m4, k7m5, k7m6, k7m7, k7m8]
  instanceTypes := #[(.array .byte), .byte, .int, .boolean]
  staticTypes := #[.long, .boolean, (.array (.object "java/io/ObjectStreamField")), .char, (.object "java/util/Comparator"), .byte, .byte]
  resolved := Array.replicate 1451 none
  statics := some 0 }

def pool8 : Array CpInfo := pool [(2, .class_ 4), (1, u "java/lang/Object"), (0, u "<init>"), (0, u "()V"), (1, .class_ 10), (1, u "java/lang/String"), (6, .class_ 18), (0, u "com/example/loomlist/loomlist/core/Naming"), (78, .methodref 8 98), (0, .nameAndType 99 100), (0, u "indexOf"), (0, u "(I)I"), (0, u "MAX_KEY_LENGTH"), (0, u "I"), (2, u "MAX_NAME_LENGTH"), (8, u "isStorable"), (0, u "(Ljava/lang/String;)Z")] 37

def k8m0 : Method := { name := "<init>", desc := "()V", sig := { parameters := [], returnType := none }, accessFlags := 2, code := none }
def k8c1 : Code := { maxStack := 2, maxLocals := 1, code := prog_32_method_6_code, exceptionTable := #[], attributes := #[] }
def k8m1 : Method := { name := "isStorable", desc := "(Ljava/lang/String;)Z", sig := { parameters := [(.object "java/lang/String")], returnType := some .boolean }, accessFlags := 9, code := some k8c1 }
/-- com/example/loomlist/loomlist/core/Naming -/
def k8 : Class := { plain "com/example/loomlist/loomlist/core/Naming" (some 0) with
  accessFlags := 49
  interfaces := #[]
  cf := some (fileOf pool8 17 #[] #[{ accessFlags := 2, nameIndex := 5, descriptorIndex := 6, attributes := #[] }, { accessFlags := 9, nameIndex := 114, descriptorIndex := 115, attributes := #[] }] 49 2 #[] #[{ accessFlags := 25, nameIndex := 101, descriptorIndex := 102, attributes := #[] }, { accessFlags := 25, nameIndex := 105, descriptorIndex := 102, attributes := #[] }])
  fields := #[{ name := "MAX_KEY_LENGTH", type := .int, accessFlags := 25, slot := 0, constantValue := 0 }, { name := "MAX_NAME_LENGTH", type := .int, accessFlags := 25, slot := 1, constantValue := 0 }]
  methods := #[k8m0, k8m1]
  instanceTypes := #[]
  staticTypes := #[.int, .int]
  resolved := Array.replicate 153 none
  statics := none }

def pool9 : Array CpInfo := pool [(4, .class_ 6), (1, u "java/lang/Object"), (0, u "<init>"), (0, u "()V"), (5, .class_ 16), (1, u "java/lang/StringLatin1"), (21, .methodref 39 40), (0, .class_ 41), (0, .nameAndType 42 43), (0, u "java/lang/Math"), (0, u "min"), (0, u "(II)I"), (44, .methodref 14 89), (0, .nameAndType 90 91), (0, u "canEncode"), (0, u "(I)Z"), (0, .methodref 39 93), (0, .nameAndType 94 43), (0, u "max"), (0, .methodref 14 96), (0, .nameAndType 97 98), (0, u "indexOfChar"), (0, u "([BIII)I"), (2, u "indexOf"), (19, u "$assertionsDisabled"), (0, u "Z"), (98, .class_ 223), (1, u "java/lang/StringLatin1$LinesSpliterator"), (166, .class_ 391), (0, u "java/lang/StringLatin1$CharsSpliterator")] 3

def k9m0 : Method := { name := "<init>", desc := "()V", sig := { parameters := [], returnType := none }, accessFlags := 0, code := none }
def k9c1 : Code := { maxStack := 2, maxLocals := 1, code := jdk_43_method_4_code, exceptionTable := #[], attributes := #[] }
def k9m1 : Method := { name := "canEncode", desc := "(I)Z", sig := { parameters := [.int], returnType := some .boolean }, accessFlags := 9, code := some k9c1 }
def k9c2 : Code := { maxStack := 4, maxLocals := 4, code := jdk_43_method_22_code, exceptionTable := #[], attributes := #[] }
def k9m2 : Method := { name := "indexOf", desc := "([BIII)I", sig := { parameters := [(.array .byte), .int, .int, .int], returnType := some .int }, accessFlags := 9, code := some k9c2 }
def k9c3 : Code := { maxStack := 2, maxLocals := 6, code := jdk_43_method_23_code, exceptionTable := #[], attributes := #[] }
def k9m3 : Method := { name := "indexOfChar", desc := "([BIII)I", sig := { parameters := [(.array .byte), .int, .int, .int], returnType := some .int }, accessFlags := 10, code := some k9c3 }
/-- java/lang/StringLatin1 -/
def k9 : Class := { plain "java/lang/StringLatin1" (some 0) with
  accessFlags := 48
  interfaces := #[]
  cf := some (fileOf pool9 14 #[.nestMembers #[390, 221]] #[{ accessFlags := 0, nameIndex := 7, descriptorIndex := 8, attributes := #[] }, { accessFlags := 9, nameIndex := 90, descriptorIndex := 91, attributes := #[] }, { accessFlags := 9, nameIndex := 101, descriptorIndex := 98, attributes := #[] }, { accessFlags := 10, nameIndex := 97, descriptorIndex := 98, attributes := #[] }] 48 4 #[] #[{ accessFlags := 4120, nameIndex := 121, descriptorIndex := 122, attributes := #[] }])
  fields := #[{ name := "$assertionsDisabled", type := .boolean, accessFlags := 4120, slot := 0, constantValue := 0 }]
  methods := #[k9m0, k9m1, k9m2, k9m3]
  instanceTypes := #[]
  staticTypes := #[.boolean]
  resolved := Array.replicate 395 none
  statics := none }

def pool10 : Array CpInfo := pool [(1, .class_ 2), (0, u "java/lang/Math"), (1, .class_ 6), (1, u "java/lang/Object"), (0, u "<init>"), (0, u "()V"), (89, .class_ 100), (1, u "java/lang/Math$RandomNumberGeneratorHolder"), (71, u "negativeZeroFloatBits"), (0, u "J"), (2, u "negativeZeroDoubleBits"), (21, u "max"), (2, u "min"), (43, u "$assertionsDisabled"), (0, u "Z"), (88, u "(II)I"), (2, u "twoToTheDoubleScaleDown"), (0, u "D"), (4, u "twoToTheDoubleScaleUp"), (9, u "E"), (3, u "PI"), (2, u "TAU"), (2, u "DEGREES_TO_RADIANS"), (0, u "RADIANS_TO_DEGREES")] 94

def k10m0 : Method := { name := "<init>", desc := "()V", sig := { parameters := [], returnType := none }, accessFlags := 2, code := none }
def k10c1 : Code := { maxStack := 2, maxLocals := 2, code := jdk_29_method_65_code, exceptionTable := #[], attributes := #[] }
def k10m1 : Method := { name := "max", desc := "(II)I", sig := { parameters := [.int, .int], returnType := some .int }, accessFlags := 9, code := some k10c1 }
def k10c2 : Code := { maxStack := 2, maxLocals := 2, code := jdk_29_method_69_code, exceptionTable := #[], attributes := #[] }
def k10m2 : Method := { name := "min", desc := "(II)I", sig := { parameters := [.int, .int], returnType := some .int }, accessFlags := 9, code := some k10c2 }
/-- java/lang/Math -/
def k10 : Class := { plain "java/lang/Math" (some 0) with
  accessFlags := 49
  interfaces := #[]
  cf := some (fileOf pool10 1 #[.nestMembers #[98]] #[{ accessFlags := 2, nameIndex := 7, descriptorIndex := 8, attributes := #[] }, { accessFlags := 9, nameIndex := 198, descriptorIndex := 335, attributes := #[] }, { accessFlags := 9, nameIndex := 201, descriptorIndex := 335, attributes := #[] }] 49 4 #[] #[{ accessFlags := 25, nameIndex := 354, descriptorIndex := 339, attributes := #[] }, { accessFlags := 25, nameIndex := 358, descriptorIndex := 339, attributes := #[] }, { accessFlags := 25, nameIndex := 361, descriptorIndex := 339, attributes := #[] }, { accessFlags := 26, nameIndex := 364, descriptorIndex := 339, attributes := #[] }, { accessFlags := 26, nameIndex := 365, descriptorIndex := 339, attributes := #[] }, { accessFlags := 26, nameIndex := 172, descriptorIndex := 173, attributes := #[] }, { accessFlags := 26, nameIndex := 176, descriptorIndex := 173, attributes := #[] }, { accessFlags := 8, nameIndex := 344, descriptorIndex := 339, attributes := #[] }, { accessFlags := 8, nameIndex := 338, descriptorIndex := 339, attributes := #[] }, { accessFlags := 4120, nameIndex := 245, descriptorIndex := 246, attributes := #[] }])
  fields := #[{ name := "E", type := .double, accessFlags := 25, slot := 0, constantValue := 0 }, { name := "PI", type := .double, accessFlags := 25, slot := 1, constantValue := 0 }, { name := "TAU", type := .double, accessFlags := 25, slot := 2, constantValue := 0 }, { name := "DEGREES_TO_RADIANS", type := .double, accessFlags := 26, slot := 3, constantValue := 0 }, { name := "RADIANS_TO_DEGREES", type := .double, accessFlags := 26, slot := 4, constantValue := 0 }, { name := "negativeZeroFloatBits", type := .long, accessFlags := 26, slot := 5, constantValue := 0 }, { name := "negativeZeroDoubleBits", type := .long, accessFlags := 26, slot := 6, constantValue := 0 }, { name := "twoToTheDoubleScaleUp", type := .double, accessFlags := 8, slot := 7, constantValue := 0 }, { name := "twoToTheDoubleScaleDown", type := .double, accessFlags := 8, slot := 8, constantValue := 0 }, { name := "$assertionsDisabled", type := .boolean, accessFlags := 4120, slot := 9, constantValue := 0 }]
  methods := #[k10m0, k10m1, k10m2]
  instanceTypes := #[]
  staticTypes := #[.double, .double, .double, .double, .double, .long, .long, .double, .double, .boolean]
  resolved := Array.replicate 460 none
  statics := none }

def pool11 : Array CpInfo := pool [(3, .class_ 4), (0, u "java/lang/String"), (1, .class_ 8), (1, u "java/lang/Object"), (0, u "<init>"), (0, u "()V"), (0, .methodref 12 13), (0, .class_ 14), (0, .nameAndType 15 16), (0, u "java/lang/StringUTF16"), (0, u "newBytesLength"), (0, u "(I)I"), (3, .integer 1073741823), (23, .fieldref 12 45), (0, .nameAndType 46 47), (0, u "$assertionsDisabled"), (0, u "Z"), (0, .methodref 12 49), (0, .nameAndType 50 51), (0, u "length"), (0, u "([B)I"), (7, .fieldref 12 60), (0, .nameAndType 61 62), (0, u "HI_BYTE_SHIFT"), (0, u "I"), (0, .fieldref 12 64), (0, .nameAndType 65 62), (0, u "LO_BYTE_SHIFT"), (5, .methodref 12 72), (0, .nameAndType 73 74), (0, u "getChar"), (0, u "([BI)C"), (21, .methodref 12 97), (0, .nameAndType 98 99), (0, u "checkBoundsBeginEnd"), (0, u "(II[B)V"), (7, .methodref 12 108), (0, .nameAndType 109 110), (0, u "newBytesFor"), (0, u "(I)[B"), (0, .methodref 12 112), (0, .nameAndType 113 114), (0, u "putChar"), (0, u "([BII)V"), (0, .methodref 12 116), (0, .nameAndType 117 118), (0, u "compress"), (0, u "([CI[BII)I"), (0, .methodref 12 120), (0, .nameAndType 121 122), (0, u "toBytes"), (0, u "([CII)[B"), (60, .methodref 184 185), (0, .class_ 186), (0, .nameAndType 187 188), (0, u "java/lang/Math"), (0, u "min"), (0, u "(II)I"), (35, .methodref 184 225), (0, .nameAndType 226 188), (0, u "max"), (0, .integer 65536), (0, .methodref 12 229), (0, .nameAndType 230 231), (0, u "indexOfChar"), (0, u "([BIII)I"), (9, .methodref 3 242), (0, .nameAndType 98 243), (0, u "(III)V"), (0, .methodref 12 245), (0, .nameAndType 246 231), (0, u "indexOfCharUnsafe"), (14, u "coderFromArrayLen"), (0, u "([BI)B"), (5, u "indexOf"), (100, .class_ 371), (1, u "java/lang/StringUTF16$LinesSpliterator"), (58, u "MAX_LENGTH"), (196, .class_ 628), (0, u "java/lang/StringUTF16$CodePointsSpliterator"), (0, .class_ 630), (0, u "java/lang/StringUTF16$CharsSpliterator")] 4

def k11m0 : Method := { name := "<init>", desc := "()V", sig := { parameters := [], returnType := none }, accessFlags := 0, code := none }
def k11c1 : Code := { maxStack := 1, maxLocals := 1, code := jdk_52_method_2_code, exceptionTable := #[], attributes := #[] }
def k11m1 : Method := { name := "newBytesFor", desc := "(I)[B", sig := { parameters := [.int], returnType := some (.array .byte) }, accessFlags := 9, code := some k11c1 }
def k11c2 : Code := { maxStack := 4, maxLocals := 1, code := jdk_52_method_3_code, exceptionTable := #[], attributes := #[] }
def k11m2 : Method := { name := "newBytesLength", desc := "(I)I", sig := { parameters := [.int], returnType := some .int }, accessFlags := 9, code := some k11c2 }
def k11c3 : Code := { maxStack := 4, maxLocals := 3, code := jdk_52_method_4_code, exceptionTable := #[], attributes := #[] }
def k11m3 : Method := { name := "putChar", desc := "([BII)V", sig := { parameters := [(.array .byte), .int, .int], returnType := none }, accessFlags := 8, code := some k11c3 }
def k11c4 : Code := { maxStack := 3, maxLocals := 2, code := jdk_52_method_5_code, exceptionTable := #[], attributes := #[] }
def k11m4 : Method := { name := "getChar", desc := "([BI)C", sig := { parameters := [(.array .byte), .int], returnType := some .char }, accessFlags := 8, code := some k11c4 }
def k11c5 : Code := { maxStack := 2, maxLocals := 1, code := jdk_52_method_6_code, exceptionTable := #[], attributes := #[] }
def k11m5 : Method := { name := "length", desc := "([B)I", sig := { parameters := [(.array .byte)], returnType := some .int }, accessFlags := 9, code := some k11c5 }
def k11c6 : Code := { maxStack := 4, maxLocals := 5, code := jdk_52_method_14_code, exceptionTable := #[], attributes := #[] }
def k11m6 : Method := { name := "toBytes", desc := "([CII)[B", sig := { parameters := [(.array .char), .int, .int], returnType := some (.array .byte) }, accessFlags := 9, code := some k11c6 }
def k11c7 : Code := { maxStack := 2, maxLocals := 2, code := jdk_52_method_15_code, exceptionTable := #[], attributes := #[] }
def k11m7 : Method := { name := "coderFromArrayLen", desc := "([BI)B", sig := { parameters := [(.array .byte), .int], returnType := some .byte }, accessFlags := 8, code := some k11c7 }
def k11c8 : Code := { maxStack := 5, maxLocals := 6, code := jdk_52_method_16_code, exceptionTable := #[], attributes := #[] }
def k11m8 : Method := { name := "compress", desc := "([CII)[B", sig := { parameters := [(.array .char), .int, .int], returnType := some (.array .byte) }, accessFlags := 9, code := some k11c8 }
def k11c9 : Code := { maxStack := 3, maxLocals := 7, code := jdk_52_method_21_code, exceptionTable := #[], attributes := #[] }
def k11m9 : Method := { name := "compress", desc := "([CI[BII)I", sig := { parameters := [(.array .char), .int, (.array .byte), .int, .int], returnType := some .int }, accessFlags := 9, code := some k11c9 }
def k11c10 : Code := { maxStack := 4, maxLocals := 4, code := jdk_52_method_40_code, exceptionTable := #[], attributes := #[] }
def k11m10 : Method := { name := "indexOf", desc := "([BIII)I", sig := { parameters := [(.array .byte), .int, .int, .int], returnType := some .int }, accessFlags := 9, code := some k11c10 }
def k11c11 : Code := { maxStack := 4, maxLocals := 4, code := jdk_52_method_47_code, exceptionTable := #[], attributes := #[] }
def k11m11 : Method := { name := "indexOfChar", desc := "([BIII)I", sig := { parameters := [(.array .byte), .int, .int, .int], returnType := some .int }, accessFlags := 10, code := some k11c11 }
def k11c12 : Code := { maxStack := 2, maxLocals := 5, code := jdk_52_method_48_code, exceptionTable := #[], attributes := #[] }
def k11m12 : Method := { name := "indexOfCharUnsafe", desc := "([BIII)I", sig := { parameters := [(.array .byte), .int, .int, .int], returnType := some .int }, accessFlags := 10, code := some k11c12 }
def k11c13 : Code := { maxStack := 3, maxLocals := 3, code := jdk_52_method_93_code, exceptionTable := #[], attributes := #[] }
def k11m13 : Method := { name := "checkBoundsBeginEnd", desc := "(II[B)V", sig := { parameters := [.int, .int, (.array .byte)], returnType := none }, accessFlags := 9, code := some k11c13 }
/-- java/lang/StringUTF16 -/
def k11 : Class := { plain "java/lang/StringUTF16" (some 0) with
  accessFlags := 48
  interfaces := #[]
  cf := some (fileOf pool11 12 #[.nestMembers #[627, 629, 369]] #[{ accessFlags := 0, nameIndex := 9, descriptorIndex := 10, attributes := #[] }, { accessFlags := 9, nameIndex := 109, descriptorIndex := 110, attributes := #[] }, { accessFlags := 9, nameIndex := 15, descriptorIndex := 16, attributes := #[] }, { accessFlags := 8, nameIndex := 113, descriptorIndex := 114, attributes := #[] }, { accessFlags := 8, nameIndex := 73, descriptorIndex := 74, attributes := #[] }, { accessFlags := 9, nameIndex := 50, descriptorIndex := 51, attributes := #[] }, { accessFlags := 9, nameIndex := 121, descriptorIndex := 122, attributes := #[] }, { accessFlags := 8, nameIndex := 261, descriptorIndex := 262, attributes := #[] }, { accessFlags := 9, nameIndex := 117, descriptorIndex := 122, attributes := #[] }, { accessFlags := 9, nameIndex := 117, descriptorIndex := 118, attributes := #[] }, { accessFlags := 9, nameIndex := 268, descriptorIndex := 231, attributes := #[] }, { accessFlags := 10, nameIndex := 230, descriptorIndex := 231, attributes := #[] }, { accessFlags := 10, nameIndex := 246, descriptorIndex := 231, attributes := #[] }, { accessFlags := 9, nameIndex := 98, descriptorIndex := 99, attributes := #[] }] 48 6 #[] #[{ accessFlags := 26, nameIndex := 61, descriptorIndex := 62, attributes := #[] }, { accessFlags := 26, nameIndex := 65, descriptorIndex := 62, attributes := #[] }, { accessFlags := 24, nameIndex := 430, descriptorIndex := 62, attributes := #[] }, { accessFlags := 4120, nameIndex := 46, descriptorIndex := 47, attributes := #[] }])
  fields := #[{ name := "HI_BYTE_SHIFT", type := .int, accessFlags := 26, slot := 0, constantValue := 0 }, { name := "LO_BYTE_SHIFT", type := .int, accessFlags := 26, slot := 1, constantValue := 0 }, { name := "MAX_LENGTH", type := .int, accessFlags := 24, slot := 2, constantValue := 0 }, { name := "$assertionsDisabled", type := .boolean, accessFlags := 4120, slot := 3, constantValue := 0 }]
  methods := #[k11m0, k11m1, k11m2, k11m3, k11m4, k11m5, k11m6, k11m7, k11m8, k11m9, k11m10, k11m11, k11m12, k11m13]
  instanceTypes := #[]
  staticTypes := #[.int, .int, .int, .boolean]
  resolved := Array.replicate 635 none
  statics := some 1 }

def pool12 : Array CpInfo := pool [(2, .class_ 4), (1, u "java/lang/Object"), (0, u "<init>"), (0, u "()V"), (17, .class_ 26), (1, u "jdk/internal/util/Preconditions"), (20, u "checkFromToIndex"), (7, .class_ 56), (0, u "jdk/internal/util/Preconditions$4"), (57, .class_ 115), (0, u "jdk/internal/util/Preconditions$1"), (7, u "SIOOBE_FORMATTER"), (0, u "Ljava/util/function/BiFunction;"), (0, .class_ 126), (0, u "jdk/internal/util/Preconditions$2"), (3, u "AIOOBE_FORMATTER"), (0, .class_ 132), (0, u "jdk/internal/util/Preconditions$3"), (3, u "IOOBE_FORMATTER"), (46, u "(IIILjava/util/function/BiFunction;)I")] 10

def k12m0 : Method := { name := "<init>", desc := "()V", sig := { parameters := [], returnType := none }, accessFlags := 1, code := none }
def k12c1 : Code := { maxStack := 4, maxLocals := 4, code := jdk_41_method_12_code, exceptionTable := #[], attributes := #[] }
def k12m1 : Method := { name := "checkFromToIndex", desc := "(IIILjava/util/function/BiFunction;)I", sig := { parameters := [.int, .int, .int, (.object "java/util/function/BiFunction")], returnType := some .int }, accessFlags := 9, code := some k12c1 }
/-- jdk/internal/util/Preconditions -/
def k12 : Class := { plain "jdk/internal/util/Preconditions" (some 0) with
  accessFlags := 33
  interfaces := #[]
  cf := some (fileOf pool12 24 #[.nestMembers #[55, 131, 125, 114]] #[{ accessFlags := 1, nameIndex := 5, descriptorIndex := 6, attributes := #[] }, { accessFlags := 9, nameIndex := 47, descriptorIndex := 183, attributes := #[] }] 33 2 #[] #[{ accessFlags := 25, nameIndex := 123, descriptorIndex := 124, attributes := #[] }, { accessFlags := 25, nameIndex := 130, descriptorIndex := 124, attributes := #[] }, { accessFlags := 25, nameIndex := 136, descriptorIndex := 124, attributes := #[] }])
  fields := #[{ name := "SIOOBE_FORMATTER", type := (.object "java/util/function/BiFunction"), accessFlags := 25, slot := 0, constantValue := 0 }, { name := "AIOOBE_FORMATTER", type := (.object "java/util/function/BiFunction"), accessFlags := 25, slot := 1, constantValue := 0 }, { name := "IOOBE_FORMATTER", type := (.object "java/util/function/BiFunction"), accessFlags := 25, slot := 2, constantValue := 0 }]
  methods := #[k12m0, k12m1]
  instanceTypes := #[]
  staticTypes := #[(.object "java/util/function/BiFunction"), (.object "java/util/function/BiFunction"), (.object "java/util/function/BiFunction")]
  resolved := Array.replicate 194 none
  statics := some 2 }

def pool13 : Array CpInfo := pool [(9, u "<init>"), (6, .class_ 18), (1, u "java/lang/Object"), (0, u "()V"), (1, .class_ 23), (1, u "jdk/internal/util/ArraysSupport"), (0, u "LOG2_ARRAY_LONG_INDEX_SCALE"), (0, u "I"), (2, u "U"), (0, u "Ljdk/internal/misc/Unsafe;"), (8, u "BIG_ENDIAN"), (0, u "Z"), (8, u "LOG2_BYTE_BIT_SIZE"), (4, u "LOG2_ARRAY_INT_INDEX_SCALE"), (54, u "JLA"), (0, u "Ljdk/internal/access/JavaLangAccess;"), (11, u "LOG2_ARRAY_BOOLEAN_INDEX_SCALE"), (9, u "LOG2_ARRAY_BYTE_INDEX_SCALE"), (5, u "LOG2_ARRAY_CHAR_INDEX_SCALE"), (5, u "LOG2_ARRAY_SHORT_INDEX_SCALE"), (18, u "LOG2_ARRAY_FLOAT_INDEX_SCALE"), (24, u "LOG2_ARRAY_DOUBLE_INDEX_SCALE"), (89, u "T_BOOLEAN"), (2, u "T_CHAR"), (1, u "T_FLOAT"), (1, u "T_DOUBLE"), (1, u "T_BYTE"), (1, u "T_SHORT"), (1, u "T_INT"), (1, u "T_LONG"), (1, u "SOFT_MAX_ARRAY_LENGTH")] 83

def k13m0 : Method := { name := "<init>", desc := "()V", sig := { parameters := [], returnType := none }, accessFlags := 2, code := none }
/-- jdk/internal/util/ArraysSupport -/
def k13 : Class := { plain "jdk/internal/util/ArraysSupport" (some 0) with
  accessFlags := 33
  interfaces := #[]
  cf := some (fileOf pool13 21 #[] #[{ accessFlags := 2, nameIndex := 9, descriptorIndex := 19, attributes := #[] }] 33 16 #[] #[{ accessFlags := 24, nameIndex := 28, descriptorIndex := 29, attributes := #[] }, { accessFlags := 26, nameIndex := 38, descriptorIndex := 39, attributes := #[] }, { accessFlags := 25, nameIndex := 121, descriptorIndex := 25, attributes := #[] }, { accessFlags := 25, nameIndex := 131, descriptorIndex := 25, attributes := #[] }, { accessFlags := 25, nameIndex := 137, descriptorIndex := 25, attributes := #[] }, { accessFlags := 25, nameIndex := 143, descriptorIndex := 25, attributes := #[] }, { accessFlags := 25, nameIndex := 53, descriptorIndex := 25, attributes := #[] }, { accessFlags := 25, nameIndex := 24, descriptorIndex := 25, attributes := #[] }, { accessFlags := 25, nameIndex := 162, descriptorIndex := 25, attributes := #[] }, { accessFlags := 25, nameIndex := 187, descriptorIndex := 25, attributes := #[] }, { accessFlags := 26, nameIndex := 48, descriptorIndex := 25, attributes := #[] }, { accessFlags := 25, nameIndex := 277, descriptorIndex := 25, attributes := #[] }, { accessFlags := 25, nameIndex := 280, descriptorIndex := 25, attributes := #[] }, { accessFlags := 25, nameIndex := 282, descriptorIndex := 25, attributes := #[] }, { accessFlags := 25, nameIndex := 284, descriptorIndex := 25, attributes := #[] }, { accessFlags := 25, nameIndex := 286, descriptorIndex := 25, attributes := #[] }, { accessFlags := 25, nameIndex := 288, descriptorIndex := 25, attributes := #[] }, { accessFlags := 25, nameIndex := 290, descriptorIndex := 25, attributes := #[] }, { accessFlags := 25, nameIndex := 292, descriptorIndex := 25, attributes := #[] }, { accessFlags := 26, nameIndex := 108, descriptorIndex := 109, attributes := #[] }, { accessFlags := 25, nameIndex := 294, descriptorIndex := 25, attributes := #[] }])
  fields := #[{ name := "U", type := (.object "jdk/internal/misc/Unsafe"), accessFlags := 24, slot := 0, constantValue := 0 }, { name := "BIG_ENDIAN", type := .boolean, accessFlags := 26, slot := 1, constantValue := 0 }, { name := "LOG2_ARRAY_BOOLEAN_INDEX_SCALE", type := .int, accessFlags := 25, slot := 2, constantValue := 0 }, { name := "LOG2_ARRAY_BYTE_INDEX_SCALE", type := .int, accessFlags := 25, slot := 3, constantValue := 0 }, { name := "LOG2_ARRAY_CHAR_INDEX_SCALE", type := .int, accessFlags := 25, slot := 4, constantValue := 0 }, { name := "LOG2_ARRAY_SHORT_INDEX_SCALE", type := .int, accessFlags := 25, slot := 5, constantValue := 0 }, { name := "LOG2_ARRAY_INT_INDEX_SCALE", type := .int, accessFlags := 25, slot := 6, constantValue := 0 }, { name := "LOG2_ARRAY_LONG_INDEX_SCALE", type := .int, accessFlags := 25, slot := 7, constantValue := 0 }, { name := "LOG2_ARRAY_FLOAT_INDEX_SCALE", type := .int, accessFlags := 25, slot := 8, constantValue := 0 }, { name := "LOG2_ARRAY_DOUBLE_INDEX_SCALE", type := .int, accessFlags := 25, slot := 9, constantValue := 0 }, { name := "LOG2_BYTE_BIT_SIZE", type := .int, accessFlags := 26, slot := 10, constantValue := 0 }, { name := "T_BOOLEAN", type := .int, accessFlags := 25, slot := 11, constantValue := 0 }, { name := "T_CHAR", type := .int, accessFlags := 25, slot := 12, constantValue := 0 }, { name := "T_FLOAT", type := .int, accessFlags := 25, slot := 13, constantValue := 0 }, { name := "T_DOUBLE", type := .int, accessFlags := 25, slot := 14, constantValue := 0 }, { name := "T_BYTE", type := .int, accessFlags := 25, slot := 15, constantValue := 0 }, { name := "T_SHORT", type := .int, accessFlags := 25, slot := 16, constantValue := 0 }, { name := "T_INT", type := .int, accessFlags := 25, slot := 17, constantValue := 0 }, { name := "T_LONG", type := .int, accessFlags := 25, slot := 18, constantValue := 0 }, { name := "JLA", type := (.object "jdk/internal/access/JavaLangAccess"), accessFlags := 26, slot := 19, constantValue := 0 }, { name := "SOFT_MAX_ARRAY_LENGTH", type := .int, accessFlags := 25, slot := 20, constantValue := 0 }]
  methods := #[k13m0]
  instanceTypes := #[]
  staticTypes := #[(.object "jdk/internal/misc/Unsafe"), .boolean, .int, .int, .int, .int, .int, .int, .int, .int, .int, .int, .int, .int, .int, .int, .int, .int, .int, (.object "jdk/internal/access/JavaLangAccess"), .int]
  resolved := Array.replicate 378 none
  statics := none }

def pool14 : Array CpInfo := pool [(1, u "java/lang/Cloneable"), (0, .class_ 1), (0, u "java/lang/Object"), (0, .class_ 3)] 3

/-- java/lang/Cloneable -/
def k14 : Class := { plain "java/lang/Cloneable" (some 0) with
  accessFlags := 1537
  interfaces := #[]
  cf := some (fileOf pool14 2 #[] #[] 1537 4 #[] #[])
  fields := #[]
  methods := #[]
  instanceTypes := #[]
  staticTypes := #[]
  resolved := Array.replicate 8 none
  statics := none }

/-- the primitive byte -/
def k15 : Class := { plain "byte" none with kind := .primitive 'B', accessFlags := 0x411 }
/-- [B -/
def k16 : Class := { plain "[B" (some 0) with kind := .array 15 .byte, interfaces := #[14, 2], accessFlags := 1041 }

/-- the primitive char -/
def k17 : Class := { plain "char" none with kind := .primitive 'C', accessFlags := 0x411 }
/-- [C -/
def k18 : Class := { plain "[C" (some 0) with kind := .array 17 .char, interfaces := #[14, 2], accessFlags := 1041 }

/-- the primitive int -/
def k19 : Class := { plain "int" none with kind := .primitive 'I', accessFlags := 0x411 }
/-- [I -/
def k20 : Class := { plain "[I" (some 0) with kind := .array 19 .int, interfaces := #[14, 2], accessFlags := 1041 }

def heap : Heap := #[{ cls := 7, slots := #[.long 0, .int 1, .null, .int 0, .null, .int 0, .int 0], vm := .statics 7 },
  { cls := 11, slots := #[.int 0, .int 8, .int 0, .int 1], vm := .statics 11 },
  { cls := 12, slots := #[.null, .null, .null], vm := .statics 12 }]
def classes : Array Class := #[k0, k1, k2, k3, k4, k5, k6, k7, k8, k9, k10, k11, k12, k13, k14, k15, k16, k17, k18, k19, k20]
def interned : List (Array UInt16 × Addr) := []
def slotsUsed : Nat := 14
def theMethod : MethodId := ⟨1, 1⟩
def args0 : Array Value := #[.int 65, .int 66, .int 67, .int 68, .int 2]
def aboutOver (below : List Frame) : State where
  vm := { classes := classes, interned := interned.toArray }
  heap := heap
  slotsUsed := slotsUsed
  threads := #[{ frames := .invoking theMethod args0 :: below }]
def below0 : List Frame := [.native { method := ⟨0, 0⟩, args := #[] }]
def about1 : State := aboutOver below0
def p0 : Program := .bare "" "" ""
def e0 : Env := launch0.env 0 0 0
theorem w_frames : about1.frames = Frame.invoking theMethod args0 :: below0 := rfl
set_option maxRecDepth 65536 in
theorem w_args : argsFit about1.vm theMethod args0 = true := by decide +kernel
set_option maxRecDepth 65536 in
theorem w_heap : heapFits about1 = true := by decide +kernel
set_option maxRecDepth 65536 in
theorem w_runnable : about1.curStatus? = some .runnable := by decide +kernel
set_option maxRecDepth 65536 in
theorem w_alone : about1.alone = true := by decide +kernel
set_option maxRecDepth 65536 in
theorem w_named : about1.methodNamed? x = some theMethod := by decide +kernel
set_option maxRecDepth 65536 in
theorem w_hears : about1.hears theMethod below0 = true := by decide +kernel
set_option maxRecDepth 65536 in
theorem w_ripe : about1.ripe theMethod args0 below0 = true := by decide +kernel
theorem w_running : about1.status = .running := rfl
set_option maxRecDepth 65536 in
theorem w_room : about1.hasRoom e0.platform room_1 = true :=
  launch0.hasRoom_least _ room_1 (by decide +kernel) (by decide +kernel) (by decide +kernel) (by decide +kernel) (by decide +kernel) (by decide +kernel)
theorem allAtoms_all (ts : List Jvm.Cond) (a : Array Jvm.Value) (st : Jvm.State) : (allAtoms ts).before a st = ts.all (fun c => c.before a st) := by
  induction ts with
  | nil => rfl
  | cons c t ih =>
    show (Jvm.Cond.and c (allAtoms t)).before a st = _
    rw [Jvm.Cond.before_and, ih, List.all_cons]
def words1 : List Jvm.Cond := Jvm.Cond.code x code maxLocals ret :: tables_1
/-- a 'code' word, met by the world's own term for the bytes: nothing is compared byte by byte -/
theorem code_word {y : MethodName} {bytes : ByteArray} {mx : Nat} {rt : Option FieldType} {a : Array Value} {s : State} {m : MethodId} {meth : Method} {c : Code} (h1 : s.methodNamed? y = some m) (h2 : s.vm.method? m = some meth) (h3 : meth.code = some c) (h4 : c.code = bytes)
    (h5 : (c.maxLocals == mx && c.exceptionTable.isEmpty && decide (c.maxStack ≤ mostOperands) && decide (meth.sig.returnType = rt) && !meth.locks && decide (parseMethodDescriptor y.desc = some meth.sig)) = true) : (Jvm.Cond.code y bytes mx rt).before a s = true := by
  simp only [Bool.and_eq_true, beq_iff_eq, Bool.not_eq_true', decide_eq_true_eq] at h5
  obtain ⟨⟨⟨⟨⟨g1, g2⟩, g3⟩, g4⟩, g5⟩, g6⟩ := h5
  simp [Cond.before, Cond.holds, Cond.value, h1, h2, h3, h4, g1, g2, g3, g4, g5, g6]
def isCode : Jvm.Cond → Bool
  | .code _ _ _ _ => true
  | _ => false
theorem all_split {L : List Jvm.Cond} {P : Jvm.Cond → Bool} (h1 : L.all (fun c => isCode c || P c) = true) (h2 : ∀ c ∈ L.filter isCode, P c = true) : L.all P = true := by
  refine List.all_eq_true.mpr fun c hc => ?_
  have h := List.all_eq_true.mp h1 c hc
  rcases Bool.eq_false_or_eq_true (isCode c) with hi | hi
  · exact h2 c (List.mem_filter.mpr ⟨hc, hi⟩)
  · simpa [hi] using h
set_option maxRecDepth 65536 in
theorem w_c0 : (Jvm.Cond.code x code maxLocals ret).before args0 about1 = true := code_word (m := ⟨1, 1⟩) (meth := k1m1) (c := k1c1) (by decide +kernel) rfl rfl rfl (by decide +kernel)
set_option maxRecDepth 65536 in
theorem w_c1 : (Jvm.Cond.code ({ cls := "java/lang/String", name := "<init>", desc := "([C)V" } : Jvm.MethodName) jdk_42_method_3_code (2 : Nat) (Option.none : Option Jvm.ClassFile.FieldType)).before args0 about1 = true := code_word (m := ⟨7, 1⟩) (meth := k7m1) (c := k7c1) (by decide +kernel) rfl rfl rfl (by decide +kernel)
set_option maxRecDepth 65536 in
theorem w_c2 : (Jvm.Cond.code ({ cls := "java/lang/String", name := "<init>", desc := "([CIILjava/lang/Void;)V" } : Jvm.MethodName) jdk_42_method_149_code (6 : Nat) (Option.none : Option Jvm.ClassFile.FieldType)).before args0 about1 = true := code_word (m := ⟨7, 5⟩) (meth := k7m5) (c := k7c5) (by decide +kernel) rfl rfl rfl (by decide +kernel)
set_option maxRecDepth 65536 in
theorem w_c3 : (Jvm.Cond.code ({ cls := "java/lang/Object", name := "<init>", desc := "()V" } : Jvm.MethodName) object_method_1_code (1 : Nat) (Option.none : Option Jvm.ClassFile.FieldType)).before args0 about1 = true := code_word (m := ⟨0, 0⟩) (meth := k0m0) (c := k0c0) (by decide +kernel) rfl rfl rfl (by decide +kernel)
set_option maxRecDepth 65536 in
theorem w_c4 : (Jvm.Cond.code ({ cls := "com/example/loomlist/loomlist/core/Naming", name := "isStorable", desc := "(Ljava/lang/String;)Z" } : Jvm.MethodName) prog_32_method_6_code (1 : Nat) (Option.some Jvm.ClassFile.FieldType.boolean)).before args0 about1 = true := code_word (m := ⟨8, 1⟩) (meth := k8m1) (c := k8c1) (by decide +kernel) rfl rfl rfl (by decide +kernel)
set_option maxRecDepth 65536 in
theorem w_c5 : (Jvm.Cond.code ({ cls := "java/lang/String", name := "indexOf", desc := "(I)I" } : Jvm.MethodName) jdk_42_method_79_code (2 : Nat) (Option.some Jvm.ClassFile.FieldType.int)).before args0 about1 = true := code_word (m := ⟨7, 3⟩) (meth := k7m3) (c := k7c3) (by decide +kernel) rfl rfl rfl (by decide +kernel)
set_option maxRecDepth 65536 in
theorem w_c6 : (Jvm.Cond.code ({ cls := "java/lang/String", name := "indexOf", desc := "(II)I" } : Jvm.MethodName) jdk_42_method_80_code (3 : Nat) (Option.some Jvm.ClassFile.FieldType.int)).before args0 about1 = true := code_word (m := ⟨7, 4⟩) (meth := k7m4) (c := k7c4) (by decide +kernel) rfl rfl rfl (by decide +kernel)
set_option maxRecDepth 65536 in
theorem w_c7 : (Jvm.Cond.code ({ cls := "java/lang/String", name := "isLatin1", desc := "()Z" } : Jvm.MethodName) jdk_42_method_154_code (1 : Nat) (Option.some Jvm.ClassFile.FieldType.boolean)).before args0 about1 = true := code_word (m := ⟨7, 7⟩) (meth := k7m7) (c := k7c7) (by decide +kernel) rfl rfl rfl (by decide +kernel)
set_option maxRecDepth 65536 in
theorem w_c8 : (Jvm.Cond.code ({ cls := "java/lang/String", name := "length", desc := "()I" } : Jvm.MethodName) jdk_42_method_54_code (1 : Nat) (Option.some Jvm.ClassFile.FieldType.int)).before args0 about1 = true := code_word (m := ⟨7, 2⟩) (meth := k7m2) (c := k7c2) (by decide +kernel) rfl rfl rfl (by decide +kernel)
set_option maxRecDepth 65536 in
theorem w_c9 : (Jvm.Cond.code ({ cls := "java/lang/String", name := "coder", desc := "()B" } : Jvm.MethodName) jdk_42_method_152_code (1 : Nat) (Option.some Jvm.ClassFile.FieldType.byte)).before args0 about1 = true := code_word (m := ⟨7, 6⟩) (meth := k7m6) (c := k7c6) (by decide +kernel) rfl rfl rfl (by decide +kernel)
set_option maxRecDepth 65536 in
theorem w_c10 : (Jvm.Cond.code ({ cls := "java/lang/StringLatin1", name := "indexOf", desc := "([BIII)I" } : Jvm.MethodName) jdk_43_method_22_code (4 : Nat) (Option.some Jvm.ClassFile.FieldType.int)).before args0 about1 = true := code_word (m := ⟨9, 2⟩) (meth := k9m2) (c := k9c2) (by decide +kernel) rfl rfl rfl (by decide +kernel)
set_option maxRecDepth 65536 in
theorem w_c11 : (Jvm.Cond.code ({ cls := "java/lang/StringLatin1", name := "canEncode", desc := "(I)Z" } : Jvm.MethodName) jdk_43_method_4_code (1 : Nat) (Option.some Jvm.ClassFile.FieldType.boolean)).before args0 about1 = true := code_word (m := ⟨9, 1⟩) (meth := k9m1) (c := k9c1) (by decide +kernel) rfl rfl rfl (by decide +kernel)
set_option maxRecDepth 65536 in
theorem w_c12 : (Jvm.Cond.code ({ cls := "java/lang/Math", name := "max", desc := "(II)I" } : Jvm.MethodName) jdk_29_method_65_code (2 : Nat) (Option.some Jvm.ClassFile.FieldType.int)).before args0 about1 = true := code_word (m := ⟨10, 1⟩) (meth := k10m1) (c := k10c1) (by decide +kernel) rfl rfl rfl (by decide +kernel)
set_option maxRecDepth 65536 in
theorem w_c13 : (Jvm.Cond.code ({ cls := "java/lang/Math", name := "min", desc := "(II)I" } : Jvm.MethodName) jdk_29_method_69_code (2 : Nat) (Option.some Jvm.ClassFile.FieldType.int)).before args0 about1 = true := code_word (m := ⟨10, 2⟩) (meth := k10m2) (c := k10c2) (by decide +kernel) rfl rfl rfl (by decide +kernel)
set_option maxRecDepth 65536 in
theorem w_c14 : (Jvm.Cond.code ({ cls := "java/lang/StringUTF16", name := "compress", desc := "([CII)[B" } : Jvm.MethodName) jdk_52_method_16_code (6 : Nat) (Option.some (Jvm.ClassFile.FieldType.array Jvm.ClassFile.FieldType.byte))).before args0 about1 = true := code_word (m := ⟨11, 8⟩) (meth := k11m8) (c := k11c8) (by decide +kernel) rfl rfl rfl (by decide +kernel)
set_option maxRecDepth 65536 in
theorem w_c15 : (Jvm.Cond.code ({ cls := "java/lang/StringUTF16", name := "compress", desc := "([CI[BII)I" } : Jvm.MethodName) jdk_52_method_21_code (7 : Nat) (Option.some Jvm.ClassFile.FieldType.int)).before args0 about1 = true := code_word (m := ⟨11, 9⟩) (meth := k11m9) (c := k11c9) (by decide +kernel) rfl rfl rfl (by decide +kernel)
set_option maxRecDepth 65536 in
theorem w_c16 : (Jvm.Cond.code ({ cls := "java/lang/StringUTF16", name := "coderFromArrayLen", desc := "([BI)B" } : Jvm.MethodName) jdk_52_method_15_code (2 : Nat) (Option.some Jvm.ClassFile.FieldType.byte)).before args0 about1 = true := code_word (m := ⟨11, 7⟩) (meth := k11m7) (c := k11c7) (by decide +kernel) rfl rfl rfl (by decide +kernel)
set_option maxRecDepth 65536 in
theorem w_c17 : (Jvm.Cond.code ({ cls := "java/lang/StringLatin1", name := "indexOfChar", desc := "([BIII)I" } : Jvm.MethodName) jdk_43_method_23_code (6 : Nat) (Option.some Jvm.ClassFile.FieldType.int)).before args0 about1 = true := code_word (m := ⟨9, 3⟩) (meth := k9m3) (c := k9c3) (by decide +kernel) rfl rfl rfl (by decide +kernel)
set_option maxRecDepth 65536 in
theorem w_c18 : (Jvm.Cond.code ({ cls := "java/lang/StringUTF16", name := "toBytes", desc := "([CII)[B" } : Jvm.MethodName) jdk_52_method_14_code (5 : Nat) (Option.some (Jvm.ClassFile.FieldType.array Jvm.ClassFile.FieldType.byte))).before args0 about1 = true := code_word (m := ⟨11, 6⟩) (meth := k11m6) (c := k11c6) (by decide +kernel) rfl rfl rfl (by decide +kernel)
set_option maxRecDepth 65536 in
theorem w_c19 : (Jvm.Cond.code ({ cls := "java/lang/StringUTF16", name := "newBytesFor", desc := "(I)[B" } : Jvm.MethodName) jdk_52_method_2_code (1 : Nat) (Option.some (Jvm.ClassFile.FieldType.array Jvm.ClassFile.FieldType.byte))).before args0 about1 = true := code_word (m := ⟨11, 1⟩) (meth := k11m1) (c := k11c1) (by decide +kernel) rfl rfl rfl (by decide +kernel)
set_option maxRecDepth 65536 in
theorem w_c20 : (Jvm.Cond.code ({ cls := "java/lang/StringUTF16", name := "newBytesLength", desc := "(I)I" } : Jvm.MethodName) jdk_52_method_3_code (1 : Nat) (Option.some Jvm.ClassFile.FieldType.int)).before args0 about1 = true := code_word (m := ⟨11, 2⟩) (meth := k11m2) (c := k11c2) (by decide +kernel) rfl rfl rfl (by decide +kernel)
set_option maxRecDepth 65536 in
theorem w_c21 : (Jvm.Cond.code ({ cls := "java/lang/StringUTF16", name := "putChar", desc := "([BII)V" } : Jvm.MethodName) jdk_52_method_4_code (3 : Nat) (Option.none : Option Jvm.ClassFile.FieldType)).before args0 about1 = true := code_word (m := ⟨11, 3⟩) (meth := k11m3) (c := k11c3) (by decide +kernel) rfl rfl rfl (by decide +kernel)
set_option maxRecDepth 65536 in
theorem w_c22 : (Jvm.Cond.code ({ cls := "java/lang/StringUTF16", name := "getChar", desc := "([BI)C" } : Jvm.MethodName) jdk_52_method_5_code (2 : Nat) (Option.some Jvm.ClassFile.FieldType.char)).before args0 about1 = true := code_word (m := ⟨11, 4⟩) (meth := k11m4) (c := k11c4) (by decide +kernel) rfl rfl rfl (by decide +kernel)
set_option maxRecDepth 65536 in
theorem w_c23 : (Jvm.Cond.code ({ cls := "java/lang/StringUTF16", name := "indexOf", desc := "([BIII)I" } : Jvm.MethodName) jdk_52_method_40_code (4 : Nat) (Option.some Jvm.ClassFile.FieldType.int)).before args0 about1 = true := code_word (m := ⟨11, 10⟩) (meth := k11m10) (c := k11c10) (by decide +kernel) rfl rfl rfl (by decide +kernel)
set_option maxRecDepth 65536 in
theorem w_c24 : (Jvm.Cond.code ({ cls := "java/lang/StringUTF16", name := "indexOfChar", desc := "([BIII)I" } : Jvm.MethodName) jdk_52_method_47_code (4 : Nat) (Option.some Jvm.ClassFile.FieldType.int)).before args0 about1 = true := code_word (m := ⟨11, 11⟩) (meth := k11m11) (c := k11c11) (by decide +kernel) rfl rfl rfl (by decide +kernel)
set_option maxRecDepth 65536 in
theorem w_c25 : (Jvm.Cond.code ({ cls := "java/lang/StringUTF16", name := "checkBoundsBeginEnd", desc := "(II[B)V" } : Jvm.MethodName) jdk_52_method_93_code (3 : Nat) (Option.none : Option Jvm.ClassFile.FieldType)).before args0 about1 = true := code_word (m := ⟨11, 13⟩) (meth := k11m13) (c := k11c13) (by decide +kernel) rfl rfl rfl (by decide +kernel)
set_option maxRecDepth 65536 in
theorem w_c26 : (Jvm.Cond.code ({ cls := "java/lang/StringUTF16", name := "length", desc := "([B)I" } : Jvm.MethodName) jdk_52_method_6_code (1 : Nat) (Option.some Jvm.ClassFile.FieldType.int)).before args0 about1 = true := code_word (m := ⟨11, 5⟩) (meth := k11m5) (c := k11c5) (by decide +kernel) rfl rfl rfl (by decide +kernel)
set_option maxRecDepth 65536 in
theorem w_c27 : (Jvm.Cond.code ({ cls := "java/lang/String", name := "checkBoundsBeginEnd", desc := "(III)V" } : Jvm.MethodName) jdk_42_method_158_code (3 : Nat) (Option.none : Option Jvm.ClassFile.FieldType)).before args0 about1 = true := code_word (m := ⟨7, 8⟩) (meth := k7m8) (c := k7c8) (by decide +kernel) rfl rfl rfl (by decide +kernel)
set_option maxRecDepth 65536 in
theorem w_c28 : (Jvm.Cond.code ({ cls := "jdk/internal/util/Preconditions", name := "checkFromToIndex", desc := "(IIILjava/util/function/BiFunction;)I" } : Jvm.MethodName) jdk_41_method_12_code (4 : Nat) (Option.some Jvm.ClassFile.FieldType.int)).before args0 about1 = true := code_word (m := ⟨12, 1⟩) (meth := k12m1) (c := k12c1) (by decide +kernel) rfl rfl rfl (by decide +kernel)
set_option maxRecDepth 65536 in
theorem w_c29 : (Jvm.Cond.code ({ cls := "java/lang/StringUTF16", name := "indexOfCharUnsafe", desc := "([BIII)I" } : Jvm.MethodName) jdk_52_method_48_code (5 : Nat) (Option.some Jvm.ClassFile.FieldType.int)).before args0 about1 = true := code_word (m := ⟨11, 12⟩) (meth := k11m12) (c := k11c12) (by decide +kernel) rfl rfl rfl (by decide +kernel)
def codes1 : List Jvm.Cond := [Jvm.Cond.code x code maxLocals ret, Jvm.Cond.code ({ cls := "java/lang/String", name := "<init>", desc := "([C)V" } : Jvm.MethodName) jdk_42_method_3_code (2 : Nat) (Option.none : Option Jvm.ClassFile.FieldType), Jvm.Cond.code ({ cls := "java/lang/String", name := "<init>", desc := "([CIILjava/lang/Void;)V" } : Jvm.MethodName) jdk_42_method_149_code (6 : Nat) (Option.none : Option Jvm.ClassFile.FieldType), Jvm.Cond.code ({ cls := "java/lang/Object", name := "<init>", desc := "()V" } : Jvm.MethodName) object_method_1_code (1 : Nat) (Option.none : Option Jvm.ClassFile.FieldType), Jvm.Cond.code ({ cls := "com/example/loomlist/loomlist/core/Naming", name := "isStorable", desc := "(Ljava/lang/String;)Z" } : Jvm.MethodName) prog_32_method_6_code (1 : Nat) (Option.some Jvm.ClassFile.FieldType.boolean), Jvm.Cond.code ({ cls := "java/lang/String", name := "indexOf", desc := "(I)I" } : Jvm.MethodName) jdk_42_method_79_code (2 : Nat) (Option.some Jvm.ClassFile.FieldType.int), Jvm.Cond.code ({ cls := "java/lang/String", name := "indexOf", desc := "(II)I" } : Jvm.MethodName) jdk_42_method_80_code (3 : Nat) (Option.some Jvm.ClassFile.FieldType.int), Jvm.Cond.code ({ cls := "java/lang/String", name := "isLatin1", desc := "()Z" } : Jvm.MethodName) jdk_42_method_154_code (1 : Nat) (Option.some Jvm.ClassFile.FieldType.boolean), Jvm.Cond.code ({ cls := "java/lang/String", name := "length", desc := "()I" } : Jvm.MethodName) jdk_42_method_54_code (1 : Nat) (Option.some Jvm.ClassFile.FieldType.int), Jvm.Cond.code ({ cls := "java/lang/String", name := "coder", desc := "()B" } : Jvm.MethodName) jdk_42_method_152_code (1 : Nat) (Option.some Jvm.ClassFile.FieldType.byte), Jvm.Cond.code ({ cls := "java/lang/StringLatin1", name := "indexOf", desc := "([BIII)I" } : Jvm.MethodName) jdk_43_method_22_code (4 : Nat) (Option.some Jvm.ClassFile.FieldType.int), Jvm.Cond.code ({ cls := "java/lang/StringLatin1", name := "canEncode", desc := "(I)Z" } : Jvm.MethodName) jdk_43_method_4_code (1 : Nat) (Option.some Jvm.ClassFile.FieldType.boolean), Jvm.Cond.code ({ cls := "java/lang/Math", name := "max", desc := "(II)I" } : Jvm.MethodName) jdk_29_method_65_code (2 : Nat) (Option.some Jvm.ClassFile.FieldType.int), Jvm.Cond.code ({ cls := "java/lang/Math", name := "min", desc := "(II)I" } : Jvm.MethodName) jdk_29_method_69_code (2 : Nat) (Option.some Jvm.ClassFile.FieldType.int), Jvm.Cond.code ({ cls := "java/lang/StringUTF16", name := "compress", desc := "([CII)[B" } : Jvm.MethodName) jdk_52_method_16_code (6 : Nat) (Option.some (Jvm.ClassFile.FieldType.array Jvm.ClassFile.FieldType.byte)), Jvm.Cond.code ({ cls := "java/lang/StringUTF16", name := "compress", desc := "([CI[BII)I" } : Jvm.MethodName) jdk_52_method_21_code (7 : Nat) (Option.some Jvm.ClassFile.FieldType.int), Jvm.Cond.code ({ cls := "java/lang/StringUTF16", name := "coderFromArrayLen", desc := "([BI)B" } : Jvm.MethodName) jdk_52_method_15_code (2 : Nat) (Option.some Jvm.ClassFile.FieldType.byte), Jvm.Cond.code ({ cls := "java/lang/StringLatin1", name := "indexOfChar", desc := "([BIII)I" } : Jvm.MethodName) jdk_43_method_23_code (6 : Nat) (Option.some Jvm.ClassFile.FieldType.int), Jvm.Cond.code ({ cls := "java/lang/StringUTF16", name := "toBytes", desc := "([CII)[B" } : Jvm.MethodName) jdk_52_method_14_code (5 : Nat) (Option.some (Jvm.ClassFile.FieldType.array Jvm.ClassFile.FieldType.byte)), Jvm.Cond.code ({ cls := "java/lang/StringUTF16", name := "newBytesFor", desc := "(I)[B" } : Jvm.MethodName) jdk_52_method_2_code (1 : Nat) (Option.some (Jvm.ClassFile.FieldType.array Jvm.ClassFile.FieldType.byte)), Jvm.Cond.code ({ cls := "java/lang/StringUTF16", name := "newBytesLength", desc := "(I)I" } : Jvm.MethodName) jdk_52_method_3_code (1 : Nat) (Option.some Jvm.ClassFile.FieldType.int), Jvm.Cond.code ({ cls := "java/lang/StringUTF16", name := "putChar", desc := "([BII)V" } : Jvm.MethodName) jdk_52_method_4_code (3 : Nat) (Option.none : Option Jvm.ClassFile.FieldType), Jvm.Cond.code ({ cls := "java/lang/StringUTF16", name := "getChar", desc := "([BI)C" } : Jvm.MethodName) jdk_52_method_5_code (2 : Nat) (Option.some Jvm.ClassFile.FieldType.char), Jvm.Cond.code ({ cls := "java/lang/StringUTF16", name := "indexOf", desc := "([BIII)I" } : Jvm.MethodName) jdk_52_method_40_code (4 : Nat) (Option.some Jvm.ClassFile.FieldType.int), Jvm.Cond.code ({ cls := "java/lang/StringUTF16", name := "indexOfChar", desc := "([BIII)I" } : Jvm.MethodName) jdk_52_method_47_code (4 : Nat) (Option.some Jvm.ClassFile.FieldType.int), Jvm.Cond.code ({ cls := "java/lang/StringUTF16", name := "checkBoundsBeginEnd", desc := "(II[B)V" } : Jvm.MethodName) jdk_52_method_93_code (3 : Nat) (Option.none : Option Jvm.ClassFile.FieldType), Jvm.Cond.code ({ cls := "java/lang/StringUTF16", name := "length", desc := "([B)I" } : Jvm.MethodName) jdk_52_method_6_code (1 : Nat) (Option.some Jvm.ClassFile.FieldType.int), Jvm.Cond.code ({ cls := "java/lang/String", name := "checkBoundsBeginEnd", desc := "(III)V" } : Jvm.MethodName) jdk_42_method_158_code (3 : Nat) (Option.none : Option Jvm.ClassFile.FieldType), Jvm.Cond.code ({ cls := "jdk/internal/util/Preconditions", name := "checkFromToIndex", desc := "(IIILjava/util/function/BiFunction;)I" } : Jvm.MethodName) jdk_41_method_12_code (4 : Nat) (Option.some Jvm.ClassFile.FieldType.int), Jvm.Cond.code ({ cls := "java/lang/StringUTF16", name := "indexOfCharUnsafe", desc := "([BIII)I" } : Jvm.MethodName) jdk_52_method_48_code (5 : Nat) (Option.some Jvm.ClassFile.FieldType.int)]
set_option maxRecDepth 65536 in
theorem codes_eq : words1.filter isCode = codes1 := rfl
theorem w_codes : ∀ c ∈ words1.filter isCode, c.before args0 about1 = true := by
  rw [codes_eq]
  intro c hc
  simp only [codes1, List.mem_cons, List.not_mem_nil, or_false] at hc
  rcases hc with rfl | rfl | rfl | rfl | rfl | rfl | rfl | rfl | rfl | rfl | rfl | rfl | rfl | rfl | rfl | rfl | rfl | rfl | rfl | rfl | rfl | rfl | rfl | rfl | rfl | rfl | rfl | rfl | rfl | rfl
  · exact w_c0
  · exact w_c1
  · exact w_c2
  · exact w_c3
  · exact w_c4
  · exact w_c5
  · exact w_c6
  · exact w_c7
  · exact w_c8
  · exact w_c9
  · exact w_c10
  · exact w_c11
  · exact w_c12
  · exact w_c13
  · exact w_c14
  · exact w_c15
  · exact w_c16
  · exact w_c17
  · exact w_c18
  · exact w_c19
  · exact w_c20
  · exact w_c21
  · exact w_c22
  · exact w_c23
  · exact w_c24
  · exact w_c25
  · exact w_c26
  · exact w_c27
  · exact w_c28
  · exact w_c29
set_option maxRecDepth 65536 in
theorem w_t1 : (words1.take 24).all (fun c => isCode c || c.before args0 about1) = true := by decide +kernel
set_option maxRecDepth 65536 in
theorem w_t2 : ((words1.drop 24).take 24).all (fun c => isCode c || c.before args0 about1) = true := by decide +kernel
set_option maxRecDepth 65536 in
theorem w_t3 : (((words1.drop 24).drop 24).take 24).all (fun c => isCode c || c.before args0 about1) = true := by decide +kernel
set_option maxRecDepth 65536 in
theorem w_t4 : ((((words1.drop 24).drop 24).drop 24).take 24).all (fun c => isCode c || c.before args0 about1) = true := by decide +kernel
set_option maxRecDepth 65536 in
theorem w_t5 : (((((words1.drop 24).drop 24).drop 24).drop 24).take 24).all (fun c => isCode c || c.before args0 about1) = true := by decide +kernel
set_option maxRecDepth 65536 in
theorem w_t6 : (((((words1.drop 24).drop 24).drop 24).drop 24).drop 24).all (fun c => isCode c || c.before args0 about1) = true := by decide +kernel
theorem w_tables : (allAtoms (Jvm.Cond.code x code maxLocals ret :: tables_1)).before args0 about1 = true := by
  rw [allAtoms_all]
  show words1.all (fun c => c.before args0 about1) = true
  refine all_split ?_ w_codes
  rw [← List.take_append_drop 24 words1, List.all_append, w_t1, ← List.take_append_drop 24 (words1.drop 24), List.all_append, w_t2, ← List.take_append_drop 24 ((words1.drop 24).drop 24), List.all_append, w_t3, ← List.take_append_drop 24 (((words1.drop 24).drop 24).drop 24), List.all_append, w_t4, ← List.take_append_drop 24 ((((words1.drop 24).drop 24).drop 24).drop 24), List.all_append, w_t5, w_t6]
  rfl
set_option maxRecDepth 65536 in
theorem w_rest : rest_1_c.before args0 about1 = true := by decide +kernel
set_option maxRecDepth 65536 in
theorem w_case : (Jvm.Cond.and given_1 narrow_1).before args0 about1 = true := by decide +kernel
set_option maxRecDepth 65536 in
theorem w_consts : constsHeld consts_1 about1 := Jvm.Lit.constsHeldB_iff.mp (by decide +kernel)
theorem w_applies : (headSpec (Jvm.Cond.code x code maxLocals ret :: tables_1) room_1).applies x e0.platform about1 = true :=
  (Spec.applies_iff w_frames).mpr ⟨w_running, w_runnable, w_alone, w_named, w_hears, w_ripe, w_room, w_tables⟩
theorem atStart : AtStart classFile x code maxLocals ret World_1 tables_1 room_1 Calls_1 rest_1 Pre_1 launch0 p0 e0 about1 theMethod args0 below0 :=
  ⟨lists_1, trivial, launch0.admits_env _ _ _, launch0.least_env, fairChoices_fair.cas, fairChoices_fair.clock, w_frames, w_args, w_heap, w_applies, ⟨w_consts, trivial⟩, w_rest, w_case⟩
end start1
theorem witness_1 : WitnessClaimed_1 := ⟨start1.p0, start1.e0, start1.about1, start1.theMethod, start1.args0, start1.below0, start1.atStart⟩
end Jvm.Pilot.@@N@@
