import JvmDerived
import JvmDerived.Pilot.@@N@@Statement
import JvmDerived.Pilot.@@N@@Code
set_option linter.unusedVariables false
set_option linter.unusedSimpArgs false
namespace Jvm.Pilot.@@N@@
open Jvm Jvm.ClassFile Sem Op Lib Jvm.Free Jvm.Stand Jvm.LawKit Jvm.RoadKit Bundle Jvm.Pilot.@@N@@.Jvm.D
/-- from the state S the body comes to its end, and there G holds -/
def Go (p : Program) (e : Env) (below : List Frame) (G : Outcome → State → Prop) (S : State) : Prop := ∃ s₂ o, Steps p.tables e below S s₂ ∧ s₂.status = .running ∧ Ended s₂ below o ∧ G o s₂
theorem Go.step {p : Program} {e : Env} {below : List Frame} {G : Outcome → State → Prop} {S S' : State} (k : ∀ t, Steps p.tables e below S' t → Steps p.tables e below S t) (g : Go p e below G S') : Go p e below G S := by
  obtain ⟨s₂, o, h, r⟩ := g
  exact ⟨s₂, o, k _ h, r⟩
theorem Go.fin {p : Program} {e : Env} {below : List Frame} {G : Outcome → State → Prop} {S S' : State} {o : Outcome} (h : Steps p.tables e below S S') (h1 : S'.status = .running) (h2 : Ended S' below o) (h3 : G o S') : Go p e below G S := ⟨_, _, h, h1, h2, h3⟩
abbrev lv (x : Int64) : Slot := .val (.long x)
abbrev u_ : Slot := .unset
theorem own_w {Z : State} {a0 : Array Value} (hw : ∀ d ∈ tables_1, d.before a0 Z = true) (k : Nat) {d : Jvm.Cond} (h : tables_1[k]? = some d) : d.before a0 Z = true := hw d (List.mem_of_getElem? h)
theorem old_le {Z : State} {n0 : Nat} {h : Heap} (O : Old Z n0 h) : n0 ≤ h.size := O.1 ▸ O.2.1
theorem own_getR {p : Program} {l : Launch} {e : Env} {R : Room} {s : State} {m : MethodId} {args : Array Value} {below : List Frame} {meth : Method} {c : Code} {T : State} {locs : List Loc} {cells slots : Nat} {Z : State} {a0 : Array Value} {h : Heap}
    (X : Stand p l e R s m args below meth c T locs cells slots) (hx : p.tables.exec = Jvm.exec) (hZ : Z.Warmed39 s.vm) {own R0 n d : String} {index : Nat} (hown : s.vm.findClass own = some m.cls) (w : (Jvm.Cond.fieldRef own index R0 n d).before a0 Z = true)
    (eT : T.heap = h) {a : Addr} {v : Value} (F : Fld Z h a R0 n d v) {g : JFrame} (hg : g.method = m) {rest : List Value} (hs : g.stack = .ref a :: rest) (hd : decode c.code g.pc = .ok (.getfield index, 3)) : ∀ target, Steps p.tables e below (T.setTop { g with pc := g.pc + 3, stack := v :: rest }) target → Steps p.tables e below (T.setTop g) target := by
  obtain ⟨cell, cf, k, i, f, h1, h2, h3, h4, -, -, h7⟩ := F
  have hT : Z.Warmed39 T.vm := wtrans hZ X.warmed
  have w' := Cond.fieldRef_warmed39 hT w
  have ho : (Z.setVm T.vm).vm.findClass own = some m.cls := by show T.vm.findClass own = _; rw [X.warmed.alike.findClass]; exact hown
  obtain ⟨c1, k1, i1, f1, e1, hr⟩ := Cond.fieldRef_spec ho w'
  obtain ⟨k', hi, -⟩ := State.fieldFound?_setVm (s := Z) hT.alike h2
  cases e1.symm.trans hi
  intro target kk
  exact (X.getfieldR hx hg hr h3 hs (by rw [eT]; exact h1) h4 h7 hd (Steps.refl _)).trans kk
theorem own_selP {Z s : State} {a0 args : Array Value} {y : MethodName} {n : Nat} (hZ : Z.Warmed39 s.vm) (wi : (Jvm.Cond.instantiable y.cls n).before a0 Z = true) (wn : (Jvm.Cond.instanceMethod y).before a0 Z = true) (wp : (Jvm.Cond.privateMethod y).before a0 Z = true)
    (hy : y.cls ≠ "java/lang/invoke/MethodHandle" ∧ y.cls ≠ "java/lang/invoke/VarHandle") : (Jvm.Cond.selects y.cls y y).before args s = true := by
  have wi' : (Jvm.Cond.instantiable y.cls n).before args s = true := mv hZ wi
  obtain ⟨c, k, h1, h2, -, h4, -⟩ := Cond.instantiable_spec wi'
  exact Stand.selects_self_of_private h1 h2 (by simp only [Bool.or_eq_false_iff] at h4; exact h4.1) (Cond.privateMethod_at (args := args) (mvP hZ wp)) (mvT hZ wn) hy
theorem own_eqI {t : Term} {n : Int32} {args : Array Value} {s : State} (h : (Jvm.Cond.eq t (.int n)).value args s none s [] = some true) : t.eval args s none [] s = some (.int n) := by
  have hn : (Term.int n).eval args s none [] s = some (.int n) := rfl
  cases ht : t.eval args s none [] s with
  | none => simp [Cond.value, ht] at h
  | some v => cases v <;> simp [Cond.value, ht, hn] at h ⊢; exact h
theorem own_eqJ {t : Term} {n : Int64} {args : Array Value} {s : State} (h : (Jvm.Cond.eq t (.long n)).value args s none s [] = some true) : t.eval args s none [] s = some (.long n) := by
  have hn : (Term.long n).eval args s none [] s = some (.long n) := rfl
  cases ht : t.eval args s none [] s with
  | none => simp [Cond.value, ht] at h
  | some v => cases v <;> simp [Cond.value, ht, hn] at h ⊢; exact h
theorem pn_com_example_ward5_ward5_rule_Truth : plainName "com/example/ward5/ward5/rule/Truth" = true := by first | (simp [plainName, overriddenIn]; done) | decide +kernel
theorem d1_0 : decode prog_43_method_4_code 0 = .ok (.iload_n 0, 1) := by decide +kernel
theorem d1_1 : decode prog_43_method_4_code 1 = .ok (.ifCond .eq 9, 3) := by decide +kernel
theorem d1_4 : decode prog_43_method_4_code 4 = .ok (.getstatic 3, 3) := by decide +kernel
theorem d1_7 : decode prog_43_method_4_code 7 = .ok (.goto 6, 3) := by decide +kernel
theorem d1_13 : decode prog_43_method_4_code 13 = .ok (.areturn, 1) := by decide +kernel
theorem ef_rmOfT (m : MethodId)  : entryFrame m #[(.int (1 : Int32))] 1 = mkF m 0 #[.val (.int (1 : Int32))] [] := by first | (simp [entryFrame, mkF, argsToLocals, Value.category]; done) | rfl
abbrev rm_rmOfT : Room := ({ frames := 0, cells := 0, slots := 0, locals := 0 } : Room)
def Q_rmOfT (Z : State) (w_TRUE : Addr) (h0 : Heap) (n0 : Nat) (v : Option Value) (h : Heap) (L : List Loc) : Prop := (v = some (.ref w_TRUE)) ∧ (Fr n0 L) ∧ (h = h0)
set_option maxRecDepth 65536 in
set_option maxHeartbeats 40000000 in
theorem rmOfT (l : Launch) (Z : State) (a0 : Array Value) (hw : ∀ d ∈ tables_1, d.before a0 Z = true) (ws : List Jvm.Cond) (w_TRUE : Addr) (h0 : Heap) (n0 : Nat) (O : Old Z n0 h0) (S_TRUE : Sta Z Z.heap "com/example/ward5/ward5/rule/Truth" "TRUE" "Lcom/example/ward5/ward5/rule/Truth;" (.ref w_TRUE)) :
    MetFree l (⟨"com/example/ward5/ward5/rule/Truth", "of", "(Z)Lcom/example/ward5/ward5/rule/Truth;"⟩ : MethodName) (head1 (Jvm.Cond.code (⟨"com/example/ward5/ward5/rule/Truth", "of", "(Z)Lcom/example/ward5/ward5/rule/Truth;"⟩ : MethodName) prog_43_method_4_code 1 (some (.object "com/example/ward5/ward5/rule/Truth")) :: ws) rm_rmOfT) (fun A_ U => A_ = #[(.int (1 : Int32))] ∧ Z.Warmed39 U.vm ∧ U.heap = h0) (fun _ _ _ _ _ => True) (fun _ U o U' => ∃ v L, o = .returned v ∧ Q_rmOfT Z w_TRUE h0 n0 v U'.heap L ∧ FrameEnd U o U' L rm_rmOfT.cells rm_rmOfT.slots) := by
  refine MetFree.of_bodySF (plainFor_of_name pn_com_example_ward5_ward5_rule_Truth) hisR ?_
  intro p e s m args below meth c s₁ Bd hml0 hP hK
  obtain ⟨rfl, hZ, hh⟩ := hP
  have hx := Bd.exec
  have hby := Bd.bytes
  have hml : c.maxLocals = 1 := hml0
  have hown : s.vm.findClass "com/example/ward5/ward5/rule/Truth" = some m.cls := findClass_of_methodNamed Bd.named
  have hnm := (name_of_methodNamed Bd.named Bd.method).1
  have X0 : Stand p l e rm_rmOfT s m #[(.int (1 : Int32))] below meth c s₁ [] 0 0 := Stand.of_body Bd
  have e0 : s₁.heap = h0 := by rw [← hh, Bd.state]; rfl
  have N0 := Fr.nil n0
  refine Go.step (p := p) (e := e) (below := below) (G := fun o U' => ∃ v L, o = .returned v ∧ Q_rmOfT Z w_TRUE h0 n0 v U'.heap L ∧ FrameEnd s o U' L rm_rmOfT.cells rm_rmOfT.slots) (S' := s₁.setTop (mkF m 0 #[iv (1 : Int32)] [])) (fun t k => castTop (ef_rmOfT m ) k) ?_
  refine Go.step (S' := s₁.setTop (mkF m 4 #[iv (1 : Int32)] [])) (fun t k => ?_) ?_
  · show Steps p.tables e below (s₁.setTop (mkF m 0 #[iv (1 : Int32)] [])) _
    refine XS.iloadN X0.here hx rfl (hb hby d1_0) rfl ?_
    show Steps p.tables e below (s₁.setTop (mkF m 1 #[iv (1 : Int32)] [(.int (1 : Int32))])) _
    refine XS.ifNo X0.here hx rfl (hb hby d1_1) rfl ((if0 _ _).trans (feq ((by decide) : ¬ ((1 : Int32) = (0 : Int32)))).1) ?_
    exact k
  obtain ⟨T1, X1, e1, st1⟩ := getS2 X0 hx hZ hown (host := "") (Or.inl (own_w hw 6 rfl)) Via.refl e0 (S_TRUE.ext O.2) (g := (mkF m 4 #[iv (1 : Int32)] [])) rfl (hb hby d1_4)
  refine Go.step st1 ?_
  show Go p e below _ (T1.setTop (mkF m 7 #[iv (1 : Int32)] [(.ref w_TRUE)]))
  refine Go.step (S' := T1.setTop (mkF m 13 #[iv (1 : Int32)] [(.ref w_TRUE)])) (fun t k => ?_) ?_
  · show Steps p.tables e below (T1.setTop (mkF m 7 #[iv (1 : Int32)] [(.ref w_TRUE)])) _
    refine XS.goto X1.here hx rfl (pc0 := 7) (pc' := 13) rfl (hb hby d1_7) (by decide) (by decide) ?_
    exact k
  obtain ⟨fs, hr, hrun, hended, hW, hsame⟩ := X1.leave (v := some (.ref w_TRUE)) (fun h => by rw [Bd.returns] at h; cases h)
  refine Go.fin (S' := T1.setFrames fs) ?_ hrun hended ⟨_, _, rfl, ?_, ⟨_, rfl⟩, hW, hsame.mono (by decide) (by decide)⟩
  · exact retOut X1 hx Bd.returns rfl (Or.inr (Or.inr (Or.inr (Or.inr ⟨rfl, rfl, rfl⟩)))) (hb hby d1_13) hr
  · show Q_rmOfT Z w_TRUE h0 n0 (some (.ref w_TRUE)) T1.heap _
    rw [e1]
    exact ⟨rfl, N0, rfl⟩
theorem d1_10 : decode prog_43_method_4_code 10 = .ok (.getstatic 7, 3) := by decide +kernel
theorem ef_rmOfF (m : MethodId)  : entryFrame m #[(.int (0 : Int32))] 1 = mkF m 0 #[.val (.int (0 : Int32))] [] := by first | (simp [entryFrame, mkF, argsToLocals, Value.category]; done) | rfl
abbrev rm_rmOfF : Room := ({ frames := 0, cells := 0, slots := 0, locals := 0 } : Room)
def Q_rmOfF (Z : State) (w_FALSE : Addr) (h0 : Heap) (n0 : Nat) (v : Option Value) (h : Heap) (L : List Loc) : Prop := (v = some (.ref w_FALSE)) ∧ (Fr n0 L) ∧ (h = h0)
set_option maxRecDepth 65536 in
set_option maxHeartbeats 40000000 in
theorem rmOfF (l : Launch) (Z : State) (a0 : Array Value) (hw : ∀ d ∈ tables_1, d.before a0 Z = true) (ws : List Jvm.Cond) (w_FALSE : Addr) (h0 : Heap) (n0 : Nat) (O : Old Z n0 h0) (S_FALSE : Sta Z Z.heap "com/example/ward5/ward5/rule/Truth" "FALSE" "Lcom/example/ward5/ward5/rule/Truth;" (.ref w_FALSE)) :
    MetFree l (⟨"com/example/ward5/ward5/rule/Truth", "of", "(Z)Lcom/example/ward5/ward5/rule/Truth;"⟩ : MethodName) (head1 (Jvm.Cond.code (⟨"com/example/ward5/ward5/rule/Truth", "of", "(Z)Lcom/example/ward5/ward5/rule/Truth;"⟩ : MethodName) prog_43_method_4_code 1 (some (.object "com/example/ward5/ward5/rule/Truth")) :: ws) rm_rmOfF) (fun A_ U => A_ = #[(.int (0 : Int32))] ∧ Z.Warmed39 U.vm ∧ U.heap = h0) (fun _ _ _ _ _ => True) (fun _ U o U' => ∃ v L, o = .returned v ∧ Q_rmOfF Z w_FALSE h0 n0 v U'.heap L ∧ FrameEnd U o U' L rm_rmOfF.cells rm_rmOfF.slots) := by
  refine MetFree.of_bodySF (plainFor_of_name pn_com_example_ward5_ward5_rule_Truth) hisR ?_
  intro p e s m args below meth c s₁ Bd hml0 hP hK
  obtain ⟨rfl, hZ, hh⟩ := hP
  have hx := Bd.exec
  have hby := Bd.bytes
  have hml : c.maxLocals = 1 := hml0
  have hown : s.vm.findClass "com/example/ward5/ward5/rule/Truth" = some m.cls := findClass_of_methodNamed Bd.named
  have hnm := (name_of_methodNamed Bd.named Bd.method).1
  have X0 : Stand p l e rm_rmOfF s m #[(.int (0 : Int32))] below meth c s₁ [] 0 0 := Stand.of_body Bd
  have e0 : s₁.heap = h0 := by rw [← hh, Bd.state]; rfl
  have N0 := Fr.nil n0
  refine Go.step (p := p) (e := e) (below := below) (G := fun o U' => ∃ v L, o = .returned v ∧ Q_rmOfF Z w_FALSE h0 n0 v U'.heap L ∧ FrameEnd s o U' L rm_rmOfF.cells rm_rmOfF.slots) (S' := s₁.setTop (mkF m 0 #[iv (0 : Int32)] [])) (fun t k => castTop (ef_rmOfF m ) k) ?_
  refine Go.step (S' := s₁.setTop (mkF m 10 #[iv (0 : Int32)] [])) (fun t k => ?_) ?_
  · show Steps p.tables e below (s₁.setTop (mkF m 0 #[iv (0 : Int32)] [])) _
    refine XS.iloadN X0.here hx rfl (hb hby d1_0) rfl ?_
    show Steps p.tables e below (s₁.setTop (mkF m 1 #[iv (0 : Int32)] [(.int (0 : Int32))])) _
    refine XS.ifYes X0.here hx rfl (pc0 := 1) (pc' := 10) rfl (hb hby d1_1) rfl ((if0 _ _).trans (teq ((by decide) : (0 : Int32) = (0 : Int32))).1) (by decide) (by decide) ?_
    exact k
  obtain ⟨T1, X1, e1, st1⟩ := getS2 X0 hx hZ hown (host := "") (Or.inl (own_w hw 4 rfl)) Via.refl e0 (S_FALSE.ext O.2) (g := (mkF m 10 #[iv (0 : Int32)] [])) rfl (hb hby d1_10)
  refine Go.step st1 ?_
  show Go p e below _ (T1.setTop (mkF m 13 #[iv (0 : Int32)] [(.ref w_FALSE)]))
  obtain ⟨fs, hr, hrun, hended, hW, hsame⟩ := X1.leave (v := some (.ref w_FALSE)) (fun h => by rw [Bd.returns] at h; cases h)
  refine Go.fin (S' := T1.setFrames fs) ?_ hrun hended ⟨_, _, rfl, ?_, ⟨_, rfl⟩, hW, hsame.mono (by decide) (by decide)⟩
  · exact retOut X1 hx Bd.returns rfl (Or.inr (Or.inr (Or.inr (Or.inr ⟨rfl, rfl, rfl⟩)))) (hb hby d1_13) hr
  · show Q_rmOfF Z w_FALSE h0 n0 (some (.ref w_FALSE)) T1.heap _
    rw [e1]
    exact ⟨rfl, N0, rfl⟩
theorem d2_0 : decode prog_43_method_5_code 0 = .ok (.aload_n 0, 1) := by decide +kernel
theorem d2_1 : decode prog_43_method_5_code 1 = .ok (.getstatic 3, 3) := by decide +kernel
theorem d2_4 : decode prog_43_method_5_code 4 = .ok (.if_acmp .ne 10, 3) := by decide +kernel
theorem d2_7 : decode prog_43_method_5_code 7 = .ok (.getstatic 7, 3) := by decide +kernel
theorem d2_10 : decode prog_43_method_5_code 10 = .ok (.astore_n 1, 1) := by decide +kernel
theorem d2_11 : decode prog_43_method_5_code 11 = .ok (.goto 21, 3) := by decide +kernel
theorem d2_32 : decode prog_43_method_5_code 32 = .ok (.aload_n 1, 1) := by decide +kernel
theorem d2_33 : decode prog_43_method_5_code 33 = .ok (.areturn, 1) := by decide +kernel
theorem ef_rmNotT (m : MethodId) (w_TRUE : Addr) : entryFrame m #[(.ref w_TRUE)] 2 = mkF m 0 #[.val (.ref w_TRUE), .unset] [] := by first | (simp [entryFrame, mkF, argsToLocals, Value.category]; done) | rfl
abbrev rm_rmNotT : Room := ({ frames := 0, cells := 0, slots := 0, locals := 0 } : Room)
def Q_rmNotT (Z : State) (w_TRUE : Addr) (w_FALSE : Addr) (h0 : Heap) (n0 : Nat) (v : Option Value) (h : Heap) (L : List Loc) : Prop := (v = some (.ref w_FALSE)) ∧ (Fr n0 L) ∧ (h = h0)
set_option maxRecDepth 65536 in
set_option maxHeartbeats 40000000 in
theorem rmNotT (l : Launch) (Z : State) (a0 : Array Value) (hw : ∀ d ∈ tables_1, d.before a0 Z = true) (ws : List Jvm.Cond) (w_TRUE : Addr) (w_FALSE : Addr) (h0 : Heap) (n0 : Nat) (O : Old Z n0 h0) (S_TRUE : Sta Z Z.heap "com/example/ward5/ward5/rule/Truth" "TRUE" "Lcom/example/ward5/ward5/rule/Truth;" (.ref w_TRUE)) (S_FALSE : Sta Z Z.heap "com/example/ward5/ward5/rule/Truth" "FALSE" "Lcom/example/ward5/ward5/rule/Truth;" (.ref w_FALSE)) :
    MetFree l (⟨"com/example/ward5/ward5/rule/Truth", "not", "()Lcom/example/ward5/ward5/rule/Truth;"⟩ : MethodName) (head1 (Jvm.Cond.code (⟨"com/example/ward5/ward5/rule/Truth", "not", "()Lcom/example/ward5/ward5/rule/Truth;"⟩ : MethodName) prog_43_method_5_code 2 (some (.object "com/example/ward5/ward5/rule/Truth")) :: ws) rm_rmNotT) (fun A_ U => A_ = #[(.ref w_TRUE)] ∧ Z.Warmed39 U.vm ∧ U.heap = h0) (fun _ _ _ _ _ => True) (fun _ U o U' => ∃ v L, o = .returned v ∧ Q_rmNotT Z w_TRUE w_FALSE h0 n0 v U'.heap L ∧ FrameEnd U o U' L rm_rmNotT.cells rm_rmNotT.slots) := by
  refine MetFree.of_bodySF (plainFor_of_name pn_com_example_ward5_ward5_rule_Truth) hisR ?_
  intro p e s m args below meth c s₁ Bd hml0 hP hK
  obtain ⟨rfl, hZ, hh⟩ := hP
  have hx := Bd.exec
  have hby := Bd.bytes
  have hml : c.maxLocals = 2 := hml0
  have hown : s.vm.findClass "com/example/ward5/ward5/rule/Truth" = some m.cls := findClass_of_methodNamed Bd.named
  have hnm := (name_of_methodNamed Bd.named Bd.method).1
  have X0 : Stand p l e rm_rmNotT s m #[(.ref w_TRUE)] below meth c s₁ [] 0 0 := Stand.of_body Bd
  have e0 : s₁.heap = h0 := by rw [← hh, Bd.state]; rfl
  have N0 := Fr.nil n0
  refine Go.step (p := p) (e := e) (below := below) (G := fun o U' => ∃ v L, o = .returned v ∧ Q_rmNotT Z w_TRUE w_FALSE h0 n0 v U'.heap L ∧ FrameEnd s o U' L rm_rmNotT.cells rm_rmNotT.slots) (S' := s₁.setTop (mkF m 0 #[rv w_TRUE, u_] [])) (fun t k => castTop (ef_rmNotT m w_TRUE) k) ?_
  refine Go.step (S' := s₁.setTop (mkF m 1 #[rv w_TRUE, u_] [(.ref w_TRUE)])) (fun t k => ?_) ?_
  · show Steps p.tables e below (s₁.setTop (mkF m 0 #[rv w_TRUE, u_] [])) _
    refine XS.aloadN X0.here hx rfl (hb hby d2_0) rfl rfl ?_
    exact k
  obtain ⟨T1, X1, e1, st1⟩ := getS2 X0 hx hZ hown (host := "") (Or.inl (own_w hw 6 rfl)) Via.refl e0 (S_TRUE.ext O.2) (g := (mkF m 1 #[rv w_TRUE, u_] [(.ref w_TRUE)])) rfl (hb hby d2_1)
  refine Go.step st1 ?_
  show Go p e below _ (T1.setTop (mkF m 4 #[rv w_TRUE, u_] [(.ref w_TRUE), (.ref w_TRUE)]))
  refine Go.step (S' := T1.setTop (mkF m 7 #[rv w_TRUE, u_] [])) (fun t k => ?_) ?_
  · show Steps p.tables e below (T1.setTop (mkF m 4 #[rv w_TRUE, u_] [(.ref w_TRUE), (.ref w_TRUE)])) _
    refine Jvm.RoadKit.acmp (g := (mkF m 4 #[rv w_TRUE, u_] [(.ref w_TRUE), (.ref w_TRUE)])) X1 hx rfl rfl rfl (pc0 := 4) (pc' := 7) (same := true) rfl (hb hby d2_4) rfl (decide_eq_true rfl) (by decide) (by decide) ?_
    exact k
  obtain ⟨T2, X2, e2, st2⟩ := getS2 X1 hx hZ hown (host := "") (Or.inl (own_w hw 4 rfl)) Via.refl e1 (S_FALSE.ext O.2) (g := (mkF m 7 #[rv w_TRUE, u_] [])) rfl (hb hby d2_7)
  refine Go.step st2 ?_
  show Go p e below _ (T2.setTop (mkF m 10 #[rv w_TRUE, u_] [(.ref w_FALSE)]))
  refine Go.step (S' := T2.setTop (mkF m 33 #[rv w_TRUE, rv w_FALSE] [(.ref w_FALSE)])) (fun t k => ?_) ?_
  · show Steps p.tables e below (T2.setTop (mkF m 10 #[rv w_TRUE, u_] [(.ref w_FALSE)])) _
    refine XS.astoreN X2.here hx rfl (hb hby d2_10) rfl rfl (l' := #[rv w_TRUE, rv w_FALSE]) rfl ?_
    show Steps p.tables e below (T2.setTop (mkF m 11 #[rv w_TRUE, rv w_FALSE] [])) _
    refine XS.goto X2.here hx rfl (pc0 := 11) (pc' := 32) rfl (hb hby d2_11) (by decide) (by decide) ?_
    show Steps p.tables e below (T2.setTop (mkF m 32 #[rv w_TRUE, rv w_FALSE] [])) _
    refine XS.aloadN X2.here hx rfl (hb hby d2_32) rfl rfl ?_
    exact k
  obtain ⟨fs, hr, hrun, hended, hW, hsame⟩ := X2.leave (v := some (.ref w_FALSE)) (fun h => by rw [Bd.returns] at h; cases h)
  refine Go.fin (S' := T2.setFrames fs) ?_ hrun hended ⟨_, _, rfl, ?_, ⟨_, rfl⟩, hW, hsame.mono (by decide) (by decide)⟩
  · exact retOut X2 hx Bd.returns rfl (Or.inr (Or.inr (Or.inr (Or.inr ⟨rfl, rfl, rfl⟩)))) (hb hby d2_33) hr
  · show Q_rmNotT Z w_TRUE w_FALSE h0 n0 (some (.ref w_FALSE)) T2.heap _
    rw [e2]
    exact ⟨rfl, N0, rfl⟩
theorem d2_14 : decode prog_43_method_5_code 14 = .ok (.aload_n 0, 1) := by decide +kernel
theorem d2_15 : decode prog_43_method_5_code 15 = .ok (.getstatic 7, 3) := by decide +kernel
theorem d2_18 : decode prog_43_method_5_code 18 = .ok (.if_acmp .ne 10, 3) := by decide +kernel
theorem d2_21 : decode prog_43_method_5_code 21 = .ok (.getstatic 3, 3) := by decide +kernel
theorem d2_24 : decode prog_43_method_5_code 24 = .ok (.astore_n 1, 1) := by decide +kernel
theorem d2_25 : decode prog_43_method_5_code 25 = .ok (.goto 7, 3) := by decide +kernel
theorem ef_rmNotF (m : MethodId) (w_FALSE : Addr) : entryFrame m #[(.ref w_FALSE)] 2 = mkF m 0 #[.val (.ref w_FALSE), .unset] [] := by first | (simp [entryFrame, mkF, argsToLocals, Value.category]; done) | rfl
abbrev rm_rmNotF : Room := ({ frames := 0, cells := 0, slots := 0, locals := 0 } : Room)
def Q_rmNotF (Z : State) (w_FALSE : Addr) (w_TRUE : Addr) (h0 : Heap) (n0 : Nat) (v : Option Value) (h : Heap) (L : List Loc) : Prop := (v = some (.ref w_TRUE)) ∧ (Fr n0 L) ∧ (h = h0)
set_option maxRecDepth 65536 in
set_option maxHeartbeats 40000000 in
theorem rmNotF (l : Launch) (Z : State) (a0 : Array Value) (hw : ∀ d ∈ tables_1, d.before a0 Z = true) (ws : List Jvm.Cond) (w_FALSE : Addr) (w_TRUE : Addr) (h0 : Heap) (n0 : Nat) (O : Old Z n0 h0) (S_TRUE : Sta Z Z.heap "com/example/ward5/ward5/rule/Truth" "TRUE" "Lcom/example/ward5/ward5/rule/Truth;" (.ref w_TRUE)) (S_FALSE : Sta Z Z.heap "com/example/ward5/ward5/rule/Truth" "FALSE" "Lcom/example/ward5/ward5/rule/Truth;" (.ref w_FALSE)) (hne : ¬ (w_FALSE = w_TRUE)) :
    MetFree l (⟨"com/example/ward5/ward5/rule/Truth", "not", "()Lcom/example/ward5/ward5/rule/Truth;"⟩ : MethodName) (head1 (Jvm.Cond.code (⟨"com/example/ward5/ward5/rule/Truth", "not", "()Lcom/example/ward5/ward5/rule/Truth;"⟩ : MethodName) prog_43_method_5_code 2 (some (.object "com/example/ward5/ward5/rule/Truth")) :: ws) rm_rmNotF) (fun A_ U => A_ = #[(.ref w_FALSE)] ∧ Z.Warmed39 U.vm ∧ U.heap = h0) (fun _ _ _ _ _ => True) (fun _ U o U' => ∃ v L, o = .returned v ∧ Q_rmNotF Z w_FALSE w_TRUE h0 n0 v U'.heap L ∧ FrameEnd U o U' L rm_rmNotF.cells rm_rmNotF.slots) := by
  refine MetFree.of_bodySF (plainFor_of_name pn_com_example_ward5_ward5_rule_Truth) hisR ?_
  intro p e s m args below meth c s₁ Bd hml0 hP hK
  obtain ⟨rfl, hZ, hh⟩ := hP
  have hx := Bd.exec
  have hby := Bd.bytes
  have hml : c.maxLocals = 2 := hml0
  have hown : s.vm.findClass "com/example/ward5/ward5/rule/Truth" = some m.cls := findClass_of_methodNamed Bd.named
  have hnm := (name_of_methodNamed Bd.named Bd.method).1
  have X0 : Stand p l e rm_rmNotF s m #[(.ref w_FALSE)] below meth c s₁ [] 0 0 := Stand.of_body Bd
  have e0 : s₁.heap = h0 := by rw [← hh, Bd.state]; rfl
  have N0 := Fr.nil n0
  refine Go.step (p := p) (e := e) (below := below) (G := fun o U' => ∃ v L, o = .returned v ∧ Q_rmNotF Z w_FALSE w_TRUE h0 n0 v U'.heap L ∧ FrameEnd s o U' L rm_rmNotF.cells rm_rmNotF.slots) (S' := s₁.setTop (mkF m 0 #[rv w_FALSE, u_] [])) (fun t k => castTop (ef_rmNotF m w_FALSE) k) ?_
  refine Go.step (S' := s₁.setTop (mkF m 1 #[rv w_FALSE, u_] [(.ref w_FALSE)])) (fun t k => ?_) ?_
  · show Steps p.tables e below (s₁.setTop (mkF m 0 #[rv w_FALSE, u_] [])) _
    refine XS.aloadN X0.here hx rfl (hb hby d2_0) rfl rfl ?_
    exact k
  obtain ⟨T1, X1, e1, st1⟩ := getS2 X0 hx hZ hown (host := "") (Or.inl (own_w hw 6 rfl)) Via.refl e0 (S_TRUE.ext O.2) (g := (mkF m 1 #[rv w_FALSE, u_] [(.ref w_FALSE)])) rfl (hb hby d2_1)
  refine Go.step st1 ?_
  show Go p e below _ (T1.setTop (mkF m 4 #[rv w_FALSE, u_] [(.ref w_TRUE), (.ref w_FALSE)]))
  refine Go.step (S' := T1.setTop (mkF m 15 #[rv w_FALSE, u_] [(.ref w_FALSE)])) (fun t k => ?_) ?_
  · show Steps p.tables e below (T1.setTop (mkF m 4 #[rv w_FALSE, u_] [(.ref w_TRUE), (.ref w_FALSE)])) _
    refine Jvm.RoadKit.acmp (g := (mkF m 4 #[rv w_FALSE, u_] [(.ref w_TRUE), (.ref w_FALSE)])) X1 hx rfl rfl rfl (pc0 := 4) (pc' := 14) (same := false) rfl (hb hby d2_4) rfl (decide_eq_false fun q => hne (Value.ref.inj q)) (by decide) (by decide) ?_
    show Steps p.tables e below (T1.setTop (mkF m 14 #[rv w_FALSE, u_] [])) _
    refine XS.aloadN X1.here hx rfl (hb hby d2_14) rfl rfl ?_
    exact k
  obtain ⟨T2, X2, e2, st2⟩ := getS2 X1 hx hZ hown (host := "") (Or.inl (own_w hw 4 rfl)) Via.refl e1 (S_FALSE.ext O.2) (g := (mkF m 15 #[rv w_FALSE, u_] [(.ref w_FALSE)])) rfl (hb hby d2_15)
  refine Go.step st2 ?_
  show Go p e below _ (T2.setTop (mkF m 18 #[rv w_FALSE, u_] [(.ref w_FALSE), (.ref w_FALSE)]))
  refine Go.step (S' := T2.setTop (mkF m 21 #[rv w_FALSE, u_] [])) (fun t k => ?_) ?_
  · show Steps p.tables e below (T2.setTop (mkF m 18 #[rv w_FALSE, u_] [(.ref w_FALSE), (.ref w_FALSE)])) _
    refine Jvm.RoadKit.acmp (g := (mkF m 18 #[rv w_FALSE, u_] [(.ref w_FALSE), (.ref w_FALSE)])) X2 hx rfl rfl rfl (pc0 := 18) (pc' := 21) (same := true) rfl (hb hby d2_18) rfl (decide_eq_true rfl) (by decide) (by decide) ?_
    exact k
  obtain ⟨T3, X3, e3, st3⟩ := getS2 X2 hx hZ hown (host := "") (Or.inl (own_w hw 6 rfl)) Via.refl e2 (S_TRUE.ext O.2) (g := (mkF m 21 #[rv w_FALSE, u_] [])) rfl (hb hby d2_21)
  refine Go.step st3 ?_
  show Go p e below _ (T3.setTop (mkF m 24 #[rv w_FALSE, u_] [(.ref w_TRUE)]))
  refine Go.step (S' := T3.setTop (mkF m 33 #[rv w_FALSE, rv w_TRUE] [(.ref w_TRUE)])) (fun t k => ?_) ?_
  · show Steps p.tables e below (T3.setTop (mkF m 24 #[rv w_FALSE, u_] [(.ref w_TRUE)])) _
    refine XS.astoreN X3.here hx rfl (hb hby d2_24) rfl rfl (l' := #[rv w_FALSE, rv w_TRUE]) rfl ?_
    show Steps p.tables e below (T3.setTop (mkF m 25 #[rv w_FALSE, rv w_TRUE] [])) _
    refine XS.goto X3.here hx rfl (pc0 := 25) (pc' := 32) rfl (hb hby d2_25) (by decide) (by decide) ?_
    show Steps p.tables e below (T3.setTop (mkF m 32 #[rv w_FALSE, rv w_TRUE] [])) _
    refine XS.aloadN X3.here hx rfl (hb hby d2_32) rfl rfl ?_
    exact k
  obtain ⟨fs, hr, hrun, hended, hW, hsame⟩ := X3.leave (v := some (.ref w_TRUE)) (fun h => by rw [Bd.returns] at h; cases h)
  refine Go.fin (S' := T3.setFrames fs) ?_ hrun hended ⟨_, _, rfl, ?_, ⟨_, rfl⟩, hW, hsame.mono (by decide) (by decide)⟩
  · exact retOut X3 hx Bd.returns rfl (Or.inr (Or.inr (Or.inr (Or.inr ⟨rfl, rfl, rfl⟩)))) (hb hby d2_33) hr
  · show Q_rmNotF Z w_FALSE w_TRUE h0 n0 (some (.ref w_TRUE)) T3.heap _
    rw [e3]
    exact ⟨rfl, N0, rfl⟩
theorem pn_com_example_ward5_ward5_rule_TruthOfPinLaw : plainName "com/example/ward5/ward5/rule/TruthOfPinLaw" = true := by first | (simp [plainName, overriddenIn]; done) | decide +kernel
theorem pd__28Z_29Lcom_2fexample_2fward5_2fward5_2frule_2fTruth_3b : parseMethodDescriptor "(Z)Lcom/example/ward5/ward5/rule/Truth;" = some ⟨[.boolean], some (.object "com/example/ward5/ward5/rule/Truth")⟩ := by decide +kernel
theorem pd__28_29Lcom_2fexample_2fward5_2fward5_2frule_2fTruth_3b : parseMethodDescriptor "()Lcom/example/ward5/ward5/rule/Truth;" = some ⟨[], some (.object "com/example/ward5/ward5/rule/Truth")⟩ := by decide +kernel
theorem ef_rm0 (m : MethodId) (p0 : Int32) : entryFrame m #[(.int p0)] maxLocals = mkF m 0 #[.val (.int p0), .unset, .unset, .unset, .unset, .unset, .unset] [] := by first | (simp [entryFrame, mkF, argsToLocals, Value.category, maxLocals]; done) | rfl
def Q_rm0 (Z : State) (p0 : Int32) (w_TRUE : Addr) (w_FALSE : Addr) (w_UNKNOWN : Addr) (h0 : Heap) (n0 : Nat) (v : Option Value) (h : Heap) (L : List Loc) : Prop := (v = some (.int (1 : Int32))) ∧ (Fr n0 L) ∧ (h = h0)
set_option maxRecDepth 65536 in
set_option maxHeartbeats 40000000 in
theorem rm0 (l : Launch) (Z : State) (a0 : Array Value) (hw : ∀ d ∈ tables_1, d.before a0 Z = true) (ws : List Jvm.Cond) (p0 : Int32) (w_TRUE : Addr) (w_FALSE : Addr) (w_UNKNOWN : Addr) (h0 : Heap) (n0 : Nat) (O : Old Z n0 h0) (S_TRUE : Sta Z Z.heap "com/example/ward5/ward5/rule/Truth" "TRUE" "Lcom/example/ward5/ward5/rule/Truth;" (.ref w_TRUE)) (S_FALSE : Sta Z Z.heap "com/example/ward5/ward5/rule/Truth" "FALSE" "Lcom/example/ward5/ward5/rule/Truth;" (.ref w_FALSE)) (S_UNKNOWN : Sta Z Z.heap "com/example/ward5/ward5/rule/Truth" "UNKNOWN" "Lcom/example/ward5/ward5/rule/Truth;" (.ref w_UNKNOWN)) (E_TRUE : Exa Z Z.heap w_TRUE "com/example/ward5/ward5/rule/Truth") (E_FALSE : Exa Z Z.heap w_FALSE "com/example/ward5/ward5/rule/Truth") (E_UNKNOWN : Exa Z Z.heap w_UNKNOWN "com/example/ward5/ward5/rule/Truth") (ne_FALSE_TRUE : ¬ (w_FALSE = w_TRUE)) (ne_TRUE_UNKNOWN : ¬ (w_TRUE = w_UNKNOWN)) (ne_FALSE_UNKNOWN : ¬ (w_FALSE = w_UNKNOWN)) :
    MetFree l x (head1 (Jvm.Cond.code x code maxLocals ret :: ws) room_1) (fun A_ U => A_ = #[(.int p0)] ∧ Z.Warmed39 U.vm ∧ U.heap = h0) (fun _ _ _ _ _ => True) (fun _ U o U' => ∃ v L, o = .returned v ∧ Q_rm0 Z p0 w_TRUE w_FALSE w_UNKNOWN h0 n0 v U'.heap L ∧ FrameEnd U o U' L room_1.cells room_1.slots) := by
  refine MetFree.of_bodySF (plainFor_of_name pn_com_example_ward5_ward5_rule_TruthOfPinLaw) hisR ?_
  intro p e s m args below meth c s₁ Bd hml0 hP hK
  obtain ⟨rfl, hZ, hh⟩ := hP
  have hx := Bd.exec
  have hby := Bd.bytes
  have hml : c.maxLocals = 7 := hml0
  have hown : s.vm.findClass "com/example/ward5/ward5/rule/TruthOfPinLaw" = some m.cls := findClass_of_methodNamed Bd.named
  have hnm := (name_of_methodNamed Bd.named Bd.method).1
  have X0 : Stand p l e room_1 s m #[(.int p0)] below meth c s₁ [] 0 0 := Stand.of_body Bd
  have e0 : s₁.heap = h0 := by rw [← hh, Bd.state]; rfl
  have N0 := Fr.nil n0
  refine Go.step (p := p) (e := e) (below := below) (G := fun o U' => ∃ v L, o = .returned v ∧ Q_rm0 Z p0 w_TRUE w_FALSE w_UNKNOWN h0 n0 v U'.heap L ∧ FrameEnd s o U' L room_1.cells room_1.slots) (S' := s₁.setTop (mkF m 0 #[iv p0, u_, u_, u_, u_, u_, u_] [])) (fun t k => castTop (ef_rm0 m p0) k) ?_
  refine Go.step (S' := s₁.setTop (mkF m 3 #[iv p0, u_, u_, u_, u_, u_, u_] [(.int (p0 &&& (1 : Int32)))])) (fun t k => ?_) ?_
  · show Steps p.tables e below (s₁.setTop (mkF m 0 #[iv p0, u_, u_, u_, u_, u_, u_] [])) _
    refine XS.iloadN X0.here hx rfl (hb hby at_0) rfl ?_
    show Steps p.tables e below (s₁.setTop (mkF m 1 #[iv p0, u_, u_, u_, u_, u_, u_] [(.int p0)])) _
    refine XS.iconst X0.here hx rfl (hb hby at_1) ?_
    show Steps p.tables e below (s₁.setTop (mkF m 2 #[iv p0, u_, u_, u_, u_, u_, u_] [(.int (1 : Int32)), (.int p0)])) _
    refine XS.iand X0.here hx rfl (hb hby at_2) rfl ?_
    exact k
  by_cases hc3 : (p0 &&& (1 : Int32)) = (0 : Int32)
  · skip
    refine Go.step (S' := s₁.setTop (mkF m 13 #[iv p0, iv (0 : Int32), u_, u_, u_, u_, u_] [(.int (0 : Int32))])) (fun t k => ?_) ?_
    · show Steps p.tables e below (s₁.setTop (mkF m 3 #[iv p0, u_, u_, u_, u_, u_, u_] [(.int (p0 &&& (1 : Int32)))])) _
      refine XS.ifYes X0.here hx rfl (pc0 := 3) (pc' := 10) rfl (hb hby at_3) rfl ((if0 _ _).trans (teq (hc3 : (p0 &&& (1 : Int32)) = (0 : Int32))).1) (by decide) (by decide) ?_
      show Steps p.tables e below (s₁.setTop (mkF m 10 #[iv p0, u_, u_, u_, u_, u_, u_] [])) _
      refine XS.iconst X0.here hx rfl (hb hby at_10) ?_
      show Steps p.tables e below (s₁.setTop (mkF m 11 #[iv p0, u_, u_, u_, u_, u_, u_] [(.int (0 : Int32))])) _
      refine XS.istoreN X0.here hx rfl (hb hby at_11) rfl (l' := #[iv p0, iv (0 : Int32), u_, u_, u_, u_, u_]) rfl ?_
      show Steps p.tables e below (s₁.setTop (mkF m 12 #[iv p0, iv (0 : Int32), u_, u_, u_, u_, u_] [])) _
      refine XS.iloadN X0.here hx rfl (hb hby at_12) rfl ?_
      exact k
    obtain ⟨_, _, ⟨T1, L1, k1, n1⟩, -, X1, ⟨Lc1, hQ1, l1, y1, z1⟩, st1⟩ := Jvm.LawKit.callS X0 hx (y := (⟨"com/example/ward5/ward5/rule/Truth", "of", "(Z)Lcom/example/ward5/ward5/rule/Truth;"⟩ : MethodName)) hown (mvT hZ (own_w hw 0 rfl)) (mvT hZ (own_w hw 1 rfl)) (mvT hZ (own_w hw 2 rfl)) (mvT hZ (own_w hw 3 rfl)) (by decide) (backOf (W := 0) (rmOfF l Z a0 hw [] w_FALSE h0 n0 O S_FALSE) hZ (own_w hw 3 rfl) (own_w hw 2 rfl) (by decide) (by decide)) (g := (mkF m 13 #[iv p0, iv (0 : Int32), u_, u_, u_, u_, u_] [(.int (0 : Int32))])) rfl (by rw [hml]; rfl) (argsL := [(.int (0 : Int32))]) (rest := []) (lenOf pd__28Z_29Lcom_2fexample_2fward5_2fward5_2frule_2fTruth_3b rfl) rfl (by show 2 * 0 + _ ≤ _; exact Nat.le_of_eq rfl) (hb hby at_13) (fun _ _ => ⟨rfl, e0, (by decide : 0 + 0 ≤ _), (by decide : 0 + 0 ≤ _)⟩)
    dsimp only [Pt.U, Pt.locs, Pt.cells, Pt.slots] at X1 l1 y1 z1 st1 hQ1
    subst l1 y1 z1
    obtain ⟨rfl, Nq1, e1⟩ := hQ1
    have N1 := Fr.app N0 Nq1
    refine Go.step st1 ?_
    show Go p e below _ (T1.setTop (mkF m 16 #[iv p0, iv (0 : Int32), u_, u_, u_, u_, u_] [(.ref w_FALSE)]))
    refine Go.step (S' := T1.setTop (mkF m 26 #[iv p0, iv (0 : Int32), rv w_FALSE, u_, u_, u_, u_] [(.int (1 : Int32))])) (fun t k => ?_) ?_
    · show Steps p.tables e below (T1.setTop (mkF m 16 #[iv p0, iv (0 : Int32), u_, u_, u_, u_, u_] [(.ref w_FALSE)])) _
      refine XS.astoreN X1.here hx rfl (hb hby at_16) rfl rfl (l' := #[iv p0, iv (0 : Int32), rv w_FALSE, u_, u_, u_, u_]) rfl ?_
      show Steps p.tables e below (T1.setTop (mkF m 17 #[iv p0, iv (0 : Int32), rv w_FALSE, u_, u_, u_, u_] [])) _
      refine XS.iloadN X1.here hx rfl (hb hby at_17) rfl ?_
      show Steps p.tables e below (T1.setTop (mkF m 18 #[iv p0, iv (0 : Int32), rv w_FALSE, u_, u_, u_, u_] [(.int (0 : Int32))])) _
      refine XS.ifNo X1.here hx rfl (hb hby at_18) rfl ((if0 _ _).trans (teq ((by decide) : (0 : Int32) = (0 : Int32))).2) ?_
      show Steps p.tables e below (T1.setTop (mkF m 21 #[iv p0, iv (0 : Int32), rv w_FALSE, u_, u_, u_, u_] [])) _
      refine XS.iconst X1.here hx rfl (hb hby at_21) ?_
      show Steps p.tables e below (T1.setTop (mkF m 22 #[iv p0, iv (0 : Int32), rv w_FALSE, u_, u_, u_, u_] [(.int (1 : Int32))])) _
      refine XS.goto X1.here hx rfl (pc0 := 22) (pc' := 26) rfl (hb hby at_22) (by decide) (by decide) ?_
      exact k
    obtain ⟨_, _, ⟨T2, L2, k2, n2⟩, -, X2, ⟨Lc2, hQ2, l2, y2, z2⟩, st2⟩ := Jvm.LawKit.callS X1 hx (y := (⟨"com/example/ward5/ward5/rule/Truth", "of", "(Z)Lcom/example/ward5/ward5/rule/Truth;"⟩ : MethodName)) hown (mvT hZ (own_w hw 0 rfl)) (mvT hZ (own_w hw 1 rfl)) (mvT hZ (own_w hw 2 rfl)) (mvT hZ (own_w hw 3 rfl)) (by decide) (backOf (W := 0) (rmOfT l Z a0 hw [] w_TRUE h0 n0 O S_TRUE) hZ (own_w hw 3 rfl) (own_w hw 2 rfl) (by decide) (by decide)) (g := (mkF m 26 #[iv p0, iv (0 : Int32), rv w_FALSE, u_, u_, u_, u_] [(.int (1 : Int32))])) rfl (by rw [hml]; rfl) (argsL := [(.int (1 : Int32))]) (rest := []) (lenOf pd__28Z_29Lcom_2fexample_2fward5_2fward5_2frule_2fTruth_3b rfl) rfl (by show 2 * 0 + _ ≤ _; exact Nat.le_of_eq rfl) (hb hby at_26) (fun _ _ => ⟨rfl, e1, (by decide : 0 + 0 ≤ _), (by decide : 0 + 0 ≤ _)⟩)
    dsimp only [Pt.U, Pt.locs, Pt.cells, Pt.slots] at X2 l2 y2 z2 st2 hQ2
    subst l2 y2 z2
    obtain ⟨rfl, Nq2, e2⟩ := hQ2
    have N2 := Fr.app N1 Nq2
    refine Go.step st2 ?_
    show Go p e below _ (T2.setTop (mkF m 29 #[iv p0, iv (0 : Int32), rv w_FALSE, u_, u_, u_, u_] [(.ref w_TRUE)]))
    refine Go.step (S' := T2.setTop (mkF m 31 #[iv p0, iv (0 : Int32), rv w_FALSE, rv w_TRUE, u_, u_, u_] [(.ref w_FALSE)])) (fun t k => ?_) ?_
    · show Steps p.tables e below (T2.setTop (mkF m 29 #[iv p0, iv (0 : Int32), rv w_FALSE, u_, u_, u_, u_] [(.ref w_TRUE)])) _
      refine XS.astoreN X2.here hx rfl (hb hby at_29) rfl rfl (l' := #[iv p0, iv (0 : Int32), rv w_FALSE, rv w_TRUE, u_, u_, u_]) rfl ?_
      show Steps p.tables e below (T2.setTop (mkF m 30 #[iv p0, iv (0 : Int32), rv w_FALSE, rv w_TRUE, u_, u_, u_] [])) _
      refine XS.aloadN X2.here hx rfl (hb hby at_30) rfl rfl ?_
      exact k
    obtain ⟨T3, X3, e3, st3⟩ := getS2 X2 hx hZ hown (host := "") (Or.inl (own_w hw 8 rfl)) Via.refl e2 (S_UNKNOWN.ext O.2) (g := (mkF m 31 #[iv p0, iv (0 : Int32), rv w_FALSE, rv w_TRUE, u_, u_, u_] [(.ref w_FALSE)])) rfl (hb hby at_31)
    refine Go.step st3 ?_
    show Go p e below _ (T3.setTop (mkF m 34 #[iv p0, iv (0 : Int32), rv w_FALSE, rv w_TRUE, u_, u_, u_] [(.ref w_UNKNOWN), (.ref w_FALSE)]))
    refine Go.step (S' := T3.setTop (mkF m 45 #[iv p0, iv (0 : Int32), rv w_FALSE, rv w_TRUE, iv (1 : Int32), u_, u_] [(.ref w_FALSE)])) (fun t k => ?_) ?_
    · show Steps p.tables e below (T3.setTop (mkF m 34 #[iv p0, iv (0 : Int32), rv w_FALSE, rv w_TRUE, u_, u_, u_] [(.ref w_UNKNOWN), (.ref w_FALSE)])) _
      refine Jvm.RoadKit.acmp (g := (mkF m 34 #[iv p0, iv (0 : Int32), rv w_FALSE, rv w_TRUE, u_, u_, u_] [(.ref w_UNKNOWN), (.ref w_FALSE)])) X3 hx rfl rfl rfl (pc0 := 34) (pc' := 37) (same := false) rfl (hb hby at_34) rfl (decide_eq_false fun q => ne_FALSE_UNKNOWN (Value.ref.inj q)) (by decide) (by decide) ?_
      show Steps p.tables e below (T3.setTop (mkF m 37 #[iv p0, iv (0 : Int32), rv w_FALSE, rv w_TRUE, u_, u_, u_] [])) _
      refine XS.iconst X3.here hx rfl (hb hby at_37) ?_
      show Steps p.tables e below (T3.setTop (mkF m 38 #[iv p0, iv (0 : Int32), rv w_FALSE, rv w_TRUE, u_, u_, u_] [(.int (1 : Int32))])) _
      refine XS.goto X3.here hx rfl (pc0 := 38) (pc' := 42) rfl (hb hby at_38) (by decide) (by decide) ?_
      show Steps p.tables e below (T3.setTop (mkF m 42 #[iv p0, iv (0 : Int32), rv w_FALSE, rv w_TRUE, u_, u_, u_] [(.int (1 : Int32))])) _
      refine XS.istore X3.here hx rfl (hb hby at_42) rfl (l' := #[iv p0, iv (0 : Int32), rv w_FALSE, rv w_TRUE, iv (1 : Int32), u_, u_]) rfl ?_
      show Steps p.tables e below (T3.setTop (mkF m 44 #[iv p0, iv (0 : Int32), rv w_FALSE, rv w_TRUE, iv (1 : Int32), u_, u_] [])) _
      refine XS.aloadN X3.here hx rfl (hb hby at_44) rfl rfl ?_
      exact k
    obtain ⟨T4, X4, e4, st4⟩ := getS2 X3 hx hZ hown (host := "") (Or.inl (own_w hw 10 rfl)) Via.refl e3 (S_TRUE.ext O.2) (g := (mkF m 45 #[iv p0, iv (0 : Int32), rv w_FALSE, rv w_TRUE, iv (1 : Int32), u_, u_] [(.ref w_FALSE)])) rfl (hb hby at_45)
    refine Go.step st4 ?_
    show Go p e below _ (T4.setTop (mkF m 48 #[iv p0, iv (0 : Int32), rv w_FALSE, rv w_TRUE, iv (1 : Int32), u_, u_] [(.ref w_TRUE), (.ref w_FALSE)]))
    refine Go.step (S' := T4.setTop (mkF m 69 #[iv p0, iv (0 : Int32), rv w_FALSE, rv w_TRUE, iv (1 : Int32), iv (1 : Int32), u_] [(.ref w_FALSE), (.ref w_TRUE)])) (fun t k => ?_) ?_
    · show Steps p.tables e below (T4.setTop (mkF m 48 #[iv p0, iv (0 : Int32), rv w_FALSE, rv w_TRUE, iv (1 : Int32), u_, u_] [(.ref w_TRUE), (.ref w_FALSE)])) _
      refine Jvm.RoadKit.acmp (g := (mkF m 48 #[iv p0, iv (0 : Int32), rv w_FALSE, rv w_TRUE, iv (1 : Int32), u_, u_] [(.ref w_TRUE), (.ref w_FALSE)])) X4 hx rfl rfl rfl (pc0 := 48) (pc' := 55) (same := false) rfl (hb hby at_48) rfl (decide_eq_false fun q => ne_FALSE_TRUE (Value.ref.inj q)) (by decide) (by decide) ?_
      show Steps p.tables e below (T4.setTop (mkF m 55 #[iv p0, iv (0 : Int32), rv w_FALSE, rv w_TRUE, iv (1 : Int32), u_, u_] [])) _
      refine XS.iconst X4.here hx rfl (hb hby at_55) ?_
      show Steps p.tables e below (T4.setTop (mkF m 56 #[iv p0, iv (0 : Int32), rv w_FALSE, rv w_TRUE, iv (1 : Int32), u_, u_] [(.int (0 : Int32))])) _
      refine XS.iloadN X4.here hx rfl (hb hby at_56) rfl ?_
      show Steps p.tables e below (T4.setTop (mkF m 57 #[iv p0, iv (0 : Int32), rv w_FALSE, rv w_TRUE, iv (1 : Int32), u_, u_] [(.int (0 : Int32)), (.int (0 : Int32))])) _
      refine XS.icmpNo X4.here hx rfl (hb hby at_57) rfl (teq ((by decide) : (0 : Int32) = (0 : Int32))).2 ?_
      show Steps p.tables e below (T4.setTop (mkF m 60 #[iv p0, iv (0 : Int32), rv w_FALSE, rv w_TRUE, iv (1 : Int32), u_, u_] [])) _
      refine XS.iconst X4.here hx rfl (hb hby at_60) ?_
      show Steps p.tables e below (T4.setTop (mkF m 61 #[iv p0, iv (0 : Int32), rv w_FALSE, rv w_TRUE, iv (1 : Int32), u_, u_] [(.int (1 : Int32))])) _
      refine XS.goto X4.here hx rfl (pc0 := 61) (pc' := 65) rfl (hb hby at_61) (by decide) (by decide) ?_
      show Steps p.tables e below (T4.setTop (mkF m 65 #[iv p0, iv (0 : Int32), rv w_FALSE, rv w_TRUE, iv (1 : Int32), u_, u_] [(.int (1 : Int32))])) _
      refine XS.istore X4.here hx rfl (hb hby at_65) rfl (l' := #[iv p0, iv (0 : Int32), rv w_FALSE, rv w_TRUE, iv (1 : Int32), iv (1 : Int32), u_]) rfl ?_
      show Steps p.tables e below (T4.setTop (mkF m 67 #[iv p0, iv (0 : Int32), rv w_FALSE, rv w_TRUE, iv (1 : Int32), iv (1 : Int32), u_] [])) _
      refine XS.aloadN X4.here hx rfl (hb hby at_67) rfl rfl ?_
      show Steps p.tables e below (T4.setTop (mkF m 68 #[iv p0, iv (0 : Int32), rv w_FALSE, rv w_TRUE, iv (1 : Int32), iv (1 : Int32), u_] [(.ref w_TRUE)])) _
      refine XS.aloadN X4.here hx rfl (hb hby at_68) rfl rfl ?_
      exact k
    obtain ⟨cq5, kq5, q5a, q5b, q5c⟩ := isOf hZ e4 (E_FALSE.ext O.2)
    obtain ⟨_, _, ⟨T5, L5, k5, n5⟩, -, X5, ⟨Lc5, hQ5, l5, y5, z5⟩, st5⟩ := X4.virtualBack hx (y := (⟨"com/example/ward5/ward5/rule/Truth", "not", "()Lcom/example/ward5/ward5/rule/Truth;"⟩ : MethodName)) (z := (⟨"com/example/ward5/ward5/rule/Truth", "not", "()Lcom/example/ward5/ward5/rule/Truth;"⟩ : MethodName)) hown (mvT hZ (own_w hw 11 rfl)) (mvT hZ (own_w hw 12 rfl)) (notFace_of_selects (args := #[]) (mvT hZ (own_w hw 14 rfl))) (mvT hZ (own_w hw 14 rfl)) (mvT hZ (own_w hw 13 rfl)) (by decide) (backOf (W := 1) (rmNotF l Z a0 hw [] w_FALSE w_TRUE h0 n0 O S_TRUE S_FALSE ne_FALSE_TRUE) hZ (own_w hw 15 rfl) (own_w hw 2 rfl) (by decide) (by decide)) q5a q5c (g := (mkF m 69 #[iv p0, iv (0 : Int32), rv w_FALSE, rv w_TRUE, iv (1 : Int32), iv (1 : Int32), u_] [(.ref w_FALSE), (.ref w_TRUE)])) rfl (by rw [hml]; rfl) (Steps.refl _) (argsL := []) (rest := [(.ref w_TRUE)]) (lenOf pd__28_29Lcom_2fexample_2fward5_2fward5_2frule_2fTruth_3b rfl) rfl (by show 2 * 0 + _ ≤ _; exact Nat.le_of_eq rfl) (hb hby at_69) (fun _ _ => ⟨rfl, e4, (by decide : 0 + 0 ≤ _), (by decide : 0 + 0 ≤ _)⟩)
    dsimp only [Pt.U, Pt.locs, Pt.cells, Pt.slots] at X5 l5 y5 z5 st5 hQ5
    subst l5 y5 z5
    obtain ⟨rfl, Nq5, e5⟩ := hQ5
    have N5 := Fr.app N2 Nq5
    refine Go.step (fun t k => st5.trans k) ?_
    show Go p e below _ (T5.setTop (mkF m 72 #[iv p0, iv (0 : Int32), rv w_FALSE, rv w_TRUE, iv (1 : Int32), iv (1 : Int32), u_] [(.ref w_TRUE), (.ref w_TRUE)]))
    refine Go.step (S' := T5.setTop (mkF m 102 #[iv p0, iv (0 : Int32), rv w_FALSE, rv w_TRUE, iv (1 : Int32), iv (1 : Int32), iv (1 : Int32)] [(.int (1 : Int32))])) (fun t k => ?_) ?_
    · show Steps p.tables e below (T5.setTop (mkF m 72 #[iv p0, iv (0 : Int32), rv w_FALSE, rv w_TRUE, iv (1 : Int32), iv (1 : Int32), u_] [(.ref w_TRUE), (.ref w_TRUE)])) _
      refine Jvm.RoadKit.acmp (g := (mkF m 72 #[iv p0, iv (0 : Int32), rv w_FALSE, rv w_TRUE, iv (1 : Int32), iv (1 : Int32), u_] [(.ref w_TRUE), (.ref w_TRUE)])) X5 hx rfl rfl rfl (pc0 := 72) (pc' := 75) (same := true) rfl (hb hby at_72) rfl (decide_eq_true rfl) (by decide) (by decide) ?_
      show Steps p.tables e below (T5.setTop (mkF m 75 #[iv p0, iv (0 : Int32), rv w_FALSE, rv w_TRUE, iv (1 : Int32), iv (1 : Int32), u_] [])) _
      refine XS.iconst X5.here hx rfl (hb hby at_75) ?_
      show Steps p.tables e below (T5.setTop (mkF m 76 #[iv p0, iv (0 : Int32), rv w_FALSE, rv w_TRUE, iv (1 : Int32), iv (1 : Int32), u_] [(.int (1 : Int32))])) _
      refine XS.goto X5.here hx rfl (pc0 := 76) (pc' := 80) rfl (hb hby at_76) (by decide) (by decide) ?_
      show Steps p.tables e below (T5.setTop (mkF m 80 #[iv p0, iv (0 : Int32), rv w_FALSE, rv w_TRUE, iv (1 : Int32), iv (1 : Int32), u_] [(.int (1 : Int32))])) _
      refine XS.istore X5.here hx rfl (hb hby at_80) rfl (l' := #[iv p0, iv (0 : Int32), rv w_FALSE, rv w_TRUE, iv (1 : Int32), iv (1 : Int32), iv (1 : Int32)]) rfl ?_
      show Steps p.tables e below (T5.setTop (mkF m 82 #[iv p0, iv (0 : Int32), rv w_FALSE, rv w_TRUE, iv (1 : Int32), iv (1 : Int32), iv (1 : Int32)] [])) _
      refine XS.iload X5.here hx rfl (hb hby at_82) rfl ?_
      show Steps p.tables e below (T5.setTop (mkF m 84 #[iv p0, iv (0 : Int32), rv w_FALSE, rv w_TRUE, iv (1 : Int32), iv (1 : Int32), iv (1 : Int32)] [(.int (1 : Int32))])) _
      refine XS.ifNo X5.here hx rfl (hb hby at_84) rfl ((if0 _ _).trans (feq ((by decide) : ¬ ((1 : Int32) = (0 : Int32)))).1) ?_
      show Steps p.tables e below (T5.setTop (mkF m 87 #[iv p0, iv (0 : Int32), rv w_FALSE, rv w_TRUE, iv (1 : Int32), iv (1 : Int32), iv (1 : Int32)] [])) _
      refine XS.iload X5.here hx rfl (hb hby at_87) rfl ?_
      show Steps p.tables e below (T5.setTop (mkF m 89 #[iv p0, iv (0 : Int32), rv w_FALSE, rv w_TRUE, iv (1 : Int32), iv (1 : Int32), iv (1 : Int32)] [(.int (1 : Int32))])) _
      refine XS.ifNo X5.here hx rfl (hb hby at_89) rfl ((if0 _ _).trans (feq ((by decide) : ¬ ((1 : Int32) = (0 : Int32)))).1) ?_
      show Steps p.tables e below (T5.setTop (mkF m 92 #[iv p0, iv (0 : Int32), rv w_FALSE, rv w_TRUE, iv (1 : Int32), iv (1 : Int32), iv (1 : Int32)] [])) _
      refine XS.iload X5.here hx rfl (hb hby at_92) rfl ?_
      show Steps p.tables e below (T5.setTop (mkF m 94 #[iv p0, iv (0 : Int32), rv w_FALSE, rv w_TRUE, iv (1 : Int32), iv (1 : Int32), iv (1 : Int32)] [(.int (1 : Int32))])) _
      refine XS.ifNo X5.here hx rfl (hb hby at_94) rfl ((if0 _ _).trans (feq ((by decide) : ¬ ((1 : Int32) = (0 : Int32)))).1) ?_
      show Steps p.tables e below (T5.setTop (mkF m 97 #[iv p0, iv (0 : Int32), rv w_FALSE, rv w_TRUE, iv (1 : Int32), iv (1 : Int32), iv (1 : Int32)] [])) _
      refine XS.iconst X5.here hx rfl (hb hby at_97) ?_
      show Steps p.tables e below (T5.setTop (mkF m 98 #[iv p0, iv (0 : Int32), rv w_FALSE, rv w_TRUE, iv (1 : Int32), iv (1 : Int32), iv (1 : Int32)] [(.int (1 : Int32))])) _
      refine XS.goto X5.here hx rfl (pc0 := 98) (pc' := 102) rfl (hb hby at_98) (by decide) (by decide) ?_
      exact k
    obtain ⟨fs, hr, hrun, hended, hW, hsame⟩ := X5.leave (v := some (.int (1 : Int32))) (fun h => by rw [Bd.returns] at h; cases h)
    refine Go.fin (S' := T5.setFrames fs) ?_ hrun hended ⟨_, _, rfl, ?_, ⟨_, rfl⟩, hW, hsame.mono (by decide) (by decide)⟩
    · exact retOut X5 hx Bd.returns (by decide) (Or.inl ⟨rfl, Or.inr (Or.inl rfl), _, rfl⟩) (hb hby at_102) hr
    · show Q_rm0 Z p0 w_TRUE w_FALSE w_UNKNOWN h0 n0 (some (.int (1 : Int32))) T5.heap _
      rw [e5]
      exact ⟨rfl, N5, rfl⟩
  · skip
    refine Go.step (S' := s₁.setTop (mkF m 13 #[iv p0, iv (1 : Int32), u_, u_, u_, u_, u_] [(.int (1 : Int32))])) (fun t k => ?_) ?_
    · show Steps p.tables e below (s₁.setTop (mkF m 3 #[iv p0, u_, u_, u_, u_, u_, u_] [(.int (p0 &&& (1 : Int32)))])) _
      refine XS.ifNo X0.here hx rfl (hb hby at_3) rfl ((if0 _ _).trans (feq (hc3 : ¬ ((p0 &&& (1 : Int32)) = (0 : Int32)))).1) ?_
      show Steps p.tables e below (s₁.setTop (mkF m 6 #[iv p0, u_, u_, u_, u_, u_, u_] [])) _
      refine XS.iconst X0.here hx rfl (hb hby at_6) ?_
      show Steps p.tables e below (s₁.setTop (mkF m 7 #[iv p0, u_, u_, u_, u_, u_, u_] [(.int (1 : Int32))])) _
      refine XS.goto X0.here hx rfl (pc0 := 7) (pc' := 11) rfl (hb hby at_7) (by decide) (by decide) ?_
      show Steps p.tables e below (s₁.setTop (mkF m 11 #[iv p0, u_, u_, u_, u_, u_, u_] [(.int (1 : Int32))])) _
      refine XS.istoreN X0.here hx rfl (hb hby at_11) rfl (l' := #[iv p0, iv (1 : Int32), u_, u_, u_, u_, u_]) rfl ?_
      show Steps p.tables e below (s₁.setTop (mkF m 12 #[iv p0, iv (1 : Int32), u_, u_, u_, u_, u_] [])) _
      refine XS.iloadN X0.here hx rfl (hb hby at_12) rfl ?_
      exact k
    obtain ⟨_, _, ⟨T6, L6, k6, n6⟩, -, X6, ⟨Lc6, hQ6, l6, y6, z6⟩, st6⟩ := Jvm.LawKit.callS X0 hx (y := (⟨"com/example/ward5/ward5/rule/Truth", "of", "(Z)Lcom/example/ward5/ward5/rule/Truth;"⟩ : MethodName)) hown (mvT hZ (own_w hw 0 rfl)) (mvT hZ (own_w hw 1 rfl)) (mvT hZ (own_w hw 2 rfl)) (mvT hZ (own_w hw 3 rfl)) (by decide) (backOf (W := 0) (rmOfT l Z a0 hw [] w_TRUE h0 n0 O S_TRUE) hZ (own_w hw 3 rfl) (own_w hw 2 rfl) (by decide) (by decide)) (g := (mkF m 13 #[iv p0, iv (1 : Int32), u_, u_, u_, u_, u_] [(.int (1 : Int32))])) rfl (by rw [hml]; rfl) (argsL := [(.int (1 : Int32))]) (rest := []) (lenOf pd__28Z_29Lcom_2fexample_2fward5_2fward5_2frule_2fTruth_3b rfl) rfl (by show 2 * 0 + _ ≤ _; exact Nat.le_of_eq rfl) (hb hby at_13) (fun _ _ => ⟨rfl, e0, (by decide : 0 + 0 ≤ _), (by decide : 0 + 0 ≤ _)⟩)
    dsimp only [Pt.U, Pt.locs, Pt.cells, Pt.slots] at X6 l6 y6 z6 st6 hQ6
    subst l6 y6 z6
    obtain ⟨rfl, Nq6, e6⟩ := hQ6
    have N6 := Fr.app N0 Nq6
    refine Go.step st6 ?_
    show Go p e below _ (T6.setTop (mkF m 16 #[iv p0, iv (1 : Int32), u_, u_, u_, u_, u_] [(.ref w_TRUE)]))
    refine Go.step (S' := T6.setTop (mkF m 26 #[iv p0, iv (1 : Int32), rv w_TRUE, u_, u_, u_, u_] [(.int (0 : Int32))])) (fun t k => ?_) ?_
    · show Steps p.tables e below (T6.setTop (mkF m 16 #[iv p0, iv (1 : Int32), u_, u_, u_, u_, u_] [(.ref w_TRUE)])) _
      refine XS.astoreN X6.here hx rfl (hb hby at_16) rfl rfl (l' := #[iv p0, iv (1 : Int32), rv w_TRUE, u_, u_, u_, u_]) rfl ?_
      show Steps p.tables e below (T6.setTop (mkF m 17 #[iv p0, iv (1 : Int32), rv w_TRUE, u_, u_, u_, u_] [])) _
      refine XS.iloadN X6.here hx rfl (hb hby at_17) rfl ?_
      show Steps p.tables e below (T6.setTop (mkF m 18 #[iv p0, iv (1 : Int32), rv w_TRUE, u_, u_, u_, u_] [(.int (1 : Int32))])) _
      refine XS.ifYes X6.here hx rfl (pc0 := 18) (pc' := 25) rfl (hb hby at_18) rfl ((if0 _ _).trans (feq ((by decide) : ¬ ((1 : Int32) = (0 : Int32)))).2) (by decide) (by decide) ?_
      show Steps p.tables e below (T6.setTop (mkF m 25 #[iv p0, iv (1 : Int32), rv w_TRUE, u_, u_, u_, u_] [])) _
      refine XS.iconst X6.here hx rfl (hb hby at_25) ?_
      exact k
    obtain ⟨_, _, ⟨T7, L7, k7, n7⟩, -, X7, ⟨Lc7, hQ7, l7, y7, z7⟩, st7⟩ := Jvm.LawKit.callS X6 hx (y := (⟨"com/example/ward5/ward5/rule/Truth", "of", "(Z)Lcom/example/ward5/ward5/rule/Truth;"⟩ : MethodName)) hown (mvT hZ (own_w hw 0 rfl)) (mvT hZ (own_w hw 1 rfl)) (mvT hZ (own_w hw 2 rfl)) (mvT hZ (own_w hw 3 rfl)) (by decide) (backOf (W := 0) (rmOfF l Z a0 hw [] w_FALSE h0 n0 O S_FALSE) hZ (own_w hw 3 rfl) (own_w hw 2 rfl) (by decide) (by decide)) (g := (mkF m 26 #[iv p0, iv (1 : Int32), rv w_TRUE, u_, u_, u_, u_] [(.int (0 : Int32))])) rfl (by rw [hml]; rfl) (argsL := [(.int (0 : Int32))]) (rest := []) (lenOf pd__28Z_29Lcom_2fexample_2fward5_2fward5_2frule_2fTruth_3b rfl) rfl (by show 2 * 0 + _ ≤ _; exact Nat.le_of_eq rfl) (hb hby at_26) (fun _ _ => ⟨rfl, e6, (by decide : 0 + 0 ≤ _), (by decide : 0 + 0 ≤ _)⟩)
    dsimp only [Pt.U, Pt.locs, Pt.cells, Pt.slots] at X7 l7 y7 z7 st7 hQ7
    subst l7 y7 z7
    obtain ⟨rfl, Nq7, e7⟩ := hQ7
    have N7 := Fr.app N6 Nq7
    refine Go.step st7 ?_
    show Go p e below _ (T7.setTop (mkF m 29 #[iv p0, iv (1 : Int32), rv w_TRUE, u_, u_, u_, u_] [(.ref w_FALSE)]))
    refine Go.step (S' := T7.setTop (mkF m 31 #[iv p0, iv (1 : Int32), rv w_TRUE, rv w_FALSE, u_, u_, u_] [(.ref w_TRUE)])) (fun t k => ?_) ?_
    · show Steps p.tables e below (T7.setTop (mkF m 29 #[iv p0, iv (1 : Int32), rv w_TRUE, u_, u_, u_, u_] [(.ref w_FALSE)])) _
      refine XS.astoreN X7.here hx rfl (hb hby at_29) rfl rfl (l' := #[iv p0, iv (1 : Int32), rv w_TRUE, rv w_FALSE, u_, u_, u_]) rfl ?_
      show Steps p.tables e below (T7.setTop (mkF m 30 #[iv p0, iv (1 : Int32), rv w_TRUE, rv w_FALSE, u_, u_, u_] [])) _
      refine XS.aloadN X7.here hx rfl (hb hby at_30) rfl rfl ?_
      exact k
    obtain ⟨T8, X8, e8, st8⟩ := getS2 X7 hx hZ hown (host := "") (Or.inl (own_w hw 8 rfl)) Via.refl e7 (S_UNKNOWN.ext O.2) (g := (mkF m 31 #[iv p0, iv (1 : Int32), rv w_TRUE, rv w_FALSE, u_, u_, u_] [(.ref w_TRUE)])) rfl (hb hby at_31)
    refine Go.step st8 ?_
    show Go p e below _ (T8.setTop (mkF m 34 #[iv p0, iv (1 : Int32), rv w_TRUE, rv w_FALSE, u_, u_, u_] [(.ref w_UNKNOWN), (.ref w_TRUE)]))
    refine Go.step (S' := T8.setTop (mkF m 45 #[iv p0, iv (1 : Int32), rv w_TRUE, rv w_FALSE, iv (1 : Int32), u_, u_] [(.ref w_TRUE)])) (fun t k => ?_) ?_
    · show Steps p.tables e below (T8.setTop (mkF m 34 #[iv p0, iv (1 : Int32), rv w_TRUE, rv w_FALSE, u_, u_, u_] [(.ref w_UNKNOWN), (.ref w_TRUE)])) _
      refine Jvm.RoadKit.acmp (g := (mkF m 34 #[iv p0, iv (1 : Int32), rv w_TRUE, rv w_FALSE, u_, u_, u_] [(.ref w_UNKNOWN), (.ref w_TRUE)])) X8 hx rfl rfl rfl (pc0 := 34) (pc' := 37) (same := false) rfl (hb hby at_34) rfl (decide_eq_false fun q => ne_TRUE_UNKNOWN (Value.ref.inj q)) (by decide) (by decide) ?_
      show Steps p.tables e below (T8.setTop (mkF m 37 #[iv p0, iv (1 : Int32), rv w_TRUE, rv w_FALSE, u_, u_, u_] [])) _
      refine XS.iconst X8.here hx rfl (hb hby at_37) ?_
      show Steps p.tables e below (T8.setTop (mkF m 38 #[iv p0, iv (1 : Int32), rv w_TRUE, rv w_FALSE, u_, u_, u_] [(.int (1 : Int32))])) _
      refine XS.goto X8.here hx rfl (pc0 := 38) (pc' := 42) rfl (hb hby at_38) (by decide) (by decide) ?_
      show Steps p.tables e below (T8.setTop (mkF m 42 #[iv p0, iv (1 : Int32), rv w_TRUE, rv w_FALSE, u_, u_, u_] [(.int (1 : Int32))])) _
      refine XS.istore X8.here hx rfl (hb hby at_42) rfl (l' := #[iv p0, iv (1 : Int32), rv w_TRUE, rv w_FALSE, iv (1 : Int32), u_, u_]) rfl ?_
      show Steps p.tables e below (T8.setTop (mkF m 44 #[iv p0, iv (1 : Int32), rv w_TRUE, rv w_FALSE, iv (1 : Int32), u_, u_] [])) _
      refine XS.aloadN X8.here hx rfl (hb hby at_44) rfl rfl ?_
      exact k
    obtain ⟨T9, X9, e9, st9⟩ := getS2 X8 hx hZ hown (host := "") (Or.inl (own_w hw 10 rfl)) Via.refl e8 (S_TRUE.ext O.2) (g := (mkF m 45 #[iv p0, iv (1 : Int32), rv w_TRUE, rv w_FALSE, iv (1 : Int32), u_, u_] [(.ref w_TRUE)])) rfl (hb hby at_45)
    refine Go.step st9 ?_
    show Go p e below _ (T9.setTop (mkF m 48 #[iv p0, iv (1 : Int32), rv w_TRUE, rv w_FALSE, iv (1 : Int32), u_, u_] [(.ref w_TRUE), (.ref w_TRUE)]))
    refine Go.step (S' := T9.setTop (mkF m 69 #[iv p0, iv (1 : Int32), rv w_TRUE, rv w_FALSE, iv (1 : Int32), iv (1 : Int32), u_] [(.ref w_TRUE), (.ref w_FALSE)])) (fun t k => ?_) ?_
    · show Steps p.tables e below (T9.setTop (mkF m 48 #[iv p0, iv (1 : Int32), rv w_TRUE, rv w_FALSE, iv (1 : Int32), u_, u_] [(.ref w_TRUE), (.ref w_TRUE)])) _
      refine Jvm.RoadKit.acmp (g := (mkF m 48 #[iv p0, iv (1 : Int32), rv w_TRUE, rv w_FALSE, iv (1 : Int32), u_, u_] [(.ref w_TRUE), (.ref w_TRUE)])) X9 hx rfl rfl rfl (pc0 := 48) (pc' := 51) (same := true) rfl (hb hby at_48) rfl (decide_eq_true rfl) (by decide) (by decide) ?_
      show Steps p.tables e below (T9.setTop (mkF m 51 #[iv p0, iv (1 : Int32), rv w_TRUE, rv w_FALSE, iv (1 : Int32), u_, u_] [])) _
      refine XS.iconst X9.here hx rfl (hb hby at_51) ?_
      show Steps p.tables e below (T9.setTop (mkF m 52 #[iv p0, iv (1 : Int32), rv w_TRUE, rv w_FALSE, iv (1 : Int32), u_, u_] [(.int (1 : Int32))])) _
      refine XS.goto X9.here hx rfl (pc0 := 52) (pc' := 56) rfl (hb hby at_52) (by decide) (by decide) ?_
      show Steps p.tables e below (T9.setTop (mkF m 56 #[iv p0, iv (1 : Int32), rv w_TRUE, rv w_FALSE, iv (1 : Int32), u_, u_] [(.int (1 : Int32))])) _
      refine XS.iloadN X9.here hx rfl (hb hby at_56) rfl ?_
      show Steps p.tables e below (T9.setTop (mkF m 57 #[iv p0, iv (1 : Int32), rv w_TRUE, rv w_FALSE, iv (1 : Int32), u_, u_] [(.int (1 : Int32)), (.int (1 : Int32))])) _
      refine XS.icmpNo X9.here hx rfl (hb hby at_57) rfl (teq ((by decide) : (1 : Int32) = (1 : Int32))).2 ?_
      show Steps p.tables e below (T9.setTop (mkF m 60 #[iv p0, iv (1 : Int32), rv w_TRUE, rv w_FALSE, iv (1 : Int32), u_, u_] [])) _
      refine XS.iconst X9.here hx rfl (hb hby at_60) ?_
      show Steps p.tables e below (T9.setTop (mkF m 61 #[iv p0, iv (1 : Int32), rv w_TRUE, rv w_FALSE, iv (1 : Int32), u_, u_] [(.int (1 : Int32))])) _
      refine XS.goto X9.here hx rfl (pc0 := 61) (pc' := 65) rfl (hb hby at_61) (by decide) (by decide) ?_
      show Steps p.tables e below (T9.setTop (mkF m 65 #[iv p0, iv (1 : Int32), rv w_TRUE, rv w_FALSE, iv (1 : Int32), u_, u_] [(.int (1 : Int32))])) _
      refine XS.istore X9.here hx rfl (hb hby at_65) rfl (l' := #[iv p0, iv (1 : Int32), rv w_TRUE, rv w_FALSE, iv (1 : Int32), iv (1 : Int32), u_]) rfl ?_
      show Steps p.tables e below (T9.setTop (mkF m 67 #[iv p0, iv (1 : Int32), rv w_TRUE, rv w_FALSE, iv (1 : Int32), iv (1 : Int32), u_] [])) _
      refine XS.aloadN X9.here hx rfl (hb hby at_67) rfl rfl ?_
      show Steps p.tables e below (T9.setTop (mkF m 68 #[iv p0, iv (1 : Int32), rv w_TRUE, rv w_FALSE, iv (1 : Int32), iv (1 : Int32), u_] [(.ref w_FALSE)])) _
      refine XS.aloadN X9.here hx rfl (hb hby at_68) rfl rfl ?_
      exact k
    obtain ⟨cq10, kq10, q10a, q10b, q10c⟩ := isOf hZ e9 (E_TRUE.ext O.2)
    obtain ⟨_, _, ⟨T10, L10, k10, n10⟩, -, X10, ⟨Lc10, hQ10, l10, y10, z10⟩, st10⟩ := X9.virtualBack hx (y := (⟨"com/example/ward5/ward5/rule/Truth", "not", "()Lcom/example/ward5/ward5/rule/Truth;"⟩ : MethodName)) (z := (⟨"com/example/ward5/ward5/rule/Truth", "not", "()Lcom/example/ward5/ward5/rule/Truth;"⟩ : MethodName)) hown (mvT hZ (own_w hw 11 rfl)) (mvT hZ (own_w hw 12 rfl)) (notFace_of_selects (args := #[]) (mvT hZ (own_w hw 14 rfl))) (mvT hZ (own_w hw 14 rfl)) (mvT hZ (own_w hw 13 rfl)) (by decide) (backOf (W := 1) (rmNotT l Z a0 hw [] w_TRUE w_FALSE h0 n0 O S_TRUE S_FALSE) hZ (own_w hw 15 rfl) (own_w hw 2 rfl) (by decide) (by decide)) q10a q10c (g := (mkF m 69 #[iv p0, iv (1 : Int32), rv w_TRUE, rv w_FALSE, iv (1 : Int32), iv (1 : Int32), u_] [(.ref w_TRUE), (.ref w_FALSE)])) rfl (by rw [hml]; rfl) (Steps.refl _) (argsL := []) (rest := [(.ref w_FALSE)]) (lenOf pd__28_29Lcom_2fexample_2fward5_2fward5_2frule_2fTruth_3b rfl) rfl (by show 2 * 0 + _ ≤ _; exact Nat.le_of_eq rfl) (hb hby at_69) (fun _ _ => ⟨rfl, e9, (by decide : 0 + 0 ≤ _), (by decide : 0 + 0 ≤ _)⟩)
    dsimp only [Pt.U, Pt.locs, Pt.cells, Pt.slots] at X10 l10 y10 z10 st10 hQ10
    subst l10 y10 z10
    obtain ⟨rfl, Nq10, e10⟩ := hQ10
    have N10 := Fr.app N7 Nq10
    refine Go.step (fun t k => st10.trans k) ?_
    show Go p e below _ (T10.setTop (mkF m 72 #[iv p0, iv (1 : Int32), rv w_TRUE, rv w_FALSE, iv (1 : Int32), iv (1 : Int32), u_] [(.ref w_FALSE), (.ref w_FALSE)]))
    refine Go.step (S' := T10.setTop (mkF m 102 #[iv p0, iv (1 : Int32), rv w_TRUE, rv w_FALSE, iv (1 : Int32), iv (1 : Int32), iv (1 : Int32)] [(.int (1 : Int32))])) (fun t k => ?_) ?_
    · show Steps p.tables e below (T10.setTop (mkF m 72 #[iv p0, iv (1 : Int32), rv w_TRUE, rv w_FALSE, iv (1 : Int32), iv (1 : Int32), u_] [(.ref w_FALSE), (.ref w_FALSE)])) _
      refine Jvm.RoadKit.acmp (g := (mkF m 72 #[iv p0, iv (1 : Int32), rv w_TRUE, rv w_FALSE, iv (1 : Int32), iv (1 : Int32), u_] [(.ref w_FALSE), (.ref w_FALSE)])) X10 hx rfl rfl rfl (pc0 := 72) (pc' := 75) (same := true) rfl (hb hby at_72) rfl (decide_eq_true rfl) (by decide) (by decide) ?_
      show Steps p.tables e below (T10.setTop (mkF m 75 #[iv p0, iv (1 : Int32), rv w_TRUE, rv w_FALSE, iv (1 : Int32), iv (1 : Int32), u_] [])) _
      refine XS.iconst X10.here hx rfl (hb hby at_75) ?_
      show Steps p.tables e below (T10.setTop (mkF m 76 #[iv p0, iv (1 : Int32), rv w_TRUE, rv w_FALSE, iv (1 : Int32), iv (1 : Int32), u_] [(.int (1 : Int32))])) _
      refine XS.goto X10.here hx rfl (pc0 := 76) (pc' := 80) rfl (hb hby at_76) (by decide) (by decide) ?_
      show Steps p.tables e below (T10.setTop (mkF m 80 #[iv p0, iv (1 : Int32), rv w_TRUE, rv w_FALSE, iv (1 : Int32), iv (1 : Int32), u_] [(.int (1 : Int32))])) _
      refine XS.istore X10.here hx rfl (hb hby at_80) rfl (l' := #[iv p0, iv (1 : Int32), rv w_TRUE, rv w_FALSE, iv (1 : Int32), iv (1 : Int32), iv (1 : Int32)]) rfl ?_
      show Steps p.tables e below (T10.setTop (mkF m 82 #[iv p0, iv (1 : Int32), rv w_TRUE, rv w_FALSE, iv (1 : Int32), iv (1 : Int32), iv (1 : Int32)] [])) _
      refine XS.iload X10.here hx rfl (hb hby at_82) rfl ?_
      show Steps p.tables e below (T10.setTop (mkF m 84 #[iv p0, iv (1 : Int32), rv w_TRUE, rv w_FALSE, iv (1 : Int32), iv (1 : Int32), iv (1 : Int32)] [(.int (1 : Int32))])) _
      refine XS.ifNo X10.here hx rfl (hb hby at_84) rfl ((if0 _ _).trans (feq ((by decide) : ¬ ((1 : Int32) = (0 : Int32)))).1) ?_
      show Steps p.tables e below (T10.setTop (mkF m 87 #[iv p0, iv (1 : Int32), rv w_TRUE, rv w_FALSE, iv (1 : Int32), iv (1 : Int32), iv (1 : Int32)] [])) _
      refine XS.iload X10.here hx rfl (hb hby at_87) rfl ?_
      show Steps p.tables e below (T10.setTop (mkF m 89 #[iv p0, iv (1 : Int32), rv w_TRUE, rv w_FALSE, iv (1 : Int32), iv (1 : Int32), iv (1 : Int32)] [(.int (1 : Int32))])) _
      refine XS.ifNo X10.here hx rfl (hb hby at_89) rfl ((if0 _ _).trans (feq ((by decide) : ¬ ((1 : Int32) = (0 : Int32)))).1) ?_
      show Steps p.tables e below (T10.setTop (mkF m 92 #[iv p0, iv (1 : Int32), rv w_TRUE, rv w_FALSE, iv (1 : Int32), iv (1 : Int32), iv (1 : Int32)] [])) _
      refine XS.iload X10.here hx rfl (hb hby at_92) rfl ?_
      show Steps p.tables e below (T10.setTop (mkF m 94 #[iv p0, iv (1 : Int32), rv w_TRUE, rv w_FALSE, iv (1 : Int32), iv (1 : Int32), iv (1 : Int32)] [(.int (1 : Int32))])) _
      refine XS.ifNo X10.here hx rfl (hb hby at_94) rfl ((if0 _ _).trans (feq ((by decide) : ¬ ((1 : Int32) = (0 : Int32)))).1) ?_
      show Steps p.tables e below (T10.setTop (mkF m 97 #[iv p0, iv (1 : Int32), rv w_TRUE, rv w_FALSE, iv (1 : Int32), iv (1 : Int32), iv (1 : Int32)] [])) _
      refine XS.iconst X10.here hx rfl (hb hby at_97) ?_
      show Steps p.tables e below (T10.setTop (mkF m 98 #[iv p0, iv (1 : Int32), rv w_TRUE, rv w_FALSE, iv (1 : Int32), iv (1 : Int32), iv (1 : Int32)] [(.int (1 : Int32))])) _
      refine XS.goto X10.here hx rfl (pc0 := 98) (pc' := 102) rfl (hb hby at_98) (by decide) (by decide) ?_
      exact k
    obtain ⟨fs, hr, hrun, hended, hW, hsame⟩ := X10.leave (v := some (.int (1 : Int32))) (fun h => by rw [Bd.returns] at h; cases h)
    refine Go.fin (S' := T10.setFrames fs) ?_ hrun hended ⟨_, _, rfl, ?_, ⟨_, rfl⟩, hW, hsame.mono (by decide) (by decide)⟩
    · exact retOut X10 hx Bd.returns (by decide) (Or.inl ⟨rfl, Or.inr (Or.inl rfl), _, rfl⟩) (hb hby at_102) hr
    · show Q_rm0 Z p0 w_TRUE w_FALSE w_UNKNOWN h0 n0 (some (.int (1 : Int32))) T10.heap _
      rw [e10]
      exact ⟨rfl, N10, rfl⟩
set_option maxRecDepth 65536 in
set_option maxHeartbeats 40000000 in
theorem comes_1 {Post : Tables → Env → Array Value → State → Outcome → State → Prop} (hpost : ∀ tb e args s v u, (limb_1_1.after args s (.returned v) u = true ∧ limb_1_2.after args s (.returned v) u = true ∧ True) → FrameEnd s (.returned v) u (Jvm.fieldLocs frame_1_writes args s ++ Jvm.arrayLocs frame_1_arrays args s ++ Jvm.staticLocs frame_1_statics s) 0 0 → Post tb e args s (.returned v) u) :
    ArmFor flags0 classFile x code maxLocals ret World_1 tables_1 room_1 Calls_1 rest_1 Pre_1 Post := by
  intro l hfl _ _ p e ha hc hk s m args below hf hA hF happ hP
  obtain ⟨hcalls, hrest, hpre⟩ := hP
  obtain ⟨-, -, -, hnamed, -, -, -, hat⟩ := (Spec.applies_iff hf).mp happ
  obtain ⟨hg, hn⟩ := and_e (Cond.before_iff.mp (show (Jvm.Cond.and given_1 narrow_1).before args s = true from hpre))
  obtain ⟨hgl, hgr⟩ := and_e hg
  obtain ⟨w0, rfl⟩ : ∃ w0 : Value, args = #[w0] := by
    have hs : args.size = 1 := by simpa [Cond.value, given_1] using hgl
    obtain ⟨L⟩ := args
    match L, hs with
    | [w0], _ => exact ⟨w0, rfl⟩
  have hw := fun d (hd : d ∈ tables_1) => atoms_spec (ws := Jvm.Cond.code x code maxLocals ret :: tables_1) hat d (List.mem_cons_of_mem _ hd)
  have hfit : Fit s := fun {y c} hc i hi => by
    obtain ⟨ha, rfl⟩ := Array.getElem?_eq_some_iff.mp hc
    have q := List.all_eq_true.mp ((Array.all_eq_true_iff_forall_mem.mp hF) _ (Array.getElem_mem ha)) i (List.mem_range.mpr hi)
    simpa [Array.getElem?_eq_getElem hi] using q
  obtain ⟨i0, ei0⟩ := is_v hgr
  obtain rfl : w0 = (.int i0) := Option.some.inj ei0
  obtain ⟨hna, hnb⟩ := and_e hn
  obtain ⟨w_FALSE, ev_FALSE⟩ := exa_v hna
  have E_FALSE := Exa.start ev_FALSE hna
  have S_FALSE := Sta.start ev_FALSE (Or.inr ⟨(own_w hw 2 rfl), (own_w hw 5 rfl)⟩)
  obtain ⟨hnba, hnbb⟩ := and_e hnb
  obtain ⟨w_TRUE, ev_TRUE⟩ := exa_v hnba
  have E_TRUE := Exa.start ev_TRUE hnba
  have S_TRUE := Sta.start ev_TRUE (Or.inr ⟨(own_w hw 2 rfl), (own_w hw 7 rfl)⟩)
  obtain ⟨hnbba, hnbbb⟩ := and_e hnbb
  obtain ⟨w_UNKNOWN, ev_UNKNOWN⟩ := exa_v hnbba
  have E_UNKNOWN := Exa.start ev_UNKNOWN hnbba
  have S_UNKNOWN := Sta.start ev_UNKNOWN (Or.inr ⟨(own_w hw 2 rfl), (own_w hw 9 rfl)⟩)
  obtain ⟨hnbbba, hnbbbb⟩ := and_e hnbbb
  obtain ⟨hnbbbba, hnbbbbb⟩ := and_e hnbbbb
  have F_ordinal_FALSE := Fld.start ((fld_at ev_FALSE).symm.trans (own_eqI hnbbba))
  have F_ordinal_UNKNOWN := Fld.start ((fld_at ev_UNKNOWN).symm.trans (own_eqI hnbbbba))
  have F_ordinal_TRUE := Fld.start ((fld_at ev_TRUE).symm.trans (own_eqI hnbbbbb))
  obtain ⟨n, o, h1, h2, h3, _, L, rfl, ⟨rfl, N, -⟩, hq⟩ := rm0 l s _ hw tables_1 i0 w_TRUE w_FALSE w_UNKNOWN s.heap s.heap.size (Old.start s) S_TRUE S_FALSE S_UNKNOWN E_TRUE E_FALSE E_UNKNOWN (Fld.ne F_ordinal_FALSE F_ordinal_TRUE (by decide)) (Fld.ne F_ordinal_TRUE F_ordinal_UNKNOWN (by decide)) (Fld.ne F_ordinal_FALSE F_ordinal_UNKNOWN (by decide)) p e ha hc hk s m _ below hf ((Spec.applies_iff_loose hf).mp happ).1 ⟨rfl, State.Warmed39.refl s, rfl⟩ trivial
  refine ⟨n, _, h1, h2, h3, hpost _ _ _ _ _ _ ⟨Cond.after_iff.mpr rfl, Cond.after_iff.mpr (eq_i res_at (Term.int_eval (1)) rfl), trivial⟩ ⟨hq.1, hq.2.1, (hq.2.2.sift fun y hy => Or.inr (N y hy)).mono (by decide) (by decide)⟩⟩
theorem main_1_1 : Claimed_1_1 := comes_1 fun _ _ _ _ _ _ h hF => ⟨h.1, hF⟩
theorem main_1_2 : Claimed_1_2 := comes_1 fun _ _ _ _ _ _ h hF => ⟨h.2.1, hF⟩
end Jvm.Pilot.@@N@@
namespace Jvm.Pilot.@@N@@
open Jvm Jvm.ClassFile Sem Op Lib Jvm.Free Jvm.Stand Jvm.Pilot.@@N@@.Jvm.D
/-! MADE BY PROGRAM (witnessworld.py) out of the Statement's table words and the real class files: 12 classes; the members and pool entries that the words name. The judged class is class 1, her method 1. -/
namespace start1
open Jvm.ClassFile
def u (s : String) : CpInfo := .utf8 (stringToUtf16 s)
/-- a pool by its gaps: so many unusable entries, then the entry; so many at the end -/
def gap : Nat → List CpInfo → List CpInfo
  | 0, r => r
  | n + 1, r => .unusable :: gap n r
def poolList (es : List (Nat × CpInfo)) (last : Nat) : List CpInfo := es.foldr (fun e r => gap e.1 (e.2 :: r)) (gap last [])
def pool (es : List (Nat × CpInfo)) (last : Nat) : Array CpInfo := ⟨poolList es last⟩
def fileOf (pool : Array CpInfo) (this : Nat) (attrs : Array Attribute := #[]) (ms : Array MethodInfo := #[]) (fl : Nat := 33) (sup : Nat := 0) (ifs : Array Nat := #[]) (fds : Array FieldInfo := #[]) : ClassFile where
  minorVersion := 0
  majorVersion := 65
  constantPool := pool
  accessFlags := fl
  thisClass := this
  superClass := sup
  interfaces := ifs
  fields := fds
  methods := ms
  attributes := attrs
def plain (name : String) (sup : Option ClassId) : Class where
  name := name
  kind := .ordinary
  loader := none
  accessFlags := 33
  super := sup
  interfaces := #[]
  cf := none
  fields := #[]
  methods := #[]
  instanceTypes := #[]
  staticTypes := #[]
  resolved := #[]
  callSites := []
  init := .initialized
  statics := none
  mirror := none

def pool0 : Array CpInfo := pool [(5, u "<init>"), (0, u "()V"), (1, .class_ 10), (1, u "java/lang/Object")] 113

def k0m0 : Method := { name := "<init>", desc := "()V", sig := { parameters := [], returnType := none }, accessFlags := 1, code := none }
/-- java/lang/Object -/
def k0 : Class := { plain "java/lang/Object" none with
  accessFlags := 33
  interfaces := #[]
  cf := some (fileOf pool0 8 #[] #[{ accessFlags := 1, nameIndex := 5, descriptorIndex := 6, attributes := #[] }] 33 0 #[] #[])
  fields := #[]
  methods := #[k0m0]
  instanceTypes := #[]
  staticTypes := #[]
  resolved := Array.replicate 124 none
  statics := none }

def pool1 : Array CpInfo := pool [(2, .class_ 4), (1, u "java/lang/Object"), (0, u "<init>"), (0, u "()V"), (0, .methodref 8 9), (0, .class_ 10), (0, .nameAndType 11 12), (0, u "com/example/ward5/ward5/rule/Truth"), (0, u "of"), (0, u "(Z)Lcom/example/ward5/ward5/rule/Truth;"), (0, .fieldref 8 14), (0, .nameAndType 15 16), (0, u "UNKNOWN"), (0, u "Lcom/example/ward5/ward5/rule/Truth;"), (0, .fieldref 8 18), (0, .nameAndType 19 16), (0, u "TRUE"), (0, .methodref 8 21), (0, .nameAndType 22 23), (0, u "not"), (0, u "()Lcom/example/ward5/ward5/rule/Truth;"), (0, .class_ 25), (0, u "com/example/ward5/ward5/rule/TruthOfPinLaw"), (2, u "law"), (0, u "(I)Z")] 3

def k1m0 : Method := { name := "<init>", desc := "()V", sig := { parameters := [], returnType := none }, accessFlags := 1, code := none }
def k1c1 : Code := { maxStack := 2, maxLocals := 7, code := code, exceptionTable := #[], attributes := #[] }
def k1m1 : Method := { name := "law", desc := "(I)Z", sig := { parameters := [.int], returnType := some .boolean }, accessFlags := 9, code := some k1c1 }
/-- com/example/ward5/ward5/rule/TruthOfPinLaw -/
def k1 : Class := { plain "com/example/ward5/ward5/rule/TruthOfPinLaw" (some 0) with
  accessFlags := 49
  interfaces := #[]
  cf := some (fileOf pool1 24 #[] #[{ accessFlags := 1, nameIndex := 5, descriptorIndex := 6, attributes := #[] }, { accessFlags := 9, nameIndex := 28, descriptorIndex := 29, attributes := #[] }] 49 2 #[] #[])
  fields := #[]
  methods := #[k1m0, k1m1]
  instanceTypes := #[]
  staticTypes := #[]
  resolved := Array.replicate 33 none
  statics := none }

def pool2 : Array CpInfo := pool [(1, .class_ 2), (0, u "java/lang/constant/Constable"), (0, .class_ 4), (0, u "java/lang/Object")] 6

/-- java/lang/constant/Constable -/
def k2 : Class := { plain "java/lang/constant/Constable" (some 0) with
  accessFlags := 1537
  interfaces := #[]
  cf := some (fileOf pool2 1 #[] #[] 1537 3 #[] #[])
  fields := #[]
  methods := #[]
  instanceTypes := #[]
  staticTypes := #[]
  resolved := Array.replicate 11 none
  statics := none }

def pool3 : Array CpInfo := pool [(1, .class_ 2), (0, u "java/lang/Comparable"), (0, .class_ 4), (0, u "java/lang/Object")] 7

/-- java/lang/Comparable -/
def k3 : Class := { plain "java/lang/Comparable" (some 0) with
  accessFlags := 1537
  interfaces := #[]
  cf := some (fileOf pool3 1 #[] #[] 1537 3 #[] #[])
  fields := #[]
  methods := #[]
  instanceTypes := #[]
  staticTypes := #[]
  resolved := Array.replicate 12 none
  statics := none }

def pool4 : Array CpInfo := pool [(1, .class_ 2), (0, u "java/io/Serializable"), (0, .class_ 4), (0, u "java/lang/Object")] 2

/-- java/io/Serializable -/
def k4 : Class := { plain "java/io/Serializable" (some 0) with
  accessFlags := 1537
  interfaces := #[]
  cf := some (fileOf pool4 1 #[] #[] 1537 3 #[] #[])
  fields := #[]
  methods := #[]
  instanceTypes := #[]
  staticTypes := #[]
  resolved := Array.replicate 7 none
  statics := none }

def pool5 : Array CpInfo := pool [(2, .class_ 4), (1, u "java/lang/Enum"), (0, u "name"), (0, u "Ljava/lang/String;"), (2, u "ordinal"), (0, u "I"), (1, .class_ 14), (1, u "java/lang/Object"), (4, u "hash"), (86, .class_ 108), (1, u "java/lang/Enum$EnumDesc"), (2, .class_ 112), (0, u "java/lang/constant/Constable"), (0, .class_ 114), (0, u "java/lang/Comparable"), (0, .class_ 116), (0, u "java/io/Serializable")] 87

/-- java/lang/Enum -/
def k5 : Class := { plain "java/lang/Enum" (some 0) with
  accessFlags := 1057
  interfaces := #[2, 3, 4]
  cf := some (fileOf pool5 2 #[.nestMembers #[106]] #[] 1057 12 #[111, 113, 115] #[{ accessFlags := 18, nameIndex := 5, descriptorIndex := 6, attributes := #[] }, { accessFlags := 18, nameIndex := 9, descriptorIndex := 10, attributes := #[] }, { accessFlags := 2, nameIndex := 19, descriptorIndex := 10, attributes := #[] }])
  fields := #[{ name := "name", type := (.object "java/lang/String"), accessFlags := 18, slot := 0, constantValue := 0 }, { name := "ordinal", type := .int, accessFlags := 18, slot := 1, constantValue := 0 }, { name := "hash", type := .int, accessFlags := 2, slot := 2, constantValue := 0 }]
  methods := #[]
  instanceTypes := #[(.object "java/lang/String"), .int, .int]
  staticTypes := #[]
  resolved := Array.replicate 204 none
  statics := none }

def pool6 : Array CpInfo := pool [(1, .class_ 2), (0, u "com/example/ward5/ward5/rule/Truth"), (0, .fieldref 1 4), (0, .nameAndType 5 6), (0, u "TRUE"), (0, u "Lcom/example/ward5/ward5/rule/Truth;"), (0, .fieldref 1 8), (0, .nameAndType 9 6), (0, u "FALSE"), (2, u "UNKNOWN"), (2, u "$VALUES"), (0, u "[Lcom/example/ward5/ward5/rule/Truth;"), (6, .class_ 25), (1, u "java/lang/Enum"), (21, u "of"), (0, u "(Z)Lcom/example/ward5/ward5/rule/Truth;"), (1, u "not"), (0, u "()Lcom/example/ward5/ward5/rule/Truth;")] 4

def k6c0 : Code := { maxStack := 1, maxLocals := 1, code := prog_43_method_4_code, exceptionTable := #[], attributes := #[] }
def k6m0 : Method := { name := "of", desc := "(Z)Lcom/example/ward5/ward5/rule/Truth;", sig := { parameters := [.boolean], returnType := some (.object "com/example/ward5/ward5/rule/Truth") }, accessFlags := 9, code := some k6c0 }
def k6c1 : Code := { maxStack := 2, maxLocals := 2, code := prog_43_method_5_code, exceptionTable := #[], attributes := #[] }
def k6m1 : Method := { name := "not", desc := "()Lcom/example/ward5/ward5/rule/Truth;", sig := { parameters := [], returnType := some (.object "com/example/ward5/ward5/rule/Truth") }, accessFlags := 0, code := some k6c1 }
/-- com/example/ward5/ward5/rule/Truth -/
def k6 : Class := { plain "com/example/ward5/ward5/rule/Truth" (some 5) with
  accessFlags := 16433
  interfaces := #[]
  cf := some (fileOf pool6 1 #[] #[{ accessFlags := 9, nameIndex := 47, descriptorIndex := 48, attributes := #[] }, { accessFlags := 0, nameIndex := 50, descriptorIndex := 51, attributes := #[] }] 16433 23 #[] #[{ accessFlags := 16409, nameIndex := 5, descriptorIndex := 6, attributes := #[] }, { accessFlags := 16409, nameIndex := 9, descriptorIndex := 6, attributes := #[] }, { accessFlags := 16409, nameIndex := 12, descriptorIndex := 6, attributes := #[] }, { accessFlags := 4122, nameIndex := 15, descriptorIndex := 16, attributes := #[] }])
  fields := #[{ name := "TRUE", type := (.object "com/example/ward5/ward5/rule/Truth"), accessFlags := 16409, slot := 0, constantValue := 0 }, { name := "FALSE", type := (.object "com/example/ward5/ward5/rule/Truth"), accessFlags := 16409, slot := 1, constantValue := 0 }, { name := "UNKNOWN", type := (.object "com/example/ward5/ward5/rule/Truth"), accessFlags := 16409, slot := 2, constantValue := 0 }, { name := "$VALUES", type := (.array (.object "com/example/ward5/ward5/rule/Truth")), accessFlags := 4122, slot := 3, constantValue := 0 }]
  methods := #[k6m0, k6m1]
  instanceTypes := #[(.object "java/lang/String"), .int, .int]
  staticTypes := #[(.object "com/example/ward5/ward5/rule/Truth"), (.object "com/example/ward5/ward5/rule/Truth"), (.object "com/example/ward5/ward5/rule/Truth"), (.array (.object "com/example/ward5/ward5/rule/Truth"))]
  resolved := Array.replicate 56 none
  statics := some 0 }

def pool7 : Array CpInfo := pool [(1, u "java/lang/Cloneable"), (0, .class_ 1), (0, u "java/lang/Object"), (0, .class_ 3)] 3

/-- java/lang/Cloneable -/
def k7 : Class := { plain "java/lang/Cloneable" (some 0) with
  accessFlags := 1537
  interfaces := #[]
  cf := some (fileOf pool7 2 #[] #[] 1537 4 #[] #[])
  fields := #[]
  methods := #[]
  instanceTypes := #[]
  staticTypes := #[]
  resolved := Array.replicate 8 none
  statics := none }

/-- the primitive byte -/
def k8 : Class := { plain "byte" none with kind := .primitive 'B', accessFlags := 0x411 }
/-- [B -/
def k9 : Class := { plain "[B" (some 0) with kind := .array 8 .byte, interfaces := #[7, 4], accessFlags := 1041 }

/-- the primitive int -/
def k10 : Class := { plain "int" none with kind := .primitive 'I', accessFlags := 0x411 }
/-- [I -/
def k11 : Class := { plain "[I" (some 0) with kind := .array 10 .int, interfaces := #[7, 4], accessFlags := 1041 }

def heap : Heap := #[{ cls := 6, slots := #[.ref 2, .ref 1, .ref 3, .null], vm := .statics 6 },
  { cls := 6, slots := #[.null, .int 1, .int 0], vm := .none },
  { cls := 6, slots := #[.null, .int 0, .int 0], vm := .none },
  { cls := 6, slots := #[.null, .int 2, .int 0], vm := .none }]
def classes : Array Class := #[k0, k1, k2, k3, k4, k5, k6, k7, k8, k9, k10, k11]
def interned : List (Array UInt16 × Addr) := []
def slotsUsed : Nat := 13
def theMethod : MethodId := ⟨1, 1⟩
def args0 : Array Value := #[.int 5]
def aboutOver (below : List Frame) : State where
  vm := { classes := classes, interned := interned.toArray }
  heap := heap
  slotsUsed := slotsUsed
  threads := #[{ frames := .invoking theMethod args0 :: below }]
def below0 : List Frame := [.native { method := ⟨0, 0⟩, args := #[] }]
def about1 : State := aboutOver below0
def p0 : Program := .bare "" "" ""
def e0 : Env := launch0.env 0 0 0
theorem w_frames : about1.frames = Frame.invoking theMethod args0 :: below0 := rfl
set_option maxRecDepth 65536 in
theorem w_args : argsFit about1.vm theMethod args0 = true := by decide +kernel
set_option maxRecDepth 65536 in
theorem w_heap : heapFits about1 = true := by decide +kernel
set_option maxRecDepth 65536 in
theorem w_runnable : about1.curStatus? = some .runnable := by decide +kernel
set_option maxRecDepth 65536 in
theorem w_alone : about1.alone = true := by decide +kernel
set_option maxRecDepth 65536 in
theorem w_named : about1.methodNamed? x = some theMethod := by decide +kernel
set_option maxRecDepth 65536 in
theorem w_hears : about1.hears theMethod below0 = true := by decide +kernel
set_option maxRecDepth 65536 in
theorem w_ripe : about1.ripe theMethod args0 below0 = true := by decide +kernel
theorem w_running : about1.status = .running := rfl
set_option maxRecDepth 65536 in
theorem w_room : about1.hasRoom e0.platform room_1 = true :=
  launch0.hasRoom_least _ room_1 (by decide +kernel) (by decide +kernel) (by decide +kernel) (by decide +kernel) (by decide +kernel) (by decide +kernel)
theorem allAtoms_all (ts : List Jvm.Cond) (a : Array Jvm.Value) (st : Jvm.State) : (allAtoms ts).before a st = ts.all (fun c => c.before a st) := by
  induction ts with
  | nil => rfl
  | cons c t ih =>
    show (Jvm.Cond.and c (allAtoms t)).before a st = _
    rw [Jvm.Cond.before_and, ih, List.all_cons]
def words1 : List Jvm.Cond := Jvm.Cond.code x code maxLocals ret :: tables_1
/-- a 'code' word, met by the world's own term for the bytes: nothing is compared byte by byte -/
theorem code_word {y : MethodName} {bytes : ByteArray} {mx : Nat} {rt : Option FieldType} {a : Array Value} {s : State} {m : MethodId} {meth : Method} {c : Code} (h1 : s.methodNamed? y = some m) (h2 : s.vm.method? m = some meth) (h3 : meth.code = some c) (h4 : c.code = bytes)
    (h5 : (c.maxLocals == mx && c.exceptionTable.isEmpty && decide (c.maxStack ≤ mostOperands) && decide (meth.sig.returnType = rt) && !meth.locks && decide (parseMethodDescriptor y.desc = some meth.sig)) = true) : (Jvm.Cond.code y bytes mx rt).before a s = true := by
  simp only [Bool.and_eq_true, beq_iff_eq, Bool.not_eq_true', decide_eq_true_eq] at h5
  obtain ⟨⟨⟨⟨⟨g1, g2⟩, g3⟩, g4⟩, g5⟩, g6⟩ := h5
  simp [Cond.before, Cond.holds, Cond.value, h1, h2, h3, h4, g1, g2, g3, g4, g5, g6]
def isCode : Jvm.Cond → Bool
  | .code _ _ _ _ => true
  | _ => false
theorem all_split {L : List Jvm.Cond} {P : Jvm.Cond → Bool} (h1 : L.all (fun c => isCode c || P c) = true) (h2 : ∀ c ∈ L.filter isCode, P c = true) : L.all P = true := by
  refine List.all_eq_true.mpr fun c hc => ?_
  have h := List.all_eq_true.mp h1 c hc
  rcases Bool.eq_false_or_eq_true (isCode c) with hi | hi
  · exact h2 c (List.mem_filter.mpr ⟨hc, hi⟩)
  · simpa [hi] using h
set_option maxRecDepth 65536 in
theorem w_c0 : (Jvm.Cond.code x code maxLocals ret).before args0 about1 = true := code_word (m := ⟨1, 1⟩) (meth := k1m1) (c := k1c1) (by decide +kernel) rfl rfl rfl (by decide +kernel)
set_option maxRecDepth 65536 in
theorem w_c1 : (Jvm.Cond.code ({ cls := "com/example/ward5/ward5/rule/Truth", name := "of", desc := "(Z)Lcom/example/ward5/ward5/rule/Truth;" } : Jvm.MethodName) prog_43_method_4_code (1 : Nat) (Option.some (Jvm.ClassFile.FieldType.object "com/example/ward5/ward5/rule/Truth"))).before args0 about1 = true := code_word (m := ⟨6, 0⟩) (meth := k6m0) (c := k6c0) (by decide +kernel) rfl rfl rfl (by decide +kernel)
set_option maxRecDepth 65536 in
theorem w_c2 : (Jvm.Cond.code ({ cls := "com/example/ward5/ward5/rule/Truth", name := "not", desc := "()Lcom/example/ward5/ward5/rule/Truth;" } : Jvm.MethodName) prog_43_method_5_code (2 : Nat) (Option.some (Jvm.ClassFile.FieldType.object "com/example/ward5/ward5/rule/Truth"))).before args0 about1 = true := code_word (m := ⟨6, 1⟩) (meth := k6m1) (c := k6c1) (by decide +kernel) rfl rfl rfl (by decide +kernel)
def codes1 : List Jvm.Cond := [Jvm.Cond.code x code maxLocals ret, Jvm.Cond.code ({ cls := "com/example/ward5/ward5/rule/Truth", name := "of", desc := "(Z)Lcom/example/ward5/ward5/rule/Truth;" } : Jvm.MethodName) prog_43_method_4_code (1 : Nat) (Option.some (Jvm.ClassFile.FieldType.object "com/example/ward5/ward5/rule/Truth")), Jvm.Cond.code ({ cls := "com/example/ward5/ward5/rule/Truth", name := "not", desc := "()Lcom/example/ward5/ward5/rule/Truth;" } : Jvm.MethodName) prog_43_method_5_code (2 : Nat) (Option.some (Jvm.ClassFile.FieldType.object "com/example/ward5/ward5/rule/Truth"))]
set_option maxRecDepth 65536 in
theorem codes_eq : words1.filter isCode = codes1 := rfl
theorem w_codes : ∀ c ∈ words1.filter isCode, c.before args0 about1 = true := by
  rw [codes_eq]
  intro c hc
  simp only [codes1, List.mem_cons, List.not_mem_nil, or_false] at hc
  rcases hc with rfl | rfl | rfl
  · exact w_c0
  · exact w_c1
  · exact w_c2
set_option maxRecDepth 65536 in
theorem w_t1 : words1.all (fun c => isCode c || c.before args0 about1) = true := by decide +kernel
theorem w_tables : (allAtoms (Jvm.Cond.code x code maxLocals ret :: tables_1)).before args0 about1 = true := by
  rw [allAtoms_all]
  show words1.all (fun c => c.before args0 about1) = true
  refine all_split ?_ w_codes
  rw [w_t1]
set_option maxRecDepth 65536 in
theorem w_case : (Jvm.Cond.and given_1 narrow_1).before args0 about1 = true := by decide +kernel
theorem w_applies : (headSpec (Jvm.Cond.code x code maxLocals ret :: tables_1) room_1).applies x e0.platform about1 = true :=
  (Spec.applies_iff w_frames).mpr ⟨w_running, w_runnable, w_alone, w_named, w_hears, w_ripe, w_room, w_tables⟩
theorem atStart : AtStart classFile x code maxLocals ret World_1 tables_1 room_1 Calls_1 rest_1 Pre_1 launch0 p0 e0 about1 theMethod args0 below0 :=
  ⟨lists_1, trivial, launch0.admits_env _ _ _, launch0.least_env, fairChoices_fair.cas, fairChoices_fair.clock, w_frames, w_args, w_heap, w_applies, trivial, trivial, w_case⟩
end start1
theorem witness_1 : WitnessClaimed_1 := ⟨start1.p0, start1.e0, start1.about1, start1.theMethod, start1.args0, start1.below0, start1.atStart⟩
end Jvm.Pilot.@@N@@
