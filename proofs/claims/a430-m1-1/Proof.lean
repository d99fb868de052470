import JvmDerived
import JvmDerived.Pilot.@@N@@Statement
import JvmDerived.Pilot.@@N@@Code
set_option linter.unusedVariables false
set_option linter.unusedSimpArgs false
namespace Jvm.Pilot.@@N@@
open Jvm Jvm.ClassFile Sem Op Lib Jvm.Free Jvm.Stand Jvm.LawKit Jvm.RoadKit Bundle Jvm.Pilot.@@N@@.Jvm.D
/-- from the state S the body comes to its end, and there G holds -/
def Go (p : Program) (e : Env) (below : List Frame) (G : Outcome → State → Prop) (S : State) : Prop := ∃ s₂ o, Steps p.tables e below S s₂ ∧ s₂.status = .running ∧ Ended s₂ below o ∧ G o s₂
theorem Go.step {p : Program} {e : Env} {below : List Frame} {G : Outcome → State → Prop} {S S' : State} (k : ∀ t, Steps p.tables e below S' t → Steps p.tables e below S t) (g : Go p e below G S') : Go p e below G S := by
  obtain ⟨s₂, o, h, r⟩ := g
  exact ⟨s₂, o, k _ h, r⟩
theorem Go.fin {p : Program} {e : Env} {below : List Frame} {G : Outcome → State → Prop} {S S' : State} {o : Outcome} (h : Steps p.tables e below S S') (h1 : S'.status = .running) (h2 : Ended S' below o) (h3 : G o S') : Go p e below G S := ⟨_, _, h, h1, h2, h3⟩
abbrev lv (x : Int64) : Slot := .val (.long x)
abbrev u_ : Slot := .unset
theorem own_w {Z : State} {a0 : Array Value} (hw : ∀ d ∈ tables_1, d.before a0 Z = true) (k : Nat) {d : Jvm.Cond} (h : tables_1[k]? = some d) : d.before a0 Z = true := hw d (List.mem_of_getElem? h)
theorem old_le {Z : State} {n0 : Nat} {h : Heap} (O : Old Z n0 h) : n0 ≤ h.size := O.1 ▸ O.2.1
theorem own_getR {p : Program} {l : Launch} {e : Env} {R : Room} {s : State} {m : MethodId} {args : Array Value} {below : List Frame} {meth : Method} {c : Code} {T : State} {locs : List Loc} {cells slots : Nat} {Z : State} {a0 : Array Value} {h : Heap}
    (X : Stand p l e R s m args below meth c T locs cells slots) (hx : p.tables.exec = Jvm.exec) (hZ : Z.Warmed39 s.vm) {own R0 n d : String} {index : Nat} (hown : s.vm.findClass own = some m.cls) (w : (Jvm.Cond.fieldRef own index R0 n d).before a0 Z = true)
    (eT : T.heap = h) {a : Addr} {v : Value} (F : Fld Z h a R0 n d v) {g : JFrame} (hg : g.method = m) {rest : List Value} (hs : g.stack = .ref a :: rest) (hd : decode c.code g.pc = .ok (.getfield index, 3)) : ∀ target, Steps p.tables e below (T.setTop { g with pc := g.pc + 3, stack := v :: rest }) target → Steps p.tables e below (T.setTop g) target := by
  obtain ⟨cell, cf, k, i, f, h1, h2, h3, h4, -, -, h7⟩ := F
  have hT : Z.Warmed39 T.vm := wtrans hZ X.warmed
  have w' := Cond.fieldRef_warmed39 hT w
  have ho : (Z.setVm T.vm).vm.findClass own = some m.cls := by show T.vm.findClass own = _; rw [X.warmed.alike.findClass]; exact hown
  obtain ⟨c1, k1, i1, f1, e1, hr⟩ := Cond.fieldRef_spec ho w'
  obtain ⟨k', hi, -⟩ := State.fieldFound?_setVm (s := Z) hT.alike h2
  cases e1.symm.trans hi
  intro target kk
  exact (X.getfieldR hx hg hr h3 hs (by rw [eT]; exact h1) h4 h7 hd (Steps.refl _)).trans kk
theorem own_selP {Z s : State} {a0 args : Array Value} {y : MethodName} {n : Nat} (hZ : Z.Warmed39 s.vm) (wi : (Jvm.Cond.instantiable y.cls n).before a0 Z = true) (wn : (Jvm.Cond.instanceMethod y).before a0 Z = true) (wp : (Jvm.Cond.privateMethod y).before a0 Z = true)
    (hy : y.cls ≠ "java/lang/invoke/MethodHandle" ∧ y.cls ≠ "java/lang/invoke/VarHandle") : (Jvm.Cond.selects y.cls y y).before args s = true := by
  have wi' : (Jvm.Cond.instantiable y.cls n).before args s = true := mv hZ wi
  obtain ⟨c, k, h1, h2, -, h4, -⟩ := Cond.instantiable_spec wi'
  exact Stand.selects_self_of_private h1 h2 (by simp only [Bool.or_eq_false_iff] at h4; exact h4.1) (Cond.privateMethod_at (args := args) (mvP hZ wp)) (mvT hZ wn) hy
theorem own_eqI {t : Term} {n : Int32} {args : Array Value} {s : State} (h : (Jvm.Cond.eq t (.int n)).value args s none s [] = some true) : t.eval args s none [] s = some (.int n) := by
  have hn : (Term.int n).eval args s none [] s = some (.int n) := rfl
  cases ht : t.eval args s none [] s with
  | none => simp [Cond.value, ht] at h
  | some v => cases v <;> simp [Cond.value, ht, hn] at h ⊢; exact h
theorem own_eqJ {t : Term} {n : Int64} {args : Array Value} {s : State} (h : (Jvm.Cond.eq t (.long n)).value args s none s [] = some true) : t.eval args s none [] s = some (.long n) := by
  have hn : (Term.long n).eval args s none [] s = some (.long n) := rfl
  cases ht : t.eval args s none [] s with
  | none => simp [Cond.value, ht] at h
  | some v => cases v <;> simp [Cond.value, ht, hn] at h ⊢; exact h
theorem pn_com_example_planstitch_planstitch_core_algebra_AggregateFunction : plainName "com/example/planstitch/planstitch/core/algebra/AggregateFunction" = true := by first | (simp [plainName, overriddenIn]; done) | decide +kernel
theorem d1_0 : decode prog_17_method_4_code 0 = .ok (.aload_n 0, 1) := by decide +kernel
theorem d1_1 : decode prog_17_method_4_code 1 = .ok (.getstatic 7, 3) := by decide +kernel
theorem d1_4 : decode prog_17_method_4_code 4 = .ok (.if_acmp .eq 10, 3) := by decide +kernel
theorem d1_14 : decode prog_17_method_4_code 14 = .ok (.iconst 1, 1) := by decide +kernel
theorem d1_15 : decode prog_17_method_4_code 15 = .ok (.goto 4, 3) := by decide +kernel
theorem d1_19 : decode prog_17_method_4_code 19 = .ok (.ireturn, 1) := by decide +kernel
theorem ef_rmS (m : MethodId) (w_SUM : Addr) : entryFrame m #[(.ref w_SUM)] 1 = mkF m 0 #[.val (.ref w_SUM)] [] := by first | (simp [entryFrame, mkF, argsToLocals, Value.category]; done) | rfl
abbrev rm_rmS : Room := ({ frames := 0, cells := 0, slots := 0, locals := 0 } : Room)
def Q_rmS (Z : State) (w_SUM : Addr) (w_AVG : Addr) (h0 : Heap) (n0 : Nat) (v : Option Value) (h : Heap) (L : List Loc) : Prop := (v = some (.int (1 : Int32))) ∧ (Fr n0 L) ∧ (h = h0)
set_option maxRecDepth 65536 in
set_option maxHeartbeats 40000000 in
theorem rmS (l : Launch) (Z : State) (a0 : Array Value) (hw : ∀ d ∈ tables_1, d.before a0 Z = true) (ws : List Jvm.Cond) (w_SUM : Addr) (w_AVG : Addr) (h0 : Heap) (n0 : Nat) (O : Old Z n0 h0) (S_SUM : Sta Z Z.heap "com/example/planstitch/planstitch/core/algebra/AggregateFunction" "SUM" "Lcom/example/planstitch/planstitch/core/algebra/AggregateFunction;" (.ref w_SUM)) (S_AVG : Sta Z Z.heap "com/example/planstitch/planstitch/core/algebra/AggregateFunction" "AVG" "Lcom/example/planstitch/planstitch/core/algebra/AggregateFunction;" (.ref w_AVG)) :
    MetFree l (⟨"com/example/planstitch/planstitch/core/algebra/AggregateFunction", "takesNumbers", "()Z"⟩ : MethodName) (head1 (Jvm.Cond.code (⟨"com/example/planstitch/planstitch/core/algebra/AggregateFunction", "takesNumbers", "()Z"⟩ : MethodName) prog_17_method_4_code 1 (some .boolean) :: ws) rm_rmS) (fun A_ U => A_ = #[(.ref w_SUM)] ∧ Z.Warmed39 U.vm ∧ U.heap = h0) (fun _ _ _ _ _ => True) (fun _ U o U' => ∃ v L, o = .returned v ∧ Q_rmS Z w_SUM w_AVG h0 n0 v U'.heap L ∧ FrameEnd U o U' L rm_rmS.cells rm_rmS.slots) := by
  refine MetFree.of_bodySF (plainFor_of_name pn_com_example_planstitch_planstitch_core_algebra_AggregateFunction) hisR ?_
  intro p e s m args below meth c s₁ Bd hml0 hP hK
  obtain ⟨rfl, hZ, hh⟩ := hP
  have hx := Bd.exec
  have hby := Bd.bytes
  have hml : c.maxLocals = 1 := hml0
  have hown : s.vm.findClass "com/example/planstitch/planstitch/core/algebra/AggregateFunction" = some m.cls := findClass_of_methodNamed Bd.named
  have hnm := (name_of_methodNamed Bd.named Bd.method).1
  have X0 : Stand p l e rm_rmS s m #[(.ref w_SUM)] below meth c s₁ [] 0 0 := Stand.of_body Bd
  have e0 : s₁.heap = h0 := by rw [← hh, Bd.state]; rfl
  have N0 := Fr.nil n0
  refine Go.step (p := p) (e := e) (below := below) (G := fun o U' => ∃ v L, o = .returned v ∧ Q_rmS Z w_SUM w_AVG h0 n0 v U'.heap L ∧ FrameEnd s o U' L rm_rmS.cells rm_rmS.slots) (S' := s₁.setTop (mkF m 0 #[rv w_SUM] [])) (fun t k => castTop (ef_rmS m w_SUM) k) ?_
  refine Go.step (S' := s₁.setTop (mkF m 1 #[rv w_SUM] [(.ref w_SUM)])) (fun t k => ?_) ?_
  · show Steps p.tables e below (s₁.setTop (mkF m 0 #[rv w_SUM] [])) _
    refine XS.aloadN X0.here hx rfl (hb hby d1_0) rfl rfl ?_
    exact k
  obtain ⟨T1, X1, e1, st1⟩ := getS2 X0 hx hZ hown (host := "") (Or.inl (own_w hw 9 rfl)) Via.refl e0 (S_SUM.ext O.2) (g := (mkF m 1 #[rv w_SUM] [(.ref w_SUM)])) rfl (hb hby d1_1)
  refine Go.step st1 ?_
  show Go p e below _ (T1.setTop (mkF m 4 #[rv w_SUM] [(.ref w_SUM), (.ref w_SUM)]))
  refine Go.step (S' := T1.setTop (mkF m 19 #[rv w_SUM] [(.int (1 : Int32))])) (fun t k => ?_) ?_
  · show Steps p.tables e below (T1.setTop (mkF m 4 #[rv w_SUM] [(.ref w_SUM), (.ref w_SUM)])) _
    refine Jvm.RoadKit.acmp (g := (mkF m 4 #[rv w_SUM] [(.ref w_SUM), (.ref w_SUM)])) X1 hx rfl rfl rfl (pc0 := 4) (pc' := 14) (same := true) rfl (hb hby d1_4) rfl (decide_eq_true rfl) (by decide) (by decide) ?_
    show Steps p.tables e below (T1.setTop (mkF m 14 #[rv w_SUM] [])) _
    refine XS.iconst X1.here hx rfl (hb hby d1_14) ?_
    show Steps p.tables e below (T1.setTop (mkF m 15 #[rv w_SUM] [(.int (1 : Int32))])) _
    refine XS.goto X1.here hx rfl (pc0 := 15) (pc' := 19) rfl (hb hby d1_15) (by decide) (by decide) ?_
    exact k
  obtain ⟨fs, hr, hrun, hended, hW, hsame⟩ := X1.leave (v := some (.int (1 : Int32))) (fun h => by rw [Bd.returns] at h; cases h)
  refine Go.fin (S' := T1.setFrames fs) ?_ hrun hended ⟨_, _, rfl, ?_, ⟨_, rfl⟩, hW, hsame.mono (by decide) (by decide)⟩
  · exact retOut X1 hx Bd.returns (by decide) (Or.inl ⟨rfl, Or.inr (Or.inl rfl), _, rfl⟩) (hb hby d1_19) hr
  · show Q_rmS Z w_SUM w_AVG h0 n0 (some (.int (1 : Int32))) T1.heap _
    rw [e1]
    exact ⟨rfl, N0, rfl⟩
theorem d1_7 : decode prog_17_method_4_code 7 = .ok (.aload_n 0, 1) := by decide +kernel
theorem d1_8 : decode prog_17_method_4_code 8 = .ok (.getstatic 10, 3) := by decide +kernel
theorem d1_11 : decode prog_17_method_4_code 11 = .ok (.if_acmp .ne 7, 3) := by decide +kernel
theorem ef_rmA (m : MethodId) (w_AVG : Addr) : entryFrame m #[(.ref w_AVG)] 1 = mkF m 0 #[.val (.ref w_AVG)] [] := by first | (simp [entryFrame, mkF, argsToLocals, Value.category]; done) | rfl
abbrev rm_rmA : Room := ({ frames := 0, cells := 0, slots := 0, locals := 0 } : Room)
def Q_rmA (Z : State) (w_AVG : Addr) (w_SUM : Addr) (h0 : Heap) (n0 : Nat) (v : Option Value) (h : Heap) (L : List Loc) : Prop := (v = some (.int (1 : Int32))) ∧ (Fr n0 L) ∧ (h = h0)
set_option maxRecDepth 65536 in
set_option maxHeartbeats 40000000 in
theorem rmA (l : Launch) (Z : State) (a0 : Array Value) (hw : ∀ d ∈ tables_1, d.before a0 Z = true) (ws : List Jvm.Cond) (w_AVG : Addr) (w_SUM : Addr) (h0 : Heap) (n0 : Nat) (O : Old Z n0 h0) (S_SUM : Sta Z Z.heap "com/example/planstitch/planstitch/core/algebra/AggregateFunction" "SUM" "Lcom/example/planstitch/planstitch/core/algebra/AggregateFunction;" (.ref w_SUM)) (S_AVG : Sta Z Z.heap "com/example/planstitch/planstitch/core/algebra/AggregateFunction" "AVG" "Lcom/example/planstitch/planstitch/core/algebra/AggregateFunction;" (.ref w_AVG)) (hne : ¬ (w_AVG = w_SUM)) :
    MetFree l (⟨"com/example/planstitch/planstitch/core/algebra/AggregateFunction", "takesNumbers", "()Z"⟩ : MethodName) (head1 (Jvm.Cond.code (⟨"com/example/planstitch/planstitch/core/algebra/AggregateFunction", "takesNumbers", "()Z"⟩ : MethodName) prog_17_method_4_code 1 (some .boolean) :: ws) rm_rmA) (fun A_ U => A_ = #[(.ref w_AVG)] ∧ Z.Warmed39 U.vm ∧ U.heap = h0) (fun _ _ _ _ _ => True) (fun _ U o U' => ∃ v L, o = .returned v ∧ Q_rmA Z w_AVG w_SUM h0 n0 v U'.heap L ∧ FrameEnd U o U' L rm_rmA.cells rm_rmA.slots) := by
  refine MetFree.of_bodySF (plainFor_of_name pn_com_example_planstitch_planstitch_core_algebra_AggregateFunction) hisR ?_
  intro p e s m args below meth c s₁ Bd hml0 hP hK
  obtain ⟨rfl, hZ, hh⟩ := hP
  have hx := Bd.exec
  have hby := Bd.bytes
  have hml : c.maxLocals = 1 := hml0
  have hown : s.vm.findClass "com/example/planstitch/planstitch/core/algebra/AggregateFunction" = some m.cls := findClass_of_methodNamed Bd.named
  have hnm := (name_of_methodNamed Bd.named Bd.method).1
  have X0 : Stand p l e rm_rmA s m #[(.ref w_AVG)] below meth c s₁ [] 0 0 := Stand.of_body Bd
  have e0 : s₁.heap = h0 := by rw [← hh, Bd.state]; rfl
  have N0 := Fr.nil n0
  refine Go.step (p := p) (e := e) (below := below) (G := fun o U' => ∃ v L, o = .returned v ∧ Q_rmA Z w_AVG w_SUM h0 n0 v U'.heap L ∧ FrameEnd s o U' L rm_rmA.cells rm_rmA.slots) (S' := s₁.setTop (mkF m 0 #[rv w_AVG] [])) (fun t k => castTop (ef_rmA m w_AVG) k) ?_
  refine Go.step (S' := s₁.setTop (mkF m 1 #[rv w_AVG] [(.ref w_AVG)])) (fun t k => ?_) ?_
  · show Steps p.tables e below (s₁.setTop (mkF m 0 #[rv w_AVG] [])) _
    refine XS.aloadN X0.here hx rfl (hb hby d1_0) rfl rfl ?_
    exact k
  obtain ⟨T1, X1, e1, st1⟩ := getS2 X0 hx hZ hown (host := "") (Or.inl (own_w hw 9 rfl)) Via.refl e0 (S_SUM.ext O.2) (g := (mkF m 1 #[rv w_AVG] [(.ref w_AVG)])) rfl (hb hby d1_1)
  refine Go.step st1 ?_
  show Go p e below _ (T1.setTop (mkF m 4 #[rv w_AVG] [(.ref w_SUM), (.ref w_AVG)]))
  refine Go.step (S' := T1.setTop (mkF m 8 #[rv w_AVG] [(.ref w_AVG)])) (fun t k => ?_) ?_
  · show Steps p.tables e below (T1.setTop (mkF m 4 #[rv w_AVG] [(.ref w_SUM), (.ref w_AVG)])) _
    refine Jvm.RoadKit.acmp (g := (mkF m 4 #[rv w_AVG] [(.ref w_SUM), (.ref w_AVG)])) X1 hx rfl rfl rfl (pc0 := 4) (pc' := 7) (same := false) rfl (hb hby d1_4) rfl (decide_eq_false fun q => hne (Value.ref.inj q)) (by decide) (by decide) ?_
    show Steps p.tables e below (T1.setTop (mkF m 7 #[rv w_AVG] [])) _
    refine XS.aloadN X1.here hx rfl (hb hby d1_7) rfl rfl ?_
    exact k
  obtain ⟨T2, X2, e2, st2⟩ := getS2 X1 hx hZ hown (host := "") (Or.inl (own_w hw 11 rfl)) Via.refl e1 (S_AVG.ext O.2) (g := (mkF m 8 #[rv w_AVG] [(.ref w_AVG)])) rfl (hb hby d1_8)
  refine Go.step st2 ?_
  show Go p e below _ (T2.setTop (mkF m 11 #[rv w_AVG] [(.ref w_AVG), (.ref w_AVG)]))
  refine Go.step (S' := T2.setTop (mkF m 19 #[rv w_AVG] [(.int (1 : Int32))])) (fun t k => ?_) ?_
  · show Steps p.tables e below (T2.setTop (mkF m 11 #[rv w_AVG] [(.ref w_AVG), (.ref w_AVG)])) _
    refine Jvm.RoadKit.acmp (g := (mkF m 11 #[rv w_AVG] [(.ref w_AVG), (.ref w_AVG)])) X2 hx rfl rfl rfl (pc0 := 11) (pc' := 14) (same := true) rfl (hb hby d1_11) rfl (decide_eq_true rfl) (by decide) (by decide) ?_
    show Steps p.tables e below (T2.setTop (mkF m 14 #[rv w_AVG] [])) _
    refine XS.iconst X2.here hx rfl (hb hby d1_14) ?_
    show Steps p.tables e below (T2.setTop (mkF m 15 #[rv w_AVG] [(.int (1 : Int32))])) _
    refine XS.goto X2.here hx rfl (pc0 := 15) (pc' := 19) rfl (hb hby d1_15) (by decide) (by decide) ?_
    exact k
  obtain ⟨fs, hr, hrun, hended, hW, hsame⟩ := X2.leave (v := some (.int (1 : Int32))) (fun h => by rw [Bd.returns] at h; cases h)
  refine Go.fin (S' := T2.setFrames fs) ?_ hrun hended ⟨_, _, rfl, ?_, ⟨_, rfl⟩, hW, hsame.mono (by decide) (by decide)⟩
  · exact retOut X2 hx Bd.returns (by decide) (Or.inl ⟨rfl, Or.inr (Or.inl rfl), _, rfl⟩) (hb hby d1_19) hr
  · show Q_rmA Z w_AVG w_SUM h0 n0 (some (.int (1 : Int32))) T2.heap _
    rw [e2]
    exact ⟨rfl, N0, rfl⟩
theorem d1_18 : decode prog_17_method_4_code 18 = .ok (.iconst 0, 1) := by decide +kernel
theorem ef_rmN (m : MethodId) (a : Addr) : entryFrame m #[(.ref a)] 1 = mkF m 0 #[.val (.ref a)] [] := by first | (simp [entryFrame, mkF, argsToLocals, Value.category]; done) | rfl
abbrev rm_rmN : Room := ({ frames := 0, cells := 0, slots := 0, locals := 0 } : Room)
def Q_rmN (Z : State) (a : Addr) (w_SUM : Addr) (w_AVG : Addr) (h0 : Heap) (n0 : Nat) (v : Option Value) (h : Heap) (L : List Loc) : Prop := (v = some (.int (0 : Int32))) ∧ (Fr n0 L) ∧ (h = h0)
set_option maxRecDepth 65536 in
set_option maxHeartbeats 40000000 in
theorem rmN (l : Launch) (Z : State) (a0 : Array Value) (hw : ∀ d ∈ tables_1, d.before a0 Z = true) (ws : List Jvm.Cond) (a : Addr) (w_SUM : Addr) (w_AVG : Addr) (h0 : Heap) (n0 : Nat) (O : Old Z n0 h0) (S_SUM : Sta Z Z.heap "com/example/planstitch/planstitch/core/algebra/AggregateFunction" "SUM" "Lcom/example/planstitch/planstitch/core/algebra/AggregateFunction;" (.ref w_SUM)) (S_AVG : Sta Z Z.heap "com/example/planstitch/planstitch/core/algebra/AggregateFunction" "AVG" "Lcom/example/planstitch/planstitch/core/algebra/AggregateFunction;" (.ref w_AVG)) (hne : ¬ (a = w_SUM)) (hne2 : ¬ (a = w_AVG)) :
    MetFree l (⟨"com/example/planstitch/planstitch/core/algebra/AggregateFunction", "takesNumbers", "()Z"⟩ : MethodName) (head1 (Jvm.Cond.code (⟨"com/example/planstitch/planstitch/core/algebra/AggregateFunction", "takesNumbers", "()Z"⟩ : MethodName) prog_17_method_4_code 1 (some .boolean) :: ws) rm_rmN) (fun A_ U => A_ = #[(.ref a)] ∧ Z.Warmed39 U.vm ∧ U.heap = h0) (fun _ _ _ _ _ => True) (fun _ U o U' => ∃ v L, o = .returned v ∧ Q_rmN Z a w_SUM w_AVG h0 n0 v U'.heap L ∧ FrameEnd U o U' L rm_rmN.cells rm_rmN.slots) := by
  refine MetFree.of_bodySF (plainFor_of_name pn_com_example_planstitch_planstitch_core_algebra_AggregateFunction) hisR ?_
  intro p e s m args below meth c s₁ Bd hml0 hP hK
  obtain ⟨rfl, hZ, hh⟩ := hP
  have hx := Bd.exec
  have hby := Bd.bytes
  have hml : c.maxLocals = 1 := hml0
  have hown : s.vm.findClass "com/example/planstitch/planstitch/core/algebra/AggregateFunction" = some m.cls := findClass_of_methodNamed Bd.named
  have hnm := (name_of_methodNamed Bd.named Bd.method).1
  have X0 : Stand p l e rm_rmN s m #[(.ref a)] below meth c s₁ [] 0 0 := Stand.of_body Bd
  have e0 : s₁.heap = h0 := by rw [← hh, Bd.state]; rfl
  have N0 := Fr.nil n0
  refine Go.step (p := p) (e := e) (below := below) (G := fun o U' => ∃ v L, o = .returned v ∧ Q_rmN Z a w_SUM w_AVG h0 n0 v U'.heap L ∧ FrameEnd s o U' L rm_rmN.cells rm_rmN.slots) (S' := s₁.setTop (mkF m 0 #[rv a] [])) (fun t k => castTop (ef_rmN m a) k) ?_
  refine Go.step (S' := s₁.setTop (mkF m 1 #[rv a] [(.ref a)])) (fun t k => ?_) ?_
  · show Steps p.tables e below (s₁.setTop (mkF m 0 #[rv a] [])) _
    refine XS.aloadN X0.here hx rfl (hb hby d1_0) rfl rfl ?_
    exact k
  obtain ⟨T1, X1, e1, st1⟩ := getS2 X0 hx hZ hown (host := "") (Or.inl (own_w hw 9 rfl)) Via.refl e0 (S_SUM.ext O.2) (g := (mkF m 1 #[rv a] [(.ref a)])) rfl (hb hby d1_1)
  refine Go.step st1 ?_
  show Go p e below _ (T1.setTop (mkF m 4 #[rv a] [(.ref w_SUM), (.ref a)]))
  refine Go.step (S' := T1.setTop (mkF m 8 #[rv a] [(.ref a)])) (fun t k => ?_) ?_
  · show Steps p.tables e below (T1.setTop (mkF m 4 #[rv a] [(.ref w_SUM), (.ref a)])) _
    refine Jvm.RoadKit.acmp (g := (mkF m 4 #[rv a] [(.ref w_SUM), (.ref a)])) X1 hx rfl rfl rfl (pc0 := 4) (pc' := 7) (same := false) rfl (hb hby d1_4) rfl (decide_eq_false fun q => hne (Value.ref.inj q)) (by decide) (by decide) ?_
    show Steps p.tables e below (T1.setTop (mkF m 7 #[rv a] [])) _
    refine XS.aloadN X1.here hx rfl (hb hby d1_7) rfl rfl ?_
    exact k
  obtain ⟨T2, X2, e2, st2⟩ := getS2 X1 hx hZ hown (host := "") (Or.inl (own_w hw 11 rfl)) Via.refl e1 (S_AVG.ext O.2) (g := (mkF m 8 #[rv a] [(.ref a)])) rfl (hb hby d1_8)
  refine Go.step st2 ?_
  show Go p e below _ (T2.setTop (mkF m 11 #[rv a] [(.ref w_AVG), (.ref a)]))
  refine Go.step (S' := T2.setTop (mkF m 19 #[rv a] [(.int (0 : Int32))])) (fun t k => ?_) ?_
  · show Steps p.tables e below (T2.setTop (mkF m 11 #[rv a] [(.ref w_AVG), (.ref a)])) _
    refine Jvm.RoadKit.acmp (g := (mkF m 11 #[rv a] [(.ref w_AVG), (.ref a)])) X2 hx rfl rfl rfl (pc0 := 11) (pc' := 18) (same := false) rfl (hb hby d1_11) rfl (decide_eq_false fun q => hne2 (Value.ref.inj q)) (by decide) (by decide) ?_
    show Steps p.tables e below (T2.setTop (mkF m 18 #[rv a] [])) _
    refine XS.iconst X2.here hx rfl (hb hby d1_18) ?_
    exact k
  obtain ⟨fs, hr, hrun, hended, hW, hsame⟩ := X2.leave (v := some (.int (0 : Int32))) (fun h => by rw [Bd.returns] at h; cases h)
  refine Go.fin (S' := T2.setFrames fs) ?_ hrun hended ⟨_, _, rfl, ?_, ⟨_, rfl⟩, hW, hsame.mono (by decide) (by decide)⟩
  · exact retOut X2 hx Bd.returns (by decide) (Or.inl ⟨rfl, Or.inr (Or.inl rfl), _, rfl⟩) (hb hby d1_19) hr
  · show Q_rmN Z a w_SUM w_AVG h0 n0 (some (.int (0 : Int32))) T2.heap _
    rw [e2]
    exact ⟨rfl, N0, rfl⟩
theorem pn_com_example_planstitch_planstitch_core_algebra_AggregateFunctionTakesNumbersPinLaw : plainName "com/example/planstitch/planstitch/core/algebra/AggregateFunctionTakesNumbersPinLaw" = true := by first | (simp [plainName, overriddenIn]; done) | decide +kernel
theorem pd__28_29Z : parseMethodDescriptor "()Z" = some ⟨[], some .boolean⟩ := by decide +kernel
theorem ef_rm0 (m : MethodId) (p0 : Int32) : entryFrame m #[(.int p0)] maxLocals = mkF m 0 #[.val (.int p0), .unset, .unset, .unset] [] := by first | (simp [entryFrame, mkF, argsToLocals, Value.category, maxLocals]; done) | rfl
def Q_rm0 (Z : State) (p0 : Int32) (w_COUNT : Addr) (w_SUM : Addr) (w_AVG : Addr) (w_MIN : Addr) (w_MAX : Addr) (h0 : Heap) (n0 : Nat) (v : Option Value) (h : Heap) (L : List Loc) : Prop := (v = some (.int (1 : Int32))) ∧ (Fr n0 L) ∧ (h = h0)
set_option maxRecDepth 65536 in
set_option maxHeartbeats 40000000 in
theorem rm0 (l : Launch) (Z : State) (a0 : Array Value) (hw : ∀ d ∈ tables_1, d.before a0 Z = true) (ws : List Jvm.Cond) (p0 : Int32) (w_COUNT : Addr) (w_SUM : Addr) (w_AVG : Addr) (w_MIN : Addr) (w_MAX : Addr) (h0 : Heap) (n0 : Nat) (O : Old Z n0 h0) (S_COUNT : Sta Z Z.heap "com/example/planstitch/planstitch/core/algebra/AggregateFunction" "COUNT" "Lcom/example/planstitch/planstitch/core/algebra/AggregateFunction;" (.ref w_COUNT)) (S_SUM : Sta Z Z.heap "com/example/planstitch/planstitch/core/algebra/AggregateFunction" "SUM" "Lcom/example/planstitch/planstitch/core/algebra/AggregateFunction;" (.ref w_SUM)) (S_AVG : Sta Z Z.heap "com/example/planstitch/planstitch/core/algebra/AggregateFunction" "AVG" "Lcom/example/planstitch/planstitch/core/algebra/AggregateFunction;" (.ref w_AVG)) (S_MIN : Sta Z Z.heap "com/example/planstitch/planstitch/core/algebra/AggregateFunction" "MIN" "Lcom/example/planstitch/planstitch/core/algebra/AggregateFunction;" (.ref w_MIN)) (S_MAX : Sta Z Z.heap "com/example/planstitch/planstitch/core/algebra/AggregateFunction" "MAX" "Lcom/example/planstitch/planstitch/core/algebra/AggregateFunction;" (.ref w_MAX)) (E_COUNT : Exa Z Z.heap w_COUNT "com/example/planstitch/planstitch/core/algebra/AggregateFunction") (E_SUM : Exa Z Z.heap w_SUM "com/example/planstitch/planstitch/core/algebra/AggregateFunction") (E_AVG : Exa Z Z.heap w_AVG "com/example/planstitch/planstitch/core/algebra/AggregateFunction") (E_MIN : Exa Z Z.heap w_MIN "com/example/planstitch/planstitch/core/algebra/AggregateFunction") (E_MAX : Exa Z Z.heap w_MAX "com/example/planstitch/planstitch/core/algebra/AggregateFunction") (ne_AVG_SUM : ¬ (w_AVG = w_SUM)) (ne_COUNT_SUM : ¬ (w_COUNT = w_SUM)) (ne_COUNT_AVG : ¬ (w_COUNT = w_AVG)) (ne_MIN_SUM : ¬ (w_MIN = w_SUM)) (ne_MIN_AVG : ¬ (w_MIN = w_AVG)) (ne_MAX_SUM : ¬ (w_MAX = w_SUM)) (ne_MAX_AVG : ¬ (w_MAX = w_AVG)) :
    MetFree l x (head1 (Jvm.Cond.code x code maxLocals ret :: ws) room_1) (fun A_ U => A_ = #[(.int p0)] ∧ Z.Warmed39 U.vm ∧ U.heap = h0) (fun _ _ _ _ _ => True) (fun _ U o U' => ∃ v L, o = .returned v ∧ Q_rm0 Z p0 w_COUNT w_SUM w_AVG w_MIN w_MAX h0 n0 v U'.heap L ∧ FrameEnd U o U' L room_1.cells room_1.slots) := by
  refine MetFree.of_bodySF (plainFor_of_name pn_com_example_planstitch_planstitch_core_algebra_AggregateFunctionTakesNumbersPinLaw) hisR ?_
  intro p e s m args below meth c s₁ Bd hml0 hP hK
  obtain ⟨rfl, hZ, hh⟩ := hP
  have hx := Bd.exec
  have hby := Bd.bytes
  have hml : c.maxLocals = 4 := hml0
  have hown : s.vm.findClass "com/example/planstitch/planstitch/core/algebra/AggregateFunctionTakesNumbersPinLaw" = some m.cls := findClass_of_methodNamed Bd.named
  have hnm := (name_of_methodNamed Bd.named Bd.method).1
  have X0 : Stand p l e room_1 s m #[(.int p0)] below meth c s₁ [] 0 0 := Stand.of_body Bd
  have e0 : s₁.heap = h0 := by rw [← hh, Bd.state]; rfl
  have N0 := Fr.nil n0
  refine Go.step (p := p) (e := e) (below := below) (G := fun o U' => ∃ v L, o = .returned v ∧ Q_rm0 Z p0 w_COUNT w_SUM w_AVG w_MIN w_MAX h0 n0 v U'.heap L ∧ FrameEnd s o U' L room_1.cells room_1.slots) (S' := s₁.setTop (mkF m 0 #[iv p0, u_, u_, u_] [])) (fun t k => castTop (ef_rm0 m p0) k) ?_
  refine Go.step (S' := s₁.setTop (mkF m 8 #[iv p0, iv ((p0 &&& (2147483647 : Int32)) % (5 : Int32)), u_, u_] [(.int ((p0 &&& (2147483647 : Int32)) % (5 : Int32)))])) (fun t k => ?_) ?_
  · show Steps p.tables e below (s₁.setTop (mkF m 0 #[iv p0, u_, u_, u_] [])) _
    refine XS.iloadN X0.here hx rfl (hb hby at_0) rfl ?_
    show Steps p.tables e below (s₁.setTop (mkF m 1 #[iv p0, u_, u_, u_] [(.int p0)])) _
    refine X0.ldcInt hx hown (mvT hZ (own_w hw 0 rfl)) (g := (mkF m 1 #[iv p0, u_, u_, u_] [(.int p0)])) rfl (hb hby at_1) _ ?_
    show Steps p.tables e below (s₁.setTop (mkF m 3 #[iv p0, u_, u_, u_] [(.int (2147483647 : Int32)), (.int p0)])) _
    refine XS.iand X0.here hx rfl (hb hby at_3) rfl ?_
    show Steps p.tables e below (s₁.setTop (mkF m 4 #[iv p0, u_, u_, u_] [(.int (p0 &&& (2147483647 : Int32)))])) _
    refine XS.iconst X0.here hx rfl (hb hby at_4) ?_
    show Steps p.tables e below (s₁.setTop (mkF m 5 #[iv p0, u_, u_, u_] [(.int (5 : Int32)), (.int (p0 &&& (2147483647 : Int32)))])) _
    refine iremM X0 hx rfl (hb hby at_5) rfl (by decide) ?_
    show Steps p.tables e below (s₁.setTop (mkF m 6 #[iv p0, u_, u_, u_] [(.int ((p0 &&& (2147483647 : Int32)) % (5 : Int32)))])) _
    refine XS.istoreN X0.here hx rfl (hb hby at_6) rfl (l' := #[iv p0, iv ((p0 &&& (2147483647 : Int32)) % (5 : Int32)), u_, u_]) rfl ?_
    show Steps p.tables e below (s₁.setTop (mkF m 7 #[iv p0, iv ((p0 &&& (2147483647 : Int32)) % (5 : Int32)), u_, u_] [])) _
    refine XS.iloadN X0.here hx rfl (hb hby at_7) rfl ?_
    exact k
  by_cases hc8 : ((p0 &&& (2147483647 : Int32)) % (5 : Int32)) = (0 : Int32)
  · skip
    refine Go.step (S' := s₁.setTop (mkF m 11 #[iv p0, iv ((p0 &&& (2147483647 : Int32)) % (5 : Int32)), u_, u_] [])) (fun t k => ?_) ?_
    · show Steps p.tables e below (s₁.setTop (mkF m 8 #[iv p0, iv ((p0 &&& (2147483647 : Int32)) % (5 : Int32)), u_, u_] [(.int ((p0 &&& (2147483647 : Int32)) % (5 : Int32)))])) _
      refine XS.ifNo X0.here hx rfl (hb hby at_8) rfl ((if0 _ _).trans (teq (hc8 : ((p0 &&& (2147483647 : Int32)) % (5 : Int32)) = (0 : Int32))).2) ?_
      exact k
    obtain ⟨T1, X1, e1, st1⟩ := getS2 X0 hx hZ hown (host := "") (Or.inl (own_w hw 1 rfl)) Via.refl e0 (S_COUNT.ext O.2) (g := (mkF m 11 #[iv p0, iv ((p0 &&& (2147483647 : Int32)) % (5 : Int32)), u_, u_] [])) rfl (hb hby at_11)
    refine Go.step st1 ?_
    show Go p e below _ (T1.setTop (mkF m 14 #[iv p0, iv ((p0 &&& (2147483647 : Int32)) % (5 : Int32)), u_, u_] [(.ref w_COUNT)]))
    refine Go.step (S' := T1.setTop (mkF m 69 #[iv p0, iv ((p0 &&& (2147483647 : Int32)) % (5 : Int32)), rv w_COUNT, iv (0 : Int32)] [(.ref w_COUNT)])) (fun t k => ?_) ?_
    · show Steps p.tables e below (T1.setTop (mkF m 14 #[iv p0, iv ((p0 &&& (2147483647 : Int32)) % (5 : Int32)), u_, u_] [(.ref w_COUNT)])) _
      refine XS.astoreN X1.here hx rfl (hb hby at_14) rfl rfl (l' := #[iv p0, iv ((p0 &&& (2147483647 : Int32)) % (5 : Int32)), rv w_COUNT, u_]) rfl ?_
      show Steps p.tables e below (T1.setTop (mkF m 15 #[iv p0, iv ((p0 &&& (2147483647 : Int32)) % (5 : Int32)), rv w_COUNT, u_] [])) _
      refine XS.iconst X1.here hx rfl (hb hby at_15) ?_
      show Steps p.tables e below (T1.setTop (mkF m 16 #[iv p0, iv ((p0 &&& (2147483647 : Int32)) % (5 : Int32)), rv w_COUNT, u_] [(.int (0 : Int32))])) _
      refine XS.istoreN X1.here hx rfl (hb hby at_16) rfl (l' := #[iv p0, iv ((p0 &&& (2147483647 : Int32)) % (5 : Int32)), rv w_COUNT, iv (0 : Int32)]) rfl ?_
      show Steps p.tables e below (T1.setTop (mkF m 17 #[iv p0, iv ((p0 &&& (2147483647 : Int32)) % (5 : Int32)), rv w_COUNT, iv (0 : Int32)] [])) _
      refine XS.goto X1.here hx rfl (pc0 := 17) (pc' := 68) rfl (hb hby at_17) (by decide) (by decide) ?_
      show Steps p.tables e below (T1.setTop (mkF m 68 #[iv p0, iv ((p0 &&& (2147483647 : Int32)) % (5 : Int32)), rv w_COUNT, iv (0 : Int32)] [])) _
      refine XS.aloadN X1.here hx rfl (hb hby at_68) rfl rfl ?_
      exact k
    obtain ⟨cq2, kq2, q2a, q2b, q2c⟩ := isOf hZ e1 (E_COUNT.ext O.2)
    obtain ⟨_, _, ⟨T2, L2, k2, n2⟩, -, X2, ⟨Lc2, hQ2, l2, y2, z2⟩, st2⟩ := X1.virtualBack hx (y := (⟨"com/example/planstitch/planstitch/core/algebra/AggregateFunction", "takesNumbers", "()Z"⟩ : MethodName)) (z := (⟨"com/example/planstitch/planstitch/core/algebra/AggregateFunction", "takesNumbers", "()Z"⟩ : MethodName)) hown (mvT hZ (own_w hw 4 rfl)) (mvT hZ (own_w hw 5 rfl)) (notFace_of_selects (args := #[]) (mvT hZ (own_w hw 7 rfl))) (mvT hZ (own_w hw 7 rfl)) (mvT hZ (own_w hw 6 rfl)) (by decide) (backOf (W := 0) (rmN l Z a0 hw [] w_COUNT w_SUM w_AVG h0 n0 O S_SUM S_AVG ne_COUNT_SUM ne_COUNT_AVG) hZ (own_w hw 8 rfl) (own_w hw 2 rfl) (by decide) (by decide)) q2a q2c (g := (mkF m 69 #[iv p0, iv ((p0 &&& (2147483647 : Int32)) % (5 : Int32)), rv w_COUNT, iv (0 : Int32)] [(.ref w_COUNT)])) rfl (by rw [hml]; rfl) (Steps.refl _) (argsL := []) (rest := []) (lenOf pd__28_29Z rfl) rfl (by show 2 * 0 + _ ≤ _; exact Nat.le_of_eq rfl) (hb hby at_69) (fun _ _ => ⟨rfl, e1, (by decide : 0 + 0 ≤ _), (by decide : 0 + 0 ≤ _)⟩)
    dsimp only [Pt.U, Pt.locs, Pt.cells, Pt.slots] at X2 l2 y2 z2 st2 hQ2
    subst l2 y2 z2
    obtain ⟨rfl, Nq2, e2⟩ := hQ2
    have N2 := Fr.app N0 Nq2
    refine Go.step (fun t k => st2.trans k) ?_
    show Go p e below _ (T2.setTop (mkF m 72 #[iv p0, iv ((p0 &&& (2147483647 : Int32)) % (5 : Int32)), rv w_COUNT, iv (0 : Int32)] [(.int (0 : Int32))]))
    refine Go.step (S' := T2.setTop (mkF m 81 #[iv p0, iv ((p0 &&& (2147483647 : Int32)) % (5 : Int32)), rv w_COUNT, iv (0 : Int32)] [(.int (1 : Int32))])) (fun t k => ?_) ?_
    · show Steps p.tables e below (T2.setTop (mkF m 72 #[iv p0, iv ((p0 &&& (2147483647 : Int32)) % (5 : Int32)), rv w_COUNT, iv (0 : Int32)] [(.int (0 : Int32))])) _
      refine XS.iloadN X2.here hx rfl (hb hby at_72) rfl ?_
      show Steps p.tables e below (T2.setTop (mkF m 73 #[iv p0, iv ((p0 &&& (2147483647 : Int32)) % (5 : Int32)), rv w_COUNT, iv (0 : Int32)] [(.int (0 : Int32)), (.int (0 : Int32))])) _
      refine XS.icmpNo X2.here hx rfl (hb hby at_73) rfl (teq ((by decide) : (0 : Int32) = (0 : Int32))).2 ?_
      show Steps p.tables e below (T2.setTop (mkF m 76 #[iv p0, iv ((p0 &&& (2147483647 : Int32)) % (5 : Int32)), rv w_COUNT, iv (0 : Int32)] [])) _
      refine XS.iconst X2.here hx rfl (hb hby at_76) ?_
      show Steps p.tables e below (T2.setTop (mkF m 77 #[iv p0, iv ((p0 &&& (2147483647 : Int32)) % (5 : Int32)), rv w_COUNT, iv (0 : Int32)] [(.int (1 : Int32))])) _
      refine XS.goto X2.here hx rfl (pc0 := 77) (pc' := 81) rfl (hb hby at_77) (by decide) (by decide) ?_
      exact k
    obtain ⟨fs, hr, hrun, hended, hW, hsame⟩ := X2.leave (v := some (.int (1 : Int32))) (fun h => by rw [Bd.returns] at h; cases h)
    refine Go.fin (S' := T2.setFrames fs) ?_ hrun hended ⟨_, _, rfl, ?_, ⟨_, rfl⟩, hW, hsame.mono (by decide) (by decide)⟩
    · exact retOut X2 hx Bd.returns (by decide) (Or.inl ⟨rfl, Or.inr (Or.inl rfl), _, rfl⟩) (hb hby at_81) hr
    · show Q_rm0 Z p0 w_COUNT w_SUM w_AVG w_MIN w_MAX h0 n0 (some (.int (1 : Int32))) T2.heap _
      rw [e2]
      exact ⟨rfl, N2, rfl⟩
  · skip
    refine Go.step (S' := s₁.setTop (mkF m 22 #[iv p0, iv ((p0 &&& (2147483647 : Int32)) % (5 : Int32)), u_, u_] [(.int (1 : Int32)), (.int ((p0 &&& (2147483647 : Int32)) % (5 : Int32)))])) (fun t k => ?_) ?_
    · show Steps p.tables e below (s₁.setTop (mkF m 8 #[iv p0, iv ((p0 &&& (2147483647 : Int32)) % (5 : Int32)), u_, u_] [(.int ((p0 &&& (2147483647 : Int32)) % (5 : Int32)))])) _
      refine XS.ifYes X0.here hx rfl (pc0 := 8) (pc' := 20) rfl (hb hby at_8) rfl ((if0 _ _).trans (feq (hc8 : ¬ (((p0 &&& (2147483647 : Int32)) % (5 : Int32)) = (0 : Int32)))).2) (by decide) (by decide) ?_
      show Steps p.tables e below (s₁.setTop (mkF m 20 #[iv p0, iv ((p0 &&& (2147483647 : Int32)) % (5 : Int32)), u_, u_] [])) _
      refine XS.iloadN X0.here hx rfl (hb hby at_20) rfl ?_
      show Steps p.tables e below (s₁.setTop (mkF m 21 #[iv p0, iv ((p0 &&& (2147483647 : Int32)) % (5 : Int32)), u_, u_] [(.int ((p0 &&& (2147483647 : Int32)) % (5 : Int32)))])) _
      refine XS.iconst X0.here hx rfl (hb hby at_21) ?_
      exact k
    by_cases hc22 : ((p0 &&& (2147483647 : Int32)) % (5 : Int32)) = (1 : Int32)
    · skip
      refine Go.step (S' := s₁.setTop (mkF m 25 #[iv p0, iv ((p0 &&& (2147483647 : Int32)) % (5 : Int32)), u_, u_] [])) (fun t k => ?_) ?_
      · show Steps p.tables e below (s₁.setTop (mkF m 22 #[iv p0, iv ((p0 &&& (2147483647 : Int32)) % (5 : Int32)), u_, u_] [(.int (1 : Int32)), (.int ((p0 &&& (2147483647 : Int32)) % (5 : Int32)))])) _
        refine XS.icmpNo X0.here hx rfl (hb hby at_22) rfl (teq (hc22 : ((p0 &&& (2147483647 : Int32)) % (5 : Int32)) = (1 : Int32))).2 ?_
        exact k
      obtain ⟨T3, X3, e3, st3⟩ := getS2 X0 hx hZ hown (host := "") (Or.inl (own_w hw 15 rfl)) Via.refl e0 (S_SUM.ext O.2) (g := (mkF m 25 #[iv p0, iv ((p0 &&& (2147483647 : Int32)) % (5 : Int32)), u_, u_] [])) rfl (hb hby at_25)
      refine Go.step st3 ?_
      show Go p e below _ (T3.setTop (mkF m 28 #[iv p0, iv ((p0 &&& (2147483647 : Int32)) % (5 : Int32)), u_, u_] [(.ref w_SUM)]))
      refine Go.step (S' := T3.setTop (mkF m 69 #[iv p0, iv ((p0 &&& (2147483647 : Int32)) % (5 : Int32)), rv w_SUM, iv (1 : Int32)] [(.ref w_SUM)])) (fun t k => ?_) ?_
      · show Steps p.tables e below (T3.setTop (mkF m 28 #[iv p0, iv ((p0 &&& (2147483647 : Int32)) % (5 : Int32)), u_, u_] [(.ref w_SUM)])) _
        refine XS.astoreN X3.here hx rfl (hb hby at_28) rfl rfl (l' := #[iv p0, iv ((p0 &&& (2147483647 : Int32)) % (5 : Int32)), rv w_SUM, u_]) rfl ?_
        show Steps p.tables e below (T3.setTop (mkF m 29 #[iv p0, iv ((p0 &&& (2147483647 : Int32)) % (5 : Int32)), rv w_SUM, u_] [])) _
        refine XS.iconst X3.here hx rfl (hb hby at_29) ?_
        show Steps p.tables e below (T3.setTop (mkF m 30 #[iv p0, iv ((p0 &&& (2147483647 : Int32)) % (5 : Int32)), rv w_SUM, u_] [(.int (1 : Int32))])) _
        refine XS.istoreN X3.here hx rfl (hb hby at_30) rfl (l' := #[iv p0, iv ((p0 &&& (2147483647 : Int32)) % (5 : Int32)), rv w_SUM, iv (1 : Int32)]) rfl ?_
        show Steps p.tables e below (T3.setTop (mkF m 31 #[iv p0, iv ((p0 &&& (2147483647 : Int32)) % (5 : Int32)), rv w_SUM, iv (1 : Int32)] [])) _
        refine XS.goto X3.here hx rfl (pc0 := 31) (pc' := 68) rfl (hb hby at_31) (by decide) (by decide) ?_
        show Steps p.tables e below (T3.setTop (mkF m 68 #[iv p0, iv ((p0 &&& (2147483647 : Int32)) % (5 : Int32)), rv w_SUM, iv (1 : Int32)] [])) _
        refine XS.aloadN X3.here hx rfl (hb hby at_68) rfl rfl ?_
        exact k
      obtain ⟨cq4, kq4, q4a, q4b, q4c⟩ := isOf hZ e3 (E_SUM.ext O.2)
      obtain ⟨_, _, ⟨T4, L4, k4, n4⟩, -, X4, ⟨Lc4, hQ4, l4, y4, z4⟩, st4⟩ := X3.virtualBack hx (y := (⟨"com/example/planstitch/planstitch/core/algebra/AggregateFunction", "takesNumbers", "()Z"⟩ : MethodName)) (z := (⟨"com/example/planstitch/planstitch/core/algebra/AggregateFunction", "takesNumbers", "()Z"⟩ : MethodName)) hown (mvT hZ (own_w hw 4 rfl)) (mvT hZ (own_w hw 5 rfl)) (notFace_of_selects (args := #[]) (mvT hZ (own_w hw 7 rfl))) (mvT hZ (own_w hw 7 rfl)) (mvT hZ (own_w hw 6 rfl)) (by decide) (backOf (W := 0) (rmS l Z a0 hw [] w_SUM w_AVG h0 n0 O S_SUM S_AVG) hZ (own_w hw 8 rfl) (own_w hw 2 rfl) (by decide) (by decide)) q4a q4c (g := (mkF m 69 #[iv p0, iv ((p0 &&& (2147483647 : Int32)) % (5 : Int32)), rv w_SUM, iv (1 : Int32)] [(.ref w_SUM)])) rfl (by rw [hml]; rfl) (Steps.refl _) (argsL := []) (rest := []) (lenOf pd__28_29Z rfl) rfl (by show 2 * 0 + _ ≤ _; exact Nat.le_of_eq rfl) (hb hby at_69) (fun _ _ => ⟨rfl, e3, (by decide : 0 + 0 ≤ _), (by decide : 0 + 0 ≤ _)⟩)
      dsimp only [Pt.U, Pt.locs, Pt.cells, Pt.slots] at X4 l4 y4 z4 st4 hQ4
      subst l4 y4 z4
      obtain ⟨rfl, Nq4, e4⟩ := hQ4
      have N4 := Fr.app N0 Nq4
      refine Go.step (fun t k => st4.trans k) ?_
      show Go p e below _ (T4.setTop (mkF m 72 #[iv p0, iv ((p0 &&& (2147483647 : Int32)) % (5 : Int32)), rv w_SUM, iv (1 : Int32)] [(.int (1 : Int32))]))
      refine Go.step (S' := T4.setTop (mkF m 81 #[iv p0, iv ((p0 &&& (2147483647 : Int32)) % (5 : Int32)), rv w_SUM, iv (1 : Int32)] [(.int (1 : Int32))])) (fun t k => ?_) ?_
      · show Steps p.tables e below (T4.setTop (mkF m 72 #[iv p0, iv ((p0 &&& (2147483647 : Int32)) % (5 : Int32)), rv w_SUM, iv (1 : Int32)] [(.int (1 : Int32))])) _
        refine XS.iloadN X4.here hx rfl (hb hby at_72) rfl ?_
        show Steps p.tables e below (T4.setTop (mkF m 73 #[iv p0, iv ((p0 &&& (2147483647 : Int32)) % (5 : Int32)), rv w_SUM, iv (1 : Int32)] [(.int (1 : Int32)), (.int (1 : Int32))])) _
        refine XS.icmpNo X4.here hx rfl (hb hby at_73) rfl (teq ((by decide) : (1 : Int32) = (1 : Int32))).2 ?_
        show Steps p.tables e below (T4.setTop (mkF m 76 #[iv p0, iv ((p0 &&& (2147483647 : Int32)) % (5 : Int32)), rv w_SUM, iv (1 : Int32)] [])) _
        refine XS.iconst X4.here hx rfl (hb hby at_76) ?_
        show Steps p.tables e below (T4.setTop (mkF m 77 #[iv p0, iv ((p0 &&& (2147483647 : Int32)) % (5 : Int32)), rv w_SUM, iv (1 : Int32)] [(.int (1 : Int32))])) _
        refine XS.goto X4.here hx rfl (pc0 := 77) (pc' := 81) rfl (hb hby at_77) (by decide) (by decide) ?_
        exact k
      obtain ⟨fs, hr, hrun, hended, hW, hsame⟩ := X4.leave (v := some (.int (1 : Int32))) (fun h => by rw [Bd.returns] at h; cases h)
      refine Go.fin (S' := T4.setFrames fs) ?_ hrun hended ⟨_, _, rfl, ?_, ⟨_, rfl⟩, hW, hsame.mono (by decide) (by decide)⟩
      · exact retOut X4 hx Bd.returns (by decide) (Or.inl ⟨rfl, Or.inr (Or.inl rfl), _, rfl⟩) (hb hby at_81) hr
      · show Q_rm0 Z p0 w_COUNT w_SUM w_AVG w_MIN w_MAX h0 n0 (some (.int (1 : Int32))) T4.heap _
        rw [e4]
        exact ⟨rfl, N4, rfl⟩
    · skip
      refine Go.step (S' := s₁.setTop (mkF m 36 #[iv p0, iv ((p0 &&& (2147483647 : Int32)) % (5 : Int32)), u_, u_] [(.int (2 : Int32)), (.int ((p0 &&& (2147483647 : Int32)) % (5 : Int32)))])) (fun t k => ?_) ?_
      · show Steps p.tables e below (s₁.setTop (mkF m 22 #[iv p0, iv ((p0 &&& (2147483647 : Int32)) % (5 : Int32)), u_, u_] [(.int (1 : Int32)), (.int ((p0 &&& (2147483647 : Int32)) % (5 : Int32)))])) _
        refine XS.icmpYes X0.here hx rfl (pc0 := 22) (pc' := 34) rfl (hb hby at_22) rfl (feq (hc22 : ¬ (((p0 &&& (2147483647 : Int32)) % (5 : Int32)) = (1 : Int32)))).2 (by decide) (by decide) ?_
        show Steps p.tables e below (s₁.setTop (mkF m 34 #[iv p0, iv ((p0 &&& (2147483647 : Int32)) % (5 : Int32)), u_, u_] [])) _
        refine XS.iloadN X0.here hx rfl (hb hby at_34) rfl ?_
        show Steps p.tables e below (s₁.setTop (mkF m 35 #[iv p0, iv ((p0 &&& (2147483647 : Int32)) % (5 : Int32)), u_, u_] [(.int ((p0 &&& (2147483647 : Int32)) % (5 : Int32)))])) _
        refine XS.iconst X0.here hx rfl (hb hby at_35) ?_
        exact k
      by_cases hc36 : ((p0 &&& (2147483647 : Int32)) % (5 : Int32)) = (2 : Int32)
      · skip
        refine Go.step (S' := s₁.setTop (mkF m 39 #[iv p0, iv ((p0 &&& (2147483647 : Int32)) % (5 : Int32)), u_, u_] [])) (fun t k => ?_) ?_
        · show Steps p.tables e below (s₁.setTop (mkF m 36 #[iv p0, iv ((p0 &&& (2147483647 : Int32)) % (5 : Int32)), u_, u_] [(.int (2 : Int32)), (.int ((p0 &&& (2147483647 : Int32)) % (5 : Int32)))])) _
          refine XS.icmpNo X0.here hx rfl (hb hby at_36) rfl (teq (hc36 : ((p0 &&& (2147483647 : Int32)) % (5 : Int32)) = (2 : Int32))).2 ?_
          exact k
        obtain ⟨T5, X5, e5, st5⟩ := getS2 X0 hx hZ hown (host := "") (Or.inl (own_w hw 18 rfl)) Via.refl e0 (S_AVG.ext O.2) (g := (mkF m 39 #[iv p0, iv ((p0 &&& (2147483647 : Int32)) % (5 : Int32)), u_, u_] [])) rfl (hb hby at_39)
        refine Go.step st5 ?_
        show Go p e below _ (T5.setTop (mkF m 42 #[iv p0, iv ((p0 &&& (2147483647 : Int32)) % (5 : Int32)), u_, u_] [(.ref w_AVG)]))
        refine Go.step (S' := T5.setTop (mkF m 69 #[iv p0, iv ((p0 &&& (2147483647 : Int32)) % (5 : Int32)), rv w_AVG, iv (1 : Int32)] [(.ref w_AVG)])) (fun t k => ?_) ?_
        · show Steps p.tables e below (T5.setTop (mkF m 42 #[iv p0, iv ((p0 &&& (2147483647 : Int32)) % (5 : Int32)), u_, u_] [(.ref w_AVG)])) _
          refine XS.astoreN X5.here hx rfl (hb hby at_42) rfl rfl (l' := #[iv p0, iv ((p0 &&& (2147483647 : Int32)) % (5 : Int32)), rv w_AVG, u_]) rfl ?_
          show Steps p.tables e below (T5.setTop (mkF m 43 #[iv p0, iv ((p0 &&& (2147483647 : Int32)) % (5 : Int32)), rv w_AVG, u_] [])) _
          refine XS.iconst X5.here hx rfl (hb hby at_43) ?_
          show Steps p.tables e below (T5.setTop (mkF m 44 #[iv p0, iv ((p0 &&& (2147483647 : Int32)) % (5 : Int32)), rv w_AVG, u_] [(.int (1 : Int32))])) _
          refine XS.istoreN X5.here hx rfl (hb hby at_44) rfl (l' := #[iv p0, iv ((p0 &&& (2147483647 : Int32)) % (5 : Int32)), rv w_AVG, iv (1 : Int32)]) rfl ?_
          show Steps p.tables e below (T5.setTop (mkF m 45 #[iv p0, iv ((p0 &&& (2147483647 : Int32)) % (5 : Int32)), rv w_AVG, iv (1 : Int32)] [])) _
          refine XS.goto X5.here hx rfl (pc0 := 45) (pc' := 68) rfl (hb hby at_45) (by decide) (by decide) ?_
          show Steps p.tables e below (T5.setTop (mkF m 68 #[iv p0, iv ((p0 &&& (2147483647 : Int32)) % (5 : Int32)), rv w_AVG, iv (1 : Int32)] [])) _
          refine XS.aloadN X5.here hx rfl (hb hby at_68) rfl rfl ?_
          exact k
        obtain ⟨cq6, kq6, q6a, q6b, q6c⟩ := isOf hZ e5 (E_AVG.ext O.2)
        obtain ⟨_, _, ⟨T6, L6, k6, n6⟩, -, X6, ⟨Lc6, hQ6, l6, y6, z6⟩, st6⟩ := X5.virtualBack hx (y := (⟨"com/example/planstitch/planstitch/core/algebra/AggregateFunction", "takesNumbers", "()Z"⟩ : MethodName)) (z := (⟨"com/example/planstitch/planstitch/core/algebra/AggregateFunction", "takesNumbers", "()Z"⟩ : MethodName)) hown (mvT hZ (own_w hw 4 rfl)) (mvT hZ (own_w hw 5 rfl)) (notFace_of_selects (args := #[]) (mvT hZ (own_w hw 7 rfl))) (mvT hZ (own_w hw 7 rfl)) (mvT hZ (own_w hw 6 rfl)) (by decide) (backOf (W := 0) (rmA l Z a0 hw [] w_AVG w_SUM h0 n0 O S_SUM S_AVG ne_AVG_SUM) hZ (own_w hw 8 rfl) (own_w hw 2 rfl) (by decide) (by decide)) q6a q6c (g := (mkF m 69 #[iv p0, iv ((p0 &&& (2147483647 : Int32)) % (5 : Int32)), rv w_AVG, iv (1 : Int32)] [(.ref w_AVG)])) rfl (by rw [hml]; rfl) (Steps.refl _) (argsL := []) (rest := []) (lenOf pd__28_29Z rfl) rfl (by show 2 * 0 + _ ≤ _; exact Nat.le_of_eq rfl) (hb hby at_69) (fun _ _ => ⟨rfl, e5, (by decide : 0 + 0 ≤ _), (by decide : 0 + 0 ≤ _)⟩)
        dsimp only [Pt.U, Pt.locs, Pt.cells, Pt.slots] at X6 l6 y6 z6 st6 hQ6
        subst l6 y6 z6
        obtain ⟨rfl, Nq6, e6⟩ := hQ6
        have N6 := Fr.app N0 Nq6
        refine Go.step (fun t k => st6.trans k) ?_
        show Go p e below _ (T6.setTop (mkF m 72 #[iv p0, iv ((p0 &&& (2147483647 : Int32)) % (5 : Int32)), rv w_AVG, iv (1 : Int32)] [(.int (1 : Int32))]))
        refine Go.step (S' := T6.setTop (mkF m 81 #[iv p0, iv ((p0 &&& (2147483647 : Int32)) % (5 : Int32)), rv w_AVG, iv (1 : Int32)] [(.int (1 : Int32))])) (fun t k => ?_) ?_
        · show Steps p.tables e below (T6.setTop (mkF m 72 #[iv p0, iv ((p0 &&& (2147483647 : Int32)) % (5 : Int32)), rv w_AVG, iv (1 : Int32)] [(.int (1 : Int32))])) _
          refine XS.iloadN X6.here hx rfl (hb hby at_72) rfl ?_
          show Steps p.tables e below (T6.setTop (mkF m 73 #[iv p0, iv ((p0 &&& (2147483647 : Int32)) % (5 : Int32)), rv w_AVG, iv (1 : Int32)] [(.int (1 : Int32)), (.int (1 : Int32))])) _
          refine XS.icmpNo X6.here hx rfl (hb hby at_73) rfl (teq ((by decide) : (1 : Int32) = (1 : Int32))).2 ?_
          show Steps p.tables e below (T6.setTop (mkF m 76 #[iv p0, iv ((p0 &&& (2147483647 : Int32)) % (5 : Int32)), rv w_AVG, iv (1 : Int32)] [])) _
          refine XS.iconst X6.here hx rfl (hb hby at_76) ?_
          show Steps p.tables e below (T6.setTop (mkF m 77 #[iv p0, iv ((p0 &&& (2147483647 : Int32)) % (5 : Int32)), rv w_AVG, iv (1 : Int32)] [(.int (1 : Int32))])) _
          refine XS.goto X6.here hx rfl (pc0 := 77) (pc' := 81) rfl (hb hby at_77) (by decide) (by decide) ?_
          exact k
        obtain ⟨fs, hr, hrun, hended, hW, hsame⟩ := X6.leave (v := some (.int (1 : Int32))) (fun h => by rw [Bd.returns] at h; cases h)
        refine Go.fin (S' := T6.setFrames fs) ?_ hrun hended ⟨_, _, rfl, ?_, ⟨_, rfl⟩, hW, hsame.mono (by decide) (by decide)⟩
        · exact retOut X6 hx Bd.returns (by decide) (Or.inl ⟨rfl, Or.inr (Or.inl rfl), _, rfl⟩) (hb hby at_81) hr
        · show Q_rm0 Z p0 w_COUNT w_SUM w_AVG w_MIN w_MAX h0 n0 (some (.int (1 : Int32))) T6.heap _
          rw [e6]
          exact ⟨rfl, N6, rfl⟩
      · skip
        refine Go.step (S' := s₁.setTop (mkF m 50 #[iv p0, iv ((p0 &&& (2147483647 : Int32)) % (5 : Int32)), u_, u_] [(.int (3 : Int32)), (.int ((p0 &&& (2147483647 : Int32)) % (5 : Int32)))])) (fun t k => ?_) ?_
        · show Steps p.tables e below (s₁.setTop (mkF m 36 #[iv p0, iv ((p0 &&& (2147483647 : Int32)) % (5 : Int32)), u_, u_] [(.int (2 : Int32)), (.int ((p0 &&& (2147483647 : Int32)) % (5 : Int32)))])) _
          refine XS.icmpYes X0.here hx rfl (pc0 := 36) (pc' := 48) rfl (hb hby at_36) rfl (feq (hc36 : ¬ (((p0 &&& (2147483647 : Int32)) % (5 : Int32)) = (2 : Int32)))).2 (by decide) (by decide) ?_
          show Steps p.tables e below (s₁.setTop (mkF m 48 #[iv p0, iv ((p0 &&& (2147483647 : Int32)) % (5 : Int32)), u_, u_] [])) _
          refine XS.iloadN X0.here hx rfl (hb hby at_48) rfl ?_
          show Steps p.tables e below (s₁.setTop (mkF m 49 #[iv p0, iv ((p0 &&& (2147483647 : Int32)) % (5 : Int32)), u_, u_] [(.int ((p0 &&& (2147483647 : Int32)) % (5 : Int32)))])) _
          refine XS.iconst X0.here hx rfl (hb hby at_49) ?_
          exact k
        by_cases hc50 : ((p0 &&& (2147483647 : Int32)) % (5 : Int32)) = (3 : Int32)
        · skip
          refine Go.step (S' := s₁.setTop (mkF m 53 #[iv p0, iv ((p0 &&& (2147483647 : Int32)) % (5 : Int32)), u_, u_] [])) (fun t k => ?_) ?_
          · show Steps p.tables e below (s₁.setTop (mkF m 50 #[iv p0, iv ((p0 &&& (2147483647 : Int32)) % (5 : Int32)), u_, u_] [(.int (3 : Int32)), (.int ((p0 &&& (2147483647 : Int32)) % (5 : Int32)))])) _
            refine XS.icmpNo X0.here hx rfl (hb hby at_50) rfl (teq (hc50 : ((p0 &&& (2147483647 : Int32)) % (5 : Int32)) = (3 : Int32))).2 ?_
            exact k
          obtain ⟨T7, X7, e7, st7⟩ := getS2 X0 hx hZ hown (host := "") (Or.inl (own_w hw 13 rfl)) Via.refl e0 (S_MIN.ext O.2) (g := (mkF m 53 #[iv p0, iv ((p0 &&& (2147483647 : Int32)) % (5 : Int32)), u_, u_] [])) rfl (hb hby at_53)
          refine Go.step st7 ?_
          show Go p e below _ (T7.setTop (mkF m 56 #[iv p0, iv ((p0 &&& (2147483647 : Int32)) % (5 : Int32)), u_, u_] [(.ref w_MIN)]))
          refine Go.step (S' := T7.setTop (mkF m 69 #[iv p0, iv ((p0 &&& (2147483647 : Int32)) % (5 : Int32)), rv w_MIN, iv (0 : Int32)] [(.ref w_MIN)])) (fun t k => ?_) ?_
          · show Steps p.tables e below (T7.setTop (mkF m 56 #[iv p0, iv ((p0 &&& (2147483647 : Int32)) % (5 : Int32)), u_, u_] [(.ref w_MIN)])) _
            refine XS.astoreN X7.here hx rfl (hb hby at_56) rfl rfl (l' := #[iv p0, iv ((p0 &&& (2147483647 : Int32)) % (5 : Int32)), rv w_MIN, u_]) rfl ?_
            show Steps p.tables e below (T7.setTop (mkF m 57 #[iv p0, iv ((p0 &&& (2147483647 : Int32)) % (5 : Int32)), rv w_MIN, u_] [])) _
            refine XS.iconst X7.here hx rfl (hb hby at_57) ?_
            show Steps p.tables e below (T7.setTop (mkF m 58 #[iv p0, iv ((p0 &&& (2147483647 : Int32)) % (5 : Int32)), rv w_MIN, u_] [(.int (0 : Int32))])) _
            refine XS.istoreN X7.here hx rfl (hb hby at_58) rfl (l' := #[iv p0, iv ((p0 &&& (2147483647 : Int32)) % (5 : Int32)), rv w_MIN, iv (0 : Int32)]) rfl ?_
            show Steps p.tables e below (T7.setTop (mkF m 59 #[iv p0, iv ((p0 &&& (2147483647 : Int32)) % (5 : Int32)), rv w_MIN, iv (0 : Int32)] [])) _
            refine XS.goto X7.here hx rfl (pc0 := 59) (pc' := 68) rfl (hb hby at_59) (by decide) (by decide) ?_
            show Steps p.tables e below (T7.setTop (mkF m 68 #[iv p0, iv ((p0 &&& (2147483647 : Int32)) % (5 : Int32)), rv w_MIN, iv (0 : Int32)] [])) _
            refine XS.aloadN X7.here hx rfl (hb hby at_68) rfl rfl ?_
            exact k
          obtain ⟨cq8, kq8, q8a, q8b, q8c⟩ := isOf hZ e7 (E_MIN.ext O.2)
          obtain ⟨_, _, ⟨T8, L8, k8, n8⟩, -, X8, ⟨Lc8, hQ8, l8, y8, z8⟩, st8⟩ := X7.virtualBack hx (y := (⟨"com/example/planstitch/planstitch/core/algebra/AggregateFunction", "takesNumbers", "()Z"⟩ : MethodName)) (z := (⟨"com/example/planstitch/planstitch/core/algebra/AggregateFunction", "takesNumbers", "()Z"⟩ : MethodName)) hown (mvT hZ (own_w hw 4 rfl)) (mvT hZ (own_w hw 5 rfl)) (notFace_of_selects (args := #[]) (mvT hZ (own_w hw 7 rfl))) (mvT hZ (own_w hw 7 rfl)) (mvT hZ (own_w hw 6 rfl)) (by decide) (backOf (W := 0) (rmN l Z a0 hw [] w_MIN w_SUM w_AVG h0 n0 O S_SUM S_AVG ne_MIN_SUM ne_MIN_AVG) hZ (own_w hw 8 rfl) (own_w hw 2 rfl) (by decide) (by decide)) q8a q8c (g := (mkF m 69 #[iv p0, iv ((p0 &&& (2147483647 : Int32)) % (5 : Int32)), rv w_MIN, iv (0 : Int32)] [(.ref w_MIN)])) rfl (by rw [hml]; rfl) (Steps.refl _) (argsL := []) (rest := []) (lenOf pd__28_29Z rfl) rfl (by show 2 * 0 + _ ≤ _; exact Nat.le_of_eq rfl) (hb hby at_69) (fun _ _ => ⟨rfl, e7, (by decide : 0 + 0 ≤ _), (by decide : 0 + 0 ≤ _)⟩)
          dsimp only [Pt.U, Pt.locs, Pt.cells, Pt.slots] at X8 l8 y8 z8 st8 hQ8
          subst l8 y8 z8
          obtain ⟨rfl, Nq8, e8⟩ := hQ8
          have N8 := Fr.app N0 Nq8
          refine Go.step (fun t k => st8.trans k) ?_
          show Go p e below _ (T8.setTop (mkF m 72 #[iv p0, iv ((p0 &&& (2147483647 : Int32)) % (5 : Int32)), rv w_MIN, iv (0 : Int32)] [(.int (0 : Int32))]))
          refine Go.step (S' := T8.setTop (mkF m 81 #[iv p0, iv ((p0 &&& (2147483647 : Int32)) % (5 : Int32)), rv w_MIN, iv (0 : Int32)] [(.int (1 : Int32))])) (fun t k => ?_) ?_
          · show Steps p.tables e below (T8.setTop (mkF m 72 #[iv p0, iv ((p0 &&& (2147483647 : Int32)) % (5 : Int32)), rv w_MIN, iv (0 : Int32)] [(.int (0 : Int32))])) _
            refine XS.iloadN X8.here hx rfl (hb hby at_72) rfl ?_
            show Steps p.tables e below (T8.setTop (mkF m 73 #[iv p0, iv ((p0 &&& (2147483647 : Int32)) % (5 : Int32)), rv w_MIN, iv (0 : Int32)] [(.int (0 : Int32)), (.int (0 : Int32))])) _
            refine XS.icmpNo X8.here hx rfl (hb hby at_73) rfl (teq ((by decide) : (0 : Int32) = (0 : Int32))).2 ?_
            show Steps p.tables e below (T8.setTop (mkF m 76 #[iv p0, iv ((p0 &&& (2147483647 : Int32)) % (5 : Int32)), rv w_MIN, iv (0 : Int32)] [])) _
            refine XS.iconst X8.here hx rfl (hb hby at_76) ?_
            show Steps p.tables e below (T8.setTop (mkF m 77 #[iv p0, iv ((p0 &&& (2147483647 : Int32)) % (5 : Int32)), rv w_MIN, iv (0 : Int32)] [(.int (1 : Int32))])) _
            refine XS.goto X8.here hx rfl (pc0 := 77) (pc' := 81) rfl (hb hby at_77) (by decide) (by decide) ?_
            exact k
          obtain ⟨fs, hr, hrun, hended, hW, hsame⟩ := X8.leave (v := some (.int (1 : Int32))) (fun h => by rw [Bd.returns] at h; cases h)
          refine Go.fin (S' := T8.setFrames fs) ?_ hrun hended ⟨_, _, rfl, ?_, ⟨_, rfl⟩, hW, hsame.mono (by decide) (by decide)⟩
          · exact retOut X8 hx Bd.returns (by decide) (Or.inl ⟨rfl, Or.inr (Or.inl rfl), _, rfl⟩) (hb hby at_81) hr
          · show Q_rm0 Z p0 w_COUNT w_SUM w_AVG w_MIN w_MAX h0 n0 (some (.int (1 : Int32))) T8.heap _
            rw [e8]
            exact ⟨rfl, N8, rfl⟩
        · skip
          refine Go.step (S' := s₁.setTop (mkF m 62 #[iv p0, iv ((p0 &&& (2147483647 : Int32)) % (5 : Int32)), u_, u_] [])) (fun t k => ?_) ?_
          · show Steps p.tables e below (s₁.setTop (mkF m 50 #[iv p0, iv ((p0 &&& (2147483647 : Int32)) % (5 : Int32)), u_, u_] [(.int (3 : Int32)), (.int ((p0 &&& (2147483647 : Int32)) % (5 : Int32)))])) _
            refine XS.icmpYes X0.here hx rfl (pc0 := 50) (pc' := 62) rfl (hb hby at_50) rfl (feq (hc50 : ¬ (((p0 &&& (2147483647 : Int32)) % (5 : Int32)) = (3 : Int32)))).2 (by decide) (by decide) ?_
            exact k
          obtain ⟨T9, X9, e9, st9⟩ := getS2 X0 hx hZ hown (host := "") (Or.inl (own_w hw 16 rfl)) Via.refl e0 (S_MAX.ext O.2) (g := (mkF m 62 #[iv p0, iv ((p0 &&& (2147483647 : Int32)) % (5 : Int32)), u_, u_] [])) rfl (hb hby at_62)
          refine Go.step st9 ?_
          show Go p e below _ (T9.setTop (mkF m 65 #[iv p0, iv ((p0 &&& (2147483647 : Int32)) % (5 : Int32)), u_, u_] [(.ref w_MAX)]))
          refine Go.step (S' := T9.setTop (mkF m 69 #[iv p0, iv ((p0 &&& (2147483647 : Int32)) % (5 : Int32)), rv w_MAX, iv (0 : Int32)] [(.ref w_MAX)])) (fun t k => ?_) ?_
          · show Steps p.tables e below (T9.setTop (mkF m 65 #[iv p0, iv ((p0 &&& (2147483647 : Int32)) % (5 : Int32)), u_, u_] [(.ref w_MAX)])) _
            refine XS.astoreN X9.here hx rfl (hb hby at_65) rfl rfl (l' := #[iv p0, iv ((p0 &&& (2147483647 : Int32)) % (5 : Int32)), rv w_MAX, u_]) rfl ?_
            show Steps p.tables e below (T9.setTop (mkF m 66 #[iv p0, iv ((p0 &&& (2147483647 : Int32)) % (5 : Int32)), rv w_MAX, u_] [])) _
            refine XS.iconst X9.here hx rfl (hb hby at_66) ?_
            show Steps p.tables e below (T9.setTop (mkF m 67 #[iv p0, iv ((p0 &&& (2147483647 : Int32)) % (5 : Int32)), rv w_MAX, u_] [(.int (0 : Int32))])) _
            refine XS.istoreN X9.here hx rfl (hb hby at_67) rfl (l' := #[iv p0, iv ((p0 &&& (2147483647 : Int32)) % (5 : Int32)), rv w_MAX, iv (0 : Int32)]) rfl ?_
            show Steps p.tables e below (T9.setTop (mkF m 68 #[iv p0, iv ((p0 &&& (2147483647 : Int32)) % (5 : Int32)), rv w_MAX, iv (0 : Int32)] [])) _
            refine XS.aloadN X9.here hx rfl (hb hby at_68) rfl rfl ?_
            exact k
          obtain ⟨cq10, kq10, q10a, q10b, q10c⟩ := isOf hZ e9 (E_MAX.ext O.2)
          obtain ⟨_, _, ⟨T10, L10, k10, n10⟩, -, X10, ⟨Lc10, hQ10, l10, y10, z10⟩, st10⟩ := X9.virtualBack hx (y := (⟨"com/example/planstitch/planstitch/core/algebra/AggregateFunction", "takesNumbers", "()Z"⟩ : MethodName)) (z := (⟨"com/example/planstitch/planstitch/core/algebra/AggregateFunction", "takesNumbers", "()Z"⟩ : MethodName)) hown (mvT hZ (own_w hw 4 rfl)) (mvT hZ (own_w hw 5 rfl)) (notFace_of_selects (args := #[]) (mvT hZ (own_w hw 7 rfl))) (mvT hZ (own_w hw 7 rfl)) (mvT hZ (own_w hw 6 rfl)) (by decide) (backOf (W := 0) (rmN l Z a0 hw [] w_MAX w_SUM w_AVG h0 n0 O S_SUM S_AVG ne_MAX_SUM ne_MAX_AVG) hZ (own_w hw 8 rfl) (own_w hw 2 rfl) (by decide) (by decide)) q10a q10c (g := (mkF m 69 #[iv p0, iv ((p0 &&& (2147483647 : Int32)) % (5 : Int32)), rv w_MAX, iv (0 : Int32)] [(.ref w_MAX)])) rfl (by rw [hml]; rfl) (Steps.refl _) (argsL := []) (rest := []) (lenOf pd__28_29Z rfl) rfl (by show 2 * 0 + _ ≤ _; exact Nat.le_of_eq rfl) (hb hby at_69) (fun _ _ => ⟨rfl, e9, (by decide : 0 + 0 ≤ _), (by decide : 0 + 0 ≤ _)⟩)
          dsimp only [Pt.U, Pt.locs, Pt.cells, Pt.slots] at X10 l10 y10 z10 st10 hQ10
          subst l10 y10 z10
          obtain ⟨rfl, Nq10, e10⟩ := hQ10
          have N10 := Fr.app N0 Nq10
          refine Go.step (fun t k => st10.trans k) ?_
          show Go p e below _ (T10.setTop (mkF m 72 #[iv p0, iv ((p0 &&& (2147483647 : Int32)) % (5 : Int32)), rv w_MAX, iv (0 : Int32)] [(.int (0 : Int32))]))
          refine Go.step (S' := T10.setTop (mkF m 81 #[iv p0, iv ((p0 &&& (2147483647 : Int32)) % (5 : Int32)), rv w_MAX, iv (0 : Int32)] [(.int (1 : Int32))])) (fun t k => ?_) ?_
          · show Steps p.tables e below (T10.setTop (mkF m 72 #[iv p0, iv ((p0 &&& (2147483647 : Int32)) % (5 : Int32)), rv w_MAX, iv (0 : Int32)] [(.int (0 : Int32))])) _
            refine XS.iloadN X10.here hx rfl (hb hby at_72) rfl ?_
            show Steps p.tables e below (T10.setTop (mkF m 73 #[iv p0, iv ((p0 &&& (2147483647 : Int32)) % (5 : Int32)), rv w_MAX, iv (0 : Int32)] [(.int (0 : Int32)), (.int (0 : Int32))])) _
            refine XS.icmpNo X10.here hx rfl (hb hby at_73) rfl (teq ((by decide) : (0 : Int32) = (0 : Int32))).2 ?_
            show Steps p.tables e below (T10.setTop (mkF m 76 #[iv p0, iv ((p0 &&& (2147483647 : Int32)) % (5 : Int32)), rv w_MAX, iv (0 : Int32)] [])) _
            refine XS.iconst X10.here hx rfl (hb hby at_76) ?_
            show Steps p.tables e below (T10.setTop (mkF m 77 #[iv p0, iv ((p0 &&& (2147483647 : Int32)) % (5 : Int32)), rv w_MAX, iv (0 : Int32)] [(.int (1 : Int32))])) _
            refine XS.goto X10.here hx rfl (pc0 := 77) (pc' := 81) rfl (hb hby at_77) (by decide) (by decide) ?_
            exact k
          obtain ⟨fs, hr, hrun, hended, hW, hsame⟩ := X10.leave (v := some (.int (1 : Int32))) (fun h => by rw [Bd.returns] at h; cases h)
          refine Go.fin (S' := T10.setFrames fs) ?_ hrun hended ⟨_, _, rfl, ?_, ⟨_, rfl⟩, hW, hsame.mono (by decide) (by decide)⟩
          · exact retOut X10 hx Bd.returns (by decide) (Or.inl ⟨rfl, Or.inr (Or.inl rfl), _, rfl⟩) (hb hby at_81) hr
          · show Q_rm0 Z p0 w_COUNT w_SUM w_AVG w_MIN w_MAX h0 n0 (some (.int (1 : Int32))) T10.heap _
            rw [e10]
            exact ⟨rfl, N10, rfl⟩
set_option maxRecDepth 65536 in
set_option maxHeartbeats 40000000 in
theorem comes_1 {Post : Tables → Env → Array Value → State → Outcome → State → Prop} (hpost : ∀ tb e args s v u, (limb_1_1.after args s (.returned v) u = true ∧ limb_1_2.after args s (.returned v) u = true ∧ True) → FrameEnd s (.returned v) u (Jvm.fieldLocs frame_1_writes args s ++ Jvm.arrayLocs frame_1_arrays args s ++ Jvm.staticLocs frame_1_statics s) 0 0 → Post tb e args s (.returned v) u) :
    ArmFor flags0 classFile x code maxLocals ret World_1 tables_1 room_1 Calls_1 rest_1 Pre_1 Post := by
  intro l hfl _ _ p e ha hc hk s m args below hf hA hF happ hP
  obtain ⟨hcalls, hrest, hpre⟩ := hP
  obtain ⟨-, -, -, hnamed, -, -, -, hat⟩ := (Spec.applies_iff hf).mp happ
  obtain ⟨hg, hn⟩ := and_e (Cond.before_iff.mp (show (Jvm.Cond.and given_1 narrow_1).before args s = true from hpre))
  obtain ⟨hgl, hgr⟩ := and_e hg
  obtain ⟨w0, rfl⟩ : ∃ w0 : Value, args = #[w0] := by
    have hs : args.size = 1 := by simpa [Cond.value, given_1] using hgl
    obtain ⟨L⟩ := args
    match L, hs with
    | [w0], _ => exact ⟨w0, rfl⟩
  have hw := fun d (hd : d ∈ tables_1) => atoms_spec (ws := Jvm.Cond.code x code maxLocals ret :: tables_1) hat d (List.mem_cons_of_mem _ hd)
  have hfit : Fit s := fun {y c} hc i hi => by
    obtain ⟨ha, rfl⟩ := Array.getElem?_eq_some_iff.mp hc
    have q := List.all_eq_true.mp ((Array.all_eq_true_iff_forall_mem.mp hF) _ (Array.getElem_mem ha)) i (List.mem_range.mpr hi)
    simpa [Array.getElem?_eq_getElem hi] using q
  obtain ⟨i0, ei0⟩ := is_v hgr
  obtain rfl : w0 = (.int i0) := Option.some.inj ei0
  obtain ⟨hna, hnb⟩ := and_e hn
  obtain ⟨w_COUNT, ev_COUNT⟩ := exa_v hna
  have E_COUNT := Exa.start ev_COUNT hna
  have S_COUNT := Sta.start ev_COUNT (Or.inr ⟨(own_w hw 2 rfl), (own_w hw 3 rfl)⟩)
  obtain ⟨hnba, hnbb⟩ := and_e hnb
  obtain ⟨w_SUM, ev_SUM⟩ := exa_v hnba
  have E_SUM := Exa.start ev_SUM hnba
  have S_SUM := Sta.start ev_SUM (Or.inr ⟨(own_w hw 2 rfl), (own_w hw 10 rfl)⟩)
  obtain ⟨hnbba, hnbbb⟩ := and_e hnbb
  obtain ⟨hnbbba, hnbbbb⟩ := and_e hnbbb
  obtain ⟨hnbbbba, hnbbbbb⟩ := and_e hnbbbb
  obtain ⟨w_AVG, ev_AVG⟩ := exa_v hnbbbba
  have E_AVG := Exa.start ev_AVG hnbbbba
  have S_AVG := Sta.start ev_AVG (Or.inr ⟨(own_w hw 2 rfl), (own_w hw 12 rfl)⟩)
  obtain ⟨hnbbbbba, hnbbbbbb⟩ := and_e hnbbbbb
  obtain ⟨hnbbbbbba, hnbbbbbbb⟩ := and_e hnbbbbbb
  obtain ⟨w_MIN, ev_MIN⟩ := exa_v hnbbbbbba
  have E_MIN := Exa.start ev_MIN hnbbbbbba
  have S_MIN := Sta.start ev_MIN (Or.inr ⟨(own_w hw 2 rfl), (own_w hw 14 rfl)⟩)
  obtain ⟨hnbbbbbbba, hnbbbbbbbb⟩ := and_e hnbbbbbbb
  obtain ⟨hnbbbbbbbba, hnbbbbbbbbb⟩ := and_e hnbbbbbbbb
  obtain ⟨w_MAX, ev_MAX⟩ := exa_v hnbbbbbbbba
  have E_MAX := Exa.start ev_MAX hnbbbbbbbba
  have S_MAX := Sta.start ev_MAX (Or.inr ⟨(own_w hw 2 rfl), (own_w hw 17 rfl)⟩)
  have F_ordinal_COUNT := Fld.start ((fld_at ev_COUNT).symm.trans (own_eqI hnbba))
  have F_ordinal_SUM := Fld.start ((fld_at ev_SUM).symm.trans (own_eqI hnbbba))
  have F_ordinal_AVG := Fld.start ((fld_at ev_AVG).symm.trans (own_eqI hnbbbbba))
  have F_ordinal_MIN := Fld.start ((fld_at ev_MIN).symm.trans (own_eqI hnbbbbbbba))
  have F_ordinal_MAX := Fld.start ((fld_at ev_MAX).symm.trans (own_eqI hnbbbbbbbbb))
  obtain ⟨n, o, h1, h2, h3, _, L, rfl, ⟨rfl, N, -⟩, hq⟩ := rm0 l s _ hw tables_1 i0 w_COUNT w_SUM w_AVG w_MIN w_MAX s.heap s.heap.size (Old.start s) S_COUNT S_SUM S_AVG S_MIN S_MAX E_COUNT E_SUM E_AVG E_MIN E_MAX (Fld.ne F_ordinal_AVG F_ordinal_SUM (by decide)) (Fld.ne F_ordinal_COUNT F_ordinal_SUM (by decide)) (Fld.ne F_ordinal_COUNT F_ordinal_AVG (by decide)) (Fld.ne F_ordinal_MIN F_ordinal_SUM (by decide)) (Fld.ne F_ordinal_MIN F_ordinal_AVG (by decide)) (Fld.ne F_ordinal_MAX F_ordinal_SUM (by decide)) (Fld.ne F_ordinal_MAX F_ordinal_AVG (by decide)) p e ha hc hk s m _ below hf ((Spec.applies_iff_loose hf).mp happ).1 ⟨rfl, State.Warmed39.refl s, rfl⟩ trivial
  refine ⟨n, _, h1, h2, h3, hpost _ _ _ _ _ _ ⟨Cond.after_iff.mpr rfl, Cond.after_iff.mpr (eq_i res_at (Term.int_eval (1)) rfl), trivial⟩ ⟨hq.1, hq.2.1, (hq.2.2.sift fun y hy => Or.inr (N y hy)).mono (by decide) (by decide)⟩⟩
theorem main_1_1 : Claimed_1_1 := comes_1 fun _ _ _ _ _ _ h hF => ⟨h.1, hF⟩
theorem main_1_2 : Claimed_1_2 := comes_1 fun _ _ _ _ _ _ h hF => ⟨h.2.1, hF⟩
end Jvm.Pilot.@@N@@
namespace Jvm.Pilot.@@N@@
open Jvm Jvm.ClassFile Sem Op Lib Jvm.Free Jvm.Stand Jvm.Pilot.@@N@@.Jvm.D
/-! MADE BY PROGRAM (witnessworld.py) out of the Statement's table words and the real class files: 12 classes; the members and pool entries that the words name. The judged class is class 1, her method 1. -/
namespace start1
open Jvm.ClassFile
def u (s : String) : CpInfo := .utf8 (stringToUtf16 s)
/-- a pool by its gaps: so many unusable entries, then the entry; so many at the end -/
def gap : Nat → List CpInfo → List CpInfo
  | 0, r => r
  | n + 1, r => .unusable :: gap n r
def poolList (es : List (Nat × CpInfo)) (last : Nat) : List CpInfo := es.foldr (fun e r => gap e.1 (e.2 :: r)) (gap last [])
def pool (es : List (Nat × CpInfo)) (last : Nat) : Array CpInfo := ⟨poolList es last⟩
def fileOf (pool : Array CpInfo) (this : Nat) (attrs : Array Attribute := #[]) (ms : Array MethodInfo := #[]) (fl : Nat := 33) (sup : Nat := 0) (ifs : Array Nat := #[]) (fds : Array FieldInfo := #[]) : ClassFile where
  minorVersion := 0
  majorVersion := 65
  constantPool := pool
  accessFlags := fl
  thisClass := this
  superClass := sup
  interfaces := ifs
  fields := fds
  methods := ms
  attributes := attrs
def plain (name : String) (sup : Option ClassId) : Class where
  name := name
  kind := .ordinary
  loader := none
  accessFlags := 33
  super := sup
  interfaces := #[]
  cf := none
  fields := #[]
  methods := #[]
  instanceTypes := #[]
  staticTypes := #[]
  resolved := #[]
  callSites := []
  init := .initialized
  statics := none
  mirror := none

def pool0 : Array CpInfo := pool [(5, u "<init>"), (0, u "()V"), (1, .class_ 10), (1, u "java/lang/Object")] 113

def k0m0 : Method := { name := "<init>", desc := "()V", sig := { parameters := [], returnType := none }, accessFlags := 1, code := none }
/-- java/lang/Object -/
def k0 : Class := { plain "java/lang/Object" none with
  accessFlags := 33
  interfaces := #[]
  cf := some (fileOf pool0 8 #[] #[{ accessFlags := 1, nameIndex := 5, descriptorIndex := 6, attributes := #[] }] 33 0 #[] #[])
  fields := #[]
  methods := #[k0m0]
  instanceTypes := #[]
  staticTypes := #[]
  resolved := Array.replicate 124 none
  statics := none }

def pool1 : Array CpInfo := pool [(2, .class_ 4), (1, u "java/lang/Object"), (0, u "<init>"), (0, u "()V"), (0, .integer 2147483647), (0, .fieldref 9 10), (0, .class_ 11), (0, .nameAndType 12 13), (0, u "com/example/planstitch/planstitch/core/algebra/AggregateFunction"), (0, u "COUNT"), (0, u "Lcom/example/planstitch/planstitch/core/algebra/AggregateFunction;"), (0, .fieldref 9 15), (0, .nameAndType 16 13), (0, u "SUM"), (0, .fieldref 9 18), (0, .nameAndType 19 13), (0, u "AVG"), (0, .fieldref 9 21), (0, .nameAndType 22 13), (0, u "MIN"), (0, .fieldref 9 24), (0, .nameAndType 25 13), (0, u "MAX"), (0, .methodref 9 27), (0, .nameAndType 28 29), (0, u "takesNumbers"), (0, u "()Z"), (0, .class_ 31), (0, u "com/example/planstitch/planstitch/core/algebra/AggregateFunctionTakesNumbersPinLaw"), (2, u "law"), (0, u "(I)Z")] 3

def k1m0 : Method := { name := "<init>", desc := "()V", sig := { parameters := [], returnType := none }, accessFlags := 1, code := none }
def k1c1 : Code := { maxStack := 2, maxLocals := 4, code := code, exceptionTable := #[], attributes := #[] }
def k1m1 : Method := { name := "law", desc := "(I)Z", sig := { parameters := [.int], returnType := some .boolean }, accessFlags := 9, code := some k1c1 }
/-- com/example/planstitch/planstitch/core/algebra/AggregateFunctionTakesNumbersPinLaw -/
def k1 : Class := { plain "com/example/planstitch/planstitch/core/algebra/AggregateFunctionTakesNumbersPinLaw" (some 0) with
  accessFlags := 49
  interfaces := #[]
  cf := some (fileOf pool1 30 #[] #[{ accessFlags := 1, nameIndex := 5, descriptorIndex := 6, attributes := #[] }, { accessFlags := 9, nameIndex := 34, descriptorIndex := 35, attributes := #[] }] 49 2 #[] #[])
  fields := #[]
  methods := #[k1m0, k1m1]
  instanceTypes := #[]
  staticTypes := #[]
  resolved := Array.replicate 39 none
  statics := none }

def pool2 : Array CpInfo := pool [(1, .class_ 2), (0, u "java/lang/constant/Constable"), (0, .class_ 4), (0, u "java/lang/Object")] 6

/-- java/lang/constant/Constable -/
def k2 : Class := { plain "java/lang/constant/Constable" (some 0) with
  accessFlags := 1537
  interfaces := #[]
  cf := some (fileOf pool2 1 #[] #[] 1537 3 #[] #[])
  fields := #[]
  methods := #[]
  instanceTypes := #[]
  staticTypes := #[]
  resolved := Array.replicate 11 none
  statics := none }

def pool3 : Array CpInfo := pool [(1, .class_ 2), (0, u "java/lang/Comparable"), (0, .class_ 4), (0, u "java/lang/Object")] 7

/-- java/lang/Comparable -/
def k3 : Class := { plain "java/lang/Comparable" (some 0) with
  accessFlags := 1537
  interfaces := #[]
  cf := some (fileOf pool3 1 #[] #[] 1537 3 #[] #[])
  fields := #[]
  methods := #[]
  instanceTypes := #[]
  staticTypes := #[]
  resolved := Array.replicate 12 none
  statics := none }

def pool4 : Array CpInfo := pool [(1, .class_ 2), (0, u "java/io/Serializable"), (0, .class_ 4), (0, u "java/lang/Object")] 2

/-- java/io/Serializable -/
def k4 : Class := { plain "java/io/Serializable" (some 0) with
  accessFlags := 1537
  interfaces := #[]
  cf := some (fileOf pool4 1 #[] #[] 1537 3 #[] #[])
  fields := #[]
  methods := #[]
  instanceTypes := #[]
  staticTypes := #[]
  resolved := Array.replicate 7 none
  statics := none }

def pool5 : Array CpInfo := pool [(2, .class_ 4), (1, u "java/lang/Enum"), (0, u "name"), (0, u "Ljava/lang/String;"), (2, u "ordinal"), (0, u "I"), (1, .class_ 14), (1, u "java/lang/Object"), (4, u "hash"), (86, .class_ 108), (1, u "java/lang/Enum$EnumDesc"), (2, .class_ 112), (0, u "java/lang/constant/Constable"), (0, .class_ 114), (0, u "java/lang/Comparable"), (0, .class_ 116), (0, u "java/io/Serializable")] 87

/-- java/lang/Enum -/
def k5 : Class := { plain "java/lang/Enum" (some 0) with
  accessFlags := 1057
  interfaces := #[2, 3, 4]
  cf := some (fileOf pool5 2 #[.nestMembers #[106]] #[] 1057 12 #[111, 113, 115] #[{ accessFlags := 18, nameIndex := 5, descriptorIndex := 6, attributes := #[] }, { accessFlags := 18, nameIndex := 9, descriptorIndex := 10, attributes := #[] }, { accessFlags := 2, nameIndex := 19, descriptorIndex := 10, attributes := #[] }])
  fields := #[{ name := "name", type := (.object "java/lang/String"), accessFlags := 18, slot := 0, constantValue := 0 }, { name := "ordinal", type := .int, accessFlags := 18, slot := 1, constantValue := 0 }, { name := "hash", type := .int, accessFlags := 2, slot := 2, constantValue := 0 }]
  methods := #[]
  instanceTypes := #[(.object "java/lang/String"), .int, .int]
  staticTypes := #[]
  resolved := Array.replicate 204 none
  statics := none }

def pool6 : Array CpInfo := pool [(1, .class_ 2), (0, u "com/example/planstitch/planstitch/core/algebra/AggregateFunction"), (2, u "COUNT"), (0, u "Lcom/example/planstitch/planstitch/core/algebra/AggregateFunction;"), (0, .fieldref 1 8), (0, .nameAndType 9 6), (0, u "SUM"), (0, .fieldref 1 11), (0, .nameAndType 12 6), (0, u "AVG"), (2, u "MIN"), (2, u "MAX"), (2, u "$VALUES"), (0, u "[Lcom/example/planstitch/planstitch/core/algebra/AggregateFunction;"), (6, .class_ 31), (1, u "java/lang/Enum"), (23, u "takesNumbers"), (0, u "()Z")] 5

def k6c0 : Code := { maxStack := 2, maxLocals := 1, code := prog_17_method_4_code, exceptionTable := #[], attributes := #[] }
def k6m0 : Method := { name := "takesNumbers", desc := "()Z", sig := { parameters := [], returnType := some .boolean }, accessFlags := 1, code := some k6c0 }
/-- com/example/planstitch/planstitch/core/algebra/AggregateFunction -/
def k6 : Class := { plain "com/example/planstitch/planstitch/core/algebra/AggregateFunction" (some 5) with
  accessFlags := 16433
  interfaces := #[]
  cf := some (fileOf pool6 1 #[] #[{ accessFlags := 1, nameIndex := 55, descriptorIndex := 56, attributes := #[] }] 16433 29 #[] #[{ accessFlags := 16409, nameIndex := 5, descriptorIndex := 6, attributes := #[] }, { accessFlags := 16409, nameIndex := 9, descriptorIndex := 6, attributes := #[] }, { accessFlags := 16409, nameIndex := 12, descriptorIndex := 6, attributes := #[] }, { accessFlags := 16409, nameIndex := 15, descriptorIndex := 6, attributes := #[] }, { accessFlags := 16409, nameIndex := 18, descriptorIndex := 6, attributes := #[] }, { accessFlags := 4122, nameIndex := 21, descriptorIndex := 22, attributes := #[] }])
  fields := #[{ name := "COUNT", type := (.object "com/example/planstitch/planstitch/core/algebra/AggregateFunction"), accessFlags := 16409, slot := 0, constantValue := 0 }, { name := "SUM", type := (.object "com/example/planstitch/planstitch/core/algebra/AggregateFunction"), accessFlags := 16409, slot := 1, constantValue := 0 }, { name := "AVG", type := (.object "com/example/planstitch/planstitch/core/algebra/AggregateFunction"), accessFlags := 16409, slot := 2, constantValue := 0 }, { name := "MIN", type := (.object "com/example/planstitch/planstitch/core/algebra/AggregateFunction"), accessFlags := 16409, slot := 3, constantValue := 0 }, { name := "MAX", type := (.object "com/example/planstitch/planstitch/core/algebra/AggregateFunction"), accessFlags := 16409, slot := 4, constantValue := 0 }, { name := "$VALUES", type := (.array (.object "com/example/planstitch/planstitch/core/algebra/AggregateFunction")), accessFlags := 4122, slot := 5, constantValue := 0 }]
  methods := #[k6m0]
  instanceTypes := #[(.object "java/lang/String"), .int, .int]
  staticTypes := #[(.object "com/example/planstitch/planstitch/core/algebra/AggregateFunction"), (.object "com/example/planstitch/planstitch/core/algebra/AggregateFunction"), (.object "com/example/planstitch/planstitch/core/algebra/AggregateFunction"), (.object "com/example/planstitch/planstitch/core/algebra/AggregateFunction"), (.object "com/example/planstitch/planstitch/core/algebra/AggregateFunction"), (.array (.object "com/example/planstitch/planstitch/core/algebra/AggregateFunction"))]
  resolved := Array.replicate 62 none
  statics := some 0 }

def pool7 : Array CpInfo := pool [(1, u "java/lang/Cloneable"), (0, .class_ 1), (0, u "java/lang/Object"), (0, .class_ 3)] 3

/-- java/lang/Cloneable -/
def k7 : Class := { plain "java/lang/Cloneable" (some 0) with
  accessFlags := 1537
  interfaces := #[]
  cf := some (fileOf pool7 2 #[] #[] 1537 4 #[] #[])
  fields := #[]
  methods := #[]
  instanceTypes := #[]
  staticTypes := #[]
  resolved := Array.replicate 8 none
  statics := none }

/-- the primitive byte -/
def k8 : Class := { plain "byte" none with kind := .primitive 'B', accessFlags := 0x411 }
/-- [B -/
def k9 : Class := { plain "[B" (some 0) with kind := .array 8 .byte, interfaces := #[7, 4], accessFlags := 1041 }

/-- the primitive int -/
def k10 : Class := { plain "int" none with kind := .primitive 'I', accessFlags := 0x411 }
/-- [I -/
def k11 : Class := { plain "[I" (some 0) with kind := .array 10 .int, interfaces := #[7, 4], accessFlags := 1041 }

def heap : Heap := #[{ cls := 6, slots := #[.ref 1, .ref 2, .ref 3, .ref 4, .ref 5, .null], vm := .statics 6 },
  { cls := 6, slots := #[.null, .int 0, .int 0], vm := .none },
  { cls := 6, slots := #[.null, .int 1, .int 0], vm := .none },
  { cls := 6, slots := #[.null, .int 2, .int 0], vm := .none },
  { cls := 6, slots := #[.null, .int 3, .int 0], vm := .none },
  { cls := 6, slots := #[.null, .int 4, .int 0], vm := .none }]
def classes : Array Class := #[k0, k1, k2, k3, k4, k5, k6, k7, k8, k9, k10, k11]
def interned : List (Array UInt16 × Addr) := []
def slotsUsed : Nat := 21
def theMethod : MethodId := ⟨1, 1⟩
def args0 : Array Value := #[.int 5]
def aboutOver (below : List Frame) : State where
  vm := { classes := classes, interned := interned.toArray }
  heap := heap
  slotsUsed := slotsUsed
  threads := #[{ frames := .invoking theMethod args0 :: below }]
def below0 : List Frame := [.native { method := ⟨0, 0⟩, args := #[] }]
def about1 : State := aboutOver below0
def p0 : Program := .bare "" "" ""
def e0 : Env := launch0.env 0 0 0
theorem w_frames : about1.frames = Frame.invoking theMethod args0 :: below0 := rfl
set_option maxRecDepth 65536 in
theorem w_args : argsFit about1.vm theMethod args0 = true := by decide +kernel
set_option maxRecDepth 65536 in
theorem w_heap : heapFits about1 = true := by decide +kernel
set_option maxRecDepth 65536 in
theorem w_runnable : about1.curStatus? = some .runnable := by decide +kernel
set_option maxRecDepth 65536 in
theorem w_alone : about1.alone = true := by decide +kernel
set_option maxRecDepth 65536 in
theorem w_named : about1.methodNamed? x = some theMethod := by decide +kernel
set_option maxRecDepth 65536 in
theorem w_hears : about1.hears theMethod below0 = true := by decide +kernel
set_option maxRecDepth 65536 in
theorem w_ripe : about1.ripe theMethod args0 below0 = true := by decide +kernel
theorem w_running : about1.status = .running := rfl
set_option maxRecDepth 65536 in
theorem w_room : about1.hasRoom e0.platform room_1 = true :=
  launch0.hasRoom_least _ room_1 (by decide +kernel) (by decide +kernel) (by decide +kernel) (by decide +kernel) (by decide +kernel) (by decide +kernel)
theorem allAtoms_all (ts : List Jvm.Cond) (a : Array Jvm.Value) (st : Jvm.State) : (allAtoms ts).before a st = ts.all (fun c => c.before a st) := by
  induction ts with
  | nil => rfl
  | cons c t ih =>
    show (Jvm.Cond.and c (allAtoms t)).before a st = _
    rw [Jvm.Cond.before_and, ih, List.all_cons]
def words1 : List Jvm.Cond := Jvm.Cond.code x code maxLocals ret :: tables_1
/-- a 'code' word, met by the world's own term for the bytes: nothing is compared byte by byte -/
theorem code_word {y : MethodName} {bytes : ByteArray} {mx : Nat} {rt : Option FieldType} {a : Array Value} {s : State} {m : MethodId} {meth : Method} {c : Code} (h1 : s.methodNamed? y = some m) (h2 : s.vm.method? m = some meth) (h3 : meth.code = some c) (h4 : c.code = bytes)
    (h5 : (c.maxLocals == mx && c.exceptionTable.isEmpty && decide (c.maxStack ≤ mostOperands) && decide (meth.sig.returnType = rt) && !meth.locks && decide (parseMethodDescriptor y.desc = some meth.sig)) = true) : (Jvm.Cond.code y bytes mx rt).before a s = true := by
  simp only [Bool.and_eq_true, beq_iff_eq, Bool.not_eq_true', decide_eq_true_eq] at h5
  obtain ⟨⟨⟨⟨⟨g1, g2⟩, g3⟩, g4⟩, g5⟩, g6⟩ := h5
  simp [Cond.before, Cond.holds, Cond.value, h1, h2, h3, h4, g1, g2, g3, g4, g5, g6]
def isCode : Jvm.Cond → Bool
  | .code _ _ _ _ => true
  | _ => false
theorem all_split {L : List Jvm.Cond} {P : Jvm.Cond → Bool} (h1 : L.all (fun c => isCode c || P c) = true) (h2 : ∀ c ∈ L.filter isCode, P c = true) : L.all P = true := by
  refine List.all_eq_true.mpr fun c hc => ?_
  have h := List.all_eq_true.mp h1 c hc
  rcases Bool.eq_false_or_eq_true (isCode c) with hi | hi
  · exact h2 c (List.mem_filter.mpr ⟨hc, hi⟩)
  · simpa [hi] using h
set_option maxRecDepth 65536 in
theorem w_c0 : (Jvm.Cond.code x code maxLocals ret).before args0 about1 = true := code_word (m := ⟨1, 1⟩) (meth := k1m1) (c := k1c1) (by decide +kernel) rfl rfl rfl (by decide +kernel)
set_option maxRecDepth 65536 in
theorem w_c1 : (Jvm.Cond.code ({ cls := "com/example/planstitch/planstitch/core/algebra/AggregateFunction", name := "takesNumbers", desc := "()Z" } : Jvm.MethodName) prog_17_method_4_code (1 : Nat) (Option.some Jvm.ClassFile.FieldType.boolean)).before args0 about1 = true := code_word (m := ⟨6, 0⟩) (meth := k6m0) (c := k6c0) (by decide +kernel) rfl rfl rfl (by decide +kernel)
def codes1 : List Jvm.Cond := [Jvm.Cond.code x code maxLocals ret, Jvm.Cond.code ({ cls := "com/example/planstitch/planstitch/core/algebra/AggregateFunction", name := "takesNumbers", desc := "()Z" } : Jvm.MethodName) prog_17_method_4_code (1 : Nat) (Option.some Jvm.ClassFile.FieldType.boolean)]
set_option maxRecDepth 65536 in
theorem codes_eq : words1.filter isCode = codes1 := rfl
theorem w_codes : ∀ c ∈ words1.filter isCode, c.before args0 about1 = true := by
  rw [codes_eq]
  intro c hc
  simp only [codes1, List.mem_cons, List.not_mem_nil, or_false] at hc
  rcases hc with rfl | rfl
  · exact w_c0
  · exact w_c1
set_option maxRecDepth 65536 in
theorem w_t1 : words1.all (fun c => isCode c || c.before args0 about1) = true := by decide +kernel
theorem w_tables : (allAtoms (Jvm.Cond.code x code maxLocals ret :: tables_1)).before args0 about1 = true := by
  rw [allAtoms_all]
  show words1.all (fun c => c.before args0 about1) = true
  refine all_split ?_ w_codes
  rw [w_t1]
set_option maxRecDepth 65536 in
theorem w_case : (Jvm.Cond.and given_1 narrow_1).before args0 about1 = true := by decide +kernel
theorem w_applies : (headSpec (Jvm.Cond.code x code maxLocals ret :: tables_1) room_1).applies x e0.platform about1 = true :=
  (Spec.applies_iff w_frames).mpr ⟨w_running, w_runnable, w_alone, w_named, w_hears, w_ripe, w_room, w_tables⟩
theorem atStart : AtStart classFile x code maxLocals ret World_1 tables_1 room_1 Calls_1 rest_1 Pre_1 launch0 p0 e0 about1 theMethod args0 below0 :=
  ⟨lists_1, trivial, launch0.admits_env _ _ _, launch0.least_env, fairChoices_fair.cas, fairChoices_fair.clock, w_frames, w_args, w_heap, w_applies, trivial, trivial, w_case⟩
end start1
theorem witness_1 : WitnessClaimed_1 := ⟨start1.p0, start1.e0, start1.about1, start1.theMethod, start1.args0, start1.below0, start1.atStart⟩
end Jvm.Pilot.@@N@@
