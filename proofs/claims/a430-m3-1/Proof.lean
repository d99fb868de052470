import JvmDerived
import JvmDerived.Pilot.@@N@@Statement
import JvmDerived.Pilot.@@N@@Code
set_option linter.unusedVariables false
set_option linter.unusedSimpArgs false
namespace Jvm.Pilot.@@N@@
open Jvm Jvm.ClassFile Sem Op Lib Jvm.Free Jvm.Stand Jvm.LawKit Jvm.RoadKit Bundle Jvm.Pilot.@@N@@.Jvm.D
/-- from the state S the body comes to its end, and there G holds -/
def Go (p : Program) (e : Env) (below : List Frame) (G : Outcome → State → Prop) (S : State) : Prop := ∃ s₂ o, Steps p.tables e below S s₂ ∧ s₂.status = .running ∧ Ended s₂ below o ∧ G o s₂
theorem Go.step {p : Program} {e : Env} {below : List Frame} {G : Outcome → State → Prop} {S S' : State} (k : ∀ t, Steps p.tables e below S' t → Steps p.tables e below S t) (g : Go p e below G S') : Go p e below G S := by
  obtain ⟨s₂, o, h, r⟩ := g
  exact ⟨s₂, o, k _ h, r⟩
theorem Go.fin {p : Program} {e : Env} {below : List Frame} {G : Outcome → State → Prop} {S S' : State} {o : Outcome} (h : Steps p.tables e below S S') (h1 : S'.status = .running) (h2 : Ended S' below o) (h3 : G o S') : Go p e below G S := ⟨_, _, h, h1, h2, h3⟩
abbrev lv (x : Int64) : Slot := .val (.long x)
abbrev u_ : Slot := .unset
theorem own_w {Z : State} {a0 : Array Value} (hw : ∀ d ∈ tables_1, d.before a0 Z = true) (k : Nat) {d : Jvm.Cond} (h : tables_1[k]? = some d) : d.before a0 Z = true := hw d (List.mem_of_getElem? h)
theorem old_le {Z : State} {n0 : Nat} {h : Heap} (O : Old Z n0 h) : n0 ≤ h.size := O.1 ▸ O.2.1
theorem own_getR {p : Program} {l : Launch} {e : Env} {R : Room} {s : State} {m : MethodId} {args : Array Value} {below : List Frame} {meth : Method} {c : Code} {T : State} {locs : List Loc} {cells slots : Nat} {Z : State} {a0 : Array Value} {h : Heap}
    (X : Stand p l e R s m args below meth c T locs cells slots) (hx : p.tables.exec = Jvm.exec) (hZ : Z.Warmed39 s.vm) {own R0 n d : String} {index : Nat} (hown : s.vm.findClass own = some m.cls) (w : (Jvm.Cond.fieldRef own index R0 n d).before a0 Z = true)
    (eT : T.heap = h) {a : Addr} {v : Value} (F : Fld Z h a R0 n d v) {g : JFrame} (hg : g.method = m) {rest : List Value} (hs : g.stack = .ref a :: rest) (hd : decode c.code g.pc = .ok (.getfield index, 3)) : ∀ target, Steps p.tables e below (T.setTop { g with pc := g.pc + 3, stack := v :: rest }) target → Steps p.tables e below (T.setTop g) target := by
  obtain ⟨cell, cf, k, i, f, h1, h2, h3, h4, -, -, h7⟩ := F
  have hT : Z.Warmed39 T.vm := wtrans hZ X.warmed
  have w' := Cond.fieldRef_warmed39 hT w
  have ho : (Z.setVm T.vm).vm.findClass own = some m.cls := by show T.vm.findClass own = _; rw [X.warmed.alike.findClass]; exact hown
  obtain ⟨c1, k1, i1, f1, e1, hr⟩ := Cond.fieldRef_spec ho w'
  obtain ⟨k', hi, -⟩ := State.fieldFound?_setVm (s := Z) hT.alike h2
  cases e1.symm.trans hi
  intro target kk
  exact (X.getfieldR hx hg hr h3 hs (by rw [eT]; exact h1) h4 h7 hd (Steps.refl _)).trans kk
theorem own_selP {Z s : State} {a0 args : Array Value} {y : MethodName} {n : Nat} (hZ : Z.Warmed39 s.vm) (wi : (Jvm.Cond.instantiable y.cls n).before a0 Z = true) (wn : (Jvm.Cond.instanceMethod y).before a0 Z = true) (wp : (Jvm.Cond.privateMethod y).before a0 Z = true)
    (hy : y.cls ≠ "java/lang/invoke/MethodHandle" ∧ y.cls ≠ "java/lang/invoke/VarHandle") : (Jvm.Cond.selects y.cls y y).before args s = true := by
  have wi' : (Jvm.Cond.instantiable y.cls n).before args s = true := mv hZ wi
  obtain ⟨c, k, h1, h2, -, h4, -⟩ := Cond.instantiable_spec wi'
  exact Stand.selects_self_of_private h1 h2 (by simp only [Bool.or_eq_false_iff] at h4; exact h4.1) (Cond.privateMethod_at (args := args) (mvP hZ wp)) (mvT hZ wn) hy
theorem own_eqI {t : Term} {n : Int32} {args : Array Value} {s : State} (h : (Jvm.Cond.eq t (.int n)).value args s none s [] = some true) : t.eval args s none [] s = some (.int n) := by
  have hn : (Term.int n).eval args s none [] s = some (.int n) := rfl
  cases ht : t.eval args s none [] s with
  | none => simp [Cond.value, ht] at h
  | some v => cases v <;> simp [Cond.value, ht, hn] at h ⊢; exact h
theorem own_eqJ {t : Term} {n : Int64} {args : Array Value} {s : State} (h : (Jvm.Cond.eq t (.long n)).value args s none s [] = some true) : t.eval args s none [] s = some (.long n) := by
  have hn : (Term.long n).eval args s none [] s = some (.long n) := rfl
  cases ht : t.eval args s none [] s with
  | none => simp [Cond.value, ht] at h
  | some v => cases v <;> simp [Cond.value, ht, hn] at h ⊢; exact h
theorem pn_com_example_planstitch_planstitch_plan_Strategy : plainName "com/example/planstitch/planstitch/plan/Strategy" = true := by first | (simp [plainName, overriddenIn]; done) | decide +kernel
theorem d1_0 : decode prog_104_method_5_code 0 = .ok (.aload_n 0, 1) := by decide +kernel
theorem d1_1 : decode prog_104_method_5_code 1 = .ok (.getstatic 13, 3) := by decide +kernel
theorem d1_4 : decode prog_104_method_5_code 4 = .ok (.if_acmp .eq 7, 3) := by decide +kernel
theorem d1_11 : decode prog_104_method_5_code 11 = .ok (.iconst 0, 1) := by decide +kernel
theorem d1_12 : decode prog_104_method_5_code 12 = .ok (.ireturn, 1) := by decide +kernel
theorem ef_rmD (m : MethodId) (w_DYNAMIC : Addr) : entryFrame m #[(.ref w_DYNAMIC)] 1 = mkF m 0 #[.val (.ref w_DYNAMIC)] [] := by first | (simp [entryFrame, mkF, argsToLocals, Value.category]; done) | rfl
abbrev rm_rmD : Room := ({ frames := 0, cells := 0, slots := 0, locals := 0 } : Room)
def Q_rmD (Z : State) (w_DYNAMIC : Addr) (h0 : Heap) (n0 : Nat) (v : Option Value) (h : Heap) (L : List Loc) : Prop := (v = some (.int (0 : Int32))) ∧ (Fr n0 L) ∧ (h = h0)
set_option maxRecDepth 65536 in
set_option maxHeartbeats 40000000 in
theorem rmD (l : Launch) (Z : State) (a0 : Array Value) (hw : ∀ d ∈ tables_1, d.before a0 Z = true) (ws : List Jvm.Cond) (w_DYNAMIC : Addr) (h0 : Heap) (n0 : Nat) (O : Old Z n0 h0) (S_DYNAMIC : Sta Z Z.heap "com/example/planstitch/planstitch/plan/Strategy" "DYNAMIC" "Lcom/example/planstitch/planstitch/plan/Strategy;" (.ref w_DYNAMIC)) :
    MetFree l (⟨"com/example/planstitch/planstitch/plan/Strategy", "plansAhead", "()Z"⟩ : MethodName) (head1 (Jvm.Cond.code (⟨"com/example/planstitch/planstitch/plan/Strategy", "plansAhead", "()Z"⟩ : MethodName) prog_104_method_5_code 1 (some .boolean) :: ws) rm_rmD) (fun A_ U => A_ = #[(.ref w_DYNAMIC)] ∧ Z.Warmed39 U.vm ∧ U.heap = h0) (fun _ _ _ _ _ => True) (fun _ U o U' => ∃ v L, o = .returned v ∧ Q_rmD Z w_DYNAMIC h0 n0 v U'.heap L ∧ FrameEnd U o U' L rm_rmD.cells rm_rmD.slots) := by
  refine MetFree.of_bodySF (plainFor_of_name pn_com_example_planstitch_planstitch_plan_Strategy) hisR ?_
  intro p e s m args below meth c s₁ Bd hml0 hP hK
  obtain ⟨rfl, hZ, hh⟩ := hP
  have hx := Bd.exec
  have hby := Bd.bytes
  have hml : c.maxLocals = 1 := hml0
  have hown : s.vm.findClass "com/example/planstitch/planstitch/plan/Strategy" = some m.cls := findClass_of_methodNamed Bd.named
  have hnm := (name_of_methodNamed Bd.named Bd.method).1
  have X0 : Stand p l e rm_rmD s m #[(.ref w_DYNAMIC)] below meth c s₁ [] 0 0 := Stand.of_body Bd
  have e0 : s₁.heap = h0 := by rw [← hh, Bd.state]; rfl
  have N0 := Fr.nil n0
  refine Go.step (p := p) (e := e) (below := below) (G := fun o U' => ∃ v L, o = .returned v ∧ Q_rmD Z w_DYNAMIC h0 n0 v U'.heap L ∧ FrameEnd s o U' L rm_rmD.cells rm_rmD.slots) (S' := s₁.setTop (mkF m 0 #[rv w_DYNAMIC] [])) (fun t k => castTop (ef_rmD m w_DYNAMIC) k) ?_
  refine Go.step (S' := s₁.setTop (mkF m 1 #[rv w_DYNAMIC] [(.ref w_DYNAMIC)])) (fun t k => ?_) ?_
  · show Steps p.tables e below (s₁.setTop (mkF m 0 #[rv w_DYNAMIC] [])) _
    refine XS.aloadN X0.here hx rfl (hb hby d1_0) rfl rfl ?_
    exact k
  obtain ⟨T1, X1, e1, st1⟩ := getS2 X0 hx hZ hown (host := "") (Or.inl (own_w hw 8 rfl)) Via.refl e0 (S_DYNAMIC.ext O.2) (g := (mkF m 1 #[rv w_DYNAMIC] [(.ref w_DYNAMIC)])) rfl (hb hby d1_1)
  refine Go.step st1 ?_
  show Go p e below _ (T1.setTop (mkF m 4 #[rv w_DYNAMIC] [(.ref w_DYNAMIC), (.ref w_DYNAMIC)]))
  refine Go.step (S' := T1.setTop (mkF m 12 #[rv w_DYNAMIC] [(.int (0 : Int32))])) (fun t k => ?_) ?_
  · show Steps p.tables e below (T1.setTop (mkF m 4 #[rv w_DYNAMIC] [(.ref w_DYNAMIC), (.ref w_DYNAMIC)])) _
    refine Jvm.RoadKit.acmp (g := (mkF m 4 #[rv w_DYNAMIC] [(.ref w_DYNAMIC), (.ref w_DYNAMIC)])) X1 hx rfl rfl rfl (pc0 := 4) (pc' := 11) (same := true) rfl (hb hby d1_4) rfl (decide_eq_true rfl) (by decide) (by decide) ?_
    show Steps p.tables e below (T1.setTop (mkF m 11 #[rv w_DYNAMIC] [])) _
    refine XS.iconst X1.here hx rfl (hb hby d1_11) ?_
    exact k
  obtain ⟨fs, hr, hrun, hended, hW, hsame⟩ := X1.leave (v := some (.int (0 : Int32))) (fun h => by rw [Bd.returns] at h; cases h)
  refine Go.fin (S' := T1.setFrames fs) ?_ hrun hended ⟨_, _, rfl, ?_, ⟨_, rfl⟩, hW, hsame.mono (by decide) (by decide)⟩
  · exact retOut X1 hx Bd.returns (by decide) (Or.inl ⟨rfl, Or.inr (Or.inl rfl), _, rfl⟩) (hb hby d1_12) hr
  · show Q_rmD Z w_DYNAMIC h0 n0 (some (.int (0 : Int32))) T1.heap _
    rw [e1]
    exact ⟨rfl, N0, rfl⟩
theorem d1_7 : decode prog_104_method_5_code 7 = .ok (.iconst 1, 1) := by decide +kernel
theorem d1_8 : decode prog_104_method_5_code 8 = .ok (.goto 4, 3) := by decide +kernel
theorem ef_rmN (m : MethodId) (a : Addr) : entryFrame m #[(.ref a)] 1 = mkF m 0 #[.val (.ref a)] [] := by first | (simp [entryFrame, mkF, argsToLocals, Value.category]; done) | rfl
abbrev rm_rmN : Room := ({ frames := 0, cells := 0, slots := 0, locals := 0 } : Room)
def Q_rmN (Z : State) (a : Addr) (w_DYNAMIC : Addr) (h0 : Heap) (n0 : Nat) (v : Option Value) (h : Heap) (L : List Loc) : Prop := (v = some (.int (1 : Int32))) ∧ (Fr n0 L) ∧ (h = h0)
set_option maxRecDepth 65536 in
set_option maxHeartbeats 40000000 in
theorem rmN (l : Launch) (Z : State) (a0 : Array Value) (hw : ∀ d ∈ tables_1, d.before a0 Z = true) (ws : List Jvm.Cond) (a : Addr) (w_DYNAMIC : Addr) (h0 : Heap) (n0 : Nat) (O : Old Z n0 h0) (S_DYNAMIC : Sta Z Z.heap "com/example/planstitch/planstitch/plan/Strategy" "DYNAMIC" "Lcom/example/planstitch/planstitch/plan/Strategy;" (.ref w_DYNAMIC)) (hne : ¬ (a = w_DYNAMIC)) :
    MetFree l (⟨"com/example/planstitch/planstitch/plan/Strategy", "plansAhead", "()Z"⟩ : MethodName) (head1 (Jvm.Cond.code (⟨"com/example/planstitch/planstitch/plan/Strategy", "plansAhead", "()Z"⟩ : MethodName) prog_104_method_5_code 1 (some .boolean) :: ws) rm_rmN) (fun A_ U => A_ = #[(.ref a)] ∧ Z.Warmed39 U.vm ∧ U.heap = h0) (fun _ _ _ _ _ => True) (fun _ U o U' => ∃ v L, o = .returned v ∧ Q_rmN Z a w_DYNAMIC h0 n0 v U'.heap L ∧ FrameEnd U o U' L rm_rmN.cells rm_rmN.slots) := by
  refine MetFree.of_bodySF (plainFor_of_name pn_com_example_planstitch_planstitch_plan_Strategy) hisR ?_
  intro p e s m args below meth c s₁ Bd hml0 hP hK
  obtain ⟨rfl, hZ, hh⟩ := hP
  have hx := Bd.exec
  have hby := Bd.bytes
  have hml : c.maxLocals = 1 := hml0
  have hown : s.vm.findClass "com/example/planstitch/planstitch/plan/Strategy" = some m.cls := findClass_of_methodNamed Bd.named
  have hnm := (name_of_methodNamed Bd.named Bd.method).1
  have X0 : Stand p l e rm_rmN s m #[(.ref a)] below meth c s₁ [] 0 0 := Stand.of_body Bd
  have e0 : s₁.heap = h0 := by rw [← hh, Bd.state]; rfl
  have N0 := Fr.nil n0
  refine Go.step (p := p) (e := e) (below := below) (G := fun o U' => ∃ v L, o = .returned v ∧ Q_rmN Z a w_DYNAMIC h0 n0 v U'.heap L ∧ FrameEnd s o U' L rm_rmN.cells rm_rmN.slots) (S' := s₁.setTop (mkF m 0 #[rv a] [])) (fun t k => castTop (ef_rmN m a) k) ?_
  refine Go.step (S' := s₁.setTop (mkF m 1 #[rv a] [(.ref a)])) (fun t k => ?_) ?_
  · show Steps p.tables e below (s₁.setTop (mkF m 0 #[rv a] [])) _
    refine XS.aloadN X0.here hx rfl (hb hby d1_0) rfl rfl ?_
    exact k
  obtain ⟨T1, X1, e1, st1⟩ := getS2 X0 hx hZ hown (host := "") (Or.inl (own_w hw 8 rfl)) Via.refl e0 (S_DYNAMIC.ext O.2) (g := (mkF m 1 #[rv a] [(.ref a)])) rfl (hb hby d1_1)
  refine Go.step st1 ?_
  show Go p e below _ (T1.setTop (mkF m 4 #[rv a] [(.ref w_DYNAMIC), (.ref a)]))
  refine Go.step (S' := T1.setTop (mkF m 12 #[rv a] [(.int (1 : Int32))])) (fun t k => ?_) ?_
  · show Steps p.tables e below (T1.setTop (mkF m 4 #[rv a] [(.ref w_DYNAMIC), (.ref a)])) _
    refine Jvm.RoadKit.acmp (g := (mkF m 4 #[rv a] [(.ref w_DYNAMIC), (.ref a)])) X1 hx rfl rfl rfl (pc0 := 4) (pc' := 7) (same := false) rfl (hb hby d1_4) rfl (decide_eq_false fun q => hne (Value.ref.inj q)) (by decide) (by decide) ?_
    show Steps p.tables e below (T1.setTop (mkF m 7 #[rv a] [])) _
    refine XS.iconst X1.here hx rfl (hb hby d1_7) ?_
    show Steps p.tables e below (T1.setTop (mkF m 8 #[rv a] [(.int (1 : Int32))])) _
    refine XS.goto X1.here hx rfl (pc0 := 8) (pc' := 12) rfl (hb hby d1_8) (by decide) (by decide) ?_
    exact k
  obtain ⟨fs, hr, hrun, hended, hW, hsame⟩ := X1.leave (v := some (.int (1 : Int32))) (fun h => by rw [Bd.returns] at h; cases h)
  refine Go.fin (S' := T1.setFrames fs) ?_ hrun hended ⟨_, _, rfl, ?_, ⟨_, rfl⟩, hW, hsame.mono (by decide) (by decide)⟩
  · exact retOut X1 hx Bd.returns (by decide) (Or.inl ⟨rfl, Or.inr (Or.inl rfl), _, rfl⟩) (hb hby d1_12) hr
  · show Q_rmN Z a w_DYNAMIC h0 n0 (some (.int (1 : Int32))) T1.heap _
    rw [e1]
    exact ⟨rfl, N0, rfl⟩
theorem pn_com_example_planstitch_planstitch_plan_StrategyPlansAheadPinLaw : plainName "com/example/planstitch/planstitch/plan/StrategyPlansAheadPinLaw" = true := by first | (simp [plainName, overriddenIn]; done) | decide +kernel
theorem pd__28_29Z : parseMethodDescriptor "()Z" = some ⟨[], some .boolean⟩ := by decide +kernel
theorem ef_rm0 (m : MethodId) (p0 : Int32) : entryFrame m #[(.int p0)] maxLocals = mkF m 0 #[.val (.int p0), .unset, .unset, .unset] [] := by first | (simp [entryFrame, mkF, argsToLocals, Value.category, maxLocals]; done) | rfl
def Q_rm0 (Z : State) (p0 : Int32) (w_SHIP_ALL : Addr) (w_QUERY_SITE : Addr) (w_COST_BASED : Addr) (w_DYNAMIC : Addr) (h0 : Heap) (n0 : Nat) (v : Option Value) (h : Heap) (L : List Loc) : Prop := (v = some (.int (1 : Int32))) ∧ (Fr n0 L) ∧ (h = h0)
set_option maxRecDepth 65536 in
set_option maxHeartbeats 40000000 in
theorem rm0 (l : Launch) (Z : State) (a0 : Array Value) (hw : ∀ d ∈ tables_1, d.before a0 Z = true) (ws : List Jvm.Cond) (p0 : Int32) (w_SHIP_ALL : Addr) (w_QUERY_SITE : Addr) (w_COST_BASED : Addr) (w_DYNAMIC : Addr) (h0 : Heap) (n0 : Nat) (O : Old Z n0 h0) (S_SHIP_ALL : Sta Z Z.heap "com/example/planstitch/planstitch/plan/Strategy" "SHIP_ALL" "Lcom/example/planstitch/planstitch/plan/Strategy;" (.ref w_SHIP_ALL)) (S_QUERY_SITE : Sta Z Z.heap "com/example/planstitch/planstitch/plan/Strategy" "QUERY_SITE" "Lcom/example/planstitch/planstitch/plan/Strategy;" (.ref w_QUERY_SITE)) (S_COST_BASED : Sta Z Z.heap "com/example/planstitch/planstitch/plan/Strategy" "COST_BASED" "Lcom/example/planstitch/planstitch/plan/Strategy;" (.ref w_COST_BASED)) (S_DYNAMIC : Sta Z Z.heap "com/example/planstitch/planstitch/plan/Strategy" "DYNAMIC" "Lcom/example/planstitch/planstitch/plan/Strategy;" (.ref w_DYNAMIC)) (E_SHIP_ALL : Exa Z Z.heap w_SHIP_ALL "com/example/planstitch/planstitch/plan/Strategy") (E_QUERY_SITE : Exa Z Z.heap w_QUERY_SITE "com/example/planstitch/planstitch/plan/Strategy") (E_COST_BASED : Exa Z Z.heap w_COST_BASED "com/example/planstitch/planstitch/plan/Strategy") (E_DYNAMIC : Exa Z Z.heap w_DYNAMIC "com/example/planstitch/planstitch/plan/Strategy") (ne_SHIP_ALL_DYNAMIC : ¬ (w_SHIP_ALL = w_DYNAMIC)) (ne_QUERY_SITE_DYNAMIC : ¬ (w_QUERY_SITE = w_DYNAMIC)) (ne_COST_BASED_DYNAMIC : ¬ (w_COST_BASED = w_DYNAMIC)) :
    MetFree l x (head1 (Jvm.Cond.code x code maxLocals ret :: ws) room_1) (fun A_ U => A_ = #[(.int p0)] ∧ Z.Warmed39 U.vm ∧ U.heap = h0) (fun _ _ _ _ _ => True) (fun _ U o U' => ∃ v L, o = .returned v ∧ Q_rm0 Z p0 w_SHIP_ALL w_QUERY_SITE w_COST_BASED w_DYNAMIC h0 n0 v U'.heap L ∧ FrameEnd U o U' L room_1.cells room_1.slots) := by
  refine MetFree.of_bodySF (plainFor_of_name pn_com_example_planstitch_planstitch_plan_StrategyPlansAheadPinLaw) hisR ?_
  intro p e s m args below meth c s₁ Bd hml0 hP hK
  obtain ⟨rfl, hZ, hh⟩ := hP
  have hx := Bd.exec
  have hby := Bd.bytes
  have hml : c.maxLocals = 4 := hml0
  have hown : s.vm.findClass "com/example/planstitch/planstitch/plan/StrategyPlansAheadPinLaw" = some m.cls := findClass_of_methodNamed Bd.named
  have hnm := (name_of_methodNamed Bd.named Bd.method).1
  have X0 : Stand p l e room_1 s m #[(.int p0)] below meth c s₁ [] 0 0 := Stand.of_body Bd
  have e0 : s₁.heap = h0 := by rw [← hh, Bd.state]; rfl
  have N0 := Fr.nil n0
  refine Go.step (p := p) (e := e) (below := below) (G := fun o U' => ∃ v L, o = .returned v ∧ Q_rm0 Z p0 w_SHIP_ALL w_QUERY_SITE w_COST_BASED w_DYNAMIC h0 n0 v U'.heap L ∧ FrameEnd s o U' L room_1.cells room_1.slots) (S' := s₁.setTop (mkF m 0 #[iv p0, u_, u_, u_] [])) (fun t k => castTop (ef_rm0 m p0) k) ?_
  refine Go.step (S' := s₁.setTop (mkF m 5 #[iv p0, iv (p0 &&& (3 : Int32)), u_, u_] [(.int (p0 &&& (3 : Int32)))])) (fun t k => ?_) ?_
  · show Steps p.tables e below (s₁.setTop (mkF m 0 #[iv p0, u_, u_, u_] [])) _
    refine XS.iloadN X0.here hx rfl (hb hby at_0) rfl ?_
    show Steps p.tables e below (s₁.setTop (mkF m 1 #[iv p0, u_, u_, u_] [(.int p0)])) _
    refine XS.iconst X0.here hx rfl (hb hby at_1) ?_
    show Steps p.tables e below (s₁.setTop (mkF m 2 #[iv p0, u_, u_, u_] [(.int (3 : Int32)), (.int p0)])) _
    refine XS.iand X0.here hx rfl (hb hby at_2) rfl ?_
    show Steps p.tables e below (s₁.setTop (mkF m 3 #[iv p0, u_, u_, u_] [(.int (p0 &&& (3 : Int32)))])) _
    refine XS.istoreN X0.here hx rfl (hb hby at_3) rfl (l' := #[iv p0, iv (p0 &&& (3 : Int32)), u_, u_]) rfl ?_
    show Steps p.tables e below (s₁.setTop (mkF m 4 #[iv p0, iv (p0 &&& (3 : Int32)), u_, u_] [])) _
    refine XS.iloadN X0.here hx rfl (hb hby at_4) rfl ?_
    exact k
  by_cases hc5 : (p0 &&& (3 : Int32)) = (0 : Int32)
  · skip
    refine Go.step (S' := s₁.setTop (mkF m 8 #[iv p0, iv (p0 &&& (3 : Int32)), u_, u_] [])) (fun t k => ?_) ?_
    · show Steps p.tables e below (s₁.setTop (mkF m 5 #[iv p0, iv (p0 &&& (3 : Int32)), u_, u_] [(.int (p0 &&& (3 : Int32)))])) _
      refine XS.ifNo X0.here hx rfl (hb hby at_5) rfl ((if0 _ _).trans (teq (hc5 : (p0 &&& (3 : Int32)) = (0 : Int32))).2) ?_
      exact k
    obtain ⟨T1, X1, e1, st1⟩ := getS2 X0 hx hZ hown (host := "") (Or.inl (own_w hw 0 rfl)) Via.refl e0 (S_SHIP_ALL.ext O.2) (g := (mkF m 8 #[iv p0, iv (p0 &&& (3 : Int32)), u_, u_] [])) rfl (hb hby at_8)
    refine Go.step st1 ?_
    show Go p e below _ (T1.setTop (mkF m 11 #[iv p0, iv (p0 &&& (3 : Int32)), u_, u_] [(.ref w_SHIP_ALL)]))
    refine Go.step (S' := T1.setTop (mkF m 52 #[iv p0, iv (p0 &&& (3 : Int32)), rv w_SHIP_ALL, iv (1 : Int32)] [(.ref w_SHIP_ALL)])) (fun t k => ?_) ?_
    · show Steps p.tables e below (T1.setTop (mkF m 11 #[iv p0, iv (p0 &&& (3 : Int32)), u_, u_] [(.ref w_SHIP_ALL)])) _
      refine XS.astoreN X1.here hx rfl (hb hby at_11) rfl rfl (l' := #[iv p0, iv (p0 &&& (3 : Int32)), rv w_SHIP_ALL, u_]) rfl ?_
      show Steps p.tables e below (T1.setTop (mkF m 12 #[iv p0, iv (p0 &&& (3 : Int32)), rv w_SHIP_ALL, u_] [])) _
      refine XS.iconst X1.here hx rfl (hb hby at_12) ?_
      show Steps p.tables e below (T1.setTop (mkF m 13 #[iv p0, iv (p0 &&& (3 : Int32)), rv w_SHIP_ALL, u_] [(.int (1 : Int32))])) _
      refine XS.istoreN X1.here hx rfl (hb hby at_13) rfl (l' := #[iv p0, iv (p0 &&& (3 : Int32)), rv w_SHIP_ALL, iv (1 : Int32)]) rfl ?_
      show Steps p.tables e below (T1.setTop (mkF m 14 #[iv p0, iv (p0 &&& (3 : Int32)), rv w_SHIP_ALL, iv (1 : Int32)] [])) _
      refine XS.goto X1.here hx rfl (pc0 := 14) (pc' := 51) rfl (hb hby at_14) (by decide) (by decide) ?_
      show Steps p.tables e below (T1.setTop (mkF m 51 #[iv p0, iv (p0 &&& (3 : Int32)), rv w_SHIP_ALL, iv (1 : Int32)] [])) _
      refine XS.aloadN X1.here hx rfl (hb hby at_51) rfl rfl ?_
      exact k
    obtain ⟨cq2, kq2, q2a, q2b, q2c⟩ := isOf hZ e1 (E_SHIP_ALL.ext O.2)
    obtain ⟨_, _, ⟨T2, L2, k2, n2⟩, -, X2, ⟨Lc2, hQ2, l2, y2, z2⟩, st2⟩ := X1.virtualBack hx (y := (⟨"com/example/planstitch/planstitch/plan/Strategy", "plansAhead", "()Z"⟩ : MethodName)) (z := (⟨"com/example/planstitch/planstitch/plan/Strategy", "plansAhead", "()Z"⟩ : MethodName)) hown (mvT hZ (own_w hw 3 rfl)) (mvT hZ (own_w hw 4 rfl)) (notFace_of_selects (args := #[]) (mvT hZ (own_w hw 6 rfl))) (mvT hZ (own_w hw 6 rfl)) (mvT hZ (own_w hw 5 rfl)) (by decide) (backOf (W := 0) (rmN l Z a0 hw [] w_SHIP_ALL w_DYNAMIC h0 n0 O S_DYNAMIC ne_SHIP_ALL_DYNAMIC) hZ (own_w hw 7 rfl) (own_w hw 1 rfl) (by decide) (by decide)) q2a q2c (g := (mkF m 52 #[iv p0, iv (p0 &&& (3 : Int32)), rv w_SHIP_ALL, iv (1 : Int32)] [(.ref w_SHIP_ALL)])) rfl (by rw [hml]; rfl) (Steps.refl _) (argsL := []) (rest := []) (lenOf pd__28_29Z rfl) rfl (by show 2 * 0 + _ ≤ _; exact Nat.le_of_eq rfl) (hb hby at_52) (fun _ _ => ⟨rfl, e1, (by decide : 0 + 0 ≤ _), (by decide : 0 + 0 ≤ _)⟩)
    dsimp only [Pt.U, Pt.locs, Pt.cells, Pt.slots] at X2 l2 y2 z2 st2 hQ2
    subst l2 y2 z2
    obtain ⟨rfl, Nq2, e2⟩ := hQ2
    have N2 := Fr.app N0 Nq2
    refine Go.step (fun t k => st2.trans k) ?_
    show Go p e below _ (T2.setTop (mkF m 55 #[iv p0, iv (p0 &&& (3 : Int32)), rv w_SHIP_ALL, iv (1 : Int32)] [(.int (1 : Int32))]))
    refine Go.step (S' := T2.setTop (mkF m 64 #[iv p0, iv (p0 &&& (3 : Int32)), rv w_SHIP_ALL, iv (1 : Int32)] [(.int (1 : Int32))])) (fun t k => ?_) ?_
    · show Steps p.tables e below (T2.setTop (mkF m 55 #[iv p0, iv (p0 &&& (3 : Int32)), rv w_SHIP_ALL, iv (1 : Int32)] [(.int (1 : Int32))])) _
      refine XS.iloadN X2.here hx rfl (hb hby at_55) rfl ?_
      show Steps p.tables e below (T2.setTop (mkF m 56 #[iv p0, iv (p0 &&& (3 : Int32)), rv w_SHIP_ALL, iv (1 : Int32)] [(.int (1 : Int32)), (.int (1 : Int32))])) _
      refine XS.icmpNo X2.here hx rfl (hb hby at_56) rfl (teq ((by decide) : (1 : Int32) = (1 : Int32))).2 ?_
      show Steps p.tables e below (T2.setTop (mkF m 59 #[iv p0, iv (p0 &&& (3 : Int32)), rv w_SHIP_ALL, iv (1 : Int32)] [])) _
      refine XS.iconst X2.here hx rfl (hb hby at_59) ?_
      show Steps p.tables e below (T2.setTop (mkF m 60 #[iv p0, iv (p0 &&& (3 : Int32)), rv w_SHIP_ALL, iv (1 : Int32)] [(.int (1 : Int32))])) _
      refine XS.goto X2.here hx rfl (pc0 := 60) (pc' := 64) rfl (hb hby at_60) (by decide) (by decide) ?_
      exact k
    obtain ⟨fs, hr, hrun, hended, hW, hsame⟩ := X2.leave (v := some (.int (1 : Int32))) (fun h => by rw [Bd.returns] at h; cases h)
    refine Go.fin (S' := T2.setFrames fs) ?_ hrun hended ⟨_, _, rfl, ?_, ⟨_, rfl⟩, hW, hsame.mono (by decide) (by decide)⟩
    · exact retOut X2 hx Bd.returns (by decide) (Or.inl ⟨rfl, Or.inr (Or.inl rfl), _, rfl⟩) (hb hby at_64) hr
    · show Q_rm0 Z p0 w_SHIP_ALL w_QUERY_SITE w_COST_BASED w_DYNAMIC h0 n0 (some (.int (1 : Int32))) T2.heap _
      rw [e2]
      exact ⟨rfl, N2, rfl⟩
  · skip
    refine Go.step (S' := s₁.setTop (mkF m 19 #[iv p0, iv (p0 &&& (3 : Int32)), u_, u_] [(.int (1 : Int32)), (.int (p0 &&& (3 : Int32)))])) (fun t k => ?_) ?_
    · show Steps p.tables e below (s₁.setTop (mkF m 5 #[iv p0, iv (p0 &&& (3 : Int32)), u_, u_] [(.int (p0 &&& (3 : Int32)))])) _
      refine XS.ifYes X0.here hx rfl (pc0 := 5) (pc' := 17) rfl (hb hby at_5) rfl ((if0 _ _).trans (feq (hc5 : ¬ ((p0 &&& (3 : Int32)) = (0 : Int32)))).2) (by decide) (by decide) ?_
      show Steps p.tables e below (s₁.setTop (mkF m 17 #[iv p0, iv (p0 &&& (3 : Int32)), u_, u_] [])) _
      refine XS.iloadN X0.here hx rfl (hb hby at_17) rfl ?_
      show Steps p.tables e below (s₁.setTop (mkF m 18 #[iv p0, iv (p0 &&& (3 : Int32)), u_, u_] [(.int (p0 &&& (3 : Int32)))])) _
      refine XS.iconst X0.here hx rfl (hb hby at_18) ?_
      exact k
    by_cases hc19 : (p0 &&& (3 : Int32)) = (1 : Int32)
    · skip
      refine Go.step (S' := s₁.setTop (mkF m 22 #[iv p0, iv (p0 &&& (3 : Int32)), u_, u_] [])) (fun t k => ?_) ?_
      · show Steps p.tables e below (s₁.setTop (mkF m 19 #[iv p0, iv (p0 &&& (3 : Int32)), u_, u_] [(.int (1 : Int32)), (.int (p0 &&& (3 : Int32)))])) _
        refine XS.icmpNo X0.here hx rfl (hb hby at_19) rfl (teq (hc19 : (p0 &&& (3 : Int32)) = (1 : Int32))).2 ?_
        exact k
      obtain ⟨T3, X3, e3, st3⟩ := getS2 X0 hx hZ hown (host := "") (Or.inl (own_w hw 13 rfl)) Via.refl e0 (S_QUERY_SITE.ext O.2) (g := (mkF m 22 #[iv p0, iv (p0 &&& (3 : Int32)), u_, u_] [])) rfl (hb hby at_22)
      refine Go.step st3 ?_
      show Go p e below _ (T3.setTop (mkF m 25 #[iv p0, iv (p0 &&& (3 : Int32)), u_, u_] [(.ref w_QUERY_SITE)]))
      refine Go.step (S' := T3.setTop (mkF m 52 #[iv p0, iv (p0 &&& (3 : Int32)), rv w_QUERY_SITE, iv (1 : Int32)] [(.ref w_QUERY_SITE)])) (fun t k => ?_) ?_
      · show Steps p.tables e below (T3.setTop (mkF m 25 #[iv p0, iv (p0 &&& (3 : Int32)), u_, u_] [(.ref w_QUERY_SITE)])) _
        refine XS.astoreN X3.here hx rfl (hb hby at_25) rfl rfl (l' := #[iv p0, iv (p0 &&& (3 : Int32)), rv w_QUERY_SITE, u_]) rfl ?_
        show Steps p.tables e below (T3.setTop (mkF m 26 #[iv p0, iv (p0 &&& (3 : Int32)), rv w_QUERY_SITE, u_] [])) _
        refine XS.iconst X3.here hx rfl (hb hby at_26) ?_
        show Steps p.tables e below (T3.setTop (mkF m 27 #[iv p0, iv (p0 &&& (3 : Int32)), rv w_QUERY_SITE, u_] [(.int (1 : Int32))])) _
        refine XS.istoreN X3.here hx rfl (hb hby at_27) rfl (l' := #[iv p0, iv (p0 &&& (3 : Int32)), rv w_QUERY_SITE, iv (1 : Int32)]) rfl ?_
        show Steps p.tables e below (T3.setTop (mkF m 28 #[iv p0, iv (p0 &&& (3 : Int32)), rv w_QUERY_SITE, iv (1 : Int32)] [])) _
        refine XS.goto X3.here hx rfl (pc0 := 28) (pc' := 51) rfl (hb hby at_28) (by decide) (by decide) ?_
        show Steps p.tables e below (T3.setTop (mkF m 51 #[iv p0, iv (p0 &&& (3 : Int32)), rv w_QUERY_SITE, iv (1 : Int32)] [])) _
        refine XS.aloadN X3.here hx rfl (hb hby at_51) rfl rfl ?_
        exact k
      obtain ⟨cq4, kq4, q4a, q4b, q4c⟩ := isOf hZ e3 (E_QUERY_SITE.ext O.2)
      obtain ⟨_, _, ⟨T4, L4, k4, n4⟩, -, X4, ⟨Lc4, hQ4, l4, y4, z4⟩, st4⟩ := X3.virtualBack hx (y := (⟨"com/example/planstitch/planstitch/plan/Strategy", "plansAhead", "()Z"⟩ : MethodName)) (z := (⟨"com/example/planstitch/planstitch/plan/Strategy", "plansAhead", "()Z"⟩ : MethodName)) hown (mvT hZ (own_w hw 3 rfl)) (mvT hZ (own_w hw 4 rfl)) (notFace_of_selects (args := #[]) (mvT hZ (own_w hw 6 rfl))) (mvT hZ (own_w hw 6 rfl)) (mvT hZ (own_w hw 5 rfl)) (by decide) (backOf (W := 0) (rmN l Z a0 hw [] w_QUERY_SITE w_DYNAMIC h0 n0 O S_DYNAMIC ne_QUERY_SITE_DYNAMIC) hZ (own_w hw 7 rfl) (own_w hw 1 rfl) (by decide) (by decide)) q4a q4c (g := (mkF m 52 #[iv p0, iv (p0 &&& (3 : Int32)), rv w_QUERY_SITE, iv (1 : Int32)] [(.ref w_QUERY_SITE)])) rfl (by rw [hml]; rfl) (Steps.refl _) (argsL := []) (rest := []) (lenOf pd__28_29Z rfl) rfl (by show 2 * 0 + _ ≤ _; exact Nat.le_of_eq rfl) (hb hby at_52) (fun _ _ => ⟨rfl, e3, (by decide : 0 + 0 ≤ _), (by decide : 0 + 0 ≤ _)⟩)
      dsimp only [Pt.U, Pt.locs, Pt.cells, Pt.slots] at X4 l4 y4 z4 st4 hQ4
      subst l4 y4 z4
      obtain ⟨rfl, Nq4, e4⟩ := hQ4
      have N4 := Fr.app N0 Nq4
      refine Go.step (fun t k => st4.trans k) ?_
      show Go p e below _ (T4.setTop (mkF m 55 #[iv p0, iv (p0 &&& (3 : Int32)), rv w_QUERY_SITE, iv (1 : Int32)] [(.int (1 : Int32))]))
      refine Go.step (S' := T4.setTop (mkF m 64 #[iv p0, iv (p0 &&& (3 : Int32)), rv w_QUERY_SITE, iv (1 : Int32)] [(.int (1 : Int32))])) (fun t k => ?_) ?_
      · show Steps p.tables e below (T4.setTop (mkF m 55 #[iv p0, iv (p0 &&& (3 : Int32)), rv w_QUERY_SITE, iv (1 : Int32)] [(.int (1 : Int32))])) _
        refine XS.iloadN X4.here hx rfl (hb hby at_55) rfl ?_
        show Steps p.tables e below (T4.setTop (mkF m 56 #[iv p0, iv (p0 &&& (3 : Int32)), rv w_QUERY_SITE, iv (1 : Int32)] [(.int (1 : Int32)), (.int (1 : Int32))])) _
        refine XS.icmpNo X4.here hx rfl (hb hby at_56) rfl (teq ((by decide) : (1 : Int32) = (1 : Int32))).2 ?_
        show Steps p.tables e below (T4.setTop (mkF m 59 #[iv p0, iv (p0 &&& (3 : Int32)), rv w_QUERY_SITE, iv (1 : Int32)] [])) _
        refine XS.iconst X4.here hx rfl (hb hby at_59) ?_
        show Steps p.tables e below (T4.setTop (mkF m 60 #[iv p0, iv (p0 &&& (3 : Int32)), rv w_QUERY_SITE, iv (1 : Int32)] [(.int (1 : Int32))])) _
        refine XS.goto X4.here hx rfl (pc0 := 60) (pc' := 64) rfl (hb hby at_60) (by decide) (by decide) ?_
        exact k
      obtain ⟨fs, hr, hrun, hended, hW, hsame⟩ := X4.leave (v := some (.int (1 : Int32))) (fun h => by rw [Bd.returns] at h; cases h)
      refine Go.fin (S' := T4.setFrames fs) ?_ hrun hended ⟨_, _, rfl, ?_, ⟨_, rfl⟩, hW, hsame.mono (by decide) (by decide)⟩
      · exact retOut X4 hx Bd.returns (by decide) (Or.inl ⟨rfl, Or.inr (Or.inl rfl), _, rfl⟩) (hb hby at_64) hr
      · show Q_rm0 Z p0 w_SHIP_ALL w_QUERY_SITE w_COST_BASED w_DYNAMIC h0 n0 (some (.int (1 : Int32))) T4.heap _
        rw [e4]
        exact ⟨rfl, N4, rfl⟩
    · skip
      refine Go.step (S' := s₁.setTop (mkF m 33 #[iv p0, iv (p0 &&& (3 : Int32)), u_, u_] [(.int (2 : Int32)), (.int (p0 &&& (3 : Int32)))])) (fun t k => ?_) ?_
      · show Steps p.tables e below (s₁.setTop (mkF m 19 #[iv p0, iv (p0 &&& (3 : Int32)), u_, u_] [(.int (1 : Int32)), (.int (p0 &&& (3 : Int32)))])) _
        refine XS.icmpYes X0.here hx rfl (pc0 := 19) (pc' := 31) rfl (hb hby at_19) rfl (feq (hc19 : ¬ ((p0 &&& (3 : Int32)) = (1 : Int32)))).2 (by decide) (by decide) ?_
        show Steps p.tables e below (s₁.setTop (mkF m 31 #[iv p0, iv (p0 &&& (3 : Int32)), u_, u_] [])) _
        refine XS.iloadN X0.here hx rfl (hb hby at_31) rfl ?_
        show Steps p.tables e below (s₁.setTop (mkF m 32 #[iv p0, iv (p0 &&& (3 : Int32)), u_, u_] [(.int (p0 &&& (3 : Int32)))])) _
        refine XS.iconst X0.here hx rfl (hb hby at_32) ?_
        exact k
      by_cases hc33 : (p0 &&& (3 : Int32)) = (2 : Int32)
      · skip
        refine Go.step (S' := s₁.setTop (mkF m 36 #[iv p0, iv (p0 &&& (3 : Int32)), u_, u_] [])) (fun t k => ?_) ?_
        · show Steps p.tables e below (s₁.setTop (mkF m 33 #[iv p0, iv (p0 &&& (3 : Int32)), u_, u_] [(.int (2 : Int32)), (.int (p0 &&& (3 : Int32)))])) _
          refine XS.icmpNo X0.here hx rfl (hb hby at_33) rfl (teq (hc33 : (p0 &&& (3 : Int32)) = (2 : Int32))).2 ?_
          exact k
        obtain ⟨T5, X5, e5, st5⟩ := getS2 X0 hx hZ hown (host := "") (Or.inl (own_w hw 11 rfl)) Via.refl e0 (S_COST_BASED.ext O.2) (g := (mkF m 36 #[iv p0, iv (p0 &&& (3 : Int32)), u_, u_] [])) rfl (hb hby at_36)
        refine Go.step st5 ?_
        show Go p e below _ (T5.setTop (mkF m 39 #[iv p0, iv (p0 &&& (3 : Int32)), u_, u_] [(.ref w_COST_BASED)]))
        refine Go.step (S' := T5.setTop (mkF m 52 #[iv p0, iv (p0 &&& (3 : Int32)), rv w_COST_BASED, iv (1 : Int32)] [(.ref w_COST_BASED)])) (fun t k => ?_) ?_
        · show Steps p.tables e below (T5.setTop (mkF m 39 #[iv p0, iv (p0 &&& (3 : Int32)), u_, u_] [(.ref w_COST_BASED)])) _
          refine XS.astoreN X5.here hx rfl (hb hby at_39) rfl rfl (l' := #[iv p0, iv (p0 &&& (3 : Int32)), rv w_COST_BASED, u_]) rfl ?_
          show Steps p.tables e below (T5.setTop (mkF m 40 #[iv p0, iv (p0 &&& (3 : Int32)), rv w_COST_BASED, u_] [])) _
          refine XS.iconst X5.here hx rfl (hb hby at_40) ?_
          show Steps p.tables e below (T5.setTop (mkF m 41 #[iv p0, iv (p0 &&& (3 : Int32)), rv w_COST_BASED, u_] [(.int (1 : Int32))])) _
          refine XS.istoreN X5.here hx rfl (hb hby at_41) rfl (l' := #[iv p0, iv (p0 &&& (3 : Int32)), rv w_COST_BASED, iv (1 : Int32)]) rfl ?_
          show Steps p.tables e below (T5.setTop (mkF m 42 #[iv p0, iv (p0 &&& (3 : Int32)), rv w_COST_BASED, iv (1 : Int32)] [])) _
          refine XS.goto X5.here hx rfl (pc0 := 42) (pc' := 51) rfl (hb hby at_42) (by decide) (by decide) ?_
          show Steps p.tables e below (T5.setTop (mkF m 51 #[iv p0, iv (p0 &&& (3 : Int32)), rv w_COST_BASED, iv (1 : Int32)] [])) _
          refine XS.aloadN X5.here hx rfl (hb hby at_51) rfl rfl ?_
          exact k
        obtain ⟨cq6, kq6, q6a, q6b, q6c⟩ := isOf hZ e5 (E_COST_BASED.ext O.2)
        obtain ⟨_, _, ⟨T6, L6, k6, n6⟩, -, X6, ⟨Lc6, hQ6, l6, y6, z6⟩, st6⟩ := X5.virtualBack hx (y := (⟨"com/example/planstitch/planstitch/plan/Strategy", "plansAhead", "()Z"⟩ : MethodName)) (z := (⟨"com/example/planstitch/planstitch/plan/Strategy", "plansAhead", "()Z"⟩ : MethodName)) hown (mvT hZ (own_w hw 3 rfl)) (mvT hZ (own_w hw 4 rfl)) (notFace_of_selects (args := #[]) (mvT hZ (own_w hw 6 rfl))) (mvT hZ (own_w hw 6 rfl)) (mvT hZ (own_w hw 5 rfl)) (by decide) (backOf (W := 0) (rmN l Z a0 hw [] w_COST_BASED w_DYNAMIC h0 n0 O S_DYNAMIC ne_COST_BASED_DYNAMIC) hZ (own_w hw 7 rfl) (own_w hw 1 rfl) (by decide) (by decide)) q6a q6c (g := (mkF m 52 #[iv p0, iv (p0 &&& (3 : Int32)), rv w_COST_BASED, iv (1 : Int32)] [(.ref w_COST_BASED)])) rfl (by rw [hml]; rfl) (Steps.refl _) (argsL := []) (rest := []) (lenOf pd__28_29Z rfl) rfl (by show 2 * 0 + _ ≤ _; exact Nat.le_of_eq rfl) (hb hby at_52) (fun _ _ => ⟨rfl, e5, (by decide : 0 + 0 ≤ _), (by decide : 0 + 0 ≤ _)⟩)
        dsimp only [Pt.U, Pt.locs, Pt.cells, Pt.slots] at X6 l6 y6 z6 st6 hQ6
        subst l6 y6 z6
        obtain ⟨rfl, Nq6, e6⟩ := hQ6
        have N6 := Fr.app N0 Nq6
        refine Go.step (fun t k => st6.trans k) ?_
        show Go p e below _ (T6.setTop (mkF m 55 #[iv p0, iv (p0 &&& (3 : Int32)), rv w_COST_BASED, iv (1 : Int32)] [(.int (1 : Int32))]))
        refine Go.step (S' := T6.setTop (mkF m 64 #[iv p0, iv (p0 &&& (3 : Int32)), rv w_COST_BASED, iv (1 : Int32)] [(.int (1 : Int32))])) (fun t k => ?_) ?_
        · show Steps p.tables e below (T6.setTop (mkF m 55 #[iv p0, iv (p0 &&& (3 : Int32)), rv w_COST_BASED, iv (1 : Int32)] [(.int (1 : Int32))])) _
          refine XS.iloadN X6.here hx rfl (hb hby at_55) rfl ?_
          show Steps p.tables e below (T6.setTop (mkF m 56 #[iv p0, iv (p0 &&& (3 : Int32)), rv w_COST_BASED, iv (1 : Int32)] [(.int (1 : Int32)), (.int (1 : Int32))])) _
          refine XS.icmpNo X6.here hx rfl (hb hby at_56) rfl (teq ((by decide) : (1 : Int32) = (1 : Int32))).2 ?_
          show Steps p.tables e below (T6.setTop (mkF m 59 #[iv p0, iv (p0 &&& (3 : Int32)), rv w_COST_BASED, iv (1 : Int32)] [])) _
          refine XS.iconst X6.here hx rfl (hb hby at_59) ?_
          show Steps p.tables e below (T6.setTop (mkF m 60 #[iv p0, iv (p0 &&& (3 : Int32)), rv w_COST_BASED, iv (1 : Int32)] [(.int (1 : Int32))])) _
          refine XS.goto X6.here hx rfl (pc0 := 60) (pc' := 64) rfl (hb hby at_60) (by decide) (by decide) ?_
          exact k
        obtain ⟨fs, hr, hrun, hended, hW, hsame⟩ := X6.leave (v := some (.int (1 : Int32))) (fun h => by rw [Bd.returns] at h; cases h)
        refine Go.fin (S' := T6.setFrames fs) ?_ hrun hended ⟨_, _, rfl, ?_, ⟨_, rfl⟩, hW, hsame.mono (by decide) (by decide)⟩
        · exact retOut X6 hx Bd.returns (by decide) (Or.inl ⟨rfl, Or.inr (Or.inl rfl), _, rfl⟩) (hb hby at_64) hr
        · show Q_rm0 Z p0 w_SHIP_ALL w_QUERY_SITE w_COST_BASED w_DYNAMIC h0 n0 (some (.int (1 : Int32))) T6.heap _
          rw [e6]
          exact ⟨rfl, N6, rfl⟩
      · skip
        refine Go.step (S' := s₁.setTop (mkF m 45 #[iv p0, iv (p0 &&& (3 : Int32)), u_, u_] [])) (fun t k => ?_) ?_
        · show Steps p.tables e below (s₁.setTop (mkF m 33 #[iv p0, iv (p0 &&& (3 : Int32)), u_, u_] [(.int (2 : Int32)), (.int (p0 &&& (3 : Int32)))])) _
          refine XS.icmpYes X0.here hx rfl (pc0 := 33) (pc' := 45) rfl (hb hby at_33) rfl (feq (hc33 : ¬ ((p0 &&& (3 : Int32)) = (2 : Int32)))).2 (by decide) (by decide) ?_
          exact k
        obtain ⟨T7, X7, e7, st7⟩ := getS2 X0 hx hZ hown (host := "") (Or.inl (own_w hw 10 rfl)) Via.refl e0 (S_DYNAMIC.ext O.2) (g := (mkF m 45 #[iv p0, iv (p0 &&& (3 : Int32)), u_, u_] [])) rfl (hb hby at_45)
        refine Go.step st7 ?_
        show Go p e below _ (T7.setTop (mkF m 48 #[iv p0, iv (p0 &&& (3 : Int32)), u_, u_] [(.ref w_DYNAMIC)]))
        refine Go.step (S' := T7.setTop (mkF m 52 #[iv p0, iv (p0 &&& (3 : Int32)), rv w_DYNAMIC, iv (0 : Int32)] [(.ref w_DYNAMIC)])) (fun t k => ?_) ?_
        · show Steps p.tables e below (T7.setTop (mkF m 48 #[iv p0, iv (p0 &&& (3 : Int32)), u_, u_] [(.ref w_DYNAMIC)])) _
          refine XS.astoreN X7.here hx rfl (hb hby at_48) rfl rfl (l' := #[iv p0, iv (p0 &&& (3 : Int32)), rv w_DYNAMIC, u_]) rfl ?_
          show Steps p.tables e below (T7.setTop (mkF m 49 #[iv p0, iv (p0 &&& (3 : Int32)), rv w_DYNAMIC, u_] [])) _
          refine XS.iconst X7.here hx rfl (hb hby at_49) ?_
          show Steps p.tables e below (T7.setTop (mkF m 50 #[iv p0, iv (p0 &&& (3 : Int32)), rv w_DYNAMIC, u_] [(.int (0 : Int32))])) _
          refine XS.istoreN X7.here hx rfl (hb hby at_50) rfl (l' := #[iv p0, iv (p0 &&& (3 : Int32)), rv w_DYNAMIC, iv (0 : Int32)]) rfl ?_
          show Steps p.tables e below (T7.setTop (mkF m 51 #[iv p0, iv (p0 &&& (3 : Int32)), rv w_DYNAMIC, iv (0 : Int32)] [])) _
          refine XS.aloadN X7.here hx rfl (hb hby at_51) rfl rfl ?_
          exact k
        obtain ⟨cq8, kq8, q8a, q8b, q8c⟩ := isOf hZ e7 (E_DYNAMIC.ext O.2)
        obtain ⟨_, _, ⟨T8, L8, k8, n8⟩, -, X8, ⟨Lc8, hQ8, l8, y8, z8⟩, st8⟩ := X7.virtualBack hx (y := (⟨"com/example/planstitch/planstitch/plan/Strategy", "plansAhead", "()Z"⟩ : MethodName)) (z := (⟨"com/example/planstitch/planstitch/plan/Strategy", "plansAhead", "()Z"⟩ : MethodName)) hown (mvT hZ (own_w hw 3 rfl)) (mvT hZ (own_w hw 4 rfl)) (notFace_of_selects (args := #[]) (mvT hZ (own_w hw 6 rfl))) (mvT hZ (own_w hw 6 rfl)) (mvT hZ (own_w hw 5 rfl)) (by decide) (backOf (W := 0) (rmD l Z a0 hw [] w_DYNAMIC h0 n0 O S_DYNAMIC) hZ (own_w hw 7 rfl) (own_w hw 1 rfl) (by decide) (by decide)) q8a q8c (g := (mkF m 52 #[iv p0, iv (p0 &&& (3 : Int32)), rv w_DYNAMIC, iv (0 : Int32)] [(.ref w_DYNAMIC)])) rfl (by rw [hml]; rfl) (Steps.refl _) (argsL := []) (rest := []) (lenOf pd__28_29Z rfl) rfl (by show 2 * 0 + _ ≤ _; exact Nat.le_of_eq rfl) (hb hby at_52) (fun _ _ => ⟨rfl, e7, (by decide : 0 + 0 ≤ _), (by decide : 0 + 0 ≤ _)⟩)
        dsimp only [Pt.U, Pt.locs, Pt.cells, Pt.slots] at X8 l8 y8 z8 st8 hQ8
        subst l8 y8 z8
        obtain ⟨rfl, Nq8, e8⟩ := hQ8
        have N8 := Fr.app N0 Nq8
        refine Go.step (fun t k => st8.trans k) ?_
        show Go p e below _ (T8.setTop (mkF m 55 #[iv p0, iv (p0 &&& (3 : Int32)), rv w_DYNAMIC, iv (0 : Int32)] [(.int (0 : Int32))]))
        refine Go.step (S' := T8.setTop (mkF m 64 #[iv p0, iv (p0 &&& (3 : Int32)), rv w_DYNAMIC, iv (0 : Int32)] [(.int (1 : Int32))])) (fun t k => ?_) ?_
        · show Steps p.tables e below (T8.setTop (mkF m 55 #[iv p0, iv (p0 &&& (3 : Int32)), rv w_DYNAMIC, iv (0 : Int32)] [(.int (0 : Int32))])) _
          refine XS.iloadN X8.here hx rfl (hb hby at_55) rfl ?_
          show Steps p.tables e below (T8.setTop (mkF m 56 #[iv p0, iv (p0 &&& (3 : Int32)), rv w_DYNAMIC, iv (0 : Int32)] [(.int (0 : Int32)), (.int (0 : Int32))])) _
          refine XS.icmpNo X8.here hx rfl (hb hby at_56) rfl (teq ((by decide) : (0 : Int32) = (0 : Int32))).2 ?_
          show Steps p.tables e below (T8.setTop (mkF m 59 #[iv p0, iv (p0 &&& (3 : Int32)), rv w_DYNAMIC, iv (0 : Int32)] [])) _
          refine XS.iconst X8.here hx rfl (hb hby at_59) ?_
          show Steps p.tables e below (T8.setTop (mkF m 60 #[iv p0, iv (p0 &&& (3 : Int32)), rv w_DYNAMIC, iv (0 : Int32)] [(.int (1 : Int32))])) _
          refine XS.goto X8.here hx rfl (pc0 := 60) (pc' := 64) rfl (hb hby at_60) (by decide) (by decide) ?_
          exact k
        obtain ⟨fs, hr, hrun, hended, hW, hsame⟩ := X8.leave (v := some (.int (1 : Int32))) (fun h => by rw [Bd.returns] at h; cases h)
        refine Go.fin (S' := T8.setFrames fs) ?_ hrun hended ⟨_, _, rfl, ?_, ⟨_, rfl⟩, hW, hsame.mono (by decide) (by decide)⟩
        · exact retOut X8 hx Bd.returns (by decide) (Or.inl ⟨rfl, Or.inr (Or.inl rfl), _, rfl⟩) (hb hby at_64) hr
        · show Q_rm0 Z p0 w_SHIP_ALL w_QUERY_SITE w_COST_BASED w_DYNAMIC h0 n0 (some (.int (1 : Int32))) T8.heap _
          rw [e8]
          exact ⟨rfl, N8, rfl⟩
set_option maxRecDepth 65536 in
set_option maxHeartbeats 40000000 in
theorem comes_1 {Post : Tables → Env → Array Value → State → Outcome → State → Prop} (hpost : ∀ tb e args s v u, (limb_1_1.after args s (.returned v) u = true ∧ limb_1_2.after args s (.returned v) u = true ∧ True) → FrameEnd s (.returned v) u (Jvm.fieldLocs frame_1_writes args s ++ Jvm.arrayLocs frame_1_arrays args s ++ Jvm.staticLocs frame_1_statics s) 0 0 → Post tb e args s (.returned v) u) :
    ArmFor flags0 classFile x code maxLocals ret World_1 tables_1 room_1 Calls_1 rest_1 Pre_1 Post := by
  intro l hfl _ _ p e ha hc hk s m args below hf hA hF happ hP
  obtain ⟨hcalls, hrest, hpre⟩ := hP
  obtain ⟨-, -, -, hnamed, -, -, -, hat⟩ := (Spec.applies_iff hf).mp happ
  obtain ⟨hg, hn⟩ := and_e (Cond.before_iff.mp (show (Jvm.Cond.and given_1 narrow_1).before args s = true from hpre))
  obtain ⟨hgl, hgr⟩ := and_e hg
  obtain ⟨w0, rfl⟩ : ∃ w0 : Value, args = #[w0] := by
    have hs : args.size = 1 := by simpa [Cond.value, given_1] using hgl
    obtain ⟨L⟩ := args
    match L, hs with
    | [w0], _ => exact ⟨w0, rfl⟩
  have hw := fun d (hd : d ∈ tables_1) => atoms_spec (ws := Jvm.Cond.code x code maxLocals ret :: tables_1) hat d (List.mem_cons_of_mem _ hd)
  have hfit : Fit s := fun {y c} hc i hi => by
    obtain ⟨ha, rfl⟩ := Array.getElem?_eq_some_iff.mp hc
    have q := List.all_eq_true.mp ((Array.all_eq_true_iff_forall_mem.mp hF) _ (Array.getElem_mem ha)) i (List.mem_range.mpr hi)
    simpa [Array.getElem?_eq_getElem hi] using q
  obtain ⟨i0, ei0⟩ := is_v hgr
  obtain rfl : w0 = (.int i0) := Option.some.inj ei0
  obtain ⟨hna, hnb⟩ := and_e hn
  obtain ⟨w_SHIP_ALL, ev_SHIP_ALL⟩ := exa_v hna
  have E_SHIP_ALL := Exa.start ev_SHIP_ALL hna
  have S_SHIP_ALL := Sta.start ev_SHIP_ALL (Or.inr ⟨(own_w hw 1 rfl), (own_w hw 2 rfl)⟩)
  obtain ⟨hnba, hnbb⟩ := and_e hnb
  obtain ⟨w_DYNAMIC, ev_DYNAMIC⟩ := exa_v hnba
  have E_DYNAMIC := Exa.start ev_DYNAMIC hnba
  have S_DYNAMIC := Sta.start ev_DYNAMIC (Or.inr ⟨(own_w hw 1 rfl), (own_w hw 9 rfl)⟩)
  obtain ⟨hnbba, hnbbb⟩ := and_e hnbb
  obtain ⟨hnbbba, hnbbbb⟩ := and_e hnbbb
  obtain ⟨hnbbbba, hnbbbbb⟩ := and_e hnbbbb
  obtain ⟨w_COST_BASED, ev_COST_BASED⟩ := exa_v hnbbbba
  have E_COST_BASED := Exa.start ev_COST_BASED hnbbbba
  have S_COST_BASED := Sta.start ev_COST_BASED (Or.inr ⟨(own_w hw 1 rfl), (own_w hw 12 rfl)⟩)
  obtain ⟨hnbbbbba, hnbbbbbb⟩ := and_e hnbbbbb
  obtain ⟨hnbbbbbba, hnbbbbbbb⟩ := and_e hnbbbbbb
  obtain ⟨w_QUERY_SITE, ev_QUERY_SITE⟩ := exa_v hnbbbbbba
  have E_QUERY_SITE := Exa.start ev_QUERY_SITE hnbbbbbba
  have S_QUERY_SITE := Sta.start ev_QUERY_SITE (Or.inr ⟨(own_w hw 1 rfl), (own_w hw 14 rfl)⟩)
  have F_ordinal_SHIP_ALL := Fld.start ((fld_at ev_SHIP_ALL).symm.trans (own_eqI hnbba))
  have F_ordinal_DYNAMIC := Fld.start ((fld_at ev_DYNAMIC).symm.trans (own_eqI hnbbba))
  have F_ordinal_COST_BASED := Fld.start ((fld_at ev_COST_BASED).symm.trans (own_eqI hnbbbbba))
  have F_ordinal_QUERY_SITE := Fld.start ((fld_at ev_QUERY_SITE).symm.trans (own_eqI hnbbbbbbb))
  obtain ⟨n, o, h1, h2, h3, _, L, rfl, ⟨rfl, N, -⟩, hq⟩ := rm0 l s _ hw tables_1 i0 w_SHIP_ALL w_QUERY_SITE w_COST_BASED w_DYNAMIC s.heap s.heap.size (Old.start s) S_SHIP_ALL S_QUERY_SITE S_COST_BASED S_DYNAMIC E_SHIP_ALL E_QUERY_SITE E_COST_BASED E_DYNAMIC (Fld.ne F_ordinal_SHIP_ALL F_ordinal_DYNAMIC (by decide)) (Fld.ne F_ordinal_QUERY_SITE F_ordinal_DYNAMIC (by decide)) (Fld.ne F_ordinal_COST_BASED F_ordinal_DYNAMIC (by decide)) p e ha hc hk s m _ below hf ((Spec.applies_iff_loose hf).mp happ).1 ⟨rfl, State.Warmed39.refl s, rfl⟩ trivial
  refine ⟨n, _, h1, h2, h3, hpost _ _ _ _ _ _ ⟨Cond.after_iff.mpr rfl, Cond.after_iff.mpr (eq_i res_at (Term.int_eval (1)) rfl), trivial⟩ ⟨hq.1, hq.2.1, (hq.2.2.sift fun y hy => Or.inr (N y hy)).mono (by decide) (by decide)⟩⟩
theorem main_1_1 : Claimed_1_1 := comes_1 fun _ _ _ _ _ _ h hF => ⟨h.1, hF⟩
theorem main_1_2 : Claimed_1_2 := comes_1 fun _ _ _ _ _ _ h hF => ⟨h.2.1, hF⟩
end Jvm.Pilot.@@N@@
namespace Jvm.Pilot.@@N@@
open Jvm Jvm.ClassFile Sem Op Lib Jvm.Free Jvm.Stand Jvm.Pilot.@@N@@.Jvm.D
/-! MADE BY PROGRAM (witnessworld.py) out of the Statement's table words and the real class files: 12 classes; the members and pool entries that the words name. The judged class is class 1, her method 1. -/
namespace start1
open Jvm.ClassFile
def u (s : String) : CpInfo := .utf8 (stringToUtf16 s)
/-- a pool by its gaps: so many unusable entries, then the entry; so many at the end -/
def gap : Nat → List CpInfo → List CpInfo
  | 0, r => r
  | n + 1, r => .unusable :: gap n r
def poolList (es : List (Nat × CpInfo)) (last : Nat) : List CpInfo := es.foldr (fun e r => gap e.1 (e.2 :: r)) (gap last [])
def pool (es : List (Nat × CpInfo)) (last : Nat) : Array CpInfo := ⟨poolList es last⟩
def fileOf (pool : Array CpInfo) (this : Nat) (attrs : Array Attribute := #[]) (ms : Array MethodInfo := #[]) (fl : Nat := 33) (sup : Nat := 0) (ifs : Array Nat := #[]) (fds : Array FieldInfo := #[]) : ClassFile where
  minorVersion := 0
  majorVersion := 65
  constantPool := pool
  accessFlags := fl
  thisClass := this
  superClass := sup
  interfaces := ifs
  fields := fds
  methods := ms
  attributes := attrs
def plain (name : String) (sup : Option ClassId) : Class where
  name := name
  kind := .ordinary
  loader := none
  accessFlags := 33
  super := sup
  interfaces := #[]
  cf := none
  fields := #[]
  methods := #[]
  instanceTypes := #[]
  staticTypes := #[]
  resolved := #[]
  callSites := []
  init := .initialized
  statics := none
  mirror := none

def pool0 : Array CpInfo := pool [(5, u "<init>"), (0, u "()V"), (1, .class_ 10), (1, u "java/lang/Object")] 113

def k0m0 : Method := { name := "<init>", desc := "()V", sig := { parameters := [], returnType := none }, accessFlags := 1, code := none }
/-- java/lang/Object -/
def k0 : Class := { plain "java/lang/Object" none with
  accessFlags := 33
  interfaces := #[]
  cf := some (fileOf pool0 8 #[] #[{ accessFlags := 1, nameIndex := 5, descriptorIndex := 6, attributes := #[] }] 33 0 #[] #[])
  fields := #[]
  methods := #[k0m0]
  instanceTypes := #[]
  staticTypes := #[]
  resolved := Array.replicate 124 none
  statics := none }

def pool1 : Array CpInfo := pool [(2, .class_ 4), (1, u "java/lang/Object"), (0, u "<init>"), (0, u "()V"), (0, .fieldref 8 9), (0, .class_ 10), (0, .nameAndType 11 12), (0, u "com/example/planstitch/planstitch/plan/Strategy"), (0, u "SHIP_ALL"), (0, u "Lcom/example/planstitch/planstitch/plan/Strategy;"), (0, .fieldref 8 14), (0, .nameAndType 15 12), (0, u "QUERY_SITE"), (0, .fieldref 8 17), (0, .nameAndType 18 12), (0, u "COST_BASED"), (0, .fieldref 8 20), (0, .nameAndType 21 12), (0, u "DYNAMIC"), (0, .methodref 8 23), (0, .nameAndType 24 25), (0, u "plansAhead"), (0, u "()Z"), (0, .class_ 27), (0, u "com/example/planstitch/planstitch/plan/StrategyPlansAheadPinLaw"), (2, u "law"), (0, u "(I)Z")] 3

def k1m0 : Method := { name := "<init>", desc := "()V", sig := { parameters := [], returnType := none }, accessFlags := 1, code := none }
def k1c1 : Code := { maxStack := 2, maxLocals := 4, code := code, exceptionTable := #[], attributes := #[] }
def k1m1 : Method := { name := "law", desc := "(I)Z", sig := { parameters := [.int], returnType := some .boolean }, accessFlags := 9, code := some k1c1 }
/-- com/example/planstitch/planstitch/plan/StrategyPlansAheadPinLaw -/
def k1 : Class := { plain "com/example/planstitch/planstitch/plan/StrategyPlansAheadPinLaw" (some 0) with
  accessFlags := 49
  interfaces := #[]
  cf := some (fileOf pool1 26 #[] #[{ accessFlags := 1, nameIndex := 5, descriptorIndex := 6, attributes := #[] }, { accessFlags := 9, nameIndex := 30, descriptorIndex := 31, attributes := #[] }] 49 2 #[] #[])
  fields := #[]
  methods := #[k1m0, k1m1]
  instanceTypes := #[]
  staticTypes := #[]
  resolved := Array.replicate 35 none
  statics := none }

def pool2 : Array CpInfo := pool [(1, .class_ 2), (0, u "java/lang/constant/Constable"), (0, .class_ 4), (0, u "java/lang/Object")] 6

/-- java/lang/constant/Constable -/
def k2 : Class := { plain "java/lang/constant/Constable" (some 0) with
  accessFlags := 1537
  interfaces := #[]
  cf := some (fileOf pool2 1 #[] #[] 1537 3 #[] #[])
  fields := #[]
  methods := #[]
  instanceTypes := #[]
  staticTypes := #[]
  resolved := Array.replicate 11 none
  statics := none }

def pool3 : Array CpInfo := pool [(1, .class_ 2), (0, u "java/lang/Comparable"), (0, .class_ 4), (0, u "java/lang/Object")] 7

/-- java/lang/Comparable -/
def k3 : Class := { plain "java/lang/Comparable" (some 0) with
  accessFlags := 1537
  interfaces := #[]
  cf := some (fileOf pool3 1 #[] #[] 1537 3 #[] #[])
  fields := #[]
  methods := #[]
  instanceTypes := #[]
  staticTypes := #[]
  resolved := Array.replicate 12 none
  statics := none }

def pool4 : Array CpInfo := pool [(1, .class_ 2), (0, u "java/io/Serializable"), (0, .class_ 4), (0, u "java/lang/Object")] 2

/-- java/io/Serializable -/
def k4 : Class := { plain "java/io/Serializable" (some 0) with
  accessFlags := 1537
  interfaces := #[]
  cf := some (fileOf pool4 1 #[] #[] 1537 3 #[] #[])
  fields := #[]
  methods := #[]
  instanceTypes := #[]
  staticTypes := #[]
  resolved := Array.replicate 7 none
  statics := none }

def pool5 : Array CpInfo := pool [(2, .class_ 4), (1, u "java/lang/Enum"), (0, u "name"), (0, u "Ljava/lang/String;"), (2, u "ordinal"), (0, u "I"), (1, .class_ 14), (1, u "java/lang/Object"), (4, u "hash"), (86, .class_ 108), (1, u "java/lang/Enum$EnumDesc"), (2, .class_ 112), (0, u "java/lang/constant/Constable"), (0, .class_ 114), (0, u "java/lang/Comparable"), (0, .class_ 116), (0, u "java/io/Serializable")] 87

/-- java/lang/Enum -/
def k5 : Class := { plain "java/lang/Enum" (some 0) with
  accessFlags := 1057
  interfaces := #[2, 3, 4]
  cf := some (fileOf pool5 2 #[.nestMembers #[106]] #[] 1057 12 #[111, 113, 115] #[{ accessFlags := 18, nameIndex := 5, descriptorIndex := 6, attributes := #[] }, { accessFlags := 18, nameIndex := 9, descriptorIndex := 10, attributes := #[] }, { accessFlags := 2, nameIndex := 19, descriptorIndex := 10, attributes := #[] }])
  fields := #[{ name := "name", type := (.object "java/lang/String"), accessFlags := 18, slot := 0, constantValue := 0 }, { name := "ordinal", type := .int, accessFlags := 18, slot := 1, constantValue := 0 }, { name := "hash", type := .int, accessFlags := 2, slot := 2, constantValue := 0 }]
  methods := #[]
  instanceTypes := #[(.object "java/lang/String"), .int, .int]
  staticTypes := #[]
  resolved := Array.replicate 204 none
  statics := none }

def pool6 : Array CpInfo := pool [(1, .class_ 2), (0, u "com/example/planstitch/planstitch/plan/Strategy"), (2, u "SHIP_ALL"), (0, u "Lcom/example/planstitch/planstitch/plan/Strategy;"), (2, u "QUERY_SITE"), (2, u "COST_BASED"), (0, .fieldref 1 14), (0, .nameAndType 15 6), (0, u "DYNAMIC"), (2, u "$VALUES"), (0, u "[Lcom/example/planstitch/planstitch/plan/Strategy;"), (6, .class_ 28), (1, u "java/lang/Enum"), (8, u "text"), (0, u "Ljava/lang/String;"), (36, u "plansAhead"), (0, u "()Z"), (58, u "DEFAULT")] 62

def k6c0 : Code := { maxStack := 2, maxLocals := 1, code := prog_104_method_5_code, exceptionTable := #[], attributes := #[] }
def k6m0 : Method := { name := "plansAhead", desc := "()Z", sig := { parameters := [], returnType := some .boolean }, accessFlags := 1, code := some k6c0 }
/-- com/example/planstitch/planstitch/plan/Strategy -/
def k6 : Class := { plain "com/example/planstitch/planstitch/plan/Strategy" (some 5) with
  accessFlags := 16433
  interfaces := #[]
  cf := some (fileOf pool6 1 #[] #[{ accessFlags := 1, nameIndex := 75, descriptorIndex := 76, attributes := #[] }] 16433 26 #[] #[{ accessFlags := 16409, nameIndex := 5, descriptorIndex := 6, attributes := #[] }, { accessFlags := 16409, nameIndex := 9, descriptorIndex := 6, attributes := #[] }, { accessFlags := 16409, nameIndex := 12, descriptorIndex := 6, attributes := #[] }, { accessFlags := 16409, nameIndex := 15, descriptorIndex := 6, attributes := #[] }, { accessFlags := 25, nameIndex := 135, descriptorIndex := 6, attributes := #[] }, { accessFlags := 18, nameIndex := 37, descriptorIndex := 38, attributes := #[] }, { accessFlags := 4122, nameIndex := 18, descriptorIndex := 19, attributes := #[] }])
  fields := #[{ name := "SHIP_ALL", type := (.object "com/example/planstitch/planstitch/plan/Strategy"), accessFlags := 16409, slot := 0, constantValue := 0 }, { name := "QUERY_SITE", type := (.object "com/example/planstitch/planstitch/plan/Strategy"), accessFlags := 16409, slot := 1, constantValue := 0 }, { name := "COST_BASED", type := (.object "com/example/planstitch/planstitch/plan/Strategy"), accessFlags := 16409, slot := 2, constantValue := 0 }, { name := "DYNAMIC", type := (.object "com/example/planstitch/planstitch/plan/Strategy"), accessFlags := 16409, slot := 3, constantValue := 0 }, { name := "DEFAULT", type := (.object "com/example/planstitch/planstitch/plan/Strategy"), accessFlags := 25, slot := 4, constantValue := 0 }, { name := "text", type := (.object "java/lang/String"), accessFlags := 18, slot := 3, constantValue := 0 }, { name := "$VALUES", type := (.array (.object "com/example/planstitch/planstitch/plan/Strategy")), accessFlags := 4122, slot := 5, constantValue := 0 }]
  methods := #[k6m0]
  instanceTypes := #[(.object "java/lang/String"), .int, .int, (.object "java/lang/String")]
  staticTypes := #[(.object "com/example/planstitch/planstitch/plan/Strategy"), (.object "com/example/planstitch/planstitch/plan/Strategy"), (.object "com/example/planstitch/planstitch/plan/Strategy"), (.object "com/example/planstitch/planstitch/plan/Strategy"), (.object "com/example/planstitch/planstitch/plan/Strategy"), (.array (.object "com/example/planstitch/planstitch/plan/Strategy"))]
  resolved := Array.replicate 198 none
  statics := some 0 }

def pool7 : Array CpInfo := pool [(1, u "java/lang/Cloneable"), (0, .class_ 1), (0, u "java/lang/Object"), (0, .class_ 3)] 3

/-- java/lang/Cloneable -/
def k7 : Class := { plain "java/lang/Cloneable" (some 0) with
  accessFlags := 1537
  interfaces := #[]
  cf := some (fileOf pool7 2 #[] #[] 1537 4 #[] #[])
  fields := #[]
  methods := #[]
  instanceTypes := #[]
  staticTypes := #[]
  resolved := Array.replicate 8 none
  statics := none }

/-- the primitive byte -/
def k8 : Class := { plain "byte" none with kind := .primitive 'B', accessFlags := 0x411 }
/-- [B -/
def k9 : Class := { plain "[B" (some 0) with kind := .array 8 .byte, interfaces := #[7, 4], accessFlags := 1041 }

/-- the primitive int -/
def k10 : Class := { plain "int" none with kind := .primitive 'I', accessFlags := 0x411 }
/-- [I -/
def k11 : Class := { plain "[I" (some 0) with kind := .array 10 .int, interfaces := #[7, 4], accessFlags := 1041 }

def heap : Heap := #[{ cls := 6, slots := #[.ref 1, .ref 4, .ref 3, .ref 2, .null, .null], vm := .statics 6 },
  { cls := 6, slots := #[.null, .int 0, .int 0, .null], vm := .none },
  { cls := 6, slots := #[.null, .int 3, .int 0, .null], vm := .none },
  { cls := 6, slots := #[.null, .int 2, .int 0, .null], vm := .none },
  { cls := 6, slots := #[.null, .int 1, .int 0, .null], vm := .none }]
def classes : Array Class := #[k0, k1, k2, k3, k4, k5, k6, k7, k8, k9, k10, k11]
def interned : List (Array UInt16 × Addr) := []
def slotsUsed : Nat := 22
def theMethod : MethodId := ⟨1, 1⟩
def args0 : Array Value := #[.int 5]
def aboutOver (below : List Frame) : State where
  vm := { classes := classes, interned := interned.toArray }
  heap := heap
  slotsUsed := slotsUsed
  threads := #[{ frames := .invoking theMethod args0 :: below }]
def below0 : List Frame := [.native { method := ⟨0, 0⟩, args := #[] }]
def about1 : State := aboutOver below0
def p0 : Program := .bare "" "" ""
def e0 : Env := launch0.env 0 0 0
theorem w_frames : about1.frames = Frame.invoking theMethod args0 :: below0 := rfl
set_option maxRecDepth 65536 in
theorem w_args : argsFit about1.vm theMethod args0 = true := by decide +kernel
set_option maxRecDepth 65536 in
theorem w_heap : heapFits about1 = true := by decide +kernel
set_option maxRecDepth 65536 in
theorem w_runnable : about1.curStatus? = some .runnable := by decide +kernel
set_option maxRecDepth 65536 in
theorem w_alone : about1.alone = true := by decide +kernel
set_option maxRecDepth 65536 in
theorem w_named : about1.methodNamed? x = some theMethod := by decide +kernel
set_option maxRecDepth 65536 in
theorem w_hears : about1.hears theMethod below0 = true := by decide +kernel
set_option maxRecDepth 65536 in
theorem w_ripe : about1.ripe theMethod args0 below0 = true := by decide +kernel
theorem w_running : about1.status = .running := rfl
set_option maxRecDepth 65536 in
theorem w_room : about1.hasRoom e0.platform room_1 = true :=
  launch0.hasRoom_least _ room_1 (by decide +kernel) (by decide +kernel) (by decide +kernel) (by decide +kernel) (by decide +kernel) (by decide +kernel)
theorem allAtoms_all (ts : List Jvm.Cond) (a : Array Jvm.Value) (st : Jvm.State) : (allAtoms ts).before a st = ts.all (fun c => c.before a st) := by
  induction ts with
  | nil => rfl
  | cons c t ih =>
    show (Jvm.Cond.and c (allAtoms t)).before a st = _
    rw [Jvm.Cond.before_and, ih, List.all_cons]
def words1 : List Jvm.Cond := Jvm.Cond.code x code maxLocals ret :: tables_1
/-- a 'code' word, met by the world's own term for the bytes: nothing is compared byte by byte -/
theorem code_word {y : MethodName} {bytes : ByteArray} {mx : Nat} {rt : Option FieldType} {a : Array Value} {s : State} {m : MethodId} {meth : Method} {c : Code} (h1 : s.methodNamed? y = some m) (h2 : s.vm.method? m = some meth) (h3 : meth.code = some c) (h4 : c.code = bytes)
    (h5 : (c.maxLocals == mx && c.exceptionTable.isEmpty && decide (c.maxStack ≤ mostOperands) && decide (meth.sig.returnType = rt) && !meth.locks && decide (parseMethodDescriptor y.desc = some meth.sig)) = true) : (Jvm.Cond.code y bytes mx rt).before a s = true := by
  simp only [Bool.and_eq_true, beq_iff_eq, Bool.not_eq_true', decide_eq_true_eq] at h5
  obtain ⟨⟨⟨⟨⟨g1, g2⟩, g3⟩, g4⟩, g5⟩, g6⟩ := h5
  simp [Cond.before, Cond.holds, Cond.value, h1, h2, h3, h4, g1, g2, g3, g4, g5, g6]
def isCode : Jvm.Cond → Bool
  | .code _ _ _ _ => true
  | _ => false
theorem all_split {L : List Jvm.Cond} {P : Jvm.Cond → Bool} (h1 : L.all (fun c => isCode c || P c) = true) (h2 : ∀ c ∈ L.filter isCode, P c = true) : L.all P = true := by
  refine List.all_eq_true.mpr fun c hc => ?_
  have h := List.all_eq_true.mp h1 c hc
  rcases Bool.eq_false_or_eq_true (isCode c) with hi | hi
  · exact h2 c (List.mem_filter.mpr ⟨hc, hi⟩)
  · simpa [hi] using h
set_option maxRecDepth 65536 in
theorem w_c0 : (Jvm.Cond.code x code maxLocals ret).before args0 about1 = true := code_word (m := ⟨1, 1⟩) (meth := k1m1) (c := k1c1) (by decide +kernel) rfl rfl rfl (by decide +kernel)
set_option maxRecDepth 65536 in
theorem w_c1 : (Jvm.Cond.code ({ cls := "com/example/planstitch/planstitch/plan/Strategy", name := "plansAhead", desc := "()Z" } : Jvm.MethodName) prog_104_method_5_code (1 : Nat) (Option.some Jvm.ClassFile.FieldType.boolean)).before args0 about1 = true := code_word (m := ⟨6, 0⟩) (meth := k6m0) (c := k6c0) (by decide +kernel) rfl rfl rfl (by decide +kernel)
def codes1 : List Jvm.Cond := [Jvm.Cond.code x code maxLocals ret, Jvm.Cond.code ({ cls := "com/example/planstitch/planstitch/plan/Strategy", name := "plansAhead", desc := "()Z" } : Jvm.MethodName) prog_104_method_5_code (1 : Nat) (Option.some Jvm.ClassFile.FieldType.boolean)]
set_option maxRecDepth 65536 in
theorem codes_eq : words1.filter isCode = codes1 := rfl
theorem w_codes : ∀ c ∈ words1.filter isCode, c.before args0 about1 = true := by
  rw [codes_eq]
  intro c hc
  simp only [codes1, List.mem_cons, List.not_mem_nil, or_false] at hc
  rcases hc with rfl | rfl
  · exact w_c0
  · exact w_c1
set_option maxRecDepth 65536 in
theorem w_t1 : words1.all (fun c => isCode c || c.before args0 about1) = true := by decide +kernel
theorem w_tables : (allAtoms (Jvm.Cond.code x code maxLocals ret :: tables_1)).before args0 about1 = true := by
  rw [allAtoms_all]
  show words1.all (fun c => c.before args0 about1) = true
  refine all_split ?_ w_codes
  rw [w_t1]
set_option maxRecDepth 65536 in
theorem w_case : (Jvm.Cond.and given_1 narrow_1).before args0 about1 = true := by decide +kernel
theorem w_applies : (headSpec (Jvm.Cond.code x code maxLocals ret :: tables_1) room_1).applies x e0.platform about1 = true :=
  (Spec.applies_iff w_frames).mpr ⟨w_running, w_runnable, w_alone, w_named, w_hears, w_ripe, w_room, w_tables⟩
theorem atStart : AtStart classFile x code maxLocals ret World_1 tables_1 room_1 Calls_1 rest_1 Pre_1 launch0 p0 e0 about1 theMethod args0 below0 :=
  ⟨lists_1, trivial, launch0.admits_env _ _ _, launch0.least_env, fairChoices_fair.cas, fairChoices_fair.clock, w_frames, w_args, w_heap, w_applies, trivial, trivial, w_case⟩
end start1
theorem witness_1 : WitnessClaimed_1 := ⟨start1.p0, start1.e0, start1.about1, start1.theMethod, start1.args0, start1.below0, start1.atStart⟩
end Jvm.Pilot.@@N@@
