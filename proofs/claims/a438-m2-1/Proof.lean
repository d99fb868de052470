import JvmDerived
import JvmDerived.Pilot.@@N@@Statement
import JvmDerived.Pilot.@@N@@Code
set_option linter.unusedVariables false
set_option linter.unusedSimpArgs false
namespace Jvm.Pilot.@@N@@
open Jvm Jvm.ClassFile Sem Op Lib Jvm.Free Jvm.Stand Jvm.LawKit Jvm.RoadKit Bundle Jvm.Pilot.@@N@@.Jvm.D
/-- from the state S the body comes to its end, and there G holds -/
def Go (p : Program) (e : Env) (below : List Frame) (G : Outcome → State → Prop) (S : State) : Prop := ∃ s₂ o, Steps p.tables e below S s₂ ∧ s₂.status = .running ∧ Ended s₂ below o ∧ G o s₂
theorem Go.step {p : Program} {e : Env} {below : List Frame} {G : Outcome → State → Prop} {S S' : State} (k : ∀ t, Steps p.tables e below S' t → Steps p.tables e below S t) (g : Go p e below G S') : Go p e below G S := by
  obtain ⟨s₂, o, h, r⟩ := g
  exact ⟨s₂, o, k _ h, r⟩
theorem Go.fin {p : Program} {e : Env} {below : List Frame} {G : Outcome → State → Prop} {S S' : State} {o : Outcome} (h : Steps p.tables e below S S') (h1 : S'.status = .running) (h2 : Ended S' below o) (h3 : G o S') : Go p e below G S := ⟨_, _, h, h1, h2, h3⟩
abbrev lv (x : Int64) : Slot := .val (.long x)
abbrev u_ : Slot := .unset
theorem own_w {Z : State} {a0 : Array Value} (hw : ∀ d ∈ tables_1, d.before a0 Z = true) (k : Nat) {d : Jvm.Cond} (h : tables_1[k]? = some d) : d.before a0 Z = true := hw d (List.mem_of_getElem? h)
theorem old_le {Z : State} {n0 : Nat} {h : Heap} (O : Old Z n0 h) : n0 ≤ h.size := O.1 ▸ O.2.1
theorem own_getR {p : Program} {l : Launch} {e : Env} {R : Room} {s : State} {m : MethodId} {args : Array Value} {below : List Frame} {meth : Method} {c : Code} {T : State} {locs : List Loc} {cells slots : Nat} {Z : State} {a0 : Array Value} {h : Heap}
    (X : Stand p l e R s m args below meth c T locs cells slots) (hx : p.tables.exec = Jvm.exec) (hZ : Z.Warmed39 s.vm) {own R0 n d : String} {index : Nat} (hown : s.vm.findClass own = some m.cls) (w : (Jvm.Cond.fieldRef own index R0 n d).before a0 Z = true)
    (eT : T.heap = h) {a : Addr} {v : Value} (F : Fld Z h a R0 n d v) {g : JFrame} (hg : g.method = m) {rest : List Value} (hs : g.stack = .ref a :: rest) (hd : decode c.code g.pc = .ok (.getfield index, 3)) : ∀ target, Steps p.tables e below (T.setTop { g with pc := g.pc + 3, stack := v :: rest }) target → Steps p.tables e below (T.setTop g) target := by
  obtain ⟨cell, cf, k, i, f, h1, h2, h3, h4, -, -, h7⟩ := F
  have hT : Z.Warmed39 T.vm := wtrans hZ X.warmed
  have w' := Cond.fieldRef_warmed39 hT w
  have ho : (Z.setVm T.vm).vm.findClass own = some m.cls := by show T.vm.findClass own = _; rw [X.warmed.alike.findClass]; exact hown
  obtain ⟨c1, k1, i1, f1, e1, hr⟩ := Cond.fieldRef_spec ho w'
  obtain ⟨k', hi, -⟩ := State.fieldFound?_setVm (s := Z) hT.alike h2
  cases e1.symm.trans hi
  intro target kk
  exact (X.getfieldR hx hg hr h3 hs (by rw [eT]; exact h1) h4 h7 hd (Steps.refl _)).trans kk
theorem own_selP {Z s : State} {a0 args : Array Value} {y : MethodName} {n : Nat} (hZ : Z.Warmed39 s.vm) (wi : (Jvm.Cond.instantiable y.cls n).before a0 Z = true) (wn : (Jvm.Cond.instanceMethod y).before a0 Z = true) (wp : (Jvm.Cond.privateMethod y).before a0 Z = true)
    (hy : y.cls ≠ "java/lang/invoke/MethodHandle" ∧ y.cls ≠ "java/lang/invoke/VarHandle") : (Jvm.Cond.selects y.cls y y).before args s = true := by
  have wi' : (Jvm.Cond.instantiable y.cls n).before args s = true := mv hZ wi
  obtain ⟨c, k, h1, h2, -, h4, -⟩ := Cond.instantiable_spec wi'
  exact Stand.selects_self_of_private h1 h2 (by simp only [Bool.or_eq_false_iff] at h4; exact h4.1) (Cond.privateMethod_at (args := args) (mvP hZ wp)) (mvT hZ wn) hy
theorem own_eqI {t : Term} {n : Int32} {args : Array Value} {s : State} (h : (Jvm.Cond.eq t (.int n)).value args s none s [] = some true) : t.eval args s none [] s = some (.int n) := by
  have hn : (Term.int n).eval args s none [] s = some (.int n) := rfl
  cases ht : t.eval args s none [] s with
  | none => simp [Cond.value, ht] at h
  | some v => cases v <;> simp [Cond.value, ht, hn] at h ⊢; exact h
theorem own_eqJ {t : Term} {n : Int64} {args : Array Value} {s : State} (h : (Jvm.Cond.eq t (.long n)).value args s none s [] = some true) : t.eval args s none [] s = some (.long n) := by
  have hn : (Term.long n).eval args s none [] s = some (.long n) := rfl
  cases ht : t.eval args s none [] s with
  | none => simp [Cond.value, ht] at h
  | some v => cases v <;> simp [Cond.value, ht, hn] at h ⊢; exact h
def own_Cache (Z : State) (wc : Addr) (cl : Cell) : Prop := Arr Z Z.heap wc cl (.object "java/lang/Integer") ∧ ∀ w : Int32, ¬ (w < (-128 : Int32)) → ¬ ((127 : Int32) < w) →
    ¬ ((w + (128 : Int32)) < 0 ∨ cl.slots.size ≤ (w + (128 : Int32)).toNatClampNeg) ∧ ∃ box : Addr, cl.slots[(w + (128 : Int32)).toNatClampNeg]? = some (.ref box) ∧ Exa Z Z.heap box "java/lang/Integer" ∧ Fld Z Z.heap box "java/lang/Integer" "value" "I" (.int w)
theorem own_size256 {n : Nat} (h : n < 2 ^ 31) (e : n.toInt32 = 256) : n = 256 := by
  have h1 := len_toInt h
  rw [e] at h1
  have h2 : (256 : Int32).toInt = 256 := by decide
  omega
theorem own_lenb {t : Term} {n : Int32} {x : Addr} {cl : Cell} {args : Array Value} {s : State} (ht : t.eval args s none [] s = some (.ref x)) (ha : s.arrayAt? x = some cl) (h : (Jvm.Cond.eq (Term.length t) (.int n)).value args s none s [] = some true) : cl.slots.size < 2 ^ 31 ∧ cl.slots.size.toInt32 = n := by
  have e := own_eqI h
  by_cases hl : cl.slots.size < 2 ^ 31
  · rw [len_f ht ha hl] at e; exact ⟨hl, Value.int.inj (Option.some.inj e)⟩
  · simp [Term.eval, ht, ha, hl] at e
theorem own_cache {args : Array Value} {s : State} {wc : Addr} (ev : (Term.static "java/lang/Integer$IntegerCache" "cache" "[Ljava/lang/Integer;").eval args s none [] s = some (.ref wc))
    (hA : (Jvm.Cond.arrayOf (Term.static "java/lang/Integer$IntegerCache" "cache" "[Ljava/lang/Integer;") (.object "java/lang/Integer")).before args s = true)
    (hL : (Jvm.Cond.eq (Term.length (Term.static "java/lang/Integer$IntegerCache" "cache" "[Ljava/lang/Integer;")) (Term.int 256)).before args s = true)
    (hE : (Jvm.Cond.all (Term.static "java/lang/Integer$IntegerCache" "cache" "[Ljava/lang/Integer;") (Jvm.Cond.and (Jvm.Cond.exactly (Term.elem (Term.static "java/lang/Integer$IntegerCache" "cache" "[Ljava/lang/Integer;") (Term.index 0)) "java/lang/Integer") (Jvm.Cond.eq (Term.field (Term.elem (Term.static "java/lang/Integer$IntegerCache" "cache" "[Ljava/lang/Integer;") (Term.index 0)) "java/lang/Integer" "value" "I") (Term.sub (Term.index 0) (Term.int 128))))).before args s = true) :
    ∃ cl, own_Cache s wc cl := by
  obtain ⟨cl, AR⟩ := Arr.start ev (Cond.before_iff.mp hA)
  have hat : s.arrayAt? wc = some cl := AR.fin (Vm.Alike.refl _)
  have hlen := own_lenb ev hat (Cond.before_iff.mp hL)
  have hsz : cl.slots.size = 256 := own_size256 hlen.1 hlen.2
  have hall := Cond.all_elim ev hat (Cond.before_iff.mp hE)
  refine ⟨cl, AR, fun w h1 h2 => ?_⟩
  obtain ⟨hb, hlt⟩ := Jvm.Free.IntBox.place_ok w h1 h2
  obtain ⟨hnn, hback⟩ := Jvm.Free.IntBox.place_nonneg _ hlt
  have evi : (Term.static "java/lang/Integer$IntegerCache" "cache" "[Ljava/lang/Integer;").eval args s none [(w + 128).toNatClampNeg] s = some (.ref wc) := ev
  have hix : (Term.index 0).eval args s none [(w + 128).toNatClampNeg] s = some (.int ((w + 128).toNatClampNeg.toInt32)) := rfl
  obtain ⟨g1, g2⟩ := and_e (hall _ (by rw [hsz]; exact hlt))
  have hel := elem_f evi hix hat hnn
  rw [hback] at hel
  obtain ⟨box, ebox⟩ := exa_v g1
  have hslot : cl.slots[(w + 128).toNatClampNeg]? = some (.ref box) := hel.symm.trans ebox
  obtain ⟨a', c', cell, k, f1, f2, f3, f4, f5, rfl, f7⟩ := Cond.exactly_spec (beq_iff_eq.mpr g1 : Jvm.Cond.holds args s none s [(w + 128).toNatClampNeg] _ = true)
  cases ebox.symm.trans f1
  refine ⟨by rw [hsz]; exact hb, box, hslot, ⟨cell, k, f3, f2, f4, f5, f7⟩, Fld.start ?_⟩
  have hv := Jvm.Free.IntBox.place_val w h1 h2
  have hsub : (Term.sub (Term.index 0) (Term.int 128)).eval args s none [(w + 128).toNatClampNeg] s = some (.int w) := by
    conv => rhs; rw [← hv]
    rfl
  rw [← fld_at ebox]
  cases hF : (Term.field (Term.elem (Term.static "java/lang/Integer$IntegerCache" "cache" "[Ljava/lang/Integer;") (Term.index 0)) "java/lang/Integer" "value" "I").eval args s none [(w + 128).toNatClampNeg] s with
  | none => simp [Cond.value, hF] at g2
  | some v => cases v <;> simp [Cond.value, hF, hsub] at g2 ⊢; exact g2
theorem pn_java_lang_Number : plainName "java/lang/Number" = true := by first | (simp [plainName, overriddenIn]; done) | decide +kernel
theorem d3_0 : decode jdk_18_method_1_code 0 = .ok (.aload_n 0, 1) := by decide +kernel
theorem d3_1 : decode jdk_18_method_1_code 1 = .ok (.invokespecial 1, 3) := by decide +kernel
theorem d3_4 : decode jdk_18_method_1_code 4 = .ok (.return_, 1) := by decide +kernel
theorem ef_rmNum (m : MethodId) (a : Addr) : entryFrame m #[(.ref a)] 1 = mkF m 0 #[.val (.ref a)] [] := by first | (simp [entryFrame, mkF, argsToLocals, Value.category]; done) | rfl
abbrev rm_rmNum : Room := ({ frames := 1, cells := 0, slots := 0, locals := 12 } : Room)
def Q_rmNum (Z : State) (a : Addr) (h0 : Heap) (n0 : Nat) (v : Option Value) (h : Heap) (L : List Loc) : Prop := (v = none) ∧ (Fr n0 L) ∧ (h = h0)
set_option maxRecDepth 65536 in
set_option maxHeartbeats 40000000 in
theorem rmNum (l : Launch) (Z : State) (a0 : Array Value) (hw : ∀ d ∈ tables_1, d.before a0 Z = true) (ws : List Jvm.Cond) (a : Addr) (h0 : Heap) (n0 : Nat) (O : Old Z n0 h0) :
    MetFree l (⟨"java/lang/Number", "<init>", "()V"⟩ : MethodName) (head1 (Jvm.Cond.code (⟨"java/lang/Number", "<init>", "()V"⟩ : MethodName) jdk_18_method_1_code 1 none :: ws) rm_rmNum) (fun A_ U => A_ = #[(.ref a)] ∧ Z.Warmed39 U.vm ∧ U.heap = h0) (fun _ _ _ _ _ => True) (fun _ U o U' => ∃ v L, o = .returned v ∧ Q_rmNum Z a h0 n0 v U'.heap L ∧ FrameEnd U o U' L rm_rmNum.cells rm_rmNum.slots) := by
  refine MetFree.of_bodySF (plainFor_of_name pn_java_lang_Number) hisR ?_
  intro p e s m args below meth c s₁ Bd hml0 hP hK
  obtain ⟨rfl, hZ, hh⟩ := hP
  have hx := Bd.exec
  have hby := Bd.bytes
  have hml : c.maxLocals = 1 := hml0
  have hown : s.vm.findClass "java/lang/Number" = some m.cls := findClass_of_methodNamed Bd.named
  have hnm := (name_of_methodNamed Bd.named Bd.method).1
  have X0 : Stand p l e rm_rmNum s m #[(.ref a)] below meth c s₁ [] 0 0 := Stand.of_body Bd
  have e0 : s₁.heap = h0 := by rw [← hh, Bd.state]; rfl
  have N0 := Fr.nil n0
  refine Go.step (p := p) (e := e) (below := below) (G := fun o U' => ∃ v L, o = .returned v ∧ Q_rmNum Z a h0 n0 v U'.heap L ∧ FrameEnd s o U' L rm_rmNum.cells rm_rmNum.slots) (S' := s₁.setTop (mkF m 0 #[rv a] [])) (fun t k => castTop (ef_rmNum m a) k) ?_
  refine Go.step (S' := s₁.setTop (mkF m 1 #[rv a] [(.ref a)])) (fun t k => ?_) ?_
  · show Steps p.tables e below (s₁.setTop (mkF m 0 #[rv a] [])) _
    refine XS.aloadN X0.here hx rfl (hb hby d3_0) rfl rfl ?_
    exact k
  obtain ⟨T1, X1, e1, st1⟩ := initO X0 hx hZ hown (own_w hw 18 rfl) (own_w hw 19 rfl) (own_w hw 20 rfl) e0 (g := (mkF m 1 #[rv a] [(.ref a)])) rfl (by rw [hml]; rfl) rfl (hb hby d3_1) (by decide) (W := 0) (by show 2 * 0 + _ ≤ _; exact Nat.le_of_eq rfl) (by decide)
  refine Go.step st1 ?_
  show Go p e below _ (T1.setTop (mkF m 4 #[rv a] []))
  obtain ⟨fs, hr, hrun, hended, hW, hsame⟩ := X1.leave (v := none) (fun _ => rfl)
  refine Go.fin (S' := T1.setFrames fs) ?_ hrun hended ⟨_, _, rfl, ?_, ⟨_, rfl⟩, hW, hsame.mono (by decide) (by decide)⟩
  · exact X1.returnOut hx Bd.returns (hb hby d3_4) hr
  · show Q_rmNum Z a h0 n0 (none) T1.heap _
    rw [e1]
    exact ⟨rfl, N0, rfl⟩
theorem pn_java_lang_Integer : plainName "java/lang/Integer" = true := by first | (simp [plainName, overriddenIn]; done) | decide +kernel
theorem d2_0 : decode jdk_33_method_23_code 0 = .ok (.aload_n 0, 1) := by decide +kernel
theorem d2_1 : decode jdk_33_method_23_code 1 = .ok (.invokespecial 202, 3) := by decide +kernel
theorem pd__28_29V : parseMethodDescriptor "()V" = some ⟨[], none⟩ := by decide +kernel
theorem d2_4 : decode jdk_33_method_23_code 4 = .ok (.aload_n 0, 1) := by decide +kernel
theorem d2_5 : decode jdk_33_method_23_code 5 = .ok (.iload_n 1, 1) := by decide +kernel
theorem d2_6 : decode jdk_33_method_23_code 6 = .ok (.putfield 205, 3) := by decide +kernel
theorem d2_9 : decode jdk_33_method_23_code 9 = .ok (.return_, 1) := by decide +kernel
theorem ef_rmIIn (m : MethodId) (a : Addr) (pv : Int32) : entryFrame m #[(.ref a), (.int pv)] 2 = mkF m 0 #[.val (.ref a), .val (.int pv)] [] := by first | (simp [entryFrame, mkF, argsToLocals, Value.category]; done) | rfl
abbrev rm_rmIIn : Room := ({ frames := 2, cells := 0, slots := 0, locals := 24 } : Room)
def Q_rmIIn (Z : State) (a : Addr) (pv : Int32) (h0 : Heap) (n0 : Nat) (v : Option Value) (h : Heap) (L : List Loc) : Prop := (v = none) ∧ (Fr n0 L) ∧ (Keep h0 h [a]) ∧ (Exa Z h a "java/lang/Integer") ∧ (Fld Z h a "java/lang/Integer" "value" "I" (.int pv))
set_option maxRecDepth 65536 in
set_option maxHeartbeats 40000000 in
theorem rmIIn (l : Launch) (Z : State) (a0 : Array Value) (hw : ∀ d ∈ tables_1, d.before a0 Z = true) (ws : List Jvm.Cond) (a : Addr) (pv : Int32) (h0 : Heap) (n0 : Nat) (O : Old Z n0 h0) (E_a : Exa Z h0 a "java/lang/Integer") (F_value_a : Fld Z h0 a "java/lang/Integer" "value" "I" (.int (0 : Int32))) (g_a : n0 ≤ a) :
    MetFree l (⟨"java/lang/Integer", "<init>", "(I)V"⟩ : MethodName) (head1 (Jvm.Cond.code (⟨"java/lang/Integer", "<init>", "(I)V"⟩ : MethodName) jdk_33_method_23_code 2 none :: ws) rm_rmIIn) (fun A_ U => A_ = #[(.ref a), (.int pv)] ∧ Z.Warmed39 U.vm ∧ U.heap = h0) (fun _ _ _ _ _ => True) (fun _ U o U' => ∃ v L, o = .returned v ∧ Q_rmIIn Z a pv h0 n0 v U'.heap L ∧ FrameEnd U o U' L rm_rmIIn.cells rm_rmIIn.slots) := by
  refine MetFree.of_bodySF (plainFor_of_name pn_java_lang_Integer) hisR ?_
  intro p e s m args below meth c s₁ Bd hml0 hP hK
  obtain ⟨rfl, hZ, hh⟩ := hP
  have hx := Bd.exec
  have hby := Bd.bytes
  have hml : c.maxLocals = 2 := hml0
  have hown : s.vm.findClass "java/lang/Integer" = some m.cls := findClass_of_methodNamed Bd.named
  have hnm := (name_of_methodNamed Bd.named Bd.method).1
  have X0 : Stand p l e rm_rmIIn s m #[(.ref a), (.int pv)] below meth c s₁ [] 0 0 := Stand.of_body Bd
  have e0 : s₁.heap = h0 := by rw [← hh, Bd.state]; rfl
  have N0 := Fr.nil n0
  have K := Keep.refl h0 [a]
  refine Go.step (p := p) (e := e) (below := below) (G := fun o U' => ∃ v L, o = .returned v ∧ Q_rmIIn Z a pv h0 n0 v U'.heap L ∧ FrameEnd s o U' L rm_rmIIn.cells rm_rmIIn.slots) (S' := s₁.setTop (mkF m 0 #[rv a, iv pv] [])) (fun t k => castTop (ef_rmIIn m a pv) k) ?_
  refine Go.step (S' := s₁.setTop (mkF m 1 #[rv a, iv pv] [(.ref a)])) (fun t k => ?_) ?_
  · show Steps p.tables e below (s₁.setTop (mkF m 0 #[rv a, iv pv] [])) _
    refine XS.aloadN X0.here hx rfl (hb hby d2_0) rfl rfl ?_
    exact k
  obtain ⟨_, _, ⟨T1, L1, k1, n1⟩, -, X1, ⟨Lc1, hQ1, l1, y1, z1⟩, st1⟩ := X0.specialBack hx (y := (⟨"java/lang/Number", "<init>", "()V"⟩ : MethodName)) rfl hown (mvT hZ (own_w hw 12 rfl)) (mvT hZ (own_w hw 13 rfl)) (mvT hZ (own_w hw 17 rfl)) (by decide) (backOf (W := 0) (rmNum l Z a0 hw [] a h0 n0 O ) hZ (own_w hw 17 rfl) (own_w hw 16 rfl) (by decide) (by decide)) (g := (mkF m 1 #[rv a, iv pv] [(.ref a)])) rfl (by rw [hml]; rfl) (Steps.refl _) (a := a) (argsL := []) (rest := []) (lenOf pd__28_29V rfl) rfl (by show 2 * 0 + _ ≤ _; exact Nat.le_of_eq rfl) (hb hby d2_1) (fun _ _ => ⟨rfl, e0, (by decide : 0 + 0 ≤ _), (by decide : 0 + 0 ≤ _)⟩)
  dsimp only [Pt.U, Pt.locs, Pt.cells, Pt.slots] at X1 l1 y1 z1 st1 hQ1
  subst l1 y1 z1
  obtain ⟨rfl, Nq1, e1⟩ := hQ1
  have N1 := Fr.app N0 Nq1
  refine Go.step (fun t k => st1.trans k) ?_
  show Go p e below _ (T1.setTop (mkF m 4 #[rv a, iv pv] []))
  refine Go.step (S' := T1.setTop (mkF m 6 #[rv a, iv pv] [(.int pv), (.ref a)])) (fun t k => ?_) ?_
  · show Steps p.tables e below (T1.setTop (mkF m 4 #[rv a, iv pv] [])) _
    refine XS.aloadN X1.here hx rfl (hb hby d2_4) rfl rfl ?_
    show Steps p.tables e below (T1.setTop (mkF m 5 #[rv a, iv pv] [(.ref a)])) _
    refine XS.iloadN X1.here hx rfl (hb hby d2_5) rfl ?_
    exact k
  obtain ⟨T2, h2, X2, e2, W2, st2⟩ := putF X1 hx hZ hown (host := "") (Or.inl (own_w hw 21 rfl)) Via.refl e1 F_value_a E_a (Or.inr ⟨(own_w hw 22 rfl), rfl, hnm⟩) (own_w hw 7 rfl) (ty := .int) (by decide) rfl rfl (g := (mkF m 6 #[rv a, iv pv] [(.int pv), (.ref a)])) rfl rfl (hb hby d2_6)
  have O := O.wr W2 g_a
  have E_a := E_a.wr W2
  have F_value_a := F_value_a.same W2
  have K := K.wr W2 (Or.inl (List.mem_of_getElem? (i := 0) rfl))
  have N2 := Fr.snoc X2 N1 g_a
  refine Go.step st2 ?_
  show Go p e below _ (T2.setTop (mkF m 9 #[rv a, iv pv] []))
  obtain ⟨fs, hr, hrun, hended, hW, hsame⟩ := X2.leave (v := none) (fun _ => rfl)
  refine Go.fin (S' := T2.setFrames fs) ?_ hrun hended ⟨_, _, rfl, ?_, ⟨_, rfl⟩, hW, hsame.mono (by decide) (by decide)⟩
  · exact X2.returnOut hx Bd.returns (hb hby d2_9) hr
  · show Q_rmIIn Z a pv h0 n0 (none) T2.heap _
    rw [e2]
    exact ⟨rfl, N2, K, E_a, F_value_a⟩
theorem d1_0 : decode jdk_33_method_22_code 0 = .ok (.iload_n 0, 1) := by decide +kernel
theorem d1_1 : decode jdk_33_method_22_code 1 = .ok (.bipush (-128), 2) := by decide +kernel
theorem d1_3 : decode jdk_33_method_22_code 3 = .ok (.if_icmp .lt 20, 3) := by decide +kernel
theorem d1_23 : decode jdk_33_method_22_code 23 = .ok (.new 1, 3) := by decide +kernel
theorem d1_26 : decode jdk_33_method_22_code 26 = .ok (.dup, 1) := by decide +kernel
theorem d1_27 : decode jdk_33_method_22_code 27 = .ok (.iload_n 0, 1) := by decide +kernel
theorem d1_28 : decode jdk_33_method_22_code 28 = .ok (.invokespecial 199, 3) := by decide +kernel
theorem pd__28I_29V : parseMethodDescriptor "(I)V" = some ⟨[.int], none⟩ := by decide +kernel
theorem d1_31 : decode jdk_33_method_22_code 31 = .ok (.areturn, 1) := by decide +kernel
theorem d1_6 : decode jdk_33_method_22_code 6 = .ok (.iload_n 0, 1) := by decide +kernel
theorem d1_7 : decode jdk_33_method_22_code 7 = .ok (.getstatic 191, 3) := by decide +kernel
theorem d1_10 : decode jdk_33_method_22_code 10 = .ok (.if_icmp .gt 13, 3) := by decide +kernel
theorem d1_13 : decode jdk_33_method_22_code 13 = .ok (.getstatic 195, 3) := by decide +kernel
theorem d1_16 : decode jdk_33_method_22_code 16 = .ok (.iload_n 0, 1) := by decide +kernel
theorem d1_17 : decode jdk_33_method_22_code 17 = .ok (.sipush 128, 3) := by decide +kernel
theorem d1_20 : decode jdk_33_method_22_code 20 = .ok (.iadd, 1) := by decide +kernel
theorem d1_21 : decode jdk_33_method_22_code 21 = .ok (.aaload, 1) := by decide +kernel
theorem d1_22 : decode jdk_33_method_22_code 22 = .ok (.areturn, 1) := by decide +kernel
theorem ef_rmVO (m : MethodId) (pv : Int32) : entryFrame m #[(.int pv)] 1 = mkF m 0 #[.val (.int pv)] [] := by first | (simp [entryFrame, mkF, argsToLocals, Value.category]; done) | rfl
abbrev rm_rmVO : Room := ({ frames := 3, cells := 1, slots := 1, locals := 38 } : Room)
def Q_rmVO (Z : State) (pv : Int32) (w_cache : Addr) (cl : Cell) (h0 : Heap) (n0 : Nat) (v : Option Value) (h : Heap) (L : List Loc) : Prop := ∃ b : Addr, (v = some (.ref b)) ∧ (Fr n0 L) ∧ (Keep h0 h []) ∧ (Exa Z h b "java/lang/Integer") ∧ (Fld Z h b "java/lang/Integer" "value" "I" (.int pv))
set_option maxRecDepth 65536 in
set_option maxHeartbeats 40000000 in
theorem rmVO (l : Launch) (Z : State) (a0 : Array Value) (hw : ∀ d ∈ tables_1, d.before a0 Z = true) (ws : List Jvm.Cond) (pv : Int32) (w_cache : Addr) (cl : Cell) (h0 : Heap) (n0 : Nat) (O : Old Z n0 h0) (S_high : Sta Z Z.heap "java/lang/Integer$IntegerCache" "high" "I" (.int (127 : Int32))) (S_cache : Sta Z Z.heap "java/lang/Integer$IntegerCache" "cache" "[Ljava/lang/Integer;" (.ref w_cache)) (CA : own_Cache Z w_cache cl) :
    MetFree l (⟨"java/lang/Integer", "valueOf", "(I)Ljava/lang/Integer;"⟩ : MethodName) (head1 (Jvm.Cond.code (⟨"java/lang/Integer", "valueOf", "(I)Ljava/lang/Integer;"⟩ : MethodName) jdk_33_method_22_code 1 (some (.object "java/lang/Integer")) :: ws) rm_rmVO) (fun A_ U => A_ = #[(.int pv)] ∧ Z.Warmed39 U.vm ∧ U.heap = h0) (fun _ _ _ _ _ => True) (fun _ U o U' => ∃ v L, o = .returned v ∧ Q_rmVO Z pv w_cache cl h0 n0 v U'.heap L ∧ FrameEnd U o U' L rm_rmVO.cells rm_rmVO.slots) := by
  refine MetFree.of_bodySF (plainFor_of_name pn_java_lang_Integer) hisR ?_
  intro p e s m args below meth c s₁ Bd hml0 hP hK
  obtain ⟨rfl, hZ, hh⟩ := hP
  have hx := Bd.exec
  have hby := Bd.bytes
  have hml : c.maxLocals = 1 := hml0
  have hown : s.vm.findClass "java/lang/Integer" = some m.cls := findClass_of_methodNamed Bd.named
  have hnm := (name_of_methodNamed Bd.named Bd.method).1
  have X0 : Stand p l e rm_rmVO s m #[(.int pv)] below meth c s₁ [] 0 0 := Stand.of_body Bd
  have e0 : s₁.heap = h0 := by rw [← hh, Bd.state]; rfl
  have N0 := Fr.nil n0
  have K := Keep.refl h0 []
  refine Go.step (p := p) (e := e) (below := below) (G := fun o U' => ∃ v L, o = .returned v ∧ Q_rmVO Z pv w_cache cl h0 n0 v U'.heap L ∧ FrameEnd s o U' L rm_rmVO.cells rm_rmVO.slots) (S' := s₁.setTop (mkF m 0 #[iv pv] [])) (fun t k => castTop (ef_rmVO m pv) k) ?_
  refine Go.step (S' := s₁.setTop (mkF m 3 #[iv pv] [(.int (-128 : Int32)), (.int pv)])) (fun t k => ?_) ?_
  · show Steps p.tables e below (s₁.setTop (mkF m 0 #[iv pv] [])) _
    refine XS.iloadN X0.here hx rfl (hb hby d1_0) rfl ?_
    show Steps p.tables e below (s₁.setTop (mkF m 1 #[iv pv] [(.int pv)])) _
    refine XS.bipush X0.here hx rfl (hb hby d1_1) ?_
    exact k
  by_cases hc3 : pv < (-128 : Int32)
  · skip
    refine Go.step (S' := s₁.setTop (mkF m 23 #[iv pv] [])) (fun t k => ?_) ?_
    · show Steps p.tables e below (s₁.setTop (mkF m 3 #[iv pv] [(.int (-128 : Int32)), (.int pv)])) _
      refine XS.icmpYes X0.here hx rfl (pc0 := 3) (pc' := 23) rfl (hb hby d1_3) rfl (tlt (hc3 : pv < (-128 : Int32))).1 (by decide) (by decide) ?_
      exact k
    obtain ⟨T1, h1, X1, e1, E1, A1, D1, -, st1⟩ := newO X0 hx hZ hown (own_w hw 6 rfl) (own_w hw 7 rfl) (own_w hw 2 rfl) e0 (g := (mkF m 23 #[iv pv] [])) rfl (hb hby d1_23) (by decide) (by decide)
    obtain ⟨b1, g1⟩ : ∃ z, z = Array.size h0 := ⟨_, rfl⟩
    have g_b1 : n0 ≤ b1 := Nat.le_trans (old_le O) (Nat.le_of_eq g1.symm)
    have sz_b1 : h0.size ≤ b1 := Nat.le_trans K.1 (Nat.le_of_eq g1.symm)
    rw [← g1] at A1 D1 st1
    have O := O.ext E1
    have K := K.ext E1
    have E_b1 := A1
    have F_value_b1 : Fld Z h1 b1 "java/lang/Integer" "value" "I" (.int (0 : Int32)) := D1 (Or.inr (own_w hw 22 rfl)) (ty := .int) (by decide)
    refine Go.step st1 ?_
    show Go p e below _ (T1.setTop (mkF m 26 #[iv pv] [(.ref b1)]))
    refine Go.step (S' := T1.setTop (mkF m 28 #[iv pv] [(.int pv), (.ref b1), (.ref b1)])) (fun t k => ?_) ?_
    · show Steps p.tables e below (T1.setTop (mkF m 26 #[iv pv] [(.ref b1)])) _
      refine XS.dup X1.here hx rfl (hb hby d1_26) rfl rfl ?_
      show Steps p.tables e below (T1.setTop (mkF m 27 #[iv pv] [(.ref b1), (.ref b1)])) _
      refine XS.iloadN X1.here hx rfl (hb hby d1_27) rfl ?_
      exact k
    obtain ⟨_, _, ⟨T2, L2, k2, n2⟩, -, X2, ⟨Lc2, hQ2, l2, y2, z2⟩, st2⟩ := X1.specialBack hx (y := (⟨"java/lang/Integer", "<init>", "(I)V"⟩ : MethodName)) rfl hown (mvT hZ (own_w hw 8 rfl)) (mvT hZ (own_w hw 9 rfl)) (mvT hZ (own_w hw 11 rfl)) (by decide) (backOf (W := 1) (rmIIn l Z a0 hw [] b1 pv h1 n0 O E_b1 F_value_b1 (by assumption)) hZ (own_w hw 11 rfl) (own_w hw 2 rfl) (by decide) (by decide)) (g := (mkF m 28 #[iv pv] [(.int pv), (.ref b1), (.ref b1)])) rfl (by rw [hml]; rfl) (Steps.refl _) (a := b1) (argsL := [(.int pv)]) (rest := [(.ref b1)]) (lenOf pd__28I_29V rfl) rfl (by show 2 * 0 + _ ≤ _; exact Nat.le_of_eq rfl) (hb hby d1_28) (fun _ _ => ⟨rfl, e1, (by decide : 1 + 0 ≤ _), (by decide : 1 + 0 ≤ _)⟩)
    dsimp only [Pt.U, Pt.locs, Pt.cells, Pt.slots] at X2 l2 y2 z2 st2 hQ2
    subst l2 y2 z2
    obtain ⟨rfl, Nq2, K2, P2_E, P2_F⟩ := hQ2
    have N2 := Fr.app N0 Nq2
    have O := O.keep K2 (allS g_b1 all0)
    have K := K.trans K2 (allS (Or.inr sz_b1) all0)
    have E_b1 := E_b1.keep K2
    have E_2 := P2_E
    have F_2 := P2_F
    refine Go.step (fun t k => st2.trans k) ?_
    show Go p e below _ (T2.setTop (mkF m 31 #[iv pv] [(.ref b1)]))
    obtain ⟨fs, hr, hrun, hended, hW, hsame⟩ := X2.leave (v := some (.ref b1)) (fun h => by rw [Bd.returns] at h; cases h)
    refine Go.fin (S' := T2.setFrames fs) ?_ hrun hended ⟨_, _, rfl, ?_, ⟨_, rfl⟩, hW, hsame.mono (by decide) (by decide)⟩
    · exact retOut X2 hx Bd.returns rfl (Or.inr (Or.inr (Or.inr (Or.inr ⟨rfl, rfl, rfl⟩)))) (hb hby d1_31) hr
    · show Q_rmVO Z pv w_cache cl h0 n0 (some (.ref b1)) T2.heap _
      exact ⟨b1, rfl, N2, K, E_b1, F_2⟩
  · skip
    refine Go.step (S' := s₁.setTop (mkF m 7 #[iv pv] [(.int pv)])) (fun t k => ?_) ?_
    · show Steps p.tables e below (s₁.setTop (mkF m 3 #[iv pv] [(.int (-128 : Int32)), (.int pv)])) _
      refine XS.icmpNo X0.here hx rfl (hb hby d1_3) rfl (flt (hc3 : ¬ (pv < (-128 : Int32)))).1 ?_
      show Steps p.tables e below (s₁.setTop (mkF m 6 #[iv pv] [])) _
      refine XS.iloadN X0.here hx rfl (hb hby d1_6) rfl ?_
      exact k
    obtain ⟨T3, X3, e3, st3⟩ := getS2 X0 hx hZ hown (host := "") (Or.inl (own_w hw 4 rfl)) Via.refl e0 (S_high.ext O.2) (g := (mkF m 7 #[iv pv] [(.int pv)])) rfl (hb hby d1_7)
    refine Go.step st3 ?_
    show Go p e below _ (T3.setTop (mkF m 10 #[iv pv] [(.int (127 : Int32)), (.int pv)]))
    by_cases hc10 : (127 : Int32) < pv
    · skip
      refine Go.step (S' := T3.setTop (mkF m 23 #[iv pv] [])) (fun t k => ?_) ?_
      · show Steps p.tables e below (T3.setTop (mkF m 10 #[iv pv] [(.int (127 : Int32)), (.int pv)])) _
        refine XS.icmpYes X3.here hx rfl (pc0 := 10) (pc' := 23) rfl (hb hby d1_10) rfl (tlt (hc10 : (127 : Int32) < pv)).2.2.1 (by decide) (by decide) ?_
        exact k
      obtain ⟨T4, h4, X4, e4, E4, A4, D4, -, st4⟩ := newO X3 hx hZ hown (own_w hw 6 rfl) (own_w hw 7 rfl) (own_w hw 2 rfl) e3 (g := (mkF m 23 #[iv pv] [])) rfl (hb hby d1_23) (by decide) (by decide)
      obtain ⟨b4, g4⟩ : ∃ z, z = Array.size h0 := ⟨_, rfl⟩
      have g_b4 : n0 ≤ b4 := Nat.le_trans (old_le O) (Nat.le_of_eq g4.symm)
      have sz_b4 : h0.size ≤ b4 := Nat.le_trans K.1 (Nat.le_of_eq g4.symm)
      rw [← g4] at A4 D4 st4
      have O := O.ext E4
      have K := K.ext E4
      have E_b4 := A4
      have F_value_b4 : Fld Z h4 b4 "java/lang/Integer" "value" "I" (.int (0 : Int32)) := D4 (Or.inr (own_w hw 22 rfl)) (ty := .int) (by decide)
      refine Go.step st4 ?_
      show Go p e below _ (T4.setTop (mkF m 26 #[iv pv] [(.ref b4)]))
      refine Go.step (S' := T4.setTop (mkF m 28 #[iv pv] [(.int pv), (.ref b4), (.ref b4)])) (fun t k => ?_) ?_
      · show Steps p.tables e below (T4.setTop (mkF m 26 #[iv pv] [(.ref b4)])) _
        refine XS.dup X4.here hx rfl (hb hby d1_26) rfl rfl ?_
        show Steps p.tables e below (T4.setTop (mkF m 27 #[iv pv] [(.ref b4), (.ref b4)])) _
        refine XS.iloadN X4.here hx rfl (hb hby d1_27) rfl ?_
        exact k
      obtain ⟨_, _, ⟨T5, L5, k5, n5⟩, -, X5, ⟨Lc5, hQ5, l5, y5, z5⟩, st5⟩ := X4.specialBack hx (y := (⟨"java/lang/Integer", "<init>", "(I)V"⟩ : MethodName)) rfl hown (mvT hZ (own_w hw 8 rfl)) (mvT hZ (own_w hw 9 rfl)) (mvT hZ (own_w hw 11 rfl)) (by decide) (backOf (W := 1) (rmIIn l Z a0 hw [] b4 pv h4 n0 O E_b4 F_value_b4 (by assumption)) hZ (own_w hw 11 rfl) (own_w hw 2 rfl) (by decide) (by decide)) (g := (mkF m 28 #[iv pv] [(.int pv), (.ref b4), (.ref b4)])) rfl (by rw [hml]; rfl) (Steps.refl _) (a := b4) (argsL := [(.int pv)]) (rest := [(.ref b4)]) (lenOf pd__28I_29V rfl) rfl (by show 2 * 0 + _ ≤ _; exact Nat.le_of_eq rfl) (hb hby d1_28) (fun _ _ => ⟨rfl, e4, (by decide : 1 + 0 ≤ _), (by decide : 1 + 0 ≤ _)⟩)
      dsimp only [Pt.U, Pt.locs, Pt.cells, Pt.slots] at X5 l5 y5 z5 st5 hQ5
      subst l5 y5 z5
      obtain ⟨rfl, Nq5, K5, P5_E, P5_F⟩ := hQ5
      have N5 := Fr.app N0 Nq5
      have O := O.keep K5 (allS g_b4 all0)
      have K := K.trans K5 (allS (Or.inr sz_b4) all0)
      have E_b4 := E_b4.keep K5
      have E_5 := P5_E
      have F_5 := P5_F
      refine Go.step (fun t k => st5.trans k) ?_
      show Go p e below _ (T5.setTop (mkF m 31 #[iv pv] [(.ref b4)]))
      obtain ⟨fs, hr, hrun, hended, hW, hsame⟩ := X5.leave (v := some (.ref b4)) (fun h => by rw [Bd.returns] at h; cases h)
      refine Go.fin (S' := T5.setFrames fs) ?_ hrun hended ⟨_, _, rfl, ?_, ⟨_, rfl⟩, hW, hsame.mono (by decide) (by decide)⟩
      · exact retOut X5 hx Bd.returns rfl (Or.inr (Or.inr (Or.inr (Or.inr ⟨rfl, rfl, rfl⟩)))) (hb hby d1_31) hr
      · show Q_rmVO Z pv w_cache cl h0 n0 (some (.ref b4)) T5.heap _
        exact ⟨b4, rfl, N5, K, E_b4, F_5⟩
    · skip
      refine Go.step (S' := T3.setTop (mkF m 13 #[iv pv] [])) (fun t k => ?_) ?_
      · show Steps p.tables e below (T3.setTop (mkF m 10 #[iv pv] [(.int (127 : Int32)), (.int pv)])) _
        refine XS.icmpNo X3.here hx rfl (hb hby d1_10) rfl (flt (hc10 : ¬ ((127 : Int32) < pv))).2.2.1 ?_
        exact k
      obtain ⟨T6, X6, e6, st6⟩ := getS2 X3 hx hZ hown (host := "") (Or.inl (own_w hw 60 rfl)) Via.refl e3 (S_cache.ext O.2) (g := (mkF m 13 #[iv pv] [])) rfl (hb hby d1_13)
      refine Go.step st6 ?_
      show Go p e below _ (T6.setTop (mkF m 16 #[iv pv] [(.ref w_cache)]))
      refine Go.step (S' := T6.setTop (mkF m 21 #[iv pv] [(.int (pv + (128 : Int32))), (.ref w_cache)])) (fun t k => ?_) ?_
      · show Steps p.tables e below (T6.setTop (mkF m 16 #[iv pv] [(.ref w_cache)])) _
        refine XS.iloadN X6.here hx rfl (hb hby d1_16) rfl ?_
        show Steps p.tables e below (T6.setTop (mkF m 17 #[iv pv] [(.int pv), (.ref w_cache)])) _
        refine XS.sipush X6.here hx rfl (hb hby d1_17) ?_
        show Steps p.tables e below (T6.setTop (mkF m 20 #[iv pv] [(.int (128 : Int32)), (.int pv), (.ref w_cache)])) _
        refine XS.iadd X6.here hx rfl (hb hby d1_20) rfl ?_
        exact k
      obtain ⟨hin, box, hat, E_box, F_box⟩ := CA.2 pv hc3 hc10
      have ArC := CA.1.ext O.2
      refine Go.step (S' := T6.setTop (mkF m 22 #[iv pv] [(.ref box)])) (fun t k => X6.aaload hx (j := (pv + (128 : Int32))) (v := (.ref box)) (by rw [e6]; exact ArC.1) (State.isArrayOf_alike hZ.alike ArC.2.1) rfl ArC.2.2 hin hat (g := (mkF m 21 #[iv pv] [(.int (pv + (128 : Int32))), (.ref w_cache)])) rfl rfl (hb hby d1_21) _ k) ?_
      obtain ⟨fs, hr, hrun, hended, hW, hsame⟩ := X6.leave (v := some (.ref box)) (fun h => by rw [Bd.returns] at h; cases h)
      refine Go.fin (S' := T6.setFrames fs) ?_ hrun hended ⟨_, _, rfl, ?_, ⟨_, rfl⟩, hW, hsame.mono (by decide) (by decide)⟩
      · exact retOut X6 hx Bd.returns rfl (Or.inr (Or.inr (Or.inr (Or.inr ⟨rfl, rfl, rfl⟩)))) (hb hby d1_22) hr
      · show Q_rmVO Z pv w_cache cl h0 n0 (some (.ref box)) T6.heap _
        rw [e6]
        exact ⟨box, rfl, N0, K, (E_box.ext O.2), (F_box.ext O.2)⟩
theorem d9_0 : decode jdk_33_method_27_code 0 = .ok (.aload_n 0, 1) := by decide +kernel
theorem d9_1 : decode jdk_33_method_27_code 1 = .ok (.getfield 205, 3) := by decide +kernel
theorem d9_4 : decode jdk_33_method_27_code 4 = .ok (.ireturn, 1) := by decide +kernel
theorem ef_rmIV (m : MethodId) (a : Addr) : entryFrame m #[(.ref a)] 1 = mkF m 0 #[.val (.ref a)] [] := by first | (simp [entryFrame, mkF, argsToLocals, Value.category]; done) | rfl
abbrev rm_rmIV : Room := ({ frames := 0, cells := 0, slots := 0, locals := 0 } : Room)
def Q_rmIV (Z : State) (a : Addr) (pv : Int32) (h0 : Heap) (n0 : Nat) (v : Option Value) (h : Heap) (L : List Loc) : Prop := (v = some (.int pv)) ∧ (Fr n0 L) ∧ (h = h0)
set_option maxRecDepth 65536 in
set_option maxHeartbeats 40000000 in
theorem rmIV (l : Launch) (Z : State) (a0 : Array Value) (hw : ∀ d ∈ tables_1, d.before a0 Z = true) (ws : List Jvm.Cond) (a : Addr) (pv : Int32) (h0 : Heap) (n0 : Nat) (O : Old Z n0 h0) (F_value_a : Fld Z h0 a "java/lang/Integer" "value" "I" (.int pv)) :
    MetFree l (⟨"java/lang/Integer", "intValue", "()I"⟩ : MethodName) (head1 (Jvm.Cond.code (⟨"java/lang/Integer", "intValue", "()I"⟩ : MethodName) jdk_33_method_27_code 1 (some .int) :: ws) rm_rmIV) (fun A_ U => A_ = #[(.ref a)] ∧ Z.Warmed39 U.vm ∧ U.heap = h0) (fun _ _ _ _ _ => True) (fun _ U o U' => ∃ v L, o = .returned v ∧ Q_rmIV Z a pv h0 n0 v U'.heap L ∧ FrameEnd U o U' L rm_rmIV.cells rm_rmIV.slots) := by
  refine MetFree.of_bodySF (plainFor_of_name pn_java_lang_Integer) hisR ?_
  intro p e s m args below meth c s₁ Bd hml0 hP hK
  obtain ⟨rfl, hZ, hh⟩ := hP
  have hx := Bd.exec
  have hby := Bd.bytes
  have hml : c.maxLocals = 1 := hml0
  have hown : s.vm.findClass "java/lang/Integer" = some m.cls := findClass_of_methodNamed Bd.named
  have hnm := (name_of_methodNamed Bd.named Bd.method).1
  have X0 : Stand p l e rm_rmIV s m #[(.ref a)] below meth c s₁ [] 0 0 := Stand.of_body Bd
  have e0 : s₁.heap = h0 := by rw [← hh, Bd.state]; rfl
  have N0 := Fr.nil n0
  refine Go.step (p := p) (e := e) (below := below) (G := fun o U' => ∃ v L, o = .returned v ∧ Q_rmIV Z a pv h0 n0 v U'.heap L ∧ FrameEnd s o U' L rm_rmIV.cells rm_rmIV.slots) (S' := s₁.setTop (mkF m 0 #[rv a] [])) (fun t k => castTop (ef_rmIV m a) k) ?_
  refine Go.step (S' := s₁.setTop (mkF m 1 #[rv a] [(.ref a)])) (fun t k => ?_) ?_
  · show Steps p.tables e below (s₁.setTop (mkF m 0 #[rv a] [])) _
    refine XS.aloadN X0.here hx rfl (hb hby d9_0) rfl rfl ?_
    exact k
  obtain ⟨T1, X1, e1, st1⟩ := getF X0 hx hZ hown (host := "") (Or.inl (own_w hw 21 rfl)) Via.refl e0 F_value_a (g := (mkF m 1 #[rv a] [(.ref a)])) rfl rfl (hb hby d9_1)
  refine Go.step st1 ?_
  show Go p e below _ (T1.setTop (mkF m 4 #[rv a] [(.int pv)]))
  obtain ⟨fs, hr, hrun, hended, hW, hsame⟩ := X1.leave (v := some (.int pv)) (fun h => by rw [Bd.returns] at h; cases h)
  refine Go.fin (S' := T1.setFrames fs) ?_ hrun hended ⟨_, _, rfl, ?_, ⟨_, rfl⟩, hW, hsame.mono (by decide) (by decide)⟩
  · exact retOut X1 hx Bd.returns rfl (Or.inl ⟨rfl, Or.inl rfl, _, rfl⟩) (hb hby d9_4) hr
  · show Q_rmIV Z a pv h0 n0 (some (.int pv)) T1.heap _
    rw [e1]
    exact ⟨rfl, N0, rfl⟩
theorem pn_java_lang_Record : plainName "java/lang/Record" = true := by first | (simp [plainName, overriddenIn]; done) | decide +kernel
theorem d7_0 : decode jdk_30_method_1_code 0 = .ok (.aload_n 0, 1) := by decide +kernel
theorem d7_1 : decode jdk_30_method_1_code 1 = .ok (.invokespecial 1, 3) := by decide +kernel
theorem d7_4 : decode jdk_30_method_1_code 4 = .ok (.return_, 1) := by decide +kernel
theorem ef_rmRec (m : MethodId) (a : Addr) : entryFrame m #[(.ref a)] 1 = mkF m 0 #[.val (.ref a)] [] := by first | (simp [entryFrame, mkF, argsToLocals, Value.category]; done) | rfl
abbrev rm_rmRec : Room := ({ frames := 1, cells := 0, slots := 0, locals := 12 } : Room)
def Q_rmRec (Z : State) (a : Addr) (h0 : Heap) (n0 : Nat) (v : Option Value) (h : Heap) (L : List Loc) : Prop := (v = none) ∧ (Fr n0 L) ∧ (h = h0)
set_option maxRecDepth 65536 in
set_option maxHeartbeats 40000000 in
theorem rmRec (l : Launch) (Z : State) (a0 : Array Value) (hw : ∀ d ∈ tables_1, d.before a0 Z = true) (ws : List Jvm.Cond) (a : Addr) (h0 : Heap) (n0 : Nat) (O : Old Z n0 h0) :
    MetFree l (⟨"java/lang/Record", "<init>", "()V"⟩ : MethodName) (head1 (Jvm.Cond.code (⟨"java/lang/Record", "<init>", "()V"⟩ : MethodName) jdk_30_method_1_code 1 none :: ws) rm_rmRec) (fun A_ U => A_ = #[(.ref a)] ∧ Z.Warmed39 U.vm ∧ U.heap = h0) (fun _ _ _ _ _ => True) (fun _ U o U' => ∃ v L, o = .returned v ∧ Q_rmRec Z a h0 n0 v U'.heap L ∧ FrameEnd U o U' L rm_rmRec.cells rm_rmRec.slots) := by
  refine MetFree.of_bodySF (plainFor_of_name pn_java_lang_Record) hisR ?_
  intro p e s m args below meth c s₁ Bd hml0 hP hK
  obtain ⟨rfl, hZ, hh⟩ := hP
  have hx := Bd.exec
  have hby := Bd.bytes
  have hml : c.maxLocals = 1 := hml0
  have hown : s.vm.findClass "java/lang/Record" = some m.cls := findClass_of_methodNamed Bd.named
  have hnm := (name_of_methodNamed Bd.named Bd.method).1
  have X0 : Stand p l e rm_rmRec s m #[(.ref a)] below meth c s₁ [] 0 0 := Stand.of_body Bd
  have e0 : s₁.heap = h0 := by rw [← hh, Bd.state]; rfl
  have N0 := Fr.nil n0
  refine Go.step (p := p) (e := e) (below := below) (G := fun o U' => ∃ v L, o = .returned v ∧ Q_rmRec Z a h0 n0 v U'.heap L ∧ FrameEnd s o U' L rm_rmRec.cells rm_rmRec.slots) (S' := s₁.setTop (mkF m 0 #[rv a] [])) (fun t k => castTop (ef_rmRec m a) k) ?_
  refine Go.step (S' := s₁.setTop (mkF m 1 #[rv a] [(.ref a)])) (fun t k => ?_) ?_
  · show Steps p.tables e below (s₁.setTop (mkF m 0 #[rv a] [])) _
    refine XS.aloadN X0.here hx rfl (hb hby d7_0) rfl rfl ?_
    exact k
  obtain ⟨T1, X1, e1, st1⟩ := initO X0 hx hZ hown (own_w hw 41 rfl) (own_w hw 19 rfl) (own_w hw 20 rfl) e0 (g := (mkF m 1 #[rv a] [(.ref a)])) rfl (by rw [hml]; rfl) rfl (hb hby d7_1) (by decide) (W := 0) (by show 2 * 0 + _ ≤ _; exact Nat.le_of_eq rfl) (by decide)
  refine Go.step st1 ?_
  show Go p e below _ (T1.setTop (mkF m 4 #[rv a] []))
  obtain ⟨fs, hr, hrun, hended, hW, hsame⟩ := X1.leave (v := none) (fun _ => rfl)
  refine Go.fin (S' := T1.setFrames fs) ?_ hrun hended ⟨_, _, rfl, ?_, ⟨_, rfl⟩, hW, hsame.mono (by decide) (by decide)⟩
  · exact X1.returnOut hx Bd.returns (hb hby d7_4) hr
  · show Q_rmRec Z a h0 n0 (none) T1.heap _
    rw [e1]
    exact ⟨rfl, N0, rfl⟩
theorem pn_com_example_loomlist_loomlist_store_WebhookAnswer : plainName "com/example/loomlist/loomlist/store/WebhookAnswer" = true := by first | (simp [plainName, overriddenIn]; done) | decide +kernel
theorem d6_0 : decode prog_74_method_1_code 0 = .ok (.aload_n 0, 1) := by decide +kernel
theorem d6_1 : decode prog_74_method_1_code 1 = .ok (.invokespecial 1, 3) := by decide +kernel
theorem d6_4 : decode prog_74_method_1_code 4 = .ok (.aload_n 0, 1) := by decide +kernel
theorem d6_5 : decode prog_74_method_1_code 5 = .ok (.aload_n 1, 1) := by decide +kernel
theorem d6_6 : decode prog_74_method_1_code 6 = .ok (.putfield 7, 3) := by decide +kernel
theorem d6_9 : decode prog_74_method_1_code 9 = .ok (.aload_n 0, 1) := by decide +kernel
theorem d6_10 : decode prog_74_method_1_code 10 = .ok (.aload_n 2, 1) := by decide +kernel
theorem d6_11 : decode prog_74_method_1_code 11 = .ok (.putfield 13, 3) := by decide +kernel
theorem d6_14 : decode prog_74_method_1_code 14 = .ok (.return_, 1) := by decide +kernel
theorem ef_rmW0 (m : MethodId) (a : Addr) : entryFrame m #[(.ref a), .null, .null] 3 = mkF m 0 #[.val (.ref a), .val .null, .val .null] [] := by first | (simp [entryFrame, mkF, argsToLocals, Value.category]; done) | rfl
abbrev rm_rmW0 : Room := ({ frames := 2, cells := 0, slots := 0, locals := 24 } : Room)
def Q_rmW0 (Z : State) (a : Addr) (h0 : Heap) (n0 : Nat) (v : Option Value) (h : Heap) (L : List Loc) : Prop := (v = none) ∧ (Fr n0 L) ∧ (Keep h0 h [a]) ∧ (Exa Z h a "com/example/loomlist/loomlist/store/WebhookAnswer") ∧ (Fld Z h a "com/example/loomlist/loomlist/store/WebhookAnswer" "status" "Ljava/lang/Integer;" .null)
set_option maxRecDepth 65536 in
set_option maxHeartbeats 40000000 in
theorem rmW0 (l : Launch) (Z : State) (a0 : Array Value) (hw : ∀ d ∈ tables_1, d.before a0 Z = true) (ws : List Jvm.Cond) (a : Addr) (h0 : Heap) (n0 : Nat) (O : Old Z n0 h0) (E_a : Exa Z h0 a "com/example/loomlist/loomlist/store/WebhookAnswer") (F_st : Fld Z h0 a "com/example/loomlist/loomlist/store/WebhookAnswer" "status" "Ljava/lang/Integer;" .null) (F_fa : Fld Z h0 a "com/example/loomlist/loomlist/store/WebhookAnswer" "failure" "Lcom/example/loomlist/loomlist/store/WebhookAnswer$Failure;" .null) (g_a : n0 ≤ a) :
    MetFree l (⟨"com/example/loomlist/loomlist/store/WebhookAnswer", "<init>", "(Ljava/lang/Integer;Lcom/example/loomlist/loomlist/store/WebhookAnswer$Failure;)V"⟩ : MethodName) (head1 (Jvm.Cond.code (⟨"com/example/loomlist/loomlist/store/WebhookAnswer", "<init>", "(Ljava/lang/Integer;Lcom/example/loomlist/loomlist/store/WebhookAnswer$Failure;)V"⟩ : MethodName) prog_74_method_1_code 3 none :: ws) rm_rmW0) (fun A_ U => A_ = #[(.ref a), .null, .null] ∧ Z.Warmed39 U.vm ∧ U.heap = h0) (fun _ _ _ _ _ => True) (fun _ U o U' => ∃ v L, o = .returned v ∧ Q_rmW0 Z a h0 n0 v U'.heap L ∧ FrameEnd U o U' L rm_rmW0.cells rm_rmW0.slots) := by
  refine MetFree.of_bodySF (plainFor_of_name pn_com_example_loomlist_loomlist_store_WebhookAnswer) hisR ?_
  intro p e s m args below meth c s₁ Bd hml0 hP hK
  obtain ⟨rfl, hZ, hh⟩ := hP
  have hx := Bd.exec
  have hby := Bd.bytes
  have hml : c.maxLocals = 3 := hml0
  have hown : s.vm.findClass "com/example/loomlist/loomlist/store/WebhookAnswer" = some m.cls := findClass_of_methodNamed Bd.named
  have hnm := (name_of_methodNamed Bd.named Bd.method).1
  have X0 : Stand p l e rm_rmW0 s m #[(.ref a), .null, .null] below meth c s₁ [] 0 0 := Stand.of_body Bd
  have e0 : s₁.heap = h0 := by rw [← hh, Bd.state]; rfl
  have N0 := Fr.nil n0
  have K := Keep.refl h0 [a]
  refine Go.step (p := p) (e := e) (below := below) (G := fun o U' => ∃ v L, o = .returned v ∧ Q_rmW0 Z a h0 n0 v U'.heap L ∧ FrameEnd s o U' L rm_rmW0.cells rm_rmW0.slots) (S' := s₁.setTop (mkF m 0 #[rv a, .val .null, .val .null] [])) (fun t k => castTop (ef_rmW0 m a) k) ?_
  refine Go.step (S' := s₁.setTop (mkF m 1 #[rv a, .val .null, .val .null] [(.ref a)])) (fun t k => ?_) ?_
  · show Steps p.tables e below (s₁.setTop (mkF m 0 #[rv a, .val .null, .val .null] [])) _
    refine XS.aloadN X0.here hx rfl (hb hby d6_0) rfl rfl ?_
    exact k
  obtain ⟨_, _, ⟨T1, L1, k1, n1⟩, -, X1, ⟨Lc1, hQ1, l1, y1, z1⟩, st1⟩ := X0.specialBack hx (y := (⟨"java/lang/Record", "<init>", "()V"⟩ : MethodName)) rfl hown (mvT hZ (own_w hw 36 rfl)) (mvT hZ (own_w hw 37 rfl)) (mvT hZ (own_w hw 40 rfl)) (by decide) (backOf (W := 0) (rmRec l Z a0 hw [] a h0 n0 O ) hZ (own_w hw 40 rfl) (own_w hw 39 rfl) (by decide) (by decide)) (g := (mkF m 1 #[rv a, .val .null, .val .null] [(.ref a)])) rfl (by rw [hml]; rfl) (Steps.refl _) (a := a) (argsL := []) (rest := []) (lenOf pd__28_29V rfl) rfl (by show 2 * 0 + _ ≤ _; exact Nat.le_of_eq rfl) (hb hby d6_1) (fun _ _ => ⟨rfl, e0, (by decide : 0 + 0 ≤ _), (by decide : 0 + 0 ≤ _)⟩)
  dsimp only [Pt.U, Pt.locs, Pt.cells, Pt.slots] at X1 l1 y1 z1 st1 hQ1
  subst l1 y1 z1
  obtain ⟨rfl, Nq1, e1⟩ := hQ1
  have N1 := Fr.app N0 Nq1
  refine Go.step (fun t k => st1.trans k) ?_
  show Go p e below _ (T1.setTop (mkF m 4 #[rv a, .val .null, .val .null] []))
  refine Go.step (S' := T1.setTop (mkF m 6 #[rv a, .val .null, .val .null] [.null, (.ref a)])) (fun t k => ?_) ?_
  · show Steps p.tables e below (T1.setTop (mkF m 4 #[rv a, .val .null, .val .null] [])) _
    refine XS.aloadN X1.here hx rfl (hb hby d6_4) rfl rfl ?_
    show Steps p.tables e below (T1.setTop (mkF m 5 #[rv a, .val .null, .val .null] [(.ref a)])) _
    refine XS.aloadN X1.here hx rfl (hb hby d6_5) rfl rfl ?_
    exact k
  obtain ⟨T2, h2, X2, e2, W2, st2⟩ := putF X1 hx hZ hown (host := "") (Or.inl (own_w hw 42 rfl)) Via.refl e1 F_st E_a (Or.inr ⟨(own_w hw 43 rfl), rfl, hnm⟩) (own_w hw 31 rfl) (ty := (.object "java/lang/Integer")) (by decide) rfl rfl (g := (mkF m 6 #[rv a, .val .null, .val .null] [.null, (.ref a)])) rfl rfl (hb hby d6_6)
  have O := O.wr W2 g_a
  have E_a := E_a.wr W2
  have F_st := F_st.same W2
  have F_fa := F_fa.other W2 (Or.inr (slot_ne (Or.inr (own_w hw 45 rfl)) (Or.inr (own_w hw 43 rfl)) (by decide) (t := (.object "com/example/loomlist/loomlist/store/WebhookAnswer$Failure")) (t' := (.object "java/lang/Integer")) (by decide) (by decide)))
  have K := K.wr W2 (Or.inl (List.mem_of_getElem? (i := 0) rfl))
  have N2 := Fr.snoc X2 N1 g_a
  refine Go.step st2 ?_
  show Go p e below _ (T2.setTop (mkF m 9 #[rv a, .val .null, .val .null] []))
  refine Go.step (S' := T2.setTop (mkF m 11 #[rv a, .val .null, .val .null] [.null, (.ref a)])) (fun t k => ?_) ?_
  · show Steps p.tables e below (T2.setTop (mkF m 9 #[rv a, .val .null, .val .null] [])) _
    refine XS.aloadN X2.here hx rfl (hb hby d6_9) rfl rfl ?_
    show Steps p.tables e below (T2.setTop (mkF m 10 #[rv a, .val .null, .val .null] [(.ref a)])) _
    refine XS.aloadN X2.here hx rfl (hb hby d6_10) rfl rfl ?_
    exact k
  obtain ⟨T3, h3, X3, e3, W3, st3⟩ := putF X2 hx hZ hown (host := "") (Or.inl (own_w hw 44 rfl)) Via.refl e2 F_fa E_a (Or.inr ⟨(own_w hw 45 rfl), rfl, hnm⟩) (own_w hw 31 rfl) (ty := (.object "com/example/loomlist/loomlist/store/WebhookAnswer$Failure")) (by decide) rfl rfl (g := (mkF m 11 #[rv a, .val .null, .val .null] [.null, (.ref a)])) rfl rfl (hb hby d6_11)
  have O := O.wr W3 g_a
  have E_a := E_a.wr W3
  have F_st := F_st.other W3 (Or.inr (slot_ne (Or.inr (own_w hw 43 rfl)) (Or.inr (own_w hw 45 rfl)) (by decide) (t := (.object "java/lang/Integer")) (t' := (.object "com/example/loomlist/loomlist/store/WebhookAnswer$Failure")) (by decide) (by decide)))
  have F_fa := F_fa.same W3
  have K := K.wr W3 (Or.inl (List.mem_of_getElem? (i := 0) rfl))
  have N3 := Fr.snoc X3 N2 g_a
  refine Go.step st3 ?_
  show Go p e below _ (T3.setTop (mkF m 14 #[rv a, .val .null, .val .null] []))
  obtain ⟨fs, hr, hrun, hended, hW, hsame⟩ := X3.leave (v := none) (fun _ => rfl)
  refine Go.fin (S' := T3.setFrames fs) ?_ hrun hended ⟨_, _, rfl, ?_, ⟨_, rfl⟩, hW, hsame.mono (by decide) (by decide)⟩
  · exact X3.returnOut hx Bd.returns (hb hby d6_14) hr
  · show Q_rmW0 Z a h0 n0 (none) T3.heap _
    rw [e3]
    exact ⟨rfl, N3, K, E_a, F_st⟩
theorem ef_rmW1 (m : MethodId) (a : Addr) (f : Addr) : entryFrame m #[(.ref a), .null, (.ref f)] 3 = mkF m 0 #[.val (.ref a), .val .null, .val (.ref f)] [] := by first | (simp [entryFrame, mkF, argsToLocals, Value.category]; done) | rfl
abbrev rm_rmW1 : Room := ({ frames := 2, cells := 0, slots := 0, locals := 24 } : Room)
def Q_rmW1 (Z : State) (a : Addr) (f : Addr) (h0 : Heap) (n0 : Nat) (v : Option Value) (h : Heap) (L : List Loc) : Prop := (v = none) ∧ (Fr n0 L) ∧ (Keep h0 h [a]) ∧ (Exa Z h a "com/example/loomlist/loomlist/store/WebhookAnswer") ∧ (Fld Z h a "com/example/loomlist/loomlist/store/WebhookAnswer" "status" "Ljava/lang/Integer;" .null)
set_option maxRecDepth 65536 in
set_option maxHeartbeats 40000000 in
theorem rmW1 (l : Launch) (Z : State) (a0 : Array Value) (hw : ∀ d ∈ tables_1, d.before a0 Z = true) (ws : List Jvm.Cond) (a : Addr) (f : Addr) (h0 : Heap) (n0 : Nat) (O : Old Z n0 h0) (E_a : Exa Z h0 a "com/example/loomlist/loomlist/store/WebhookAnswer") (F_st : Fld Z h0 a "com/example/loomlist/loomlist/store/WebhookAnswer" "status" "Ljava/lang/Integer;" .null) (F_fa : Fld Z h0 a "com/example/loomlist/loomlist/store/WebhookAnswer" "failure" "Lcom/example/loomlist/loomlist/store/WebhookAnswer$Failure;" .null) (g_a : n0 ≤ a) :
    MetFree l (⟨"com/example/loomlist/loomlist/store/WebhookAnswer", "<init>", "(Ljava/lang/Integer;Lcom/example/loomlist/loomlist/store/WebhookAnswer$Failure;)V"⟩ : MethodName) (head1 (Jvm.Cond.code (⟨"com/example/loomlist/loomlist/store/WebhookAnswer", "<init>", "(Ljava/lang/Integer;Lcom/example/loomlist/loomlist/store/WebhookAnswer$Failure;)V"⟩ : MethodName) prog_74_method_1_code 3 none :: ws) rm_rmW1) (fun A_ U => A_ = #[(.ref a), .null, (.ref f)] ∧ Z.Warmed39 U.vm ∧ U.heap = h0) (fun _ _ _ _ _ => True) (fun _ U o U' => ∃ v L, o = .returned v ∧ Q_rmW1 Z a f h0 n0 v U'.heap L ∧ FrameEnd U o U' L rm_rmW1.cells rm_rmW1.slots) := by
  refine MetFree.of_bodySF (plainFor_of_name pn_com_example_loomlist_loomlist_store_WebhookAnswer) hisR ?_
  intro p e s m args below meth c s₁ Bd hml0 hP hK
  obtain ⟨rfl, hZ, hh⟩ := hP
  have hx := Bd.exec
  have hby := Bd.bytes
  have hml : c.maxLocals = 3 := hml0
  have hown : s.vm.findClass "com/example/loomlist/loomlist/store/WebhookAnswer" = some m.cls := findClass_of_methodNamed Bd.named
  have hnm := (name_of_methodNamed Bd.named Bd.method).1
  have X0 : Stand p l e rm_rmW1 s m #[(.ref a), .null, (.ref f)] below meth c s₁ [] 0 0 := Stand.of_body Bd
  have e0 : s₁.heap = h0 := by rw [← hh, Bd.state]; rfl
  have N0 := Fr.nil n0
  have K := Keep.refl h0 [a]
  refine Go.step (p := p) (e := e) (below := below) (G := fun o U' => ∃ v L, o = .returned v ∧ Q_rmW1 Z a f h0 n0 v U'.heap L ∧ FrameEnd s o U' L rm_rmW1.cells rm_rmW1.slots) (S' := s₁.setTop (mkF m 0 #[rv a, .val .null, rv f] [])) (fun t k => castTop (ef_rmW1 m a f) k) ?_
  refine Go.step (S' := s₁.setTop (mkF m 1 #[rv a, .val .null, rv f] [(.ref a)])) (fun t k => ?_) ?_
  · show Steps p.tables e below (s₁.setTop (mkF m 0 #[rv a, .val .null, rv f] [])) _
    refine XS.aloadN X0.here hx rfl (hb hby d6_0) rfl rfl ?_
    exact k
  obtain ⟨_, _, ⟨T1, L1, k1, n1⟩, -, X1, ⟨Lc1, hQ1, l1, y1, z1⟩, st1⟩ := X0.specialBack hx (y := (⟨"java/lang/Record", "<init>", "()V"⟩ : MethodName)) rfl hown (mvT hZ (own_w hw 36 rfl)) (mvT hZ (own_w hw 37 rfl)) (mvT hZ (own_w hw 40 rfl)) (by decide) (backOf (W := 0) (rmRec l Z a0 hw [] a h0 n0 O ) hZ (own_w hw 40 rfl) (own_w hw 39 rfl) (by decide) (by decide)) (g := (mkF m 1 #[rv a, .val .null, rv f] [(.ref a)])) rfl (by rw [hml]; rfl) (Steps.refl _) (a := a) (argsL := []) (rest := []) (lenOf pd__28_29V rfl) rfl (by show 2 * 0 + _ ≤ _; exact Nat.le_of_eq rfl) (hb hby d6_1) (fun _ _ => ⟨rfl, e0, (by decide : 0 + 0 ≤ _), (by decide : 0 + 0 ≤ _)⟩)
  dsimp only [Pt.U, Pt.locs, Pt.cells, Pt.slots] at X1 l1 y1 z1 st1 hQ1
  subst l1 y1 z1
  obtain ⟨rfl, Nq1, e1⟩ := hQ1
  have N1 := Fr.app N0 Nq1
  refine Go.step (fun t k => st1.trans k) ?_
  show Go p e below _ (T1.setTop (mkF m 4 #[rv a, .val .null, rv f] []))
  refine Go.step (S' := T1.setTop (mkF m 6 #[rv a, .val .null, rv f] [.null, (.ref a)])) (fun t k => ?_) ?_
  · show Steps p.tables e below (T1.setTop (mkF m 4 #[rv a, .val .null, rv f] [])) _
    refine XS.aloadN X1.here hx rfl (hb hby d6_4) rfl rfl ?_
    show Steps p.tables e below (T1.setTop (mkF m 5 #[rv a, .val .null, rv f] [(.ref a)])) _
    refine XS.aloadN X1.here hx rfl (hb hby d6_5) rfl rfl ?_
    exact k
  obtain ⟨T2, h2, X2, e2, W2, st2⟩ := putF X1 hx hZ hown (host := "") (Or.inl (own_w hw 42 rfl)) Via.refl e1 F_st E_a (Or.inr ⟨(own_w hw 43 rfl), rfl, hnm⟩) (own_w hw 31 rfl) (ty := (.object "java/lang/Integer")) (by decide) rfl rfl (g := (mkF m 6 #[rv a, .val .null, rv f] [.null, (.ref a)])) rfl rfl (hb hby d6_6)
  have O := O.wr W2 g_a
  have E_a := E_a.wr W2
  have F_st := F_st.same W2
  have F_fa := F_fa.other W2 (Or.inr (slot_ne (Or.inr (own_w hw 45 rfl)) (Or.inr (own_w hw 43 rfl)) (by decide) (t := (.object "com/example/loomlist/loomlist/store/WebhookAnswer$Failure")) (t' := (.object "java/lang/Integer")) (by decide) (by decide)))
  have K := K.wr W2 (Or.inl (List.mem_of_getElem? (i := 0) rfl))
  have N2 := Fr.snoc X2 N1 g_a
  refine Go.step st2 ?_
  show Go p e below _ (T2.setTop (mkF m 9 #[rv a, .val .null, rv f] []))
  refine Go.step (S' := T2.setTop (mkF m 11 #[rv a, .val .null, rv f] [(.ref f), (.ref a)])) (fun t k => ?_) ?_
  · show Steps p.tables e below (T2.setTop (mkF m 9 #[rv a, .val .null, rv f] [])) _
    refine XS.aloadN X2.here hx rfl (hb hby d6_9) rfl rfl ?_
    show Steps p.tables e below (T2.setTop (mkF m 10 #[rv a, .val .null, rv f] [(.ref a)])) _
    refine XS.aloadN X2.here hx rfl (hb hby d6_10) rfl rfl ?_
    exact k
  obtain ⟨T3, h3, X3, e3, W3, st3⟩ := putF X2 hx hZ hown (host := "") (Or.inl (own_w hw 44 rfl)) Via.refl e2 F_fa E_a (Or.inr ⟨(own_w hw 45 rfl), rfl, hnm⟩) (own_w hw 31 rfl) (ty := (.object "com/example/loomlist/loomlist/store/WebhookAnswer$Failure")) (by decide) rfl rfl (g := (mkF m 11 #[rv a, .val .null, rv f] [(.ref f), (.ref a)])) rfl rfl (hb hby d6_11)
  have O := O.wr W3 g_a
  have E_a := E_a.wr W3
  have F_st := F_st.other W3 (Or.inr (slot_ne (Or.inr (own_w hw 43 rfl)) (Or.inr (own_w hw 45 rfl)) (by decide) (t := (.object "java/lang/Integer")) (t' := (.object "com/example/loomlist/loomlist/store/WebhookAnswer$Failure")) (by decide) (by decide)))
  have F_fa := F_fa.same W3
  have K := K.wr W3 (Or.inl (List.mem_of_getElem? (i := 0) rfl))
  have N3 := Fr.snoc X3 N2 g_a
  refine Go.step st3 ?_
  show Go p e below _ (T3.setTop (mkF m 14 #[rv a, .val .null, rv f] []))
  obtain ⟨fs, hr, hrun, hended, hW, hsame⟩ := X3.leave (v := none) (fun _ => rfl)
  refine Go.fin (S' := T3.setFrames fs) ?_ hrun hended ⟨_, _, rfl, ?_, ⟨_, rfl⟩, hW, hsame.mono (by decide) (by decide)⟩
  · exact X3.returnOut hx Bd.returns (hb hby d6_14) hr
  · show Q_rmW1 Z a f h0 n0 (none) T3.heap _
    rw [e3]
    exact ⟨rfl, N3, K, E_a, F_st⟩
theorem ef_rmW2 (m : MethodId) (a : Addr) (b : Addr) : entryFrame m #[(.ref a), (.ref b), .null] 3 = mkF m 0 #[.val (.ref a), .val (.ref b), .val .null] [] := by first | (simp [entryFrame, mkF, argsToLocals, Value.category]; done) | rfl
abbrev rm_rmW2 : Room := ({ frames := 2, cells := 0, slots := 0, locals := 24 } : Room)
def Q_rmW2 (Z : State) (a : Addr) (b : Addr) (h0 : Heap) (n0 : Nat) (v : Option Value) (h : Heap) (L : List Loc) : Prop := (v = none) ∧ (Fr n0 L) ∧ (Keep h0 h [a]) ∧ (Exa Z h a "com/example/loomlist/loomlist/store/WebhookAnswer") ∧ (Fld Z h a "com/example/loomlist/loomlist/store/WebhookAnswer" "status" "Ljava/lang/Integer;" (.ref b))
set_option maxRecDepth 65536 in
set_option maxHeartbeats 40000000 in
theorem rmW2 (l : Launch) (Z : State) (a0 : Array Value) (hw : ∀ d ∈ tables_1, d.before a0 Z = true) (ws : List Jvm.Cond) (a : Addr) (b : Addr) (h0 : Heap) (n0 : Nat) (O : Old Z n0 h0) (E_a : Exa Z h0 a "com/example/loomlist/loomlist/store/WebhookAnswer") (F_st : Fld Z h0 a "com/example/loomlist/loomlist/store/WebhookAnswer" "status" "Ljava/lang/Integer;" .null) (F_fa : Fld Z h0 a "com/example/loomlist/loomlist/store/WebhookAnswer" "failure" "Lcom/example/loomlist/loomlist/store/WebhookAnswer$Failure;" .null) (g_a : n0 ≤ a) :
    MetFree l (⟨"com/example/loomlist/loomlist/store/WebhookAnswer", "<init>", "(Ljava/lang/Integer;Lcom/example/loomlist/loomlist/store/WebhookAnswer$Failure;)V"⟩ : MethodName) (head1 (Jvm.Cond.code (⟨"com/example/loomlist/loomlist/store/WebhookAnswer", "<init>", "(Ljava/lang/Integer;Lcom/example/loomlist/loomlist/store/WebhookAnswer$Failure;)V"⟩ : MethodName) prog_74_method_1_code 3 none :: ws) rm_rmW2) (fun A_ U => A_ = #[(.ref a), (.ref b), .null] ∧ Z.Warmed39 U.vm ∧ U.heap = h0) (fun _ _ _ _ _ => True) (fun _ U o U' => ∃ v L, o = .returned v ∧ Q_rmW2 Z a b h0 n0 v U'.heap L ∧ FrameEnd U o U' L rm_rmW2.cells rm_rmW2.slots) := by
  refine MetFree.of_bodySF (plainFor_of_name pn_com_example_loomlist_loomlist_store_WebhookAnswer) hisR ?_
  intro p e s m args below meth c s₁ Bd hml0 hP hK
  obtain ⟨rfl, hZ, hh⟩ := hP
  have hx := Bd.exec
  have hby := Bd.bytes
  have hml : c.maxLocals = 3 := hml0
  have hown : s.vm.findClass "com/example/loomlist/loomlist/store/WebhookAnswer" = some m.cls := findClass_of_methodNamed Bd.named
  have hnm := (name_of_methodNamed Bd.named Bd.method).1
  have X0 : Stand p l e rm_rmW2 s m #[(.ref a), (.ref b), .null] below meth c s₁ [] 0 0 := Stand.of_body Bd
  have e0 : s₁.heap = h0 := by rw [← hh, Bd.state]; rfl
  have N0 := Fr.nil n0
  have K := Keep.refl h0 [a]
  refine Go.step (p := p) (e := e) (below := below) (G := fun o U' => ∃ v L, o = .returned v ∧ Q_rmW2 Z a b h0 n0 v U'.heap L ∧ FrameEnd s o U' L rm_rmW2.cells rm_rmW2.slots) (S' := s₁.setTop (mkF m 0 #[rv a, rv b, .val .null] [])) (fun t k => castTop (ef_rmW2 m a b) k) ?_
  refine Go.step (S' := s₁.setTop (mkF m 1 #[rv a, rv b, .val .null] [(.ref a)])) (fun t k => ?_) ?_
  · show Steps p.tables e below (s₁.setTop (mkF m 0 #[rv a, rv b, .val .null] [])) _
    refine XS.aloadN X0.here hx rfl (hb hby d6_0) rfl rfl ?_
    exact k
  obtain ⟨_, _, ⟨T1, L1, k1, n1⟩, -, X1, ⟨Lc1, hQ1, l1, y1, z1⟩, st1⟩ := X0.specialBack hx (y := (⟨"java/lang/Record", "<init>", "()V"⟩ : MethodName)) rfl hown (mvT hZ (own_w hw 36 rfl)) (mvT hZ (own_w hw 37 rfl)) (mvT hZ (own_w hw 40 rfl)) (by decide) (backOf (W := 0) (rmRec l Z a0 hw [] a h0 n0 O ) hZ (own_w hw 40 rfl) (own_w hw 39 rfl) (by decide) (by decide)) (g := (mkF m 1 #[rv a, rv b, .val .null] [(.ref a)])) rfl (by rw [hml]; rfl) (Steps.refl _) (a := a) (argsL := []) (rest := []) (lenOf pd__28_29V rfl) rfl (by show 2 * 0 + _ ≤ _; exact Nat.le_of_eq rfl) (hb hby d6_1) (fun _ _ => ⟨rfl, e0, (by decide : 0 + 0 ≤ _), (by decide : 0 + 0 ≤ _)⟩)
  dsimp only [Pt.U, Pt.locs, Pt.cells, Pt.slots] at X1 l1 y1 z1 st1 hQ1
  subst l1 y1 z1
  obtain ⟨rfl, Nq1, e1⟩ := hQ1
  have N1 := Fr.app N0 Nq1
  refine Go.step (fun t k => st1.trans k) ?_
  show Go p e below _ (T1.setTop (mkF m 4 #[rv a, rv b, .val .null] []))
  refine Go.step (S' := T1.setTop (mkF m 6 #[rv a, rv b, .val .null] [(.ref b), (.ref a)])) (fun t k => ?_) ?_
  · show Steps p.tables e below (T1.setTop (mkF m 4 #[rv a, rv b, .val .null] [])) _
    refine XS.aloadN X1.here hx rfl (hb hby d6_4) rfl rfl ?_
    show Steps p.tables e below (T1.setTop (mkF m 5 #[rv a, rv b, .val .null] [(.ref a)])) _
    refine XS.aloadN X1.here hx rfl (hb hby d6_5) rfl rfl ?_
    exact k
  obtain ⟨T2, h2, X2, e2, W2, st2⟩ := putF X1 hx hZ hown (host := "") (Or.inl (own_w hw 42 rfl)) Via.refl e1 F_st E_a (Or.inr ⟨(own_w hw 43 rfl), rfl, hnm⟩) (own_w hw 31 rfl) (ty := (.object "java/lang/Integer")) (by decide) rfl rfl (g := (mkF m 6 #[rv a, rv b, .val .null] [(.ref b), (.ref a)])) rfl rfl (hb hby d6_6)
  have O := O.wr W2 g_a
  have E_a := E_a.wr W2
  have F_st := F_st.same W2
  have F_fa := F_fa.other W2 (Or.inr (slot_ne (Or.inr (own_w hw 45 rfl)) (Or.inr (own_w hw 43 rfl)) (by decide) (t := (.object "com/example/loomlist/loomlist/store/WebhookAnswer$Failure")) (t' := (.object "java/lang/Integer")) (by decide) (by decide)))
  have K := K.wr W2 (Or.inl (List.mem_of_getElem? (i := 0) rfl))
  have N2 := Fr.snoc X2 N1 g_a
  refine Go.step st2 ?_
  show Go p e below _ (T2.setTop (mkF m 9 #[rv a, rv b, .val .null] []))
  refine Go.step (S' := T2.setTop (mkF m 11 #[rv a, rv b, .val .null] [.null, (.ref a)])) (fun t k => ?_) ?_
  · show Steps p.tables e below (T2.setTop (mkF m 9 #[rv a, rv b, .val .null] [])) _
    refine XS.aloadN X2.here hx rfl (hb hby d6_9) rfl rfl ?_
    show Steps p.tables e below (T2.setTop (mkF m 10 #[rv a, rv b, .val .null] [(.ref a)])) _
    refine XS.aloadN X2.here hx rfl (hb hby d6_10) rfl rfl ?_
    exact k
  obtain ⟨T3, h3, X3, e3, W3, st3⟩ := putF X2 hx hZ hown (host := "") (Or.inl (own_w hw 44 rfl)) Via.refl e2 F_fa E_a (Or.inr ⟨(own_w hw 45 rfl), rfl, hnm⟩) (own_w hw 31 rfl) (ty := (.object "com/example/loomlist/loomlist/store/WebhookAnswer$Failure")) (by decide) rfl rfl (g := (mkF m 11 #[rv a, rv b, .val .null] [.null, (.ref a)])) rfl rfl (hb hby d6_11)
  have O := O.wr W3 g_a
  have E_a := E_a.wr W3
  have F_st := F_st.other W3 (Or.inr (slot_ne (Or.inr (own_w hw 43 rfl)) (Or.inr (own_w hw 45 rfl)) (by decide) (t := (.object "java/lang/Integer")) (t' := (.object "com/example/loomlist/loomlist/store/WebhookAnswer$Failure")) (by decide) (by decide)))
  have F_fa := F_fa.same W3
  have K := K.wr W3 (Or.inl (List.mem_of_getElem? (i := 0) rfl))
  have N3 := Fr.snoc X3 N2 g_a
  refine Go.step st3 ?_
  show Go p e below _ (T3.setTop (mkF m 14 #[rv a, rv b, .val .null] []))
  obtain ⟨fs, hr, hrun, hended, hW, hsame⟩ := X3.leave (v := none) (fun _ => rfl)
  refine Go.fin (S' := T3.setFrames fs) ?_ hrun hended ⟨_, _, rfl, ?_, ⟨_, rfl⟩, hW, hsame.mono (by decide) (by decide)⟩
  · exact X3.returnOut hx Bd.returns (hb hby d6_14) hr
  · show Q_rmW2 Z a b h0 n0 (none) T3.heap _
    rw [e3]
    exact ⟨rfl, N3, K, E_a, F_st⟩
theorem ef_rmW3 (m : MethodId) (a : Addr) (b : Addr) (f : Addr) : entryFrame m #[(.ref a), (.ref b), (.ref f)] 3 = mkF m 0 #[.val (.ref a), .val (.ref b), .val (.ref f)] [] := by first | (simp [entryFrame, mkF, argsToLocals, Value.category]; done) | rfl
abbrev rm_rmW3 : Room := ({ frames := 2, cells := 0, slots := 0, locals := 24 } : Room)
def Q_rmW3 (Z : State) (a : Addr) (b : Addr) (f : Addr) (h0 : Heap) (n0 : Nat) (v : Option Value) (h : Heap) (L : List Loc) : Prop := (v = none) ∧ (Fr n0 L) ∧ (Keep h0 h [a]) ∧ (Exa Z h a "com/example/loomlist/loomlist/store/WebhookAnswer") ∧ (Fld Z h a "com/example/loomlist/loomlist/store/WebhookAnswer" "status" "Ljava/lang/Integer;" (.ref b))
set_option maxRecDepth 65536 in
set_option maxHeartbeats 40000000 in
theorem rmW3 (l : Launch) (Z : State) (a0 : Array Value) (hw : ∀ d ∈ tables_1, d.before a0 Z = true) (ws : List Jvm.Cond) (a : Addr) (b : Addr) (f : Addr) (h0 : Heap) (n0 : Nat) (O : Old Z n0 h0) (E_a : Exa Z h0 a "com/example/loomlist/loomlist/store/WebhookAnswer") (F_st : Fld Z h0 a "com/example/loomlist/loomlist/store/WebhookAnswer" "status" "Ljava/lang/Integer;" .null) (F_fa : Fld Z h0 a "com/example/loomlist/loomlist/store/WebhookAnswer" "failure" "Lcom/example/loomlist/loomlist/store/WebhookAnswer$Failure;" .null) (g_a : n0 ≤ a) :
    MetFree l (⟨"com/example/loomlist/loomlist/store/WebhookAnswer", "<init>", "(Ljava/lang/Integer;Lcom/example/loomlist/loomlist/store/WebhookAnswer$Failure;)V"⟩ : MethodName) (head1 (Jvm.Cond.code (⟨"com/example/loomlist/loomlist/store/WebhookAnswer", "<init>", "(Ljava/lang/Integer;Lcom/example/loomlist/loomlist/store/WebhookAnswer$Failure;)V"⟩ : MethodName) prog_74_method_1_code 3 none :: ws) rm_rmW3) (fun A_ U => A_ = #[(.ref a), (.ref b), (.ref f)] ∧ Z.Warmed39 U.vm ∧ U.heap = h0) (fun _ _ _ _ _ => True) (fun _ U o U' => ∃ v L, o = .returned v ∧ Q_rmW3 Z a b f h0 n0 v U'.heap L ∧ FrameEnd U o U' L rm_rmW3.cells rm_rmW3.slots) := by
  refine MetFree.of_bodySF (plainFor_of_name pn_com_example_loomlist_loomlist_store_WebhookAnswer) hisR ?_
  intro p e s m args below meth c s₁ Bd hml0 hP hK
  obtain ⟨rfl, hZ, hh⟩ := hP
  have hx := Bd.exec
  have hby := Bd.bytes
  have hml : c.maxLocals = 3 := hml0
  have hown : s.vm.findClass "com/example/loomlist/loomlist/store/WebhookAnswer" = some m.cls := findClass_of_methodNamed Bd.named
  have hnm := (name_of_methodNamed Bd.named Bd.method).1
  have X0 : Stand p l e rm_rmW3 s m #[(.ref a), (.ref b), (.ref f)] below meth c s₁ [] 0 0 := Stand.of_body Bd
  have e0 : s₁.heap = h0 := by rw [← hh, Bd.state]; rfl
  have N0 := Fr.nil n0
  have K := Keep.refl h0 [a]
  refine Go.step (p := p) (e := e) (below := below) (G := fun o U' => ∃ v L, o = .returned v ∧ Q_rmW3 Z a b f h0 n0 v U'.heap L ∧ FrameEnd s o U' L rm_rmW3.cells rm_rmW3.slots) (S' := s₁.setTop (mkF m 0 #[rv a, rv b, rv f] [])) (fun t k => castTop (ef_rmW3 m a b f) k) ?_
  refine Go.step (S' := s₁.setTop (mkF m 1 #[rv a, rv b, rv f] [(.ref a)])) (fun t k => ?_) ?_
  · show Steps p.tables e below (s₁.setTop (mkF m 0 #[rv a, rv b, rv f] [])) _
    refine XS.aloadN X0.here hx rfl (hb hby d6_0) rfl rfl ?_
    exact k
  obtain ⟨_, _, ⟨T1, L1, k1, n1⟩, -, X1, ⟨Lc1, hQ1, l1, y1, z1⟩, st1⟩ := X0.specialBack hx (y := (⟨"java/lang/Record", "<init>", "()V"⟩ : MethodName)) rfl hown (mvT hZ (own_w hw 36 rfl)) (mvT hZ (own_w hw 37 rfl)) (mvT hZ (own_w hw 40 rfl)) (by decide) (backOf (W := 0) (rmRec l Z a0 hw [] a h0 n0 O ) hZ (own_w hw 40 rfl) (own_w hw 39 rfl) (by decide) (by decide)) (g := (mkF m 1 #[rv a, rv b, rv f] [(.ref a)])) rfl (by rw [hml]; rfl) (Steps.refl _) (a := a) (argsL := []) (rest := []) (lenOf pd__28_29V rfl) rfl (by show 2 * 0 + _ ≤ _; exact Nat.le_of_eq rfl) (hb hby d6_1) (fun _ _ => ⟨rfl, e0, (by decide : 0 + 0 ≤ _), (by decide : 0 + 0 ≤ _)⟩)
  dsimp only [Pt.U, Pt.locs, Pt.cells, Pt.slots] at X1 l1 y1 z1 st1 hQ1
  subst l1 y1 z1
  obtain ⟨rfl, Nq1, e1⟩ := hQ1
  have N1 := Fr.app N0 Nq1
  refine Go.step (fun t k => st1.trans k) ?_
  show Go p e below _ (T1.setTop (mkF m 4 #[rv a, rv b, rv f] []))
  refine Go.step (S' := T1.setTop (mkF m 6 #[rv a, rv b, rv f] [(.ref b), (.ref a)])) (fun t k => ?_) ?_
  · show Steps p.tables e below (T1.setTop (mkF m 4 #[rv a, rv b, rv f] [])) _
    refine XS.aloadN X1.here hx rfl (hb hby d6_4) rfl rfl ?_
    show Steps p.tables e below (T1.setTop (mkF m 5 #[rv a, rv b, rv f] [(.ref a)])) _
    refine XS.aloadN X1.here hx rfl (hb hby d6_5) rfl rfl ?_
    exact k
  obtain ⟨T2, h2, X2, e2, W2, st2⟩ := putF X1 hx hZ hown (host := "") (Or.inl (own_w hw 42 rfl)) Via.refl e1 F_st E_a (Or.inr ⟨(own_w hw 43 rfl), rfl, hnm⟩) (own_w hw 31 rfl) (ty := (.object "java/lang/Integer")) (by decide) rfl rfl (g := (mkF m 6 #[rv a, rv b, rv f] [(.ref b), (.ref a)])) rfl rfl (hb hby d6_6)
  have O := O.wr W2 g_a
  have E_a := E_a.wr W2
  have F_st := F_st.same W2
  have F_fa := F_fa.other W2 (Or.inr (slot_ne (Or.inr (own_w hw 45 rfl)) (Or.inr (own_w hw 43 rfl)) (by decide) (t := (.object "com/example/loomlist/loomlist/store/WebhookAnswer$Failure")) (t' := (.object "java/lang/Integer")) (by decide) (by decide)))
  have K := K.wr W2 (Or.inl (List.mem_of_getElem? (i := 0) rfl))
  have N2 := Fr.snoc X2 N1 g_a
  refine Go.step st2 ?_
  show Go p e below _ (T2.setTop (mkF m 9 #[rv a, rv b, rv f] []))
  refine Go.step (S' := T2.setTop (mkF m 11 #[rv a, rv b, rv f] [(.ref f), (.ref a)])) (fun t k => ?_) ?_
  · show Steps p.tables e below (T2.setTop (mkF m 9 #[rv a, rv b, rv f] [])) _
    refine XS.aloadN X2.here hx rfl (hb hby d6_9) rfl rfl ?_
    show Steps p.tables e below (T2.setTop (mkF m 10 #[rv a, rv b, rv f] [(.ref a)])) _
    refine XS.aloadN X2.here hx rfl (hb hby d6_10) rfl rfl ?_
    exact k
  obtain ⟨T3, h3, X3, e3, W3, st3⟩ := putF X2 hx hZ hown (host := "") (Or.inl (own_w hw 44 rfl)) Via.refl e2 F_fa E_a (Or.inr ⟨(own_w hw 45 rfl), rfl, hnm⟩) (own_w hw 31 rfl) (ty := (.object "com/example/loomlist/loomlist/store/WebhookAnswer$Failure")) (by decide) rfl rfl (g := (mkF m 11 #[rv a, rv b, rv f] [(.ref f), (.ref a)])) rfl rfl (hb hby d6_11)
  have O := O.wr W3 g_a
  have E_a := E_a.wr W3
  have F_st := F_st.other W3 (Or.inr (slot_ne (Or.inr (own_w hw 43 rfl)) (Or.inr (own_w hw 45 rfl)) (by decide) (t := (.object "java/lang/Integer")) (t' := (.object "com/example/loomlist/loomlist/store/WebhookAnswer$Failure")) (by decide) (by decide)))
  have F_fa := F_fa.same W3
  have K := K.wr W3 (Or.inl (List.mem_of_getElem? (i := 0) rfl))
  have N3 := Fr.snoc X3 N2 g_a
  refine Go.step st3 ?_
  show Go p e below _ (T3.setTop (mkF m 14 #[rv a, rv b, rv f] []))
  obtain ⟨fs, hr, hrun, hended, hW, hsame⟩ := X3.leave (v := none) (fun _ => rfl)
  refine Go.fin (S' := T3.setFrames fs) ?_ hrun hended ⟨_, _, rfl, ?_, ⟨_, rfl⟩, hW, hsame.mono (by decide) (by decide)⟩
  · exact X3.returnOut hx Bd.returns (hb hby d6_14) hr
  · show Q_rmW3 Z a b f h0 n0 (none) T3.heap _
    rw [e3]
    exact ⟨rfl, N3, K, E_a, F_st⟩
theorem pn_com_example_loomlist_loomlist_store_WebhookAnswerGonePinLaw : plainName "com/example/loomlist/loomlist/store/WebhookAnswerGonePinLaw" = true := by first | (simp [plainName, overriddenIn]; done) | decide +kernel
theorem d5_0 : decode method_2_code 0 = .ok (.iload_n 0, 1) := by decide +kernel
theorem d5_1 : decode method_2_code 1 = .ok (.ifCond .ne 5, 3) := by decide +kernel
theorem d5_4 : decode method_2_code 4 = .ok (.aconst_null, 1) := by decide +kernel
theorem d5_5 : decode method_2_code 5 = .ok (.areturn, 1) := by decide +kernel
theorem ef_rmF0 (m : MethodId) (pv : Int32) : entryFrame m #[(.int pv)] 1 = mkF m 0 #[.val (.int pv)] [] := by first | (simp [entryFrame, mkF, argsToLocals, Value.category]; done) | rfl
abbrev rm_rmF0 : Room := ({ frames := 0, cells := 0, slots := 0, locals := 0 } : Room)
def Q_rmF0 (Z : State) (pv : Int32) (w_TIMEOUT : Addr) (w_UNREACHABLE : Addr) (w_REFUSED : Addr) (h0 : Heap) (n0 : Nat) (v : Option Value) (h : Heap) (L : List Loc) : Prop := (v = some .null) ∧ (Fr n0 L) ∧ (h = h0)
set_option maxRecDepth 65536 in
set_option maxHeartbeats 40000000 in
theorem rmF0 (l : Launch) (Z : State) (a0 : Array Value) (hw : ∀ d ∈ tables_1, d.before a0 Z = true) (ws : List Jvm.Cond) (pv : Int32) (w_TIMEOUT : Addr) (w_UNREACHABLE : Addr) (w_REFUSED : Addr) (h0 : Heap) (n0 : Nat) (O : Old Z n0 h0) (S_TIMEOUT : Sta Z Z.heap "com/example/loomlist/loomlist/store/WebhookAnswer$Failure" "TIMEOUT" "Lcom/example/loomlist/loomlist/store/WebhookAnswer$Failure;" (.ref w_TIMEOUT)) (S_UNREACHABLE : Sta Z Z.heap "com/example/loomlist/loomlist/store/WebhookAnswer$Failure" "UNREACHABLE" "Lcom/example/loomlist/loomlist/store/WebhookAnswer$Failure;" (.ref w_UNREACHABLE)) (S_REFUSED : Sta Z Z.heap "com/example/loomlist/loomlist/store/WebhookAnswer$Failure" "REFUSED" "Lcom/example/loomlist/loomlist/store/WebhookAnswer$Failure;" (.ref w_REFUSED)) (hy : pv = (0 : Int32)) :
    MetFree l (⟨"com/example/loomlist/loomlist/store/WebhookAnswerGonePinLaw", "failure", "(I)Lcom/example/loomlist/loomlist/store/WebhookAnswer$Failure;"⟩ : MethodName) (head1 (Jvm.Cond.code (⟨"com/example/loomlist/loomlist/store/WebhookAnswerGonePinLaw", "failure", "(I)Lcom/example/loomlist/loomlist/store/WebhookAnswer$Failure;"⟩ : MethodName) method_2_code 1 (some (.object "com/example/loomlist/loomlist/store/WebhookAnswer$Failure")) :: ws) rm_rmF0) (fun A_ U => A_ = #[(.int pv)] ∧ Z.Warmed39 U.vm ∧ U.heap = h0) (fun _ _ _ _ _ => True) (fun _ U o U' => ∃ v L, o = .returned v ∧ Q_rmF0 Z pv w_TIMEOUT w_UNREACHABLE w_REFUSED h0 n0 v U'.heap L ∧ FrameEnd U o U' L rm_rmF0.cells rm_rmF0.slots) := by
  refine MetFree.of_bodySF (plainFor_of_name pn_com_example_loomlist_loomlist_store_WebhookAnswerGonePinLaw) hisR ?_
  intro p e s m args below meth c s₁ Bd hml0 hP hK
  obtain ⟨rfl, hZ, hh⟩ := hP
  have hx := Bd.exec
  have hby := Bd.bytes
  have hml : c.maxLocals = 1 := hml0
  have hown : s.vm.findClass "com/example/loomlist/loomlist/store/WebhookAnswerGonePinLaw" = some m.cls := findClass_of_methodNamed Bd.named
  have hnm := (name_of_methodNamed Bd.named Bd.method).1
  have X0 : Stand p l e rm_rmF0 s m #[(.int pv)] below meth c s₁ [] 0 0 := Stand.of_body Bd
  have e0 : s₁.heap = h0 := by rw [← hh, Bd.state]; rfl
  have N0 := Fr.nil n0
  refine Go.step (p := p) (e := e) (below := below) (G := fun o U' => ∃ v L, o = .returned v ∧ Q_rmF0 Z pv w_TIMEOUT w_UNREACHABLE w_REFUSED h0 n0 v U'.heap L ∧ FrameEnd s o U' L rm_rmF0.cells rm_rmF0.slots) (S' := s₁.setTop (mkF m 0 #[iv pv] [])) (fun t k => castTop (ef_rmF0 m pv) k) ?_
  refine Go.step (S' := s₁.setTop (mkF m 5 #[iv pv] [.null])) (fun t k => ?_) ?_
  · show Steps p.tables e below (s₁.setTop (mkF m 0 #[iv pv] [])) _
    refine XS.iloadN X0.here hx rfl (hb hby d5_0) rfl ?_
    show Steps p.tables e below (s₁.setTop (mkF m 1 #[iv pv] [(.int pv)])) _
    refine XS.ifNo X0.here hx rfl (hb hby d5_1) rfl ((if0 _ _).trans (teq (hy : pv = (0 : Int32))).2) ?_
    show Steps p.tables e below (s₁.setTop (mkF m 4 #[iv pv] [])) _
    refine XS.aconstNull X0.here hx rfl (hb hby d5_4) ?_
    exact k
  obtain ⟨fs, hr, hrun, hended, hW, hsame⟩ := X0.leave (v := some .null) (fun h => by rw [Bd.returns] at h; cases h)
  refine Go.fin (S' := s₁.setFrames fs) ?_ hrun hended ⟨_, _, rfl, ?_, ⟨_, rfl⟩, hW, hsame.mono (by decide) (by decide)⟩
  · exact retOut X0 hx Bd.returns rfl (Or.inr (Or.inr (Or.inr (Or.inr ⟨rfl, rfl, rfl⟩)))) (hb hby d5_5) hr
  · show Q_rmF0 Z pv w_TIMEOUT w_UNREACHABLE w_REFUSED h0 n0 (some .null) s₁.heap _
    rw [e0]
    exact ⟨rfl, N0, rfl⟩
theorem d5_6 : decode method_2_code 6 = .ok (.iload_n 0, 1) := by decide +kernel
theorem d5_7 : decode method_2_code 7 = .ok (.iconst 1, 1) := by decide +kernel
theorem d5_8 : decode method_2_code 8 = .ok (.if_icmp .ne 7, 3) := by decide +kernel
theorem d5_11 : decode method_2_code 11 = .ok (.getstatic 7, 3) := by decide +kernel
theorem d5_14 : decode method_2_code 14 = .ok (.areturn, 1) := by decide +kernel
theorem ef_rmF1 (m : MethodId) (pv : Int32) : entryFrame m #[(.int pv)] 1 = mkF m 0 #[.val (.int pv)] [] := by first | (simp [entryFrame, mkF, argsToLocals, Value.category]; done) | rfl
abbrev rm_rmF1 : Room := ({ frames := 0, cells := 0, slots := 0, locals := 0 } : Room)
def Q_rmF1 (Z : State) (pv : Int32) (w_TIMEOUT : Addr) (w_UNREACHABLE : Addr) (w_REFUSED : Addr) (h0 : Heap) (n0 : Nat) (v : Option Value) (h : Heap) (L : List Loc) : Prop := (v = some (.ref w_TIMEOUT)) ∧ (Fr n0 L) ∧ (h = h0)
set_option maxRecDepth 65536 in
set_option maxHeartbeats 40000000 in
theorem rmF1 (l : Launch) (Z : State) (a0 : Array Value) (hw : ∀ d ∈ tables_1, d.before a0 Z = true) (ws : List Jvm.Cond) (pv : Int32) (w_TIMEOUT : Addr) (w_UNREACHABLE : Addr) (w_REFUSED : Addr) (h0 : Heap) (n0 : Nat) (O : Old Z n0 h0) (S_TIMEOUT : Sta Z Z.heap "com/example/loomlist/loomlist/store/WebhookAnswer$Failure" "TIMEOUT" "Lcom/example/loomlist/loomlist/store/WebhookAnswer$Failure;" (.ref w_TIMEOUT)) (S_UNREACHABLE : Sta Z Z.heap "com/example/loomlist/loomlist/store/WebhookAnswer$Failure" "UNREACHABLE" "Lcom/example/loomlist/loomlist/store/WebhookAnswer$Failure;" (.ref w_UNREACHABLE)) (S_REFUSED : Sta Z Z.heap "com/example/loomlist/loomlist/store/WebhookAnswer$Failure" "REFUSED" "Lcom/example/loomlist/loomlist/store/WebhookAnswer$Failure;" (.ref w_REFUSED)) (hn0 : ¬ (pv = (0 : Int32))) (hy : pv = (1 : Int32)) :
    MetFree l (⟨"com/example/loomlist/loomlist/store/WebhookAnswerGonePinLaw", "failure", "(I)Lcom/example/loomlist/loomlist/store/WebhookAnswer$Failure;"⟩ : MethodName) (head1 (Jvm.Cond.code (⟨"com/example/loomlist/loomlist/store/WebhookAnswerGonePinLaw", "failure", "(I)Lcom/example/loomlist/loomlist/store/WebhookAnswer$Failure;"⟩ : MethodName) method_2_code 1 (some (.object "com/example/loomlist/loomlist/store/WebhookAnswer$Failure")) :: ws) rm_rmF1) (fun A_ U => A_ = #[(.int pv)] ∧ Z.Warmed39 U.vm ∧ U.heap = h0) (fun _ _ _ _ _ => True) (fun _ U o U' => ∃ v L, o = .returned v ∧ Q_rmF1 Z pv w_TIMEOUT w_UNREACHABLE w_REFUSED h0 n0 v U'.heap L ∧ FrameEnd U o U' L rm_rmF1.cells rm_rmF1.slots) := by
  refine MetFree.of_bodySF (plainFor_of_name pn_com_example_loomlist_loomlist_store_WebhookAnswerGonePinLaw) hisR ?_
  intro p e s m args below meth c s₁ Bd hml0 hP hK
  obtain ⟨rfl, hZ, hh⟩ := hP
  have hx := Bd.exec
  have hby := Bd.bytes
  have hml : c.maxLocals = 1 := hml0
  have hown : s.vm.findClass "com/example/loomlist/loomlist/store/WebhookAnswerGonePinLaw" = some m.cls := findClass_of_methodNamed Bd.named
  have hnm := (name_of_methodNamed Bd.named Bd.method).1
  have X0 : Stand p l e rm_rmF1 s m #[(.int pv)] below meth c s₁ [] 0 0 := Stand.of_body Bd
  have e0 : s₁.heap = h0 := by rw [← hh, Bd.state]; rfl
  have N0 := Fr.nil n0
  refine Go.step (p := p) (e := e) (below := below) (G := fun o U' => ∃ v L, o = .returned v ∧ Q_rmF1 Z pv w_TIMEOUT w_UNREACHABLE w_REFUSED h0 n0 v U'.heap L ∧ FrameEnd s o U' L rm_rmF1.cells rm_rmF1.slots) (S' := s₁.setTop (mkF m 0 #[iv pv] [])) (fun t k => castTop (ef_rmF1 m pv) k) ?_
  refine Go.step (S' := s₁.setTop (mkF m 11 #[iv pv] [])) (fun t k => ?_) ?_
  · show Steps p.tables e below (s₁.setTop (mkF m 0 #[iv pv] [])) _
    refine XS.iloadN X0.here hx rfl (hb hby d5_0) rfl ?_
    show Steps p.tables e below (s₁.setTop (mkF m 1 #[iv pv] [(.int pv)])) _
    refine XS.ifYes X0.here hx rfl (pc0 := 1) (pc' := 6) rfl (hb hby d5_1) rfl ((if0 _ _).trans (feq (hn0 : ¬ (pv = (0 : Int32)))).2) (by decide) (by decide) ?_
    show Steps p.tables e below (s₁.setTop (mkF m 6 #[iv pv] [])) _
    refine XS.iloadN X0.here hx rfl (hb hby d5_6) rfl ?_
    show Steps p.tables e below (s₁.setTop (mkF m 7 #[iv pv] [(.int pv)])) _
    refine XS.iconst X0.here hx rfl (hb hby d5_7) ?_
    show Steps p.tables e below (s₁.setTop (mkF m 8 #[iv pv] [(.int (1 : Int32)), (.int pv)])) _
    refine XS.icmpNo X0.here hx rfl (hb hby d5_8) rfl (teq (hy : pv = (1 : Int32))).2 ?_
    exact k
  obtain ⟨T1, X1, e1, st1⟩ := getS2 X0 hx hZ hown (host := "") (Or.inl (own_w hw 58 rfl)) Via.refl e0 (S_TIMEOUT.ext O.2) (g := (mkF m 11 #[iv pv] [])) rfl (hb hby d5_11)
  refine Go.step st1 ?_
  show Go p e below _ (T1.setTop (mkF m 14 #[iv pv] [(.ref w_TIMEOUT)]))
  obtain ⟨fs, hr, hrun, hended, hW, hsame⟩ := X1.leave (v := some (.ref w_TIMEOUT)) (fun h => by rw [Bd.returns] at h; cases h)
  refine Go.fin (S' := T1.setFrames fs) ?_ hrun hended ⟨_, _, rfl, ?_, ⟨_, rfl⟩, hW, hsame.mono (by decide) (by decide)⟩
  · exact retOut X1 hx Bd.returns rfl (Or.inr (Or.inr (Or.inr (Or.inr ⟨rfl, rfl, rfl⟩)))) (hb hby d5_14) hr
  · show Q_rmF1 Z pv w_TIMEOUT w_UNREACHABLE w_REFUSED h0 n0 (some (.ref w_TIMEOUT)) T1.heap _
    rw [e1]
    exact ⟨rfl, N0, rfl⟩
theorem d5_15 : decode method_2_code 15 = .ok (.iload_n 0, 1) := by decide +kernel
theorem d5_16 : decode method_2_code 16 = .ok (.iconst 2, 1) := by decide +kernel
theorem d5_17 : decode method_2_code 17 = .ok (.if_icmp .ne 7, 3) := by decide +kernel
theorem d5_20 : decode method_2_code 20 = .ok (.getstatic 13, 3) := by decide +kernel
theorem d5_23 : decode method_2_code 23 = .ok (.areturn, 1) := by decide +kernel
theorem ef_rmF2 (m : MethodId) (pv : Int32) : entryFrame m #[(.int pv)] 1 = mkF m 0 #[.val (.int pv)] [] := by first | (simp [entryFrame, mkF, argsToLocals, Value.category]; done) | rfl
abbrev rm_rmF2 : Room := ({ frames := 0, cells := 0, slots := 0, locals := 0 } : Room)
def Q_rmF2 (Z : State) (pv : Int32) (w_TIMEOUT : Addr) (w_UNREACHABLE : Addr) (w_REFUSED : Addr) (h0 : Heap) (n0 : Nat) (v : Option Value) (h : Heap) (L : List Loc) : Prop := (v = some (.ref w_UNREACHABLE)) ∧ (Fr n0 L) ∧ (h = h0)
set_option maxRecDepth 65536 in
set_option maxHeartbeats 40000000 in
theorem rmF2 (l : Launch) (Z : State) (a0 : Array Value) (hw : ∀ d ∈ tables_1, d.before a0 Z = true) (ws : List Jvm.Cond) (pv : Int32) (w_TIMEOUT : Addr) (w_UNREACHABLE : Addr) (w_REFUSED : Addr) (h0 : Heap) (n0 : Nat) (O : Old Z n0 h0) (S_TIMEOUT : Sta Z Z.heap "com/example/loomlist/loomlist/store/WebhookAnswer$Failure" "TIMEOUT" "Lcom/example/loomlist/loomlist/store/WebhookAnswer$Failure;" (.ref w_TIMEOUT)) (S_UNREACHABLE : Sta Z Z.heap "com/example/loomlist/loomlist/store/WebhookAnswer$Failure" "UNREACHABLE" "Lcom/example/loomlist/loomlist/store/WebhookAnswer$Failure;" (.ref w_UNREACHABLE)) (S_REFUSED : Sta Z Z.heap "com/example/loomlist/loomlist/store/WebhookAnswer$Failure" "REFUSED" "Lcom/example/loomlist/loomlist/store/WebhookAnswer$Failure;" (.ref w_REFUSED)) (hn0 : ¬ (pv = (0 : Int32))) (hn1 : ¬ (pv = (1 : Int32))) (hy : pv = (2 : Int32)) :
    MetFree l (⟨"com/example/loomlist/loomlist/store/WebhookAnswerGonePinLaw", "failure", "(I)Lcom/example/loomlist/loomlist/store/WebhookAnswer$Failure;"⟩ : MethodName) (head1 (Jvm.Cond.code (⟨"com/example/loomlist/loomlist/store/WebhookAnswerGonePinLaw", "failure", "(I)Lcom/example/loomlist/loomlist/store/WebhookAnswer$Failure;"⟩ : MethodName) method_2_code 1 (some (.object "com/example/loomlist/loomlist/store/WebhookAnswer$Failure")) :: ws) rm_rmF2) (fun A_ U => A_ = #[(.int pv)] ∧ Z.Warmed39 U.vm ∧ U.heap = h0) (fun _ _ _ _ _ => True) (fun _ U o U' => ∃ v L, o = .returned v ∧ Q_rmF2 Z pv w_TIMEOUT w_UNREACHABLE w_REFUSED h0 n0 v U'.heap L ∧ FrameEnd U o U' L rm_rmF2.cells rm_rmF2.slots) := by
  refine MetFree.of_bodySF (plainFor_of_name pn_com_example_loomlist_loomlist_store_WebhookAnswerGonePinLaw) hisR ?_
  intro p e s m args below meth c s₁ Bd hml0 hP hK
  obtain ⟨rfl, hZ, hh⟩ := hP
  have hx := Bd.exec
  have hby := Bd.bytes
  have hml : c.maxLocals = 1 := hml0
  have hown : s.vm.findClass "com/example/loomlist/loomlist/store/WebhookAnswerGonePinLaw" = some m.cls := findClass_of_methodNamed Bd.named
  have hnm := (name_of_methodNamed Bd.named Bd.method).1
  have X0 : Stand p l e rm_rmF2 s m #[(.int pv)] below meth c s₁ [] 0 0 := Stand.of_body Bd
  have e0 : s₁.heap = h0 := by rw [← hh, Bd.state]; rfl
  have N0 := Fr.nil n0
  refine Go.step (p := p) (e := e) (below := below) (G := fun o U' => ∃ v L, o = .returned v ∧ Q_rmF2 Z pv w_TIMEOUT w_UNREACHABLE w_REFUSED h0 n0 v U'.heap L ∧ FrameEnd s o U' L rm_rmF2.cells rm_rmF2.slots) (S' := s₁.setTop (mkF m 0 #[iv pv] [])) (fun t k => castTop (ef_rmF2 m pv) k) ?_
  refine Go.step (S' := s₁.setTop (mkF m 20 #[iv pv] [])) (fun t k => ?_) ?_
  · show Steps p.tables e below (s₁.setTop (mkF m 0 #[iv pv] [])) _
    refine XS.iloadN X0.here hx rfl (hb hby d5_0) rfl ?_
    show Steps p.tables e below (s₁.setTop (mkF m 1 #[iv pv] [(.int pv)])) _
    refine XS.ifYes X0.here hx rfl (pc0 := 1) (pc' := 6) rfl (hb hby d5_1) rfl ((if0 _ _).trans (feq (hn0 : ¬ (pv = (0 : Int32)))).2) (by decide) (by decide) ?_
    show Steps p.tables e below (s₁.setTop (mkF m 6 #[iv pv] [])) _
    refine XS.iloadN X0.here hx rfl (hb hby d5_6) rfl ?_
    show Steps p.tables e below (s₁.setTop (mkF m 7 #[iv pv] [(.int pv)])) _
    refine XS.iconst X0.here hx rfl (hb hby d5_7) ?_
    show Steps p.tables e below (s₁.setTop (mkF m 8 #[iv pv] [(.int (1 : Int32)), (.int pv)])) _
    refine XS.icmpYes X0.here hx rfl (pc0 := 8) (pc' := 15) rfl (hb hby d5_8) rfl (feq (hn1 : ¬ (pv = (1 : Int32)))).2 (by decide) (by decide) ?_
    show Steps p.tables e below (s₁.setTop (mkF m 15 #[iv pv] [])) _
    refine XS.iloadN X0.here hx rfl (hb hby d5_15) rfl ?_
    show Steps p.tables e below (s₁.setTop (mkF m 16 #[iv pv] [(.int pv)])) _
    refine XS.iconst X0.here hx rfl (hb hby d5_16) ?_
    show Steps p.tables e below (s₁.setTop (mkF m 17 #[iv pv] [(.int (2 : Int32)), (.int pv)])) _
    refine XS.icmpNo X0.here hx rfl (hb hby d5_17) rfl (teq (hy : pv = (2 : Int32))).2 ?_
    exact k
  obtain ⟨T1, X1, e1, st1⟩ := getS2 X0 hx hZ hown (host := "") (Or.inl (own_w hw 27 rfl)) Via.refl e0 (S_UNREACHABLE.ext O.2) (g := (mkF m 20 #[iv pv] [])) rfl (hb hby d5_20)
  refine Go.step st1 ?_
  show Go p e below _ (T1.setTop (mkF m 23 #[iv pv] [(.ref w_UNREACHABLE)]))
  obtain ⟨fs, hr, hrun, hended, hW, hsame⟩ := X1.leave (v := some (.ref w_UNREACHABLE)) (fun h => by rw [Bd.returns] at h; cases h)
  refine Go.fin (S' := T1.setFrames fs) ?_ hrun hended ⟨_, _, rfl, ?_, ⟨_, rfl⟩, hW, hsame.mono (by decide) (by decide)⟩
  · exact retOut X1 hx Bd.returns rfl (Or.inr (Or.inr (Or.inr (Or.inr ⟨rfl, rfl, rfl⟩)))) (hb hby d5_23) hr
  · show Q_rmF2 Z pv w_TIMEOUT w_UNREACHABLE w_REFUSED h0 n0 (some (.ref w_UNREACHABLE)) T1.heap _
    rw [e1]
    exact ⟨rfl, N0, rfl⟩
theorem d5_24 : decode method_2_code 24 = .ok (.getstatic 16, 3) := by decide +kernel
theorem d5_27 : decode method_2_code 27 = .ok (.areturn, 1) := by decide +kernel
theorem ef_rmF3 (m : MethodId) (pv : Int32) : entryFrame m #[(.int pv)] 1 = mkF m 0 #[.val (.int pv)] [] := by first | (simp [entryFrame, mkF, argsToLocals, Value.category]; done) | rfl
abbrev rm_rmF3 : Room := ({ frames := 0, cells := 0, slots := 0, locals := 0 } : Room)
def Q_rmF3 (Z : State) (pv : Int32) (w_TIMEOUT : Addr) (w_UNREACHABLE : Addr) (w_REFUSED : Addr) (h0 : Heap) (n0 : Nat) (v : Option Value) (h : Heap) (L : List Loc) : Prop := (v = some (.ref w_REFUSED)) ∧ (Fr n0 L) ∧ (h = h0)
set_option maxRecDepth 65536 in
set_option maxHeartbeats 40000000 in
theorem rmF3 (l : Launch) (Z : State) (a0 : Array Value) (hw : ∀ d ∈ tables_1, d.before a0 Z = true) (ws : List Jvm.Cond) (pv : Int32) (w_TIMEOUT : Addr) (w_UNREACHABLE : Addr) (w_REFUSED : Addr) (h0 : Heap) (n0 : Nat) (O : Old Z n0 h0) (S_TIMEOUT : Sta Z Z.heap "com/example/loomlist/loomlist/store/WebhookAnswer$Failure" "TIMEOUT" "Lcom/example/loomlist/loomlist/store/WebhookAnswer$Failure;" (.ref w_TIMEOUT)) (S_UNREACHABLE : Sta Z Z.heap "com/example/loomlist/loomlist/store/WebhookAnswer$Failure" "UNREACHABLE" "Lcom/example/loomlist/loomlist/store/WebhookAnswer$Failure;" (.ref w_UNREACHABLE)) (S_REFUSED : Sta Z Z.heap "com/example/loomlist/loomlist/store/WebhookAnswer$Failure" "REFUSED" "Lcom/example/loomlist/loomlist/store/WebhookAnswer$Failure;" (.ref w_REFUSED)) (hn0 : ¬ (pv = (0 : Int32))) (hn1 : ¬ (pv = (1 : Int32))) (hn2 : ¬ (pv = (2 : Int32))) :
    MetFree l (⟨"com/example/loomlist/loomlist/store/WebhookAnswerGonePinLaw", "failure", "(I)Lcom/example/loomlist/loomlist/store/WebhookAnswer$Failure;"⟩ : MethodName) (head1 (Jvm.Cond.code (⟨"com/example/loomlist/loomlist/store/WebhookAnswerGonePinLaw", "failure", "(I)Lcom/example/loomlist/loomlist/store/WebhookAnswer$Failure;"⟩ : MethodName) method_2_code 1 (some (.object "com/example/loomlist/loomlist/store/WebhookAnswer$Failure")) :: ws) rm_rmF3) (fun A_ U => A_ = #[(.int pv)] ∧ Z.Warmed39 U.vm ∧ U.heap = h0) (fun _ _ _ _ _ => True) (fun _ U o U' => ∃ v L, o = .returned v ∧ Q_rmF3 Z pv w_TIMEOUT w_UNREACHABLE w_REFUSED h0 n0 v U'.heap L ∧ FrameEnd U o U' L rm_rmF3.cells rm_rmF3.slots) := by
  refine MetFree.of_bodySF (plainFor_of_name pn_com_example_loomlist_loomlist_store_WebhookAnswerGonePinLaw) hisR ?_
  intro p e s m args below meth c s₁ Bd hml0 hP hK
  obtain ⟨rfl, hZ, hh⟩ := hP
  have hx := Bd.exec
  have hby := Bd.bytes
  have hml : c.maxLocals = 1 := hml0
  have hown : s.vm.findClass "com/example/loomlist/loomlist/store/WebhookAnswerGonePinLaw" = some m.cls := findClass_of_methodNamed Bd.named
  have hnm := (name_of_methodNamed Bd.named Bd.method).1
  have X0 : Stand p l e rm_rmF3 s m #[(.int pv)] below meth c s₁ [] 0 0 := Stand.of_body Bd
  have e0 : s₁.heap = h0 := by rw [← hh, Bd.state]; rfl
  have N0 := Fr.nil n0
  refine Go.step (p := p) (e := e) (below := below) (G := fun o U' => ∃ v L, o = .returned v ∧ Q_rmF3 Z pv w_TIMEOUT w_UNREACHABLE w_REFUSED h0 n0 v U'.heap L ∧ FrameEnd s o U' L rm_rmF3.cells rm_rmF3.slots) (S' := s₁.setTop (mkF m 0 #[iv pv] [])) (fun t k => castTop (ef_rmF3 m pv) k) ?_
  refine Go.step (S' := s₁.setTop (mkF m 24 #[iv pv] [])) (fun t k => ?_) ?_
  · show Steps p.tables e below (s₁.setTop (mkF m 0 #[iv pv] [])) _
    refine XS.iloadN X0.here hx rfl (hb hby d5_0) rfl ?_
    show Steps p.tables e below (s₁.setTop (mkF m 1 #[iv pv] [(.int pv)])) _
    refine XS.ifYes X0.here hx rfl (pc0 := 1) (pc' := 6) rfl (hb hby d5_1) rfl ((if0 _ _).trans (feq (hn0 : ¬ (pv = (0 : Int32)))).2) (by decide) (by decide) ?_
    show Steps p.tables e below (s₁.setTop (mkF m 6 #[iv pv] [])) _
    refine XS.iloadN X0.here hx rfl (hb hby d5_6) rfl ?_
    show Steps p.tables e below (s₁.setTop (mkF m 7 #[iv pv] [(.int pv)])) _
    refine XS.iconst X0.here hx rfl (hb hby d5_7) ?_
    show Steps p.tables e below (s₁.setTop (mkF m 8 #[iv pv] [(.int (1 : Int32)), (.int pv)])) _
    refine XS.icmpYes X0.here hx rfl (pc0 := 8) (pc' := 15) rfl (hb hby d5_8) rfl (feq (hn1 : ¬ (pv = (1 : Int32)))).2 (by decide) (by decide) ?_
    show Steps p.tables e below (s₁.setTop (mkF m 15 #[iv pv] [])) _
    refine XS.iloadN X0.here hx rfl (hb hby d5_15) rfl ?_
    show Steps p.tables e below (s₁.setTop (mkF m 16 #[iv pv] [(.int pv)])) _
    refine XS.iconst X0.here hx rfl (hb hby d5_16) ?_
    show Steps p.tables e below (s₁.setTop (mkF m 17 #[iv pv] [(.int (2 : Int32)), (.int pv)])) _
    refine XS.icmpYes X0.here hx rfl (pc0 := 17) (pc' := 24) rfl (hb hby d5_17) rfl (feq (hn2 : ¬ (pv = (2 : Int32)))).2 (by decide) (by decide) ?_
    exact k
  obtain ⟨T1, X1, e1, st1⟩ := getS2 X0 hx hZ hown (host := "") (Or.inl (own_w hw 56 rfl)) Via.refl e0 (S_REFUSED.ext O.2) (g := (mkF m 24 #[iv pv] [])) rfl (hb hby d5_24)
  refine Go.step st1 ?_
  show Go p e below _ (T1.setTop (mkF m 27 #[iv pv] [(.ref w_REFUSED)]))
  obtain ⟨fs, hr, hrun, hended, hW, hsame⟩ := X1.leave (v := some (.ref w_REFUSED)) (fun h => by rw [Bd.returns] at h; cases h)
  refine Go.fin (S' := T1.setFrames fs) ?_ hrun hended ⟨_, _, rfl, ?_, ⟨_, rfl⟩, hW, hsame.mono (by decide) (by decide)⟩
  · exact retOut X1 hx Bd.returns rfl (Or.inr (Or.inr (Or.inr (Or.inr ⟨rfl, rfl, rfl⟩)))) (hb hby d5_27) hr
  · show Q_rmF3 Z pv w_TIMEOUT w_UNREACHABLE w_REFUSED h0 n0 (some (.ref w_REFUSED)) T1.heap _
    rw [e1]
    exact ⟨rfl, N0, rfl⟩
theorem d8_0 : decode prog_74_method_5_code 0 = .ok (.aload_n 0, 1) := by decide +kernel
theorem d8_1 : decode prog_74_method_5_code 1 = .ok (.getfield 7, 3) := by decide +kernel
theorem d8_4 : decode prog_74_method_5_code 4 = .ok (.ifnull 20, 3) := by decide +kernel
theorem d8_24 : decode prog_74_method_5_code 24 = .ok (.iconst 0, 1) := by decide +kernel
theorem d8_25 : decode prog_74_method_5_code 25 = .ok (.ireturn, 1) := by decide +kernel
theorem ef_rmGN (m : MethodId) (a : Addr) : entryFrame m #[(.ref a)] 1 = mkF m 0 #[.val (.ref a)] [] := by first | (simp [entryFrame, mkF, argsToLocals, Value.category]; done) | rfl
abbrev rm_rmGN : Room := ({ frames := 0, cells := 0, slots := 0, locals := 0 } : Room)
def Q_rmGN (Z : State) (a : Addr) (h0 : Heap) (n0 : Nat) (v : Option Value) (h : Heap) (L : List Loc) : Prop := (v = some (.int (0 : Int32))) ∧ (Fr n0 L) ∧ (h = h0)
set_option maxRecDepth 65536 in
set_option maxHeartbeats 40000000 in
theorem rmGN (l : Launch) (Z : State) (a0 : Array Value) (hw : ∀ d ∈ tables_1, d.before a0 Z = true) (ws : List Jvm.Cond) (a : Addr) (h0 : Heap) (n0 : Nat) (O : Old Z n0 h0) (F_st : Fld Z h0 a "com/example/loomlist/loomlist/store/WebhookAnswer" "status" "Ljava/lang/Integer;" .null) :
    MetFree l (⟨"com/example/loomlist/loomlist/store/WebhookAnswer", "gone", "()Z"⟩ : MethodName) (head1 (Jvm.Cond.code (⟨"com/example/loomlist/loomlist/store/WebhookAnswer", "gone", "()Z"⟩ : MethodName) prog_74_method_5_code 1 (some .boolean) :: ws) rm_rmGN) (fun A_ U => A_ = #[(.ref a)] ∧ Z.Warmed39 U.vm ∧ U.heap = h0) (fun _ _ _ _ _ => True) (fun _ U o U' => ∃ v L, o = .returned v ∧ Q_rmGN Z a h0 n0 v U'.heap L ∧ FrameEnd U o U' L rm_rmGN.cells rm_rmGN.slots) := by
  refine MetFree.of_bodySF (plainFor_of_name pn_com_example_loomlist_loomlist_store_WebhookAnswer) hisR ?_
  intro p e s m args below meth c s₁ Bd hml0 hP hK
  obtain ⟨rfl, hZ, hh⟩ := hP
  have hx := Bd.exec
  have hby := Bd.bytes
  have hml : c.maxLocals = 1 := hml0
  have hown : s.vm.findClass "com/example/loomlist/loomlist/store/WebhookAnswer" = some m.cls := findClass_of_methodNamed Bd.named
  have hnm := (name_of_methodNamed Bd.named Bd.method).1
  have X0 : Stand p l e rm_rmGN s m #[(.ref a)] below meth c s₁ [] 0 0 := Stand.of_body Bd
  have e0 : s₁.heap = h0 := by rw [← hh, Bd.state]; rfl
  have N0 := Fr.nil n0
  refine Go.step (p := p) (e := e) (below := below) (G := fun o U' => ∃ v L, o = .returned v ∧ Q_rmGN Z a h0 n0 v U'.heap L ∧ FrameEnd s o U' L rm_rmGN.cells rm_rmGN.slots) (S' := s₁.setTop (mkF m 0 #[rv a] [])) (fun t k => castTop (ef_rmGN m a) k) ?_
  refine Go.step (S' := s₁.setTop (mkF m 1 #[rv a] [(.ref a)])) (fun t k => ?_) ?_
  · show Steps p.tables e below (s₁.setTop (mkF m 0 #[rv a] [])) _
    refine XS.aloadN X0.here hx rfl (hb hby d8_0) rfl rfl ?_
    exact k
  obtain ⟨T1, X1, e1, st1⟩ := getF X0 hx hZ hown (host := "") (Or.inl (own_w hw 42 rfl)) Via.refl e0 F_st (g := (mkF m 1 #[rv a] [(.ref a)])) rfl rfl (hb hby d8_1)
  refine Go.step st1 ?_
  show Go p e below _ (T1.setTop (mkF m 4 #[rv a] [.null]))
  refine Go.step (S' := T1.setTop (mkF m 25 #[rv a] [(.int (0 : Int32))])) (fun t k => ?_) ?_
  · show Steps p.tables e below (T1.setTop (mkF m 4 #[rv a] [.null])) _
    refine XS.ifnullYes X1.here hx rfl (pc0 := 4) (pc' := 24) rfl (hb hby d8_4) rfl (by decide) (by decide) ?_
    show Steps p.tables e below (T1.setTop (mkF m 24 #[rv a] [])) _
    refine XS.iconst X1.here hx rfl (hb hby d8_24) ?_
    exact k
  obtain ⟨fs, hr, hrun, hended, hW, hsame⟩ := X1.leave (v := some (.int (0 : Int32))) (fun h => by rw [Bd.returns] at h; cases h)
  refine Go.fin (S' := T1.setFrames fs) ?_ hrun hended ⟨_, _, rfl, ?_, ⟨_, rfl⟩, hW, hsame.mono (by decide) (by decide)⟩
  · exact retOut X1 hx Bd.returns (by decide) (Or.inl ⟨rfl, Or.inr (Or.inl rfl), _, rfl⟩) (hb hby d8_25) hr
  · show Q_rmGN Z a h0 n0 (some (.int (0 : Int32))) T1.heap _
    rw [e1]
    exact ⟨rfl, N0, rfl⟩
theorem d8_7 : decode prog_74_method_5_code 7 = .ok (.aload_n 0, 1) := by decide +kernel
theorem d8_8 : decode prog_74_method_5_code 8 = .ok (.getfield 7, 3) := by decide +kernel
theorem d8_11 : decode prog_74_method_5_code 11 = .ok (.invokevirtual 26, 3) := by decide +kernel
theorem pd__28_29I : parseMethodDescriptor "()I" = some ⟨[], some .int⟩ := by decide +kernel
theorem d8_14 : decode prog_74_method_5_code 14 = .ok (.sipush 410, 3) := by decide +kernel
theorem d8_17 : decode prog_74_method_5_code 17 = .ok (.if_icmp .ne 7, 3) := by decide +kernel
theorem d8_20 : decode prog_74_method_5_code 20 = .ok (.iconst 1, 1) := by decide +kernel
theorem d8_21 : decode prog_74_method_5_code 21 = .ok (.goto 4, 3) := by decide +kernel
theorem ef_rmG0 (m : MethodId) (a : Addr) : entryFrame m #[(.ref a)] 1 = mkF m 0 #[.val (.ref a)] [] := by first | (simp [entryFrame, mkF, argsToLocals, Value.category]; done) | rfl
abbrev rm_rmG0 : Room := ({ frames := 1, cells := 0, slots := 0, locals := 12 } : Room)
def Q_rmG0 (Z : State) (a : Addr) (b : Addr) (pv : Int32) (h0 : Heap) (n0 : Nat) (v : Option Value) (h : Heap) (L : List Loc) : Prop := (v = some (.int (1 : Int32))) ∧ (Fr n0 L) ∧ (h = h0)
set_option maxRecDepth 65536 in
set_option maxHeartbeats 40000000 in
theorem rmG0 (l : Launch) (Z : State) (a0 : Array Value) (hw : ∀ d ∈ tables_1, d.before a0 Z = true) (ws : List Jvm.Cond) (a : Addr) (b : Addr) (pv : Int32) (h0 : Heap) (n0 : Nat) (O : Old Z n0 h0) (F_st : Fld Z h0 a "com/example/loomlist/loomlist/store/WebhookAnswer" "status" "Ljava/lang/Integer;" (.ref b)) (E_b : Exa Z h0 b "java/lang/Integer") (F_value_b : Fld Z h0 b "java/lang/Integer" "value" "I" (.int pv)) (hp1 : pv = (410 : Int32)) :
    MetFree l (⟨"com/example/loomlist/loomlist/store/WebhookAnswer", "gone", "()Z"⟩ : MethodName) (head1 (Jvm.Cond.code (⟨"com/example/loomlist/loomlist/store/WebhookAnswer", "gone", "()Z"⟩ : MethodName) prog_74_method_5_code 1 (some .boolean) :: ws) rm_rmG0) (fun A_ U => A_ = #[(.ref a)] ∧ Z.Warmed39 U.vm ∧ U.heap = h0) (fun _ _ _ _ _ => True) (fun _ U o U' => ∃ v L, o = .returned v ∧ Q_rmG0 Z a b pv h0 n0 v U'.heap L ∧ FrameEnd U o U' L rm_rmG0.cells rm_rmG0.slots) := by
  refine MetFree.of_bodySF (plainFor_of_name pn_com_example_loomlist_loomlist_store_WebhookAnswer) hisR ?_
  intro p e s m args below meth c s₁ Bd hml0 hP hK
  obtain ⟨rfl, hZ, hh⟩ := hP
  have hx := Bd.exec
  have hby := Bd.bytes
  have hml : c.maxLocals = 1 := hml0
  have hown : s.vm.findClass "com/example/loomlist/loomlist/store/WebhookAnswer" = some m.cls := findClass_of_methodNamed Bd.named
  have hnm := (name_of_methodNamed Bd.named Bd.method).1
  have X0 : Stand p l e rm_rmG0 s m #[(.ref a)] below meth c s₁ [] 0 0 := Stand.of_body Bd
  have e0 : s₁.heap = h0 := by rw [← hh, Bd.state]; rfl
  have N0 := Fr.nil n0
  refine Go.step (p := p) (e := e) (below := below) (G := fun o U' => ∃ v L, o = .returned v ∧ Q_rmG0 Z a b pv h0 n0 v U'.heap L ∧ FrameEnd s o U' L rm_rmG0.cells rm_rmG0.slots) (S' := s₁.setTop (mkF m 0 #[rv a] [])) (fun t k => castTop (ef_rmG0 m a) k) ?_
  refine Go.step (S' := s₁.setTop (mkF m 1 #[rv a] [(.ref a)])) (fun t k => ?_) ?_
  · show Steps p.tables e below (s₁.setTop (mkF m 0 #[rv a] [])) _
    refine XS.aloadN X0.here hx rfl (hb hby d8_0) rfl rfl ?_
    exact k
  obtain ⟨T1, X1, e1, st1⟩ := getF X0 hx hZ hown (host := "") (Or.inl (own_w hw 42 rfl)) Via.refl e0 F_st (g := (mkF m 1 #[rv a] [(.ref a)])) rfl rfl (hb hby d8_1)
  refine Go.step st1 ?_
  show Go p e below _ (T1.setTop (mkF m 4 #[rv a] [(.ref b)]))
  refine Go.step (S' := T1.setTop (mkF m 8 #[rv a] [(.ref a)])) (fun t k => ?_) ?_
  · show Steps p.tables e below (T1.setTop (mkF m 4 #[rv a] [(.ref b)])) _
    refine XS.ifnullNo X1.here hx rfl (hb hby d8_4) rfl ?_
    show Steps p.tables e below (T1.setTop (mkF m 7 #[rv a] [])) _
    refine XS.aloadN X1.here hx rfl (hb hby d8_7) rfl rfl ?_
    exact k
  obtain ⟨T2, X2, e2, st2⟩ := getF X1 hx hZ hown (host := "") (Or.inl (own_w hw 42 rfl)) Via.refl e1 F_st (g := (mkF m 8 #[rv a] [(.ref a)])) rfl rfl (hb hby d8_8)
  refine Go.step st2 ?_
  show Go p e below _ (T2.setTop (mkF m 11 #[rv a] [(.ref b)]))
  obtain ⟨cq3, kq3, q3a, q3b, q3c⟩ := isOf hZ e2 E_b
  obtain ⟨_, _, ⟨T3, L3, k3, n3⟩, -, X3, ⟨Lc3, hQ3, l3, y3, z3⟩, st3⟩ := X2.virtualBack hx (y := (⟨"java/lang/Integer", "intValue", "()I"⟩ : MethodName)) (z := (⟨"java/lang/Integer", "intValue", "()I"⟩ : MethodName)) hown (mvT hZ (own_w hw 51 rfl)) (mvT hZ (own_w hw 52 rfl)) (notFace_of_selects (args := #[]) (mvT hZ (own_w hw 54 rfl))) (mvT hZ (own_w hw 54 rfl)) (mvT hZ (own_w hw 53 rfl)) (by decide) (backOf (W := 0) (rmIV l Z a0 hw [] b pv h0 n0 O F_value_b) hZ (own_w hw 55 rfl) (own_w hw 2 rfl) (by decide) (by decide)) q3a q3c (g := (mkF m 11 #[rv a] [(.ref b)])) rfl (by rw [hml]; rfl) (Steps.refl _) (argsL := []) (rest := []) (lenOf pd__28_29I rfl) rfl (by show 2 * 0 + _ ≤ _; exact Nat.le_of_eq rfl) (hb hby d8_11) (fun _ _ => ⟨rfl, e2, (by decide : 0 + 0 ≤ _), (by decide : 0 + 0 ≤ _)⟩)
  dsimp only [Pt.U, Pt.locs, Pt.cells, Pt.slots] at X3 l3 y3 z3 st3 hQ3
  subst l3 y3 z3
  obtain ⟨rfl, Nq3, e3⟩ := hQ3
  have N3 := Fr.app N0 Nq3
  refine Go.step (fun t k => st3.trans k) ?_
  show Go p e below _ (T3.setTop (mkF m 14 #[rv a] [(.int pv)]))
  refine Go.step (S' := T3.setTop (mkF m 25 #[rv a] [(.int (1 : Int32))])) (fun t k => ?_) ?_
  · show Steps p.tables e below (T3.setTop (mkF m 14 #[rv a] [(.int pv)])) _
    refine XS.sipush X3.here hx rfl (hb hby d8_14) ?_
    show Steps p.tables e below (T3.setTop (mkF m 17 #[rv a] [(.int (410 : Int32)), (.int pv)])) _
    refine XS.icmpNo X3.here hx rfl (hb hby d8_17) rfl (teq (hp1 : pv = (410 : Int32))).2 ?_
    show Steps p.tables e below (T3.setTop (mkF m 20 #[rv a] [])) _
    refine XS.iconst X3.here hx rfl (hb hby d8_20) ?_
    show Steps p.tables e below (T3.setTop (mkF m 21 #[rv a] [(.int (1 : Int32))])) _
    refine XS.goto X3.here hx rfl (pc0 := 21) (pc' := 25) rfl (hb hby d8_21) (by decide) (by decide) ?_
    exact k
  obtain ⟨fs, hr, hrun, hended, hW, hsame⟩ := X3.leave (v := some (.int (1 : Int32))) (fun h => by rw [Bd.returns] at h; cases h)
  refine Go.fin (S' := T3.setFrames fs) ?_ hrun hended ⟨_, _, rfl, ?_, ⟨_, rfl⟩, hW, hsame.mono (by decide) (by decide)⟩
  · exact retOut X3 hx Bd.returns (by decide) (Or.inl ⟨rfl, Or.inr (Or.inl rfl), _, rfl⟩) (hb hby d8_25) hr
  · show Q_rmG0 Z a b pv h0 n0 (some (.int (1 : Int32))) T3.heap _
    rw [e3]
    exact ⟨rfl, N3, rfl⟩
theorem ef_rmG1 (m : MethodId) (a : Addr) : entryFrame m #[(.ref a)] 1 = mkF m 0 #[.val (.ref a)] [] := by first | (simp [entryFrame, mkF, argsToLocals, Value.category]; done) | rfl
abbrev rm_rmG1 : Room := ({ frames := 1, cells := 0, slots := 0, locals := 12 } : Room)
def Q_rmG1 (Z : State) (a : Addr) (b : Addr) (pv : Int32) (h0 : Heap) (n0 : Nat) (v : Option Value) (h : Heap) (L : List Loc) : Prop := (v = some (.int (0 : Int32))) ∧ (Fr n0 L) ∧ (h = h0)
set_option maxRecDepth 65536 in
set_option maxHeartbeats 40000000 in
theorem rmG1 (l : Launch) (Z : State) (a0 : Array Value) (hw : ∀ d ∈ tables_1, d.before a0 Z = true) (ws : List Jvm.Cond) (a : Addr) (b : Addr) (pv : Int32) (h0 : Heap) (n0 : Nat) (O : Old Z n0 h0) (F_st : Fld Z h0 a "com/example/loomlist/loomlist/store/WebhookAnswer" "status" "Ljava/lang/Integer;" (.ref b)) (E_b : Exa Z h0 b "java/lang/Integer") (F_value_b : Fld Z h0 b "java/lang/Integer" "value" "I" (.int pv)) (hp1 : ¬ (pv = (410 : Int32))) :
    MetFree l (⟨"com/example/loomlist/loomlist/store/WebhookAnswer", "gone", "()Z"⟩ : MethodName) (head1 (Jvm.Cond.code (⟨"com/example/loomlist/loomlist/store/WebhookAnswer", "gone", "()Z"⟩ : MethodName) prog_74_method_5_code 1 (some .boolean) :: ws) rm_rmG1) (fun A_ U => A_ = #[(.ref a)] ∧ Z.Warmed39 U.vm ∧ U.heap = h0) (fun _ _ _ _ _ => True) (fun _ U o U' => ∃ v L, o = .returned v ∧ Q_rmG1 Z a b pv h0 n0 v U'.heap L ∧ FrameEnd U o U' L rm_rmG1.cells rm_rmG1.slots) := by
  refine MetFree.of_bodySF (plainFor_of_name pn_com_example_loomlist_loomlist_store_WebhookAnswer) hisR ?_
  intro p e s m args below meth c s₁ Bd hml0 hP hK
  obtain ⟨rfl, hZ, hh⟩ := hP
  have hx := Bd.exec
  have hby := Bd.bytes
  have hml : c.maxLocals = 1 := hml0
  have hown : s.vm.findClass "com/example/loomlist/loomlist/store/WebhookAnswer" = some m.cls := findClass_of_methodNamed Bd.named
  have hnm := (name_of_methodNamed Bd.named Bd.method).1
  have X0 : Stand p l e rm_rmG1 s m #[(.ref a)] below meth c s₁ [] 0 0 := Stand.of_body Bd
  have e0 : s₁.heap = h0 := by rw [← hh, Bd.state]; rfl
  have N0 := Fr.nil n0
  refine Go.step (p := p) (e := e) (below := below) (G := fun o U' => ∃ v L, o = .returned v ∧ Q_rmG1 Z a b pv h0 n0 v U'.heap L ∧ FrameEnd s o U' L rm_rmG1.cells rm_rmG1.slots) (S' := s₁.setTop (mkF m 0 #[rv a] [])) (fun t k => castTop (ef_rmG1 m a) k) ?_
  refine Go.step (S' := s₁.setTop (mkF m 1 #[rv a] [(.ref a)])) (fun t k => ?_) ?_
  · show Steps p.tables e below (s₁.setTop (mkF m 0 #[rv a] [])) _
    refine XS.aloadN X0.here hx rfl (hb hby d8_0) rfl rfl ?_
    exact k
  obtain ⟨T1, X1, e1, st1⟩ := getF X0 hx hZ hown (host := "") (Or.inl (own_w hw 42 rfl)) Via.refl e0 F_st (g := (mkF m 1 #[rv a] [(.ref a)])) rfl rfl (hb hby d8_1)
  refine Go.step st1 ?_
  show Go p e below _ (T1.setTop (mkF m 4 #[rv a] [(.ref b)]))
  refine Go.step (S' := T1.setTop (mkF m 8 #[rv a] [(.ref a)])) (fun t k => ?_) ?_
  · show Steps p.tables e below (T1.setTop (mkF m 4 #[rv a] [(.ref b)])) _
    refine XS.ifnullNo X1.here hx rfl (hb hby d8_4) rfl ?_
    show Steps p.tables e below (T1.setTop (mkF m 7 #[rv a] [])) _
    refine XS.aloadN X1.here hx rfl (hb hby d8_7) rfl rfl ?_
    exact k
  obtain ⟨T2, X2, e2, st2⟩ := getF X1 hx hZ hown (host := "") (Or.inl (own_w hw 42 rfl)) Via.refl e1 F_st (g := (mkF m 8 #[rv a] [(.ref a)])) rfl rfl (hb hby d8_8)
  refine Go.step st2 ?_
  show Go p e below _ (T2.setTop (mkF m 11 #[rv a] [(.ref b)]))
  obtain ⟨cq3, kq3, q3a, q3b, q3c⟩ := isOf hZ e2 E_b
  obtain ⟨_, _, ⟨T3, L3, k3, n3⟩, -, X3, ⟨Lc3, hQ3, l3, y3, z3⟩, st3⟩ := X2.virtualBack hx (y := (⟨"java/lang/Integer", "intValue", "()I"⟩ : MethodName)) (z := (⟨"java/lang/Integer", "intValue", "()I"⟩ : MethodName)) hown (mvT hZ (own_w hw 51 rfl)) (mvT hZ (own_w hw 52 rfl)) (notFace_of_selects (args := #[]) (mvT hZ (own_w hw 54 rfl))) (mvT hZ (own_w hw 54 rfl)) (mvT hZ (own_w hw 53 rfl)) (by decide) (backOf (W := 0) (rmIV l Z a0 hw [] b pv h0 n0 O F_value_b) hZ (own_w hw 55 rfl) (own_w hw 2 rfl) (by decide) (by decide)) q3a q3c (g := (mkF m 11 #[rv a] [(.ref b)])) rfl (by rw [hml]; rfl) (Steps.refl _) (argsL := []) (rest := []) (lenOf pd__28_29I rfl) rfl (by show 2 * 0 + _ ≤ _; exact Nat.le_of_eq rfl) (hb hby d8_11) (fun _ _ => ⟨rfl, e2, (by decide : 0 + 0 ≤ _), (by decide : 0 + 0 ≤ _)⟩)
  dsimp only [Pt.U, Pt.locs, Pt.cells, Pt.slots] at X3 l3 y3 z3 st3 hQ3
  subst l3 y3 z3
  obtain ⟨rfl, Nq3, e3⟩ := hQ3
  have N3 := Fr.app N0 Nq3
  refine Go.step (fun t k => st3.trans k) ?_
  show Go p e below _ (T3.setTop (mkF m 14 #[rv a] [(.int pv)]))
  refine Go.step (S' := T3.setTop (mkF m 25 #[rv a] [(.int (0 : Int32))])) (fun t k => ?_) ?_
  · show Steps p.tables e below (T3.setTop (mkF m 14 #[rv a] [(.int pv)])) _
    refine XS.sipush X3.here hx rfl (hb hby d8_14) ?_
    show Steps p.tables e below (T3.setTop (mkF m 17 #[rv a] [(.int (410 : Int32)), (.int pv)])) _
    refine XS.icmpYes X3.here hx rfl (pc0 := 17) (pc' := 24) rfl (hb hby d8_17) rfl (feq (hp1 : ¬ (pv = (410 : Int32)))).2 (by decide) (by decide) ?_
    show Steps p.tables e below (T3.setTop (mkF m 24 #[rv a] [])) _
    refine XS.iconst X3.here hx rfl (hb hby d8_24) ?_
    exact k
  obtain ⟨fs, hr, hrun, hended, hW, hsame⟩ := X3.leave (v := some (.int (0 : Int32))) (fun h => by rw [Bd.returns] at h; cases h)
  refine Go.fin (S' := T3.setFrames fs) ?_ hrun hended ⟨_, _, rfl, ?_, ⟨_, rfl⟩, hW, hsame.mono (by decide) (by decide)⟩
  · exact retOut X3 hx Bd.returns (by decide) (Or.inl ⟨rfl, Or.inr (Or.inl rfl), _, rfl⟩) (hb hby d8_25) hr
  · show Q_rmG1 Z a b pv h0 n0 (some (.int (0 : Int32))) T3.heap _
    rw [e3]
    exact ⟨rfl, N3, rfl⟩
theorem pd__28I_29Ljava_2flang_2fInteger_3b : parseMethodDescriptor "(I)Ljava/lang/Integer;" = some ⟨[.int], some (.object "java/lang/Integer")⟩ := by decide +kernel
theorem pd__28I_29Lcom_2fexample_2floomlist_2floomlist_2fstore_2fWebhookAnswer_24Failure_3b : parseMethodDescriptor "(I)Lcom/example/loomlist/loomlist/store/WebhookAnswer$Failure;" = some ⟨[.int], some (.object "com/example/loomlist/loomlist/store/WebhookAnswer$Failure")⟩ := by decide +kernel
theorem pd__28Ljava_2flang_2fInteger_3bLcom_2fexample_2floomlist_2floomlist_2fstore_2fWebhookAnswer_24Failure_3b_29V : parseMethodDescriptor "(Ljava/lang/Integer;Lcom/example/loomlist/loomlist/store/WebhookAnswer$Failure;)V" = some ⟨[(.object "java/lang/Integer"), (.object "com/example/loomlist/loomlist/store/WebhookAnswer$Failure")], none⟩ := by decide +kernel
theorem pd__28_29Z : parseMethodDescriptor "()Z" = some ⟨[], some .boolean⟩ := by decide +kernel
theorem ef_rm0 (m : MethodId) (p0 : Int32) (p1 : Int32) (p2 : Int32) : entryFrame m #[(.int p0), (.int p1), (.int p2)] maxLocals = mkF m 0 #[.val (.int p0), .val (.int p1), .val (.int p2), .unset, .unset, .unset, .unset, .unset, .unset] [] := by first | (simp [entryFrame, mkF, argsToLocals, Value.category, maxLocals]; done) | rfl
def Q_rm0 (Z : State) (p0 : Int32) (p1 : Int32) (p2 : Int32) (w_TIMEOUT : Addr) (w_UNREACHABLE : Addr) (w_REFUSED : Addr) (w_cache : Addr) (cl : Cell) (h0 : Heap) (n0 : Nat) (v : Option Value) (h : Heap) (L : List Loc) : Prop := (v = some (.int (1 : Int32))) ∧ (Fr n0 L) ∧ (Keep h0 h [])
set_option maxRecDepth 65536 in
set_option maxHeartbeats 40000000 in
theorem rm0 (l : Launch) (Z : State) (a0 : Array Value) (hw : ∀ d ∈ tables_1, d.before a0 Z = true) (ws : List Jvm.Cond) (p0 : Int32) (p1 : Int32) (p2 : Int32) (w_TIMEOUT : Addr) (w_UNREACHABLE : Addr) (w_REFUSED : Addr) (w_cache : Addr) (cl : Cell) (h0 : Heap) (n0 : Nat) (O : Old Z n0 h0) (S_TIMEOUT : Sta Z Z.heap "com/example/loomlist/loomlist/store/WebhookAnswer$Failure" "TIMEOUT" "Lcom/example/loomlist/loomlist/store/WebhookAnswer$Failure;" (.ref w_TIMEOUT)) (S_UNREACHABLE : Sta Z Z.heap "com/example/loomlist/loomlist/store/WebhookAnswer$Failure" "UNREACHABLE" "Lcom/example/loomlist/loomlist/store/WebhookAnswer$Failure;" (.ref w_UNREACHABLE)) (S_REFUSED : Sta Z Z.heap "com/example/loomlist/loomlist/store/WebhookAnswer$Failure" "REFUSED" "Lcom/example/loomlist/loomlist/store/WebhookAnswer$Failure;" (.ref w_REFUSED)) (S_high : Sta Z Z.heap "java/lang/Integer$IntegerCache" "high" "I" (.int (127 : Int32))) (S_cache : Sta Z Z.heap "java/lang/Integer$IntegerCache" "cache" "[Ljava/lang/Integer;" (.ref w_cache)) (CA : own_Cache Z w_cache cl) :
    MetFree l x (head1 (Jvm.Cond.code x code maxLocals ret :: ws) room_1) (fun A_ U => A_ = #[(.int p0), (.int p1), (.int p2)] ∧ Z.Warmed39 U.vm ∧ U.heap = h0) (fun _ _ _ _ _ => True) (fun _ U o U' => ∃ v L, o = .returned v ∧ Q_rm0 Z p0 p1 p2 w_TIMEOUT w_UNREACHABLE w_REFUSED w_cache cl h0 n0 v U'.heap L ∧ FrameEnd U o U' L room_1.cells room_1.slots) := by
  refine MetFree.of_bodySF (plainFor_of_name pn_com_example_loomlist_loomlist_store_WebhookAnswerGonePinLaw) hisR ?_
  intro p e s m args below meth c s₁ Bd hml0 hP hK
  obtain ⟨rfl, hZ, hh⟩ := hP
  have hx := Bd.exec
  have hby := Bd.bytes
  have hml : c.maxLocals = 9 := hml0
  have hown : s.vm.findClass "com/example/loomlist/loomlist/store/WebhookAnswerGonePinLaw" = some m.cls := findClass_of_methodNamed Bd.named
  have hnm := (name_of_methodNamed Bd.named Bd.method).1
  have X0 : Stand p l e room_1 s m #[(.int p0), (.int p1), (.int p2)] below meth c s₁ [] 0 0 := Stand.of_body Bd
  have e0 : s₁.heap = h0 := by rw [← hh, Bd.state]; rfl
  have N0 := Fr.nil n0
  have K := Keep.refl h0 []
  refine Go.step (p := p) (e := e) (below := below) (G := fun o U' => ∃ v L, o = .returned v ∧ Q_rm0 Z p0 p1 p2 w_TIMEOUT w_UNREACHABLE w_REFUSED w_cache cl h0 n0 v U'.heap L ∧ FrameEnd s o U' L room_1.cells room_1.slots) (S' := s₁.setTop (mkF m 0 #[iv p0, iv p1, iv p2, u_, u_, u_, u_, u_, u_] [])) (fun t k => castTop (ef_rm0 m p0 p1 p2) k) ?_
  refine Go.step (S' := s₁.setTop (mkF m 6 #[iv p0, iv p1, iv p2, iv (p1 &&& (3 : Int32)), u_, u_, u_, u_, u_] [(.int (1 : Int32)), (.int (p1 &&& (3 : Int32)))])) (fun t k => ?_) ?_
  · show Steps p.tables e below (s₁.setTop (mkF m 0 #[iv p0, iv p1, iv p2, u_, u_, u_, u_, u_, u_] [])) _
    refine XS.iloadN X0.here hx rfl (hb hby at_0) rfl ?_
    show Steps p.tables e below (s₁.setTop (mkF m 1 #[iv p0, iv p1, iv p2, u_, u_, u_, u_, u_, u_] [(.int p1)])) _
    refine XS.iconst X0.here hx rfl (hb hby at_1) ?_
    show Steps p.tables e below (s₁.setTop (mkF m 2 #[iv p0, iv p1, iv p2, u_, u_, u_, u_, u_, u_] [(.int (3 : Int32)), (.int p1)])) _
    refine XS.iand X0.here hx rfl (hb hby at_2) rfl ?_
    show Steps p.tables e below (s₁.setTop (mkF m 3 #[iv p0, iv p1, iv p2, u_, u_, u_, u_, u_, u_] [(.int (p1 &&& (3 : Int32)))])) _
    refine XS.istoreN X0.here hx rfl (hb hby at_3) rfl (l' := #[iv p0, iv p1, iv p2, iv (p1 &&& (3 : Int32)), u_, u_, u_, u_, u_]) rfl ?_
    show Steps p.tables e below (s₁.setTop (mkF m 4 #[iv p0, iv p1, iv p2, iv (p1 &&& (3 : Int32)), u_, u_, u_, u_, u_] [])) _
    refine XS.iloadN X0.here hx rfl (hb hby at_4) rfl ?_
    show Steps p.tables e below (s₁.setTop (mkF m 5 #[iv p0, iv p1, iv p2, iv (p1 &&& (3 : Int32)), u_, u_, u_, u_, u_] [(.int (p1 &&& (3 : Int32)))])) _
    refine XS.iconst X0.here hx rfl (hb hby at_5) ?_
    exact k
  by_cases hc6 : (p1 &&& (3 : Int32)) = (1 : Int32)
  · skip
    refine Go.step (S' := s₁.setTop (mkF m 46 #[iv p0, iv p1, iv p2, iv (p1 &&& (3 : Int32)), iv p0, .val .null, u_, u_, u_] [(.int p0)])) (fun t k => ?_) ?_
    · show Steps p.tables e below (s₁.setTop (mkF m 6 #[iv p0, iv p1, iv p2, iv (p1 &&& (3 : Int32)), u_, u_, u_, u_, u_] [(.int (1 : Int32)), (.int (p1 &&& (3 : Int32)))])) _
      refine XS.icmpNo X0.here hx rfl (hb hby at_6) rfl (teq (hc6 : (p1 &&& (3 : Int32)) = (1 : Int32))).2 ?_
      show Steps p.tables e below (s₁.setTop (mkF m 9 #[iv p0, iv p1, iv p2, iv (p1 &&& (3 : Int32)), u_, u_, u_, u_, u_] [])) _
      refine XS.iloadN X0.here hx rfl (hb hby at_9) rfl ?_
      show Steps p.tables e below (s₁.setTop (mkF m 10 #[iv p0, iv p1, iv p2, iv (p1 &&& (3 : Int32)), u_, u_, u_, u_, u_] [(.int p0)])) _
      refine XS.istore X0.here hx rfl (hb hby at_10) rfl (l' := #[iv p0, iv p1, iv p2, iv (p1 &&& (3 : Int32)), iv p0, u_, u_, u_, u_]) rfl ?_
      show Steps p.tables e below (s₁.setTop (mkF m 12 #[iv p0, iv p1, iv p2, iv (p1 &&& (3 : Int32)), iv p0, u_, u_, u_, u_] [])) _
      refine XS.goto X0.here hx rfl (pc0 := 12) (pc' := 37) rfl (hb hby at_12) (by decide) (by decide) ?_
      show Steps p.tables e below (s₁.setTop (mkF m 37 #[iv p0, iv p1, iv p2, iv (p1 &&& (3 : Int32)), iv p0, u_, u_, u_, u_] [])) _
      refine XS.aconstNull X0.here hx rfl (hb hby at_37) ?_
      show Steps p.tables e below (s₁.setTop (mkF m 38 #[iv p0, iv p1, iv p2, iv (p1 &&& (3 : Int32)), iv p0, u_, u_, u_, u_] [.null])) _
      refine XS.astore X0.here hx rfl (hb hby at_38) rfl rfl (l' := #[iv p0, iv p1, iv p2, iv (p1 &&& (3 : Int32)), iv p0, .val .null, u_, u_, u_]) rfl ?_
      show Steps p.tables e below (s₁.setTop (mkF m 40 #[iv p0, iv p1, iv p2, iv (p1 &&& (3 : Int32)), iv p0, .val .null, u_, u_, u_] [])) _
      refine XS.iloadN X0.here hx rfl (hb hby at_40) rfl ?_
      show Steps p.tables e below (s₁.setTop (mkF m 41 #[iv p0, iv p1, iv p2, iv (p1 &&& (3 : Int32)), iv p0, .val .null, u_, u_, u_] [(.int (p1 &&& (3 : Int32)))])) _
      refine XS.ifNo X0.here hx rfl (hb hby at_41) rfl ((if0 _ _).trans (feq ((fun q => absurd (hc6.symm.trans q) (by decide)) : ¬ ((p1 &&& (3 : Int32)) = (0 : Int32)))).1) ?_
      show Steps p.tables e below (s₁.setTop (mkF m 44 #[iv p0, iv p1, iv p2, iv (p1 &&& (3 : Int32)), iv p0, .val .null, u_, u_, u_] [])) _
      refine XS.iload X0.here hx rfl (hb hby at_44) rfl ?_
      exact k
    obtain ⟨_, _, ⟨T1, L1, k1, n1⟩, -, X1, ⟨Lc1, hQ1, l1, y1, z1⟩, st1⟩ := Jvm.LawKit.callS X0 hx (y := (⟨"java/lang/Integer", "valueOf", "(I)Ljava/lang/Integer;"⟩ : MethodName)) hown (mvT hZ (own_w hw 0 rfl)) (mvT hZ (own_w hw 1 rfl)) (mvT hZ (own_w hw 2 rfl)) (mvT hZ (own_w hw 3 rfl)) (by decide) (backOf (W := 0) (rmVO l Z a0 hw [] p0 w_cache cl h0 n0 O S_high S_cache (by assumption)) hZ (own_w hw 3 rfl) (own_w hw 2 rfl) (by decide) (by decide)) (g := (mkF m 46 #[iv p0, iv p1, iv p2, iv (p1 &&& (3 : Int32)), iv p0, .val .null, u_, u_, u_] [(.int p0)])) rfl (by rw [hml]; rfl) (argsL := [(.int p0)]) (rest := []) (lenOf pd__28I_29Ljava_2flang_2fInteger_3b rfl) rfl (by show 2 * 0 + _ ≤ _; exact Nat.le_of_eq rfl) (hb hby at_46) (fun _ _ => ⟨rfl, e0, (by decide : 0 + 1 ≤ _), (by decide : 0 + 1 ≤ _)⟩)
    dsimp only [Pt.U, Pt.locs, Pt.cells, Pt.slots] at X1 l1 y1 z1 st1 hQ1
    subst l1 y1 z1
    obtain ⟨b_1, rfl, Nq1, K1, P1_E, P1_F⟩ := hQ1
    have N1 := Fr.app N0 Nq1
    have O := O.keep K1 all0
    have K := K.trans K1 all0
    have E_1 := P1_E
    have F_1 := P1_F
    refine Go.step st1 ?_
    show Go p e below _ (T1.setTop (mkF m 49 #[iv p0, iv p1, iv p2, iv (p1 &&& (3 : Int32)), iv p0, .val .null, u_, u_, u_] [(.ref b_1)]))
    refine Go.step (S' := T1.setTop (mkF m 54 #[iv p0, iv p1, iv p2, iv (p1 &&& (3 : Int32)), iv p0, rv b_1, u_, u_, u_] [(.int (p2 &&& (3 : Int32)))])) (fun t k => ?_) ?_
    · show Steps p.tables e below (T1.setTop (mkF m 49 #[iv p0, iv p1, iv p2, iv (p1 &&& (3 : Int32)), iv p0, .val .null, u_, u_, u_] [(.ref b_1)])) _
      refine XS.astore X1.here hx rfl (hb hby at_49) rfl rfl (l' := #[iv p0, iv p1, iv p2, iv (p1 &&& (3 : Int32)), iv p0, rv b_1, u_, u_, u_]) rfl ?_
      show Steps p.tables e below (T1.setTop (mkF m 51 #[iv p0, iv p1, iv p2, iv (p1 &&& (3 : Int32)), iv p0, rv b_1, u_, u_, u_] [])) _
      refine XS.iloadN X1.here hx rfl (hb hby at_51) rfl ?_
      show Steps p.tables e below (T1.setTop (mkF m 52 #[iv p0, iv p1, iv p2, iv (p1 &&& (3 : Int32)), iv p0, rv b_1, u_, u_, u_] [(.int p2)])) _
      refine XS.iconst X1.here hx rfl (hb hby at_52) ?_
      show Steps p.tables e below (T1.setTop (mkF m 53 #[iv p0, iv p1, iv p2, iv (p1 &&& (3 : Int32)), iv p0, rv b_1, u_, u_, u_] [(.int (3 : Int32)), (.int p2)])) _
      refine XS.iand X1.here hx rfl (hb hby at_53) rfl ?_
      exact k
    by_cases hf0_2 : (p2 &&& (3 : Int32)) = (0 : Int32)
    · skip
      obtain ⟨_, _, ⟨T3, L3, k3, n3⟩, -, X3, ⟨Lc3, hQ3, l3, y3, z3⟩, st3⟩ := Jvm.LawKit.callS X1 hx (y := (⟨"com/example/loomlist/loomlist/store/WebhookAnswerGonePinLaw", "failure", "(I)Lcom/example/loomlist/loomlist/store/WebhookAnswer$Failure;"⟩ : MethodName)) hown (mvT hZ (own_w hw 23 rfl)) (mvT hZ (own_w hw 24 rfl)) (mvT hZ (own_w hw 25 rfl)) (mvT hZ (own_w hw 26 rfl)) (by decide) (backOf (W := 0) (rmF0 l Z a0 hw [] (p2 &&& (3 : Int32)) w_TIMEOUT w_UNREACHABLE w_REFUSED T1.heap n0 O S_TIMEOUT S_UNREACHABLE S_REFUSED hf0_2) hZ (own_w hw 26 rfl) (own_w hw 25 rfl) (by decide) (by decide)) (g := (mkF m 54 #[iv p0, iv p1, iv p2, iv (p1 &&& (3 : Int32)), iv p0, rv b_1, u_, u_, u_] [(.int (p2 &&& (3 : Int32)))])) rfl (by rw [hml]; rfl) (argsL := [(.int (p2 &&& (3 : Int32)))]) (rest := []) (lenOf pd__28I_29Lcom_2fexample_2floomlist_2floomlist_2fstore_2fWebhookAnswer_24Failure_3b rfl) rfl (by show 2 * 0 + _ ≤ _; exact Nat.le_of_eq rfl) (hb hby at_54) (fun _ _ => ⟨rfl, (Eq.refl T1.heap), (by decide : 1 + 0 ≤ _), (by decide : 1 + 0 ≤ _)⟩)
      dsimp only [Pt.U, Pt.locs, Pt.cells, Pt.slots] at X3 l3 y3 z3 st3 hQ3
      subst l3 y3 z3
      obtain ⟨rfl, Nq3, e3⟩ := hQ3
      have N3 := Fr.app N1 Nq3
      refine Go.step st3 ?_
      show Go p e below _ (T3.setTop (mkF m 57 #[iv p0, iv p1, iv p2, iv (p1 &&& (3 : Int32)), iv p0, rv b_1, u_, u_, u_] [.null]))
      refine Go.step (S' := T3.setTop (mkF m 59 #[iv p0, iv p1, iv p2, iv (p1 &&& (3 : Int32)), iv p0, rv b_1, .val .null, u_, u_] [])) (fun t k => ?_) ?_
      · show Steps p.tables e below (T3.setTop (mkF m 57 #[iv p0, iv p1, iv p2, iv (p1 &&& (3 : Int32)), iv p0, rv b_1, u_, u_, u_] [.null])) _
        refine XS.astore X3.here hx rfl (hb hby at_57) rfl rfl (l' := #[iv p0, iv p1, iv p2, iv (p1 &&& (3 : Int32)), iv p0, rv b_1, .val .null, u_, u_]) rfl ?_
        exact k
      obtain ⟨T4, h4, X4, e4, E4, A4, D4, -, st4⟩ := newO X3 hx hZ hown (own_w hw 30 rfl) (own_w hw 31 rfl) (own_w hw 32 rfl) e3 (g := (mkF m 59 #[iv p0, iv p1, iv p2, iv (p1 &&& (3 : Int32)), iv p0, rv b_1, .val .null, u_, u_] [])) rfl (hb hby at_59) (by decide) (by decide)
      obtain ⟨b4, g4⟩ : ∃ z, z = Array.size T1.heap := ⟨_, rfl⟩
      have g_b4 : n0 ≤ b4 := Nat.le_trans (old_le O) (Nat.le_of_eq g4.symm)
      have sz_b4 : h0.size ≤ b4 := Nat.le_trans K.1 (Nat.le_of_eq g4.symm)
      have ne_b_1_b4 : b_1 ≠ b4 := Nat.ne_of_lt (Nat.lt_of_lt_of_le E_1.lt (Nat.le_of_eq g4.symm))
      rw [← g4] at A4 D4 st4
      have O := O.ext E4
      have K := K.ext E4
      have E_1 := E_1.ext E4
      have F_1 := F_1.ext E4
      have E_b4 := A4
      have F_status_b4 : Fld Z h4 b4 "com/example/loomlist/loomlist/store/WebhookAnswer" "status" "Ljava/lang/Integer;" .null := D4 (Or.inr (own_w hw 43 rfl)) (ty := (.object "java/lang/Integer")) (by decide)
      have F_failure_b4 : Fld Z h4 b4 "com/example/loomlist/loomlist/store/WebhookAnswer" "failure" "Lcom/example/loomlist/loomlist/store/WebhookAnswer$Failure;" .null := D4 (Or.inr (own_w hw 45 rfl)) (ty := (.object "com/example/loomlist/loomlist/store/WebhookAnswer$Failure")) (by decide)
      refine Go.step st4 ?_
      show Go p e below _ (T4.setTop (mkF m 62 #[iv p0, iv p1, iv p2, iv (p1 &&& (3 : Int32)), iv p0, rv b_1, .val .null, u_, u_] [(.ref b4)]))
      refine Go.step (S' := T4.setTop (mkF m 67 #[iv p0, iv p1, iv p2, iv (p1 &&& (3 : Int32)), iv p0, rv b_1, .val .null, u_, u_] [.null, (.ref b_1), (.ref b4), (.ref b4)])) (fun t k => ?_) ?_
      · show Steps p.tables e below (T4.setTop (mkF m 62 #[iv p0, iv p1, iv p2, iv (p1 &&& (3 : Int32)), iv p0, rv b_1, .val .null, u_, u_] [(.ref b4)])) _
        refine XS.dup X4.here hx rfl (hb hby at_62) rfl rfl ?_
        show Steps p.tables e below (T4.setTop (mkF m 63 #[iv p0, iv p1, iv p2, iv (p1 &&& (3 : Int32)), iv p0, rv b_1, .val .null, u_, u_] [(.ref b4), (.ref b4)])) _
        refine XS.aload X4.here hx rfl (hb hby at_63) rfl rfl ?_
        show Steps p.tables e below (T4.setTop (mkF m 65 #[iv p0, iv p1, iv p2, iv (p1 &&& (3 : Int32)), iv p0, rv b_1, .val .null, u_, u_] [(.ref b_1), (.ref b4), (.ref b4)])) _
        refine XS.aload X4.here hx rfl (hb hby at_65) rfl rfl ?_
        exact k
      obtain ⟨_, _, ⟨T5, L5, k5, n5⟩, -, X5, ⟨Lc5, hQ5, l5, y5, z5⟩, st5⟩ := X4.specialBack hx (y := (⟨"com/example/loomlist/loomlist/store/WebhookAnswer", "<init>", "(Ljava/lang/Integer;Lcom/example/loomlist/loomlist/store/WebhookAnswer$Failure;)V"⟩ : MethodName)) rfl hown (mvT hZ (own_w hw 33 rfl)) (mvT hZ (own_w hw 34 rfl)) (mvT hZ (own_w hw 35 rfl)) (by decide) (backOf (W := 1) (rmW2 l Z a0 hw [] b4 b_1 h4 n0 O E_b4 F_status_b4 F_failure_b4 (by assumption)) hZ (own_w hw 35 rfl) (own_w hw 32 rfl) (by decide) (by decide)) (g := (mkF m 67 #[iv p0, iv p1, iv p2, iv (p1 &&& (3 : Int32)), iv p0, rv b_1, .val .null, u_, u_] [.null, (.ref b_1), (.ref b4), (.ref b4)])) rfl (by rw [hml]; rfl) (Steps.refl _) (a := b4) (argsL := [(.ref b_1), .null]) (rest := [(.ref b4)]) (lenOf pd__28Ljava_2flang_2fInteger_3bLcom_2fexample_2floomlist_2floomlist_2fstore_2fWebhookAnswer_24Failure_3b_29V rfl) rfl (by show 2 * 0 + _ ≤ _; exact Nat.le_of_eq rfl) (hb hby at_67) (fun _ _ => ⟨rfl, e4, (by decide : 2 + 0 ≤ _), (by decide : 3 + 0 ≤ _)⟩)
      dsimp only [Pt.U, Pt.locs, Pt.cells, Pt.slots] at X5 l5 y5 z5 st5 hQ5
      subst l5 y5 z5
      obtain ⟨rfl, Nq5, K5, P5_E, P5_F⟩ := hQ5
      have N5 := Fr.app N3 Nq5
      have O := O.keep K5 (allS g_b4 all0)
      have K := K.trans K5 (allS (Or.inr sz_b4) all0)
      have E_1 := E_1.keep K5
      have F_1 := F_1.keep K5 (ninS ne_b_1_b4 nin0)
      have E_b4 := E_b4.keep K5
      have E_5 := P5_E
      have F_5 := P5_F
      refine Go.step (fun t k => st5.trans k) ?_
      show Go p e below _ (T5.setTop (mkF m 70 #[iv p0, iv p1, iv p2, iv (p1 &&& (3 : Int32)), iv p0, rv b_1, .val .null, u_, u_] [(.ref b4)]))
      refine Go.step (S' := T5.setTop (mkF m 87 #[iv p0, iv p1, iv p2, iv (p1 &&& (3 : Int32)), iv p0, rv b_1, .val .null, rv b4, u_] [(.int (410 : Int32)), (.int p0)])) (fun t k => ?_) ?_
      · show Steps p.tables e below (T5.setTop (mkF m 70 #[iv p0, iv p1, iv p2, iv (p1 &&& (3 : Int32)), iv p0, rv b_1, .val .null, u_, u_] [(.ref b4)])) _
        refine XS.astore X5.here hx rfl (hb hby at_70) rfl rfl (l' := #[iv p0, iv p1, iv p2, iv (p1 &&& (3 : Int32)), iv p0, rv b_1, .val .null, rv b4, u_]) rfl ?_
        show Steps p.tables e below (T5.setTop (mkF m 72 #[iv p0, iv p1, iv p2, iv (p1 &&& (3 : Int32)), iv p0, rv b_1, .val .null, rv b4, u_] [])) _
        refine XS.iloadN X5.here hx rfl (hb hby at_72) rfl ?_
        show Steps p.tables e below (T5.setTop (mkF m 73 #[iv p0, iv p1, iv p2, iv (p1 &&& (3 : Int32)), iv p0, rv b_1, .val .null, rv b4, u_] [(.int (p1 &&& (3 : Int32)))])) _
        refine XS.ifYes X5.here hx rfl (pc0 := 73) (pc' := 82) rfl (hb hby at_73) rfl ((if0 _ _).trans (feq ((fun q => absurd (hc6.symm.trans q) (by decide)) : ¬ ((p1 &&& (3 : Int32)) = (0 : Int32)))).2) (by decide) (by decide) ?_
        show Steps p.tables e below (T5.setTop (mkF m 82 #[iv p0, iv p1, iv p2, iv (p1 &&& (3 : Int32)), iv p0, rv b_1, .val .null, rv b4, u_] [])) _
        refine XS.iload X5.here hx rfl (hb hby at_82) rfl ?_
        show Steps p.tables e below (T5.setTop (mkF m 84 #[iv p0, iv p1, iv p2, iv (p1 &&& (3 : Int32)), iv p0, rv b_1, .val .null, rv b4, u_] [(.int p0)])) _
        refine XS.sipush X5.here hx rfl (hb hby at_84) ?_
        exact k
      by_cases hc87 : p0 = (410 : Int32)
      · skip
        refine Go.step (S' := T5.setTop (mkF m 99 #[iv p0, iv p1, iv p2, iv (p1 &&& (3 : Int32)), iv p0, rv b_1, .val .null, rv b4, iv (1 : Int32)] [(.ref b4)])) (fun t k => ?_) ?_
        · show Steps p.tables e below (T5.setTop (mkF m 87 #[iv p0, iv p1, iv p2, iv (p1 &&& (3 : Int32)), iv p0, rv b_1, .val .null, rv b4, u_] [(.int (410 : Int32)), (.int p0)])) _
          refine XS.icmpNo X5.here hx rfl (hb hby at_87) rfl (teq (hc87 : p0 = (410 : Int32))).2 ?_
          show Steps p.tables e below (T5.setTop (mkF m 90 #[iv p0, iv p1, iv p2, iv (p1 &&& (3 : Int32)), iv p0, rv b_1, .val .null, rv b4, u_] [])) _
          refine XS.iconst X5.here hx rfl (hb hby at_90) ?_
          show Steps p.tables e below (T5.setTop (mkF m 91 #[iv p0, iv p1, iv p2, iv (p1 &&& (3 : Int32)), iv p0, rv b_1, .val .null, rv b4, u_] [(.int (1 : Int32))])) _
          refine XS.goto X5.here hx rfl (pc0 := 91) (pc' := 95) rfl (hb hby at_91) (by decide) (by decide) ?_
          show Steps p.tables e below (T5.setTop (mkF m 95 #[iv p0, iv p1, iv p2, iv (p1 &&& (3 : Int32)), iv p0, rv b_1, .val .null, rv b4, u_] [(.int (1 : Int32))])) _
          refine XS.istore X5.here hx rfl (hb hby at_95) rfl (l' := #[iv p0, iv p1, iv p2, iv (p1 &&& (3 : Int32)), iv p0, rv b_1, .val .null, rv b4, iv (1 : Int32)]) rfl ?_
          show Steps p.tables e below (T5.setTop (mkF m 97 #[iv p0, iv p1, iv p2, iv (p1 &&& (3 : Int32)), iv p0, rv b_1, .val .null, rv b4, iv (1 : Int32)] [])) _
          refine XS.aload X5.here hx rfl (hb hby at_97) rfl rfl ?_
          exact k
        obtain ⟨cq6, kq6, q6a, q6b, q6c⟩ := isOf hZ (Eq.refl T5.heap) E_b4
        obtain ⟨_, _, ⟨T6, L6, k6, n6⟩, -, X6, ⟨Lc6, hQ6, l6, y6, z6⟩, st6⟩ := X5.virtualBack hx (y := (⟨"com/example/loomlist/loomlist/store/WebhookAnswer", "gone", "()Z"⟩ : MethodName)) (z := (⟨"com/example/loomlist/loomlist/store/WebhookAnswer", "gone", "()Z"⟩ : MethodName)) hown (mvT hZ (own_w hw 46 rfl)) (mvT hZ (own_w hw 47 rfl)) (notFace_of_selects (args := #[]) (mvT hZ (own_w hw 49 rfl))) (mvT hZ (own_w hw 49 rfl)) (mvT hZ (own_w hw 48 rfl)) (by decide) (backOf (W := 0) (rmG0 l Z a0 hw [] b4 b_1 p0 T5.heap n0 O F_5 E_1 F_1 hc87) hZ (own_w hw 50 rfl) (own_w hw 32 rfl) (by decide) (by decide)) q6a q6c (g := (mkF m 99 #[iv p0, iv p1, iv p2, iv (p1 &&& (3 : Int32)), iv p0, rv b_1, .val .null, rv b4, iv (1 : Int32)] [(.ref b4)])) rfl (by rw [hml]; rfl) (Steps.refl _) (argsL := []) (rest := []) (lenOf pd__28_29Z rfl) rfl (by show 2 * 0 + _ ≤ _; exact Nat.le_of_eq rfl) (hb hby at_99) (fun _ _ => ⟨rfl, (Eq.refl T5.heap), (by decide : 2 + 0 ≤ _), (by decide : 3 + 0 ≤ _)⟩)
        dsimp only [Pt.U, Pt.locs, Pt.cells, Pt.slots] at X6 l6 y6 z6 st6 hQ6
        subst l6 y6 z6
        obtain ⟨rfl, Nq6, e6⟩ := hQ6
        have N6 := Fr.app N5 Nq6
        refine Go.step (fun t k => st6.trans k) ?_
        show Go p e below _ (T6.setTop (mkF m 102 #[iv p0, iv p1, iv p2, iv (p1 &&& (3 : Int32)), iv p0, rv b_1, .val .null, rv b4, iv (1 : Int32)] [(.int (1 : Int32))]))
        refine Go.step (S' := T6.setTop (mkF m 112 #[iv p0, iv p1, iv p2, iv (p1 &&& (3 : Int32)), iv p0, rv b_1, .val .null, rv b4, iv (1 : Int32)] [(.int (1 : Int32))])) (fun t k => ?_) ?_
        · show Steps p.tables e below (T6.setTop (mkF m 102 #[iv p0, iv p1, iv p2, iv (p1 &&& (3 : Int32)), iv p0, rv b_1, .val .null, rv b4, iv (1 : Int32)] [(.int (1 : Int32))])) _
          refine XS.iload X6.here hx rfl (hb hby at_102) rfl ?_
          show Steps p.tables e below (T6.setTop (mkF m 104 #[iv p0, iv p1, iv p2, iv (p1 &&& (3 : Int32)), iv p0, rv b_1, .val .null, rv b4, iv (1 : Int32)] [(.int (1 : Int32)), (.int (1 : Int32))])) _
          refine XS.icmpNo X6.here hx rfl (hb hby at_104) rfl (teq ((by decide) : (1 : Int32) = (1 : Int32))).2 ?_
          show Steps p.tables e below (T6.setTop (mkF m 107 #[iv p0, iv p1, iv p2, iv (p1 &&& (3 : Int32)), iv p0, rv b_1, .val .null, rv b4, iv (1 : Int32)] [])) _
          refine XS.iconst X6.here hx rfl (hb hby at_107) ?_
          show Steps p.tables e below (T6.setTop (mkF m 108 #[iv p0, iv p1, iv p2, iv (p1 &&& (3 : Int32)), iv p0, rv b_1, .val .null, rv b4, iv (1 : Int32)] [(.int (1 : Int32))])) _
          refine XS.goto X6.here hx rfl (pc0 := 108) (pc' := 112) rfl (hb hby at_108) (by decide) (by decide) ?_
          exact k
        obtain ⟨fs, hr, hrun, hended, hW, hsame⟩ := X6.leave (v := some (.int (1 : Int32))) (fun h => by rw [Bd.returns] at h; cases h)
        refine Go.fin (S' := T6.setFrames fs) ?_ hrun hended ⟨_, _, rfl, ?_, ⟨_, rfl⟩, hW, hsame.mono (by decide) (by decide)⟩
        · exact retOut X6 hx Bd.returns (by decide) (Or.inl ⟨rfl, Or.inr (Or.inl rfl), _, rfl⟩) (hb hby at_112) hr
        · show Q_rm0 Z p0 p1 p2 w_TIMEOUT w_UNREACHABLE w_REFUSED w_cache cl h0 n0 (some (.int (1 : Int32))) T6.heap _
          rw [e6]
          exact ⟨rfl, N6, K⟩
      · skip
        refine Go.step (S' := T5.setTop (mkF m 99 #[iv p0, iv p1, iv p2, iv (p1 &&& (3 : Int32)), iv p0, rv b_1, .val .null, rv b4, iv (0 : Int32)] [(.ref b4)])) (fun t k => ?_) ?_
        · show Steps p.tables e below (T5.setTop (mkF m 87 #[iv p0, iv p1, iv p2, iv (p1 &&& (3 : Int32)), iv p0, rv b_1, .val .null, rv b4, u_] [(.int (410 : Int32)), (.int p0)])) _
          refine XS.icmpYes X5.here hx rfl (pc0 := 87) (pc' := 94) rfl (hb hby at_87) rfl (feq (hc87 : ¬ (p0 = (410 : Int32)))).2 (by decide) (by decide) ?_
          show Steps p.tables e below (T5.setTop (mkF m 94 #[iv p0, iv p1, iv p2, iv (p1 &&& (3 : Int32)), iv p0, rv b_1, .val .null, rv b4, u_] [])) _
          refine XS.iconst X5.here hx rfl (hb hby at_94) ?_
          show Steps p.tables e below (T5.setTop (mkF m 95 #[iv p0, iv p1, iv p2, iv (p1 &&& (3 : Int32)), iv p0, rv b_1, .val .null, rv b4, u_] [(.int (0 : Int32))])) _
          refine XS.istore X5.here hx rfl (hb hby at_95) rfl (l' := #[iv p0, iv p1, iv p2, iv (p1 &&& (3 : Int32)), iv p0, rv b_1, .val .null, rv b4, iv (0 : Int32)]) rfl ?_
          show Steps p.tables e below (T5.setTop (mkF m 97 #[iv p0, iv p1, iv p2, iv (p1 &&& (3 : Int32)), iv p0, rv b_1, .val .null, rv b4, iv (0 : Int32)] [])) _
          refine XS.aload X5.here hx rfl (hb hby at_97) rfl rfl ?_
          exact k
        obtain ⟨cq7, kq7, q7a, q7b, q7c⟩ := isOf hZ (Eq.refl T5.heap) E_b4
        obtain ⟨_, _, ⟨T7, L7, k7, n7⟩, -, X7, ⟨Lc7, hQ7, l7, y7, z7⟩, st7⟩ := X5.virtualBack hx (y := (⟨"com/example/loomlist/loomlist/store/WebhookAnswer", "gone", "()Z"⟩ : MethodName)) (z := (⟨"com/example/loomlist/loomlist/store/WebhookAnswer", "gone", "()Z"⟩ : MethodName)) hown (mvT hZ (own_w hw 46 rfl)) (mvT hZ (own_w hw 47 rfl)) (notFace_of_selects (args := #[]) (mvT hZ (own_w hw 49 rfl))) (mvT hZ (own_w hw 49 rfl)) (mvT hZ (own_w hw 48 rfl)) (by decide) (backOf (W := 0) (rmG1 l Z a0 hw [] b4 b_1 p0 T5.heap n0 O F_5 E_1 F_1 hc87) hZ (own_w hw 50 rfl) (own_w hw 32 rfl) (by decide) (by decide)) q7a q7c (g := (mkF m 99 #[iv p0, iv p1, iv p2, iv (p1 &&& (3 : Int32)), iv p0, rv b_1, .val .null, rv b4, iv (0 : Int32)] [(.ref b4)])) rfl (by rw [hml]; rfl) (Steps.refl _) (argsL := []) (rest := []) (lenOf pd__28_29Z rfl) rfl (by show 2 * 0 + _ ≤ _; exact Nat.le_of_eq rfl) (hb hby at_99) (fun _ _ => ⟨rfl, (Eq.refl T5.heap), (by decide : 2 + 0 ≤ _), (by decide : 3 + 0 ≤ _)⟩)
        dsimp only [Pt.U, Pt.locs, Pt.cells, Pt.slots] at X7 l7 y7 z7 st7 hQ7
        subst l7 y7 z7
        obtain ⟨rfl, Nq7, e7⟩ := hQ7
        have N7 := Fr.app N5 Nq7
        refine Go.step (fun t k => st7.trans k) ?_
        show Go p e below _ (T7.setTop (mkF m 102 #[iv p0, iv p1, iv p2, iv (p1 &&& (3 : Int32)), iv p0, rv b_1, .val .null, rv b4, iv (0 : Int32)] [(.int (0 : Int32))]))
        refine Go.step (S' := T7.setTop (mkF m 112 #[iv p0, iv p1, iv p2, iv (p1 &&& (3 : Int32)), iv p0, rv b_1, .val .null, rv b4, iv (0 : Int32)] [(.int (1 : Int32))])) (fun t k => ?_) ?_
        · show Steps p.tables e below (T7.setTop (mkF m 102 #[iv p0, iv p1, iv p2, iv (p1 &&& (3 : Int32)), iv p0, rv b_1, .val .null, rv b4, iv (0 : Int32)] [(.int (0 : Int32))])) _
          refine XS.iload X7.here hx rfl (hb hby at_102) rfl ?_
          show Steps p.tables e below (T7.setTop (mkF m 104 #[iv p0, iv p1, iv p2, iv (p1 &&& (3 : Int32)), iv p0, rv b_1, .val .null, rv b4, iv (0 : Int32)] [(.int (0 : Int32)), (.int (0 : Int32))])) _
          refine XS.icmpNo X7.here hx rfl (hb hby at_104) rfl (teq ((by decide) : (0 : Int32) = (0 : Int32))).2 ?_
          show Steps p.tables e below (T7.setTop (mkF m 107 #[iv p0, iv p1, iv p2, iv (p1 &&& (3 : Int32)), iv p0, rv b_1, .val .null, rv b4, iv (0 : Int32)] [])) _
          refine XS.iconst X7.here hx rfl (hb hby at_107) ?_
          show Steps p.tables e below (T7.setTop (mkF m 108 #[iv p0, iv p1, iv p2, iv (p1 &&& (3 : Int32)), iv p0, rv b_1, .val .null, rv b4, iv (0 : Int32)] [(.int (1 : Int32))])) _
          refine XS.goto X7.here hx rfl (pc0 := 108) (pc' := 112) rfl (hb hby at_108) (by decide) (by decide) ?_
          exact k
        obtain ⟨fs, hr, hrun, hended, hW, hsame⟩ := X7.leave (v := some (.int (1 : Int32))) (fun h => by rw [Bd.returns] at h; cases h)
        refine Go.fin (S' := T7.setFrames fs) ?_ hrun hended ⟨_, _, rfl, ?_, ⟨_, rfl⟩, hW, hsame.mono (by decide) (by decide)⟩
        · exact retOut X7 hx Bd.returns (by decide) (Or.inl ⟨rfl, Or.inr (Or.inl rfl), _, rfl⟩) (hb hby at_112) hr
        · show Q_rm0 Z p0 p1 p2 w_TIMEOUT w_UNREACHABLE w_REFUSED w_cache cl h0 n0 (some (.int (1 : Int32))) T7.heap _
          rw [e7]
          exact ⟨rfl, N7, K⟩
    · skip
      by_cases hf1_2 : (p2 &&& (3 : Int32)) = (1 : Int32)
      · skip
        obtain ⟨_, _, ⟨T8, L8, k8, n8⟩, -, X8, ⟨Lc8, hQ8, l8, y8, z8⟩, st8⟩ := Jvm.LawKit.callS X1 hx (y := (⟨"com/example/loomlist/loomlist/store/WebhookAnswerGonePinLaw", "failure", "(I)Lcom/example/loomlist/loomlist/store/WebhookAnswer$Failure;"⟩ : MethodName)) hown (mvT hZ (own_w hw 23 rfl)) (mvT hZ (own_w hw 24 rfl)) (mvT hZ (own_w hw 25 rfl)) (mvT hZ (own_w hw 26 rfl)) (by decide) (backOf (W := 0) (rmF1 l Z a0 hw [] (p2 &&& (3 : Int32)) w_TIMEOUT w_UNREACHABLE w_REFUSED T1.heap n0 O S_TIMEOUT S_UNREACHABLE S_REFUSED hf0_2 hf1_2) hZ (own_w hw 26 rfl) (own_w hw 25 rfl) (by decide) (by decide)) (g := (mkF m 54 #[iv p0, iv p1, iv p2, iv (p1 &&& (3 : Int32)), iv p0, rv b_1, u_, u_, u_] [(.int (p2 &&& (3 : Int32)))])) rfl (by rw [hml]; rfl) (argsL := [(.int (p2 &&& (3 : Int32)))]) (rest := []) (lenOf pd__28I_29Lcom_2fexample_2floomlist_2floomlist_2fstore_2fWebhookAnswer_24Failure_3b rfl) rfl (by show 2 * 0 + _ ≤ _; exact Nat.le_of_eq rfl) (hb hby at_54) (fun _ _ => ⟨rfl, (Eq.refl T1.heap), (by decide : 1 + 0 ≤ _), (by decide : 1 + 0 ≤ _)⟩)
        dsimp only [Pt.U, Pt.locs, Pt.cells, Pt.slots] at X8 l8 y8 z8 st8 hQ8
        subst l8 y8 z8
        obtain ⟨rfl, Nq8, e8⟩ := hQ8
        have N8 := Fr.app N1 Nq8
        refine Go.step st8 ?_
        show Go p e below _ (T8.setTop (mkF m 57 #[iv p0, iv p1, iv p2, iv (p1 &&& (3 : Int32)), iv p0, rv b_1, u_, u_, u_] [(.ref w_TIMEOUT)]))
        refine Go.step (S' := T8.setTop (mkF m 59 #[iv p0, iv p1, iv p2, iv (p1 &&& (3 : Int32)), iv p0, rv b_1, rv w_TIMEOUT, u_, u_] [])) (fun t k => ?_) ?_
        · show Steps p.tables e below (T8.setTop (mkF m 57 #[iv p0, iv p1, iv p2, iv (p1 &&& (3 : Int32)), iv p0, rv b_1, u_, u_, u_] [(.ref w_TIMEOUT)])) _
          refine XS.astore X8.here hx rfl (hb hby at_57) rfl rfl (l' := #[iv p0, iv p1, iv p2, iv (p1 &&& (3 : Int32)), iv p0, rv b_1, rv w_TIMEOUT, u_, u_]) rfl ?_
          exact k
        obtain ⟨T9, h9, X9, e9, E9, A9, D9, -, st9⟩ := newO X8 hx hZ hown (own_w hw 30 rfl) (own_w hw 31 rfl) (own_w hw 32 rfl) e8 (g := (mkF m 59 #[iv p0, iv p1, iv p2, iv (p1 &&& (3 : Int32)), iv p0, rv b_1, rv w_TIMEOUT, u_, u_] [])) rfl (hb hby at_59) (by decide) (by decide)
        obtain ⟨b9, g9⟩ : ∃ z, z = Array.size T1.heap := ⟨_, rfl⟩
        have g_b9 : n0 ≤ b9 := Nat.le_trans (old_le O) (Nat.le_of_eq g9.symm)
        have sz_b9 : h0.size ≤ b9 := Nat.le_trans K.1 (Nat.le_of_eq g9.symm)
        have ne_b_1_b9 : b_1 ≠ b9 := Nat.ne_of_lt (Nat.lt_of_lt_of_le E_1.lt (Nat.le_of_eq g9.symm))
        rw [← g9] at A9 D9 st9
        have O := O.ext E9
        have K := K.ext E9
        have E_1 := E_1.ext E9
        have F_1 := F_1.ext E9
        have E_b9 := A9
        have F_status_b9 : Fld Z h9 b9 "com/example/loomlist/loomlist/store/WebhookAnswer" "status" "Ljava/lang/Integer;" .null := D9 (Or.inr (own_w hw 43 rfl)) (ty := (.object "java/lang/Integer")) (by decide)
        have F_failure_b9 : Fld Z h9 b9 "com/example/loomlist/loomlist/store/WebhookAnswer" "failure" "Lcom/example/loomlist/loomlist/store/WebhookAnswer$Failure;" .null := D9 (Or.inr (own_w hw 45 rfl)) (ty := (.object "com/example/loomlist/loomlist/store/WebhookAnswer$Failure")) (by decide)
        refine Go.step st9 ?_
        show Go p e below _ (T9.setTop (mkF m 62 #[iv p0, iv p1, iv p2, iv (p1 &&& (3 : Int32)), iv p0, rv b_1, rv w_TIMEOUT, u_, u_] [(.ref b9)]))
        refine Go.step (S' := T9.setTop (mkF m 67 #[iv p0, iv p1, iv p2, iv (p1 &&& (3 : Int32)), iv p0, rv b_1, rv w_TIMEOUT, u_, u_] [(.ref w_TIMEOUT), (.ref b_1), (.ref b9), (.ref b9)])) (fun t k => ?_) ?_
        · show Steps p.tables e below (T9.setTop (mkF m 62 #[iv p0, iv p1, iv p2, iv (p1 &&& (3 : Int32)), iv p0, rv b_1, rv w_TIMEOUT, u_, u_] [(.ref b9)])) _
          refine XS.dup X9.here hx rfl (hb hby at_62) rfl rfl ?_
          show Steps p.tables e below (T9.setTop (mkF m 63 #[iv p0, iv p1, iv p2, iv (p1 &&& (3 : Int32)), iv p0, rv b_1, rv w_TIMEOUT, u_, u_] [(.ref b9), (.ref b9)])) _
          refine XS.aload X9.here hx rfl (hb hby at_63) rfl rfl ?_
          show Steps p.tables e below (T9.setTop (mkF m 65 #[iv p0, iv p1, iv p2, iv (p1 &&& (3 : Int32)), iv p0, rv b_1, rv w_TIMEOUT, u_, u_] [(.ref b_1), (.ref b9), (.ref b9)])) _
          refine XS.aload X9.here hx rfl (hb hby at_65) rfl rfl ?_
          exact k
        obtain ⟨_, _, ⟨T10, L10, k10, n10⟩, -, X10, ⟨Lc10, hQ10, l10, y10, z10⟩, st10⟩ := X9.specialBack hx (y := (⟨"com/example/loomlist/loomlist/store/WebhookAnswer", "<init>", "(Ljava/lang/Integer;Lcom/example/loomlist/loomlist/store/WebhookAnswer$Failure;)V"⟩ : MethodName)) rfl hown (mvT hZ (own_w hw 33 rfl)) (mvT hZ (own_w hw 34 rfl)) (mvT hZ (own_w hw 35 rfl)) (by decide) (backOf (W := 1) (rmW3 l Z a0 hw [] b9 b_1 w_TIMEOUT h9 n0 O E_b9 F_status_b9 F_failure_b9 (by assumption)) hZ (own_w hw 35 rfl) (own_w hw 32 rfl) (by decide) (by decide)) (g := (mkF m 67 #[iv p0, iv p1, iv p2, iv (p1 &&& (3 : Int32)), iv p0, rv b_1, rv w_TIMEOUT, u_, u_] [(.ref w_TIMEOUT), (.ref b_1), (.ref b9), (.ref b9)])) rfl (by rw [hml]; rfl) (Steps.refl _) (a := b9) (argsL := [(.ref b_1), (.ref w_TIMEOUT)]) (rest := [(.ref b9)]) (lenOf pd__28Ljava_2flang_2fInteger_3bLcom_2fexample_2floomlist_2floomlist_2fstore_2fWebhookAnswer_24Failure_3b_29V rfl) rfl (by show 2 * 0 + _ ≤ _; exact Nat.le_of_eq rfl) (hb hby at_67) (fun _ _ => ⟨rfl, e9, (by decide : 2 + 0 ≤ _), (by decide : 3 + 0 ≤ _)⟩)
        dsimp only [Pt.U, Pt.locs, Pt.cells, Pt.slots] at X10 l10 y10 z10 st10 hQ10
        subst l10 y10 z10
        obtain ⟨rfl, Nq10, K10, P10_E, P10_F⟩ := hQ10
        have N10 := Fr.app N8 Nq10
        have O := O.keep K10 (allS g_b9 all0)
        have K := K.trans K10 (allS (Or.inr sz_b9) all0)
        have E_1 := E_1.keep K10
        have F_1 := F_1.keep K10 (ninS ne_b_1_b9 nin0)
        have E_b9 := E_b9.keep K10
        have E_10 := P10_E
        have F_10 := P10_F
        refine Go.step (fun t k => st10.trans k) ?_
        show Go p e below _ (T10.setTop (mkF m 70 #[iv p0, iv p1, iv p2, iv (p1 &&& (3 : Int32)), iv p0, rv b_1, rv w_TIMEOUT, u_, u_] [(.ref b9)]))
        refine Go.step (S' := T10.setTop (mkF m 87 #[iv p0, iv p1, iv p2, iv (p1 &&& (3 : Int32)), iv p0, rv b_1, rv w_TIMEOUT, rv b9, u_] [(.int (410 : Int32)), (.int p0)])) (fun t k => ?_) ?_
        · show Steps p.tables e below (T10.setTop (mkF m 70 #[iv p0, iv p1, iv p2, iv (p1 &&& (3 : Int32)), iv p0, rv b_1, rv w_TIMEOUT, u_, u_] [(.ref b9)])) _
          refine XS.astore X10.here hx rfl (hb hby at_70) rfl rfl (l' := #[iv p0, iv p1, iv p2, iv (p1 &&& (3 : Int32)), iv p0, rv b_1, rv w_TIMEOUT, rv b9, u_]) rfl ?_
          show Steps p.tables e below (T10.setTop (mkF m 72 #[iv p0, iv p1, iv p2, iv (p1 &&& (3 : Int32)), iv p0, rv b_1, rv w_TIMEOUT, rv b9, u_] [])) _
          refine XS.iloadN X10.here hx rfl (hb hby at_72) rfl ?_
          show Steps p.tables e below (T10.setTop (mkF m 73 #[iv p0, iv p1, iv p2, iv (p1 &&& (3 : Int32)), iv p0, rv b_1, rv w_TIMEOUT, rv b9, u_] [(.int (p1 &&& (3 : Int32)))])) _
          refine XS.ifYes X10.here hx rfl (pc0 := 73) (pc' := 82) rfl (hb hby at_73) rfl ((if0 _ _).trans (feq ((fun q => absurd (hc6.symm.trans q) (by decide)) : ¬ ((p1 &&& (3 : Int32)) = (0 : Int32)))).2) (by decide) (by decide) ?_
          show Steps p.tables e below (T10.setTop (mkF m 82 #[iv p0, iv p1, iv p2, iv (p1 &&& (3 : Int32)), iv p0, rv b_1, rv w_TIMEOUT, rv b9, u_] [])) _
          refine XS.iload X10.here hx rfl (hb hby at_82) rfl ?_
          show Steps p.tables e below (T10.setTop (mkF m 84 #[iv p0, iv p1, iv p2, iv (p1 &&& (3 : Int32)), iv p0, rv b_1, rv w_TIMEOUT, rv b9, u_] [(.int p0)])) _
          refine XS.sipush X10.here hx rfl (hb hby at_84) ?_
          exact k
        by_cases hc87 : p0 = (410 : Int32)
        · skip
          refine Go.step (S' := T10.setTop (mkF m 99 #[iv p0, iv p1, iv p2, iv (p1 &&& (3 : Int32)), iv p0, rv b_1, rv w_TIMEOUT, rv b9, iv (1 : Int32)] [(.ref b9)])) (fun t k => ?_) ?_
          · show Steps p.tables e below (T10.setTop (mkF m 87 #[iv p0, iv p1, iv p2, iv (p1 &&& (3 : Int32)), iv p0, rv b_1, rv w_TIMEOUT, rv b9, u_] [(.int (410 : Int32)), (.int p0)])) _
            refine XS.icmpNo X10.here hx rfl (hb hby at_87) rfl (teq (hc87 : p0 = (410 : Int32))).2 ?_
            show Steps p.tables e below (T10.setTop (mkF m 90 #[iv p0, iv p1, iv p2, iv (p1 &&& (3 : Int32)), iv p0, rv b_1, rv w_TIMEOUT, rv b9, u_] [])) _
            refine XS.iconst X10.here hx rfl (hb hby at_90) ?_
            show Steps p.tables e below (T10.setTop (mkF m 91 #[iv p0, iv p1, iv p2, iv (p1 &&& (3 : Int32)), iv p0, rv b_1, rv w_TIMEOUT, rv b9, u_] [(.int (1 : Int32))])) _
            refine XS.goto X10.here hx rfl (pc0 := 91) (pc' := 95) rfl (hb hby at_91) (by decide) (by decide) ?_
            show Steps p.tables e below (T10.setTop (mkF m 95 #[iv p0, iv p1, iv p2, iv (p1 &&& (3 : Int32)), iv p0, rv b_1, rv w_TIMEOUT, rv b9, u_] [(.int (1 : Int32))])) _
            refine XS.istore X10.here hx rfl (hb hby at_95) rfl (l' := #[iv p0, iv p1, iv p2, iv (p1 &&& (3 : Int32)), iv p0, rv b_1, rv w_TIMEOUT, rv b9, iv (1 : Int32)]) rfl ?_
            show Steps p.tables e below (T10.setTop (mkF m 97 #[iv p0, iv p1, iv p2, iv (p1 &&& (3 : Int32)), iv p0, rv b_1, rv w_TIMEOUT, rv b9, iv (1 : Int32)] [])) _
            refine XS.aload X10.here hx rfl (hb hby at_97) rfl rfl ?_
            exact k
          obtain ⟨cq11, kq11, q11a, q11b, q11c⟩ := isOf hZ (Eq.refl T10.heap) E_b9
          obtain ⟨_, _, ⟨T11, L11, k11, n11⟩, -, X11, ⟨Lc11, hQ11, l11, y11, z11⟩, st11⟩ := X10.virtualBack hx (y := (⟨"com/example/loomlist/loomlist/store/WebhookAnswer", "gone", "()Z"⟩ : MethodName)) (z := (⟨"com/example/loomlist/loomlist/store/WebhookAnswer", "gone", "()Z"⟩ : MethodName)) hown (mvT hZ (own_w hw 46 rfl)) (mvT hZ (own_w hw 47 rfl)) (notFace_of_selects (args := #[]) (mvT hZ (own_w hw 49 rfl))) (mvT hZ (own_w hw 49 rfl)) (mvT hZ (own_w hw 48 rfl)) (by decide) (backOf (W := 0) (rmG0 l Z a0 hw [] b9 b_1 p0 T10.heap n0 O F_10 E_1 F_1 hc87) hZ (own_w hw 50 rfl) (own_w hw 32 rfl) (by decide) (by decide)) q11a q11c (g := (mkF m 99 #[iv p0, iv p1, iv p2, iv (p1 &&& (3 : Int32)), iv p0, rv b_1, rv w_TIMEOUT, rv b9, iv (1 : Int32)] [(.ref b9)])) rfl (by rw [hml]; rfl) (Steps.refl _) (argsL := []) (rest := []) (lenOf pd__28_29Z rfl) rfl (by show 2 * 0 + _ ≤ _; exact Nat.le_of_eq rfl) (hb hby at_99) (fun _ _ => ⟨rfl, (Eq.refl T10.heap), (by decide : 2 + 0 ≤ _), (by decide : 3 + 0 ≤ _)⟩)
          dsimp only [Pt.U, Pt.locs, Pt.cells, Pt.slots] at X11 l11 y11 z11 st11 hQ11
          subst l11 y11 z11
          obtain ⟨rfl, Nq11, e11⟩ := hQ11
          have N11 := Fr.app N10 Nq11
          refine Go.step (fun t k => st11.trans k) ?_
          show Go p e below _ (T11.setTop (mkF m 102 #[iv p0, iv p1, iv p2, iv (p1 &&& (3 : Int32)), iv p0, rv b_1, rv w_TIMEOUT, rv b9, iv (1 : Int32)] [(.int (1 : Int32))]))
          refine Go.step (S' := T11.setTop (mkF m 112 #[iv p0, iv p1, iv p2, iv (p1 &&& (3 : Int32)), iv p0, rv b_1, rv w_TIMEOUT, rv b9, iv (1 : Int32)] [(.int (1 : Int32))])) (fun t k => ?_) ?_
          · show Steps p.tables e below (T11.setTop (mkF m 102 #[iv p0, iv p1, iv p2, iv (p1 &&& (3 : Int32)), iv p0, rv b_1, rv w_TIMEOUT, rv b9, iv (1 : Int32)] [(.int (1 : Int32))])) _
            refine XS.iload X11.here hx rfl (hb hby at_102) rfl ?_
            show Steps p.tables e below (T11.setTop (mkF m 104 #[iv p0, iv p1, iv p2, iv (p1 &&& (3 : Int32)), iv p0, rv b_1, rv w_TIMEOUT, rv b9, iv (1 : Int32)] [(.int (1 : Int32)), (.int (1 : Int32))])) _
            refine XS.icmpNo X11.here hx rfl (hb hby at_104) rfl (teq ((by decide) : (1 : Int32) = (1 : Int32))).2 ?_
            show Steps p.tables e below (T11.setTop (mkF m 107 #[iv p0, iv p1, iv p2, iv (p1 &&& (3 : Int32)), iv p0, rv b_1, rv w_TIMEOUT, rv b9, iv (1 : Int32)] [])) _
            refine XS.iconst X11.here hx rfl (hb hby at_107) ?_
            show Steps p.tables e below (T11.setTop (mkF m 108 #[iv p0, iv p1, iv p2, iv (p1 &&& (3 : Int32)), iv p0, rv b_1, rv w_TIMEOUT, rv b9, iv (1 : Int32)] [(.int (1 : Int32))])) _
            refine XS.goto X11.here hx rfl (pc0 := 108) (pc' := 112) rfl (hb hby at_108) (by decide) (by decide) ?_
            exact k
          obtain ⟨fs, hr, hrun, hended, hW, hsame⟩ := X11.leave (v := some (.int (1 : Int32))) (fun h => by rw [Bd.returns] at h; cases h)
          refine Go.fin (S' := T11.setFrames fs) ?_ hrun hended ⟨_, _, rfl, ?_, ⟨_, rfl⟩, hW, hsame.mono (by decide) (by decide)⟩
          · exact retOut X11 hx Bd.returns (by decide) (Or.inl ⟨rfl, Or.inr (Or.inl rfl), _, rfl⟩) (hb hby at_112) hr
          · show Q_rm0 Z p0 p1 p2 w_TIMEOUT w_UNREACHABLE w_REFUSED w_cache cl h0 n0 (some (.int (1 : Int32))) T11.heap _
            rw [e11]
            exact ⟨rfl, N11, K⟩
        · skip
          refine Go.step (S' := T10.setTop (mkF m 99 #[iv p0, iv p1, iv p2, iv (p1 &&& (3 : Int32)), iv p0, rv b_1, rv w_TIMEOUT, rv b9, iv (0 : Int32)] [(.ref b9)])) (fun t k => ?_) ?_
          · show Steps p.tables e below (T10.setTop (mkF m 87 #[iv p0, iv p1, iv p2, iv (p1 &&& (3 : Int32)), iv p0, rv b_1, rv w_TIMEOUT, rv b9, u_] [(.int (410 : Int32)), (.int p0)])) _
            refine XS.icmpYes X10.here hx rfl (pc0 := 87) (pc' := 94) rfl (hb hby at_87) rfl (feq (hc87 : ¬ (p0 = (410 : Int32)))).2 (by decide) (by decide) ?_
            show Steps p.tables e below (T10.setTop (mkF m 94 #[iv p0, iv p1, iv p2, iv (p1 &&& (3 : Int32)), iv p0, rv b_1, rv w_TIMEOUT, rv b9, u_] [])) _
            refine XS.iconst X10.here hx rfl (hb hby at_94) ?_
            show Steps p.tables e below (T10.setTop (mkF m 95 #[iv p0, iv p1, iv p2, iv (p1 &&& (3 : Int32)), iv p0, rv b_1, rv w_TIMEOUT, rv b9, u_] [(.int (0 : Int32))])) _
            refine XS.istore X10.here hx rfl (hb hby at_95) rfl (l' := #[iv p0, iv p1, iv p2, iv (p1 &&& (3 : Int32)), iv p0, rv b_1, rv w_TIMEOUT, rv b9, iv (0 : Int32)]) rfl ?_
            show Steps p.tables e below (T10.setTop (mkF m 97 #[iv p0, iv p1, iv p2, iv (p1 &&& (3 : Int32)), iv p0, rv b_1, rv w_TIMEOUT, rv b9, iv (0 : Int32)] [])) _
            refine XS.aload X10.here hx rfl (hb hby at_97) rfl rfl ?_
            exact k
          obtain ⟨cq12, kq12, q12a, q12b, q12c⟩ := isOf hZ (Eq.refl T10.heap) E_b9
          obtain ⟨_, _, ⟨T12, L12, k12, n12⟩, -, X12, ⟨Lc12, hQ12, l12, y12, z12⟩, st12⟩ := X10.virtualBack hx (y := (⟨"com/example/loomlist/loomlist/store/WebhookAnswer", "gone", "()Z"⟩ : MethodName)) (z := (⟨"com/example/loomlist/loomlist/store/WebhookAnswer", "gone", "()Z"⟩ : MethodName)) hown (mvT hZ (own_w hw 46 rfl)) (mvT hZ (own_w hw 47 rfl)) (notFace_of_selects (args := #[]) (mvT hZ (own_w hw 49 rfl))) (mvT hZ (own_w hw 49 rfl)) (mvT hZ (own_w hw 48 rfl)) (by decide) (backOf (W := 0) (rmG1 l Z a0 hw [] b9 b_1 p0 T10.heap n0 O F_10 E_1 F_1 hc87) hZ (own_w hw 50 rfl) (own_w hw 32 rfl) (by decide) (by decide)) q12a q12c (g := (mkF m 99 #[iv p0, iv p1, iv p2, iv (p1 &&& (3 : Int32)), iv p0, rv b_1, rv w_TIMEOUT, rv b9, iv (0 : Int32)] [(.ref b9)])) rfl (by rw [hml]; rfl) (Steps.refl _) (argsL := []) (rest := []) (lenOf pd__28_29Z rfl) rfl (by show 2 * 0 + _ ≤ _; exact Nat.le_of_eq rfl) (hb hby at_99) (fun _ _ => ⟨rfl, (Eq.refl T10.heap), (by decide : 2 + 0 ≤ _), (by decide : 3 + 0 ≤ _)⟩)
          dsimp only [Pt.U, Pt.locs, Pt.cells, Pt.slots] at X12 l12 y12 z12 st12 hQ12
          subst l12 y12 z12
          obtain ⟨rfl, Nq12, e12⟩ := hQ12
          have N12 := Fr.app N10 Nq12
          refine Go.step (fun t k => st12.trans k) ?_
          show Go p e below _ (T12.setTop (mkF m 102 #[iv p0, iv p1, iv p2, iv (p1 &&& (3 : Int32)), iv p0, rv b_1, rv w_TIMEOUT, rv b9, iv (0 : Int32)] [(.int (0 : Int32))]))
          refine Go.step (S' := T12.setTop (mkF m 112 #[iv p0, iv p1, iv p2, iv (p1 &&& (3 : Int32)), iv p0, rv b_1, rv w_TIMEOUT, rv b9, iv (0 : Int32)] [(.int (1 : Int32))])) (fun t k => ?_) ?_
          · show Steps p.tables e below (T12.setTop (mkF m 102 #[iv p0, iv p1, iv p2, iv (p1 &&& (3 : Int32)), iv p0, rv b_1, rv w_TIMEOUT, rv b9, iv (0 : Int32)] [(.int (0 : Int32))])) _
            refine XS.iload X12.here hx rfl (hb hby at_102) rfl ?_
            show Steps p.tables e below (T12.setTop (mkF m 104 #[iv p0, iv p1, iv p2, iv (p1 &&& (3 : Int32)), iv p0, rv b_1, rv w_TIMEOUT, rv b9, iv (0 : Int32)] [(.int (0 : Int32)), (.int (0 : Int32))])) _
            refine XS.icmpNo X12.here hx rfl (hb hby at_104) rfl (teq ((by decide) : (0 : Int32) = (0 : Int32))).2 ?_
            show Steps p.tables e below (T12.setTop (mkF m 107 #[iv p0, iv p1, iv p2, iv (p1 &&& (3 : Int32)), iv p0, rv b_1, rv w_TIMEOUT, rv b9, iv (0 : Int32)] [])) _
            refine XS.iconst X12.here hx rfl (hb hby at_107) ?_
            show Steps p.tables e below (T12.setTop (mkF m 108 #[iv p0, iv p1, iv p2, iv (p1 &&& (3 : Int32)), iv p0, rv b_1, rv w_TIMEOUT, rv b9, iv (0 : Int32)] [(.int (1 : Int32))])) _
            refine XS.goto X12.here hx rfl (pc0 := 108) (pc' := 112) rfl (hb hby at_108) (by decide) (by decide) ?_
            exact k
          obtain ⟨fs, hr, hrun, hended, hW, hsame⟩ := X12.leave (v := some (.int (1 : Int32))) (fun h => by rw [Bd.returns] at h; cases h)
          refine Go.fin (S' := T12.setFrames fs) ?_ hrun hended ⟨_, _, rfl, ?_, ⟨_, rfl⟩, hW, hsame.mono (by decide) (by decide)⟩
          · exact retOut X12 hx Bd.returns (by decide) (Or.inl ⟨rfl, Or.inr (Or.inl rfl), _, rfl⟩) (hb hby at_112) hr
          · show Q_rm0 Z p0 p1 p2 w_TIMEOUT w_UNREACHABLE w_REFUSED w_cache cl h0 n0 (some (.int (1 : Int32))) T12.heap _
            rw [e12]
            exact ⟨rfl, N12, K⟩
      · skip
        by_cases hf2_2 : (p2 &&& (3 : Int32)) = (2 : Int32)
        · skip
          obtain ⟨_, _, ⟨T13, L13, k13, n13⟩, -, X13, ⟨Lc13, hQ13, l13, y13, z13⟩, st13⟩ := Jvm.LawKit.callS X1 hx (y := (⟨"com/example/loomlist/loomlist/store/WebhookAnswerGonePinLaw", "failure", "(I)Lcom/example/loomlist/loomlist/store/WebhookAnswer$Failure;"⟩ : MethodName)) hown (mvT hZ (own_w hw 23 rfl)) (mvT hZ (own_w hw 24 rfl)) (mvT hZ (own_w hw 25 rfl)) (mvT hZ (own_w hw 26 rfl)) (by decide) (backOf (W := 0) (rmF2 l Z a0 hw [] (p2 &&& (3 : Int32)) w_TIMEOUT w_UNREACHABLE w_REFUSED T1.heap n0 O S_TIMEOUT S_UNREACHABLE S_REFUSED hf0_2 hf1_2 hf2_2) hZ (own_w hw 26 rfl) (own_w hw 25 rfl) (by decide) (by decide)) (g := (mkF m 54 #[iv p0, iv p1, iv p2, iv (p1 &&& (3 : Int32)), iv p0, rv b_1, u_, u_, u_] [(.int (p2 &&& (3 : Int32)))])) rfl (by rw [hml]; rfl) (argsL := [(.int (p2 &&& (3 : Int32)))]) (rest := []) (lenOf pd__28I_29Lcom_2fexample_2floomlist_2floomlist_2fstore_2fWebhookAnswer_24Failure_3b rfl) rfl (by show 2 * 0 + _ ≤ _; exact Nat.le_of_eq rfl) (hb hby at_54) (fun _ _ => ⟨rfl, (Eq.refl T1.heap), (by decide : 1 + 0 ≤ _), (by decide : 1 + 0 ≤ _)⟩)
          dsimp only [Pt.U, Pt.locs, Pt.cells, Pt.slots] at X13 l13 y13 z13 st13 hQ13
          subst l13 y13 z13
          obtain ⟨rfl, Nq13, e13⟩ := hQ13
          have N13 := Fr.app N1 Nq13
          refine Go.step st13 ?_
          show Go p e below _ (T13.setTop (mkF m 57 #[iv p0, iv p1, iv p2, iv (p1 &&& (3 : Int32)), iv p0, rv b_1, u_, u_, u_] [(.ref w_UNREACHABLE)]))
          refine Go.step (S' := T13.setTop (mkF m 59 #[iv p0, iv p1, iv p2, iv (p1 &&& (3 : Int32)), iv p0, rv b_1, rv w_UNREACHABLE, u_, u_] [])) (fun t k => ?_) ?_
          · show Steps p.tables e below (T13.setTop (mkF m 57 #[iv p0, iv p1, iv p2, iv (p1 &&& (3 : Int32)), iv p0, rv b_1, u_, u_, u_] [(.ref w_UNREACHABLE)])) _
            refine XS.astore X13.here hx rfl (hb hby at_57) rfl rfl (l' := #[iv p0, iv p1, iv p2, iv (p1 &&& (3 : Int32)), iv p0, rv b_1, rv w_UNREACHABLE, u_, u_]) rfl ?_
            exact k
          obtain ⟨T14, h14, X14, e14, E14, A14, D14, -, st14⟩ := newO X13 hx hZ hown (own_w hw 30 rfl) (own_w hw 31 rfl) (own_w hw 32 rfl) e13 (g := (mkF m 59 #[iv p0, iv p1, iv p2, iv (p1 &&& (3 : Int32)), iv p0, rv b_1, rv w_UNREACHABLE, u_, u_] [])) rfl (hb hby at_59) (by decide) (by decide)
          obtain ⟨b14, g14⟩ : ∃ z, z = Array.size T1.heap := ⟨_, rfl⟩
          have g_b14 : n0 ≤ b14 := Nat.le_trans (old_le O) (Nat.le_of_eq g14.symm)
          have sz_b14 : h0.size ≤ b14 := Nat.le_trans K.1 (Nat.le_of_eq g14.symm)
          have ne_b_1_b14 : b_1 ≠ b14 := Nat.ne_of_lt (Nat.lt_of_lt_of_le E_1.lt (Nat.le_of_eq g14.symm))
          rw [← g14] at A14 D14 st14
          have O := O.ext E14
          have K := K.ext E14
          have E_1 := E_1.ext E14
          have F_1 := F_1.ext E14
          have E_b14 := A14
          have F_status_b14 : Fld Z h14 b14 "com/example/loomlist/loomlist/store/WebhookAnswer" "status" "Ljava/lang/Integer;" .null := D14 (Or.inr (own_w hw 43 rfl)) (ty := (.object "java/lang/Integer")) (by decide)
          have F_failure_b14 : Fld Z h14 b14 "com/example/loomlist/loomlist/store/WebhookAnswer" "failure" "Lcom/example/loomlist/loomlist/store/WebhookAnswer$Failure;" .null := D14 (Or.inr (own_w hw 45 rfl)) (ty := (.object "com/example/loomlist/loomlist/store/WebhookAnswer$Failure")) (by decide)
          refine Go.step st14 ?_
          show Go p e below _ (T14.setTop (mkF m 62 #[iv p0, iv p1, iv p2, iv (p1 &&& (3 : Int32)), iv p0, rv b_1, rv w_UNREACHABLE, u_, u_] [(.ref b14)]))
          refine Go.step (S' := T14.setTop (mkF m 67 #[iv p0, iv p1, iv p2, iv (p1 &&& (3 : Int32)), iv p0, rv b_1, rv w_UNREACHABLE, u_, u_] [(.ref w_UNREACHABLE), (.ref b_1), (.ref b14), (.ref b14)])) (fun t k => ?_) ?_
          · show Steps p.tables e below (T14.setTop (mkF m 62 #[iv p0, iv p1, iv p2, iv (p1 &&& (3 : Int32)), iv p0, rv b_1, rv w_UNREACHABLE, u_, u_] [(.ref b14)])) _
            refine XS.dup X14.here hx rfl (hb hby at_62) rfl rfl ?_
            show Steps p.tables e below (T14.setTop (mkF m 63 #[iv p0, iv p1, iv p2, iv (p1 &&& (3 : Int32)), iv p0, rv b_1, rv w_UNREACHABLE, u_, u_] [(.ref b14), (.ref b14)])) _
            refine XS.aload X14.here hx rfl (hb hby at_63) rfl rfl ?_
            show Steps p.tables e below (T14.setTop (mkF m 65 #[iv p0, iv p1, iv p2, iv (p1 &&& (3 : Int32)), iv p0, rv b_1, rv w_UNREACHABLE, u_, u_] [(.ref b_1), (.ref b14), (.ref b14)])) _
            refine XS.aload X14.here hx rfl (hb hby at_65) rfl rfl ?_
            exact k
          obtain ⟨_, _, ⟨T15, L15, k15, n15⟩, -, X15, ⟨Lc15, hQ15, l15, y15, z15⟩, st15⟩ := X14.specialBack hx (y := (⟨"com/example/loomlist/loomlist/store/WebhookAnswer", "<init>", "(Ljava/lang/Integer;Lcom/example/loomlist/loomlist/store/WebhookAnswer$Failure;)V"⟩ : MethodName)) rfl hown (mvT hZ (own_w hw 33 rfl)) (mvT hZ (own_w hw 34 rfl)) (mvT hZ (own_w hw 35 rfl)) (by decide) (backOf (W := 1) (rmW3 l Z a0 hw [] b14 b_1 w_UNREACHABLE h14 n0 O E_b14 F_status_b14 F_failure_b14 (by assumption)) hZ (own_w hw 35 rfl) (own_w hw 32 rfl) (by decide) (by decide)) (g := (mkF m 67 #[iv p0, iv p1, iv p2, iv (p1 &&& (3 : Int32)), iv p0, rv b_1, rv w_UNREACHABLE, u_, u_] [(.ref w_UNREACHABLE), (.ref b_1), (.ref b14), (.ref b14)])) rfl (by rw [hml]; rfl) (Steps.refl _) (a := b14) (argsL := [(.ref b_1), (.ref w_UNREACHABLE)]) (rest := [(.ref b14)]) (lenOf pd__28Ljava_2flang_2fInteger_3bLcom_2fexample_2floomlist_2floomlist_2fstore_2fWebhookAnswer_24Failure_3b_29V rfl) rfl (by show 2 * 0 + _ ≤ _; exact Nat.le_of_eq rfl) (hb hby at_67) (fun _ _ => ⟨rfl, e14, (by decide : 2 + 0 ≤ _), (by decide : 3 + 0 ≤ _)⟩)
          dsimp only [Pt.U, Pt.locs, Pt.cells, Pt.slots] at X15 l15 y15 z15 st15 hQ15
          subst l15 y15 z15
          obtain ⟨rfl, Nq15, K15, P15_E, P15_F⟩ := hQ15
          have N15 := Fr.app N13 Nq15
          have O := O.keep K15 (allS g_b14 all0)
          have K := K.trans K15 (allS (Or.inr sz_b14) all0)
          have E_1 := E_1.keep K15
          have F_1 := F_1.keep K15 (ninS ne_b_1_b14 nin0)
          have E_b14 := E_b14.keep K15
          have E_15 := P15_E
          have F_15 := P15_F
          refine Go.step (fun t k => st15.trans k) ?_
          show Go p e below _ (T15.setTop (mkF m 70 #[iv p0, iv p1, iv p2, iv (p1 &&& (3 : Int32)), iv p0, rv b_1, rv w_UNREACHABLE, u_, u_] [(.ref b14)]))
          refine Go.step (S' := T15.setTop (mkF m 87 #[iv p0, iv p1, iv p2, iv (p1 &&& (3 : Int32)), iv p0, rv b_1, rv w_UNREACHABLE, rv b14, u_] [(.int (410 : Int32)), (.int p0)])) (fun t k => ?_) ?_
          · show Steps p.tables e below (T15.setTop (mkF m 70 #[iv p0, iv p1, iv p2, iv (p1 &&& (3 : Int32)), iv p0, rv b_1, rv w_UNREACHABLE, u_, u_] [(.ref b14)])) _
            refine XS.astore X15.here hx rfl (hb hby at_70) rfl rfl (l' := #[iv p0, iv p1, iv p2, iv (p1 &&& (3 : Int32)), iv p0, rv b_1, rv w_UNREACHABLE, rv b14, u_]) rfl ?_
            show Steps p.tables e below (T15.setTop (mkF m 72 #[iv p0, iv p1, iv p2, iv (p1 &&& (3 : Int32)), iv p0, rv b_1, rv w_UNREACHABLE, rv b14, u_] [])) _
            refine XS.iloadN X15.here hx rfl (hb hby at_72) rfl ?_
            show Steps p.tables e below (T15.setTop (mkF m 73 #[iv p0, iv p1, iv p2, iv (p1 &&& (3 : Int32)), iv p0, rv b_1, rv w_UNREACHABLE, rv b14, u_] [(.int (p1 &&& (3 : Int32)))])) _
            refine XS.ifYes X15.here hx rfl (pc0 := 73) (pc' := 82) rfl (hb hby at_73) rfl ((if0 _ _).trans (feq ((fun q => absurd (hc6.symm.trans q) (by decide)) : ¬ ((p1 &&& (3 : Int32)) = (0 : Int32)))).2) (by decide) (by decide) ?_
            show Steps p.tables e below (T15.setTop (mkF m 82 #[iv p0, iv p1, iv p2, iv (p1 &&& (3 : Int32)), iv p0, rv b_1, rv w_UNREACHABLE, rv b14, u_] [])) _
            refine XS.iload X15.here hx rfl (hb hby at_82) rfl ?_
            show Steps p.tables e below (T15.setTop (mkF m 84 #[iv p0, iv p1, iv p2, iv (p1 &&& (3 : Int32)), iv p0, rv b_1, rv w_UNREACHABLE, rv b14, u_] [(.int p0)])) _
            refine XS.sipush X15.here hx rfl (hb hby at_84) ?_
            exact k
          by_cases hc87 : p0 = (410 : Int32)
          · skip
            refine Go.step (S' := T15.setTop (mkF m 99 #[iv p0, iv p1, iv p2, iv (p1 &&& (3 : Int32)), iv p0, rv b_1, rv w_UNREACHABLE, rv b14, iv (1 : Int32)] [(.ref b14)])) (fun t k => ?_) ?_
            · show Steps p.tables e below (T15.setTop (mkF m 87 #[iv p0, iv p1, iv p2, iv (p1 &&& (3 : Int32)), iv p0, rv b_1, rv w_UNREACHABLE, rv b14, u_] [(.int (410 : Int32)), (.int p0)])) _
              refine XS.icmpNo X15.here hx rfl (hb hby at_87) rfl (teq (hc87 : p0 = (410 : Int32))).2 ?_
              show Steps p.tables e below (T15.setTop (mkF m 90 #[iv p0, iv p1, iv p2, iv (p1 &&& (3 : Int32)), iv p0, rv b_1, rv w_UNREACHABLE, rv b14, u_] [])) _
              refine XS.iconst X15.here hx rfl (hb hby at_90) ?_
              show Steps p.tables e below (T15.setTop (mkF m 91 #[iv p0, iv p1, iv p2, iv (p1 &&& (3 : Int32)), iv p0, rv b_1, rv w_UNREACHABLE, rv b14, u_] [(.int (1 : Int32))])) _
              refine XS.goto X15.here hx rfl (pc0 := 91) (pc' := 95) rfl (hb hby at_91) (by decide) (by decide) ?_
              show Steps p.tables e below (T15.setTop (mkF m 95 #[iv p0, iv p1, iv p2, iv (p1 &&& (3 : Int32)), iv p0, rv b_1, rv w_UNREACHABLE, rv b14, u_] [(.int (1 : Int32))])) _
              refine XS.istore X15.here hx rfl (hb hby at_95) rfl (l' := #[iv p0, iv p1, iv p2, iv (p1 &&& (3 : Int32)), iv p0, rv b_1, rv w_UNREACHABLE, rv b14, iv (1 : Int32)]) rfl ?_
              show Steps p.tables e below (T15.setTop (mkF m 97 #[iv p0, iv p1, iv p2, iv (p1 &&& (3 : Int32)), iv p0, rv b_1, rv w_UNREACHABLE, rv b14, iv (1 : Int32)] [])) _
              refine XS.aload X15.here hx rfl (hb hby at_97) rfl rfl ?_
              exact k
            obtain ⟨cq16, kq16, q16a, q16b, q16c⟩ := isOf hZ (Eq.refl T15.heap) E_b14
            obtain ⟨_, _, ⟨T16, L16, k16, n16⟩, -, X16, ⟨Lc16, hQ16, l16, y16, z16⟩, st16⟩ := X15.virtualBack hx (y := (⟨"com/example/loomlist/loomlist/store/WebhookAnswer", "gone", "()Z"⟩ : MethodName)) (z := (⟨"com/example/loomlist/loomlist/store/WebhookAnswer", "gone", "()Z"⟩ : MethodName)) hown (mvT hZ (own_w hw 46 rfl)) (mvT hZ (own_w hw 47 rfl)) (notFace_of_selects (args := #[]) (mvT hZ (own_w hw 49 rfl))) (mvT hZ (own_w hw 49 rfl)) (mvT hZ (own_w hw 48 rfl)) (by decide) (backOf (W := 0) (rmG0 l Z a0 hw [] b14 b_1 p0 T15.heap n0 O F_15 E_1 F_1 hc87) hZ (own_w hw 50 rfl) (own_w hw 32 rfl) (by decide) (by decide)) q16a q16c (g := (mkF m 99 #[iv p0, iv p1, iv p2, iv (p1 &&& (3 : Int32)), iv p0, rv b_1, rv w_UNREACHABLE, rv b14, iv (1 : Int32)] [(.ref b14)])) rfl (by rw [hml]; rfl) (Steps.refl _) (argsL := []) (rest := []) (lenOf pd__28_29Z rfl) rfl (by show 2 * 0 + _ ≤ _; exact Nat.le_of_eq rfl) (hb hby at_99) (fun _ _ => ⟨rfl, (Eq.refl T15.heap), (by decide : 2 + 0 ≤ _), (by decide : 3 + 0 ≤ _)⟩)
            dsimp only [Pt.U, Pt.locs, Pt.cells, Pt.slots] at X16 l16 y16 z16 st16 hQ16
            subst l16 y16 z16
            obtain ⟨rfl, Nq16, e16⟩ := hQ16
            have N16 := Fr.app N15 Nq16
            refine Go.step (fun t k => st16.trans k) ?_
            show Go p e below _ (T16.setTop (mkF m 102 #[iv p0, iv p1, iv p2, iv (p1 &&& (3 : Int32)), iv p0, rv b_1, rv w_UNREACHABLE, rv b14, iv (1 : Int32)] [(.int (1 : Int32))]))
            refine Go.step (S' := T16.setTop (mkF m 112 #[iv p0, iv p1, iv p2, iv (p1 &&& (3 : Int32)), iv p0, rv b_1, rv w_UNREACHABLE, rv b14, iv (1 : Int32)] [(.int (1 : Int32))])) (fun t k => ?_) ?_
            · show Steps p.tables e below (T16.setTop (mkF m 102 #[iv p0, iv p1, iv p2, iv (p1 &&& (3 : Int32)), iv p0, rv b_1, rv w_UNREACHABLE, rv b14, iv (1 : Int32)] [(.int (1 : Int32))])) _
              refine XS.iload X16.here hx rfl (hb hby at_102) rfl ?_
              show Steps p.tables e below (T16.setTop (mkF m 104 #[iv p0, iv p1, iv p2, iv (p1 &&& (3 : Int32)), iv p0, rv b_1, rv w_UNREACHABLE, rv b14, iv (1 : Int32)] [(.int (1 : Int32)), (.int (1 : Int32))])) _
              refine XS.icmpNo X16.here hx rfl (hb hby at_104) rfl (teq ((by decide) : (1 : Int32) = (1 : Int32))).2 ?_
              show Steps p.tables e below (T16.setTop (mkF m 107 #[iv p0, iv p1, iv p2, iv (p1 &&& (3 : Int32)), iv p0, rv b_1, rv w_UNREACHABLE, rv b14, iv (1 : Int32)] [])) _
              refine XS.iconst X16.here hx rfl (hb hby at_107) ?_
              show Steps p.tables e below (T16.setTop (mkF m 108 #[iv p0, iv p1, iv p2, iv (p1 &&& (3 : Int32)), iv p0, rv b_1, rv w_UNREACHABLE, rv b14, iv (1 : Int32)] [(.int (1 : Int32))])) _
              refine XS.goto X16.here hx rfl (pc0 := 108) (pc' := 112) rfl (hb hby at_108) (by decide) (by decide) ?_
              exact k
            obtain ⟨fs, hr, hrun, hended, hW, hsame⟩ := X16.leave (v := some (.int (1 : Int32))) (fun h => by rw [Bd.returns] at h; cases h)
            refine Go.fin (S' := T16.setFrames fs) ?_ hrun hended ⟨_, _, rfl, ?_, ⟨_, rfl⟩, hW, hsame.mono (by decide) (by decide)⟩
            · exact retOut X16 hx Bd.returns (by decide) (Or.inl ⟨rfl, Or.inr (Or.inl rfl), _, rfl⟩) (hb hby at_112) hr
            · show Q_rm0 Z p0 p1 p2 w_TIMEOUT w_UNREACHABLE w_REFUSED w_cache cl h0 n0 (some (.int (1 : Int32))) T16.heap _
              rw [e16]
              exact ⟨rfl, N16, K⟩
          · skip
            refine Go.step (S' := T15.setTop (mkF m 99 #[iv p0, iv p1, iv p2, iv (p1 &&& (3 : Int32)), iv p0, rv b_1, rv w_UNREACHABLE, rv b14, iv (0 : Int32)] [(.ref b14)])) (fun t k => ?_) ?_
            · show Steps p.tables e below (T15.setTop (mkF m 87 #[iv p0, iv p1, iv p2, iv (p1 &&& (3 : Int32)), iv p0, rv b_1, rv w_UNREACHABLE, rv b14, u_] [(.int (410 : Int32)), (.int p0)])) _
              refine XS.icmpYes X15.here hx rfl (pc0 := 87) (pc' := 94) rfl (hb hby at_87) rfl (feq (hc87 : ¬ (p0 = (410 : Int32)))).2 (by decide) (by decide) ?_
              show Steps p.tables e below (T15.setTop (mkF m 94 #[iv p0, iv p1, iv p2, iv (p1 &&& (3 : Int32)), iv p0, rv b_1, rv w_UNREACHABLE, rv b14, u_] [])) _
              refine XS.iconst X15.here hx rfl (hb hby at_94) ?_
              show Steps p.tables e below (T15.setTop (mkF m 95 #[iv p0, iv p1, iv p2, iv (p1 &&& (3 : Int32)), iv p0, rv b_1, rv w_UNREACHABLE, rv b14, u_] [(.int (0 : Int32))])) _
              refine XS.istore X15.here hx rfl (hb hby at_95) rfl (l' := #[iv p0, iv p1, iv p2, iv (p1 &&& (3 : Int32)), iv p0, rv b_1, rv w_UNREACHABLE, rv b14, iv (0 : Int32)]) rfl ?_
              show Steps p.tables e below (T15.setTop (mkF m 97 #[iv p0, iv p1, iv p2, iv (p1 &&& (3 : Int32)), iv p0, rv b_1, rv w_UNREACHABLE, rv b14, iv (0 : Int32)] [])) _
              refine XS.aload X15.here hx rfl (hb hby at_97) rfl rfl ?_
              exact k
            obtain ⟨cq17, kq17, q17a, q17b, q17c⟩ := isOf hZ (Eq.refl T15.heap) E_b14
            obtain ⟨_, _, ⟨T17, L17, k17, n17⟩, -, X17, ⟨Lc17, hQ17, l17, y17, z17⟩, st17⟩ := X15.virtualBack hx (y := (⟨"com/example/loomlist/loomlist/store/WebhookAnswer", "gone", "()Z"⟩ : MethodName)) (z := (⟨"com/example/loomlist/loomlist/store/WebhookAnswer", "gone", "()Z"⟩ : MethodName)) hown (mvT hZ (own_w hw 46 rfl)) (mvT hZ (own_w hw 47 rfl)) (notFace_of_selects (args := #[]) (mvT hZ (own_w hw 49 rfl))) (mvT hZ (own_w hw 49 rfl)) (mvT hZ (own_w hw 48 rfl)) (by decide) (backOf (W := 0) (rmG1 l Z a0 hw [] b14 b_1 p0 T15.heap n0 O F_15 E_1 F_1 hc87) hZ (own_w hw 50 rfl) (own_w hw 32 rfl) (by decide) (by decide)) q17a q17c (g := (mkF m 99 #[iv p0, iv p1, iv p2, iv (p1 &&& (3 : Int32)), iv p0, rv b_1, rv w_UNREACHABLE, rv b14, iv (0 : Int32)] [(.ref b14)])) rfl (by rw [hml]; rfl) (Steps.refl _) (argsL := []) (rest := []) (lenOf pd__28_29Z rfl) rfl (by show 2 * 0 + _ ≤ _; exact Nat.le_of_eq rfl) (hb hby at_99) (fun _ _ => ⟨rfl, (Eq.refl T15.heap), (by decide : 2 + 0 ≤ _), (by decide : 3 + 0 ≤ _)⟩)
            dsimp only [Pt.U, Pt.locs, Pt.cells, Pt.slots] at X17 l17 y17 z17 st17 hQ17
            subst l17 y17 z17
            obtain ⟨rfl, Nq17, e17⟩ := hQ17
            have N17 := Fr.app N15 Nq17
            refine Go.step (fun t k => st17.trans k) ?_
            show Go p e below _ (T17.setTop (mkF m 102 #[iv p0, iv p1, iv p2, iv (p1 &&& (3 : Int32)), iv p0, rv b_1, rv w_UNREACHABLE, rv b14, iv (0 : Int32)] [(.int (0 : Int32))]))
            refine Go.step (S' := T17.setTop (mkF m 112 #[iv p0, iv p1, iv p2, iv (p1 &&& (3 : Int32)), iv p0, rv b_1, rv w_UNREACHABLE, rv b14, iv (0 : Int32)] [(.int (1 : Int32))])) (fun t k => ?_) ?_
            · show Steps p.tables e below (T17.setTop (mkF m 102 #[iv p0, iv p1, iv p2, iv (p1 &&& (3 : Int32)), iv p0, rv b_1, rv w_UNREACHABLE, rv b14, iv (0 : Int32)] [(.int (0 : Int32))])) _
              refine XS.iload X17.here hx rfl (hb hby at_102) rfl ?_
              show Steps p.tables e below (T17.setTop (mkF m 104 #[iv p0, iv p1, iv p2, iv (p1 &&& (3 : Int32)), iv p0, rv b_1, rv w_UNREACHABLE, rv b14, iv (0 : Int32)] [(.int (0 : Int32)), (.int (0 : Int32))])) _
              refine XS.icmpNo X17.here hx rfl (hb hby at_104) rfl (teq ((by decide) : (0 : Int32) = (0 : Int32))).2 ?_
              show Steps p.tables e below (T17.setTop (mkF m 107 #[iv p0, iv p1, iv p2, iv (p1 &&& (3 : Int32)), iv p0, rv b_1, rv w_UNREACHABLE, rv b14, iv (0 : Int32)] [])) _
              refine XS.iconst X17.here hx rfl (hb hby at_107) ?_
              show Steps p.tables e below (T17.setTop (mkF m 108 #[iv p0, iv p1, iv p2, iv (p1 &&& (3 : Int32)), iv p0, rv b_1, rv w_UNREACHABLE, rv b14, iv (0 : Int32)] [(.int (1 : Int32))])) _
              refine XS.goto X17.here hx rfl (pc0 := 108) (pc' := 112) rfl (hb hby at_108) (by decide) (by decide) ?_
              exact k
            obtain ⟨fs, hr, hrun, hended, hW, hsame⟩ := X17.leave (v := some (.int (1 : Int32))) (fun h => by rw [Bd.returns] at h; cases h)
            refine Go.fin (S' := T17.setFrames fs) ?_ hrun hended ⟨_, _, rfl, ?_, ⟨_, rfl⟩, hW, hsame.mono (by decide) (by decide)⟩
            · exact retOut X17 hx Bd.returns (by decide) (Or.inl ⟨rfl, Or.inr (Or.inl rfl), _, rfl⟩) (hb hby at_112) hr
            · show Q_rm0 Z p0 p1 p2 w_TIMEOUT w_UNREACHABLE w_REFUSED w_cache cl h0 n0 (some (.int (1 : Int32))) T17.heap _
              rw [e17]
              exact ⟨rfl, N17, K⟩
        · skip
          obtain ⟨_, _, ⟨T18, L18, k18, n18⟩, -, X18, ⟨Lc18, hQ18, l18, y18, z18⟩, st18⟩ := Jvm.LawKit.callS X1 hx (y := (⟨"com/example/loomlist/loomlist/store/WebhookAnswerGonePinLaw", "failure", "(I)Lcom/example/loomlist/loomlist/store/WebhookAnswer$Failure;"⟩ : MethodName)) hown (mvT hZ (own_w hw 23 rfl)) (mvT hZ (own_w hw 24 rfl)) (mvT hZ (own_w hw 25 rfl)) (mvT hZ (own_w hw 26 rfl)) (by decide) (backOf (W := 0) (rmF3 l Z a0 hw [] (p2 &&& (3 : Int32)) w_TIMEOUT w_UNREACHABLE w_REFUSED T1.heap n0 O S_TIMEOUT S_UNREACHABLE S_REFUSED hf0_2 hf1_2 hf2_2) hZ (own_w hw 26 rfl) (own_w hw 25 rfl) (by decide) (by decide)) (g := (mkF m 54 #[iv p0, iv p1, iv p2, iv (p1 &&& (3 : Int32)), iv p0, rv b_1, u_, u_, u_] [(.int (p2 &&& (3 : Int32)))])) rfl (by rw [hml]; rfl) (argsL := [(.int (p2 &&& (3 : Int32)))]) (rest := []) (lenOf pd__28I_29Lcom_2fexample_2floomlist_2floomlist_2fstore_2fWebhookAnswer_24Failure_3b rfl) rfl (by show 2 * 0 + _ ≤ _; exact Nat.le_of_eq rfl) (hb hby at_54) (fun _ _ => ⟨rfl, (Eq.refl T1.heap), (by decide : 1 + 0 ≤ _), (by decide : 1 + 0 ≤ _)⟩)
          dsimp only [Pt.U, Pt.locs, Pt.cells, Pt.slots] at X18 l18 y18 z18 st18 hQ18
          subst l18 y18 z18
          obtain ⟨rfl, Nq18, e18⟩ := hQ18
          have N18 := Fr.app N1 Nq18
          refine Go.step st18 ?_
          show Go p e below _ (T18.setTop (mkF m 57 #[iv p0, iv p1, iv p2, iv (p1 &&& (3 : Int32)), iv p0, rv b_1, u_, u_, u_] [(.ref w_REFUSED)]))
          refine Go.step (S' := T18.setTop (mkF m 59 #[iv p0, iv p1, iv p2, iv (p1 &&& (3 : Int32)), iv p0, rv b_1, rv w_REFUSED, u_, u_] [])) (fun t k => ?_) ?_
          · show Steps p.tables e below (T18.setTop (mkF m 57 #[iv p0, iv p1, iv p2, iv (p1 &&& (3 : Int32)), iv p0, rv b_1, u_, u_, u_] [(.ref w_REFUSED)])) _
            refine XS.astore X18.here hx rfl (hb hby at_57) rfl rfl (l' := #[iv p0, iv p1, iv p2, iv (p1 &&& (3 : Int32)), iv p0, rv b_1, rv w_REFUSED, u_, u_]) rfl ?_
            exact k
          obtain ⟨T19, h19, X19, e19, E19, A19, D19, -, st19⟩ := newO X18 hx hZ hown (own_w hw 30 rfl) (own_w hw 31 rfl) (own_w hw 32 rfl) e18 (g := (mkF m 59 #[iv p0, iv p1, iv p2, iv (p1 &&& (3 : Int32)), iv p0, rv b_1, rv w_REFUSED, u_, u_] [])) rfl (hb hby at_59) (by decide) (by decide)
          obtain ⟨b19, g19⟩ : ∃ z, z = Array.size T1.heap := ⟨_, rfl⟩
          have g_b19 : n0 ≤ b19 := Nat.le_trans (old_le O) (Nat.le_of_eq g19.symm)
          have sz_b19 : h0.size ≤ b19 := Nat.le_trans K.1 (Nat.le_of_eq g19.symm)
          have ne_b_1_b19 : b_1 ≠ b19 := Nat.ne_of_lt (Nat.lt_of_lt_of_le E_1.lt (Nat.le_of_eq g19.symm))
          rw [← g19] at A19 D19 st19
          have O := O.ext E19
          have K := K.ext E19
          have E_1 := E_1.ext E19
          have F_1 := F_1.ext E19
          have E_b19 := A19
          have F_status_b19 : Fld Z h19 b19 "com/example/loomlist/loomlist/store/WebhookAnswer" "status" "Ljava/lang/Integer;" .null := D19 (Or.inr (own_w hw 43 rfl)) (ty := (.object "java/lang/Integer")) (by decide)
          have F_failure_b19 : Fld Z h19 b19 "com/example/loomlist/loomlist/store/WebhookAnswer" "failure" "Lcom/example/loomlist/loomlist/store/WebhookAnswer$Failure;" .null := D19 (Or.inr (own_w hw 45 rfl)) (ty := (.object "com/example/loomlist/loomlist/store/WebhookAnswer$Failure")) (by decide)
          refine Go.step st19 ?_
          show Go p e below _ (T19.setTop (mkF m 62 #[iv p0, iv p1, iv p2, iv (p1 &&& (3 : Int32)), iv p0, rv b_1, rv w_REFUSED, u_, u_] [(.ref b19)]))
          refine Go.step (S' := T19.setTop (mkF m 67 #[iv p0, iv p1, iv p2, iv (p1 &&& (3 : Int32)), iv p0, rv b_1, rv w_REFUSED, u_, u_] [(.ref w_REFUSED), (.ref b_1), (.ref b19), (.ref b19)])) (fun t k => ?_) ?_
          · show Steps p.tables e below (T19.setTop (mkF m 62 #[iv p0, iv p1, iv p2, iv (p1 &&& (3 : Int32)), iv p0, rv b_1, rv w_REFUSED, u_, u_] [(.ref b19)])) _
            refine XS.dup X19.here hx rfl (hb hby at_62) rfl rfl ?_
            show Steps p.tables e below (T19.setTop (mkF m 63 #[iv p0, iv p1, iv p2, iv (p1 &&& (3 : Int32)), iv p0, rv b_1, rv w_REFUSED, u_, u_] [(.ref b19), (.ref b19)])) _
            refine XS.aload X19.here hx rfl (hb hby at_63) rfl rfl ?_
            show Steps p.tables e below (T19.setTop (mkF m 65 #[iv p0, iv p1, iv p2, iv (p1 &&& (3 : Int32)), iv p0, rv b_1, rv w_REFUSED, u_, u_] [(.ref b_1), (.ref b19), (.ref b19)])) _
            refine XS.aload X19.here hx rfl (hb hby at_65) rfl rfl ?_
            exact k
          obtain ⟨_, _, ⟨T20, L20, k20, n20⟩, -, X20, ⟨Lc20, hQ20, l20, y20, z20⟩, st20⟩ := X19.specialBack hx (y := (⟨"com/example/loomlist/loomlist/store/WebhookAnswer", "<init>", "(Ljava/lang/Integer;Lcom/example/loomlist/loomlist/store/WebhookAnswer$Failure;)V"⟩ : MethodName)) rfl hown (mvT hZ (own_w hw 33 rfl)) (mvT hZ (own_w hw 34 rfl)) (mvT hZ (own_w hw 35 rfl)) (by decide) (backOf (W := 1) (rmW3 l Z a0 hw [] b19 b_1 w_REFUSED h19 n0 O E_b19 F_status_b19 F_failure_b19 (by assumption)) hZ (own_w hw 35 rfl) (own_w hw 32 rfl) (by decide) (by decide)) (g := (mkF m 67 #[iv p0, iv p1, iv p2, iv (p1 &&& (3 : Int32)), iv p0, rv b_1, rv w_REFUSED, u_, u_] [(.ref w_REFUSED), (.ref b_1), (.ref b19), (.ref b19)])) rfl (by rw [hml]; rfl) (Steps.refl _) (a := b19) (argsL := [(.ref b_1), (.ref w_REFUSED)]) (rest := [(.ref b19)]) (lenOf pd__28Ljava_2flang_2fInteger_3bLcom_2fexample_2floomlist_2floomlist_2fstore_2fWebhookAnswer_24Failure_3b_29V rfl) rfl (by show 2 * 0 + _ ≤ _; exact Nat.le_of_eq rfl) (hb hby at_67) (fun _ _ => ⟨rfl, e19, (by decide : 2 + 0 ≤ _), (by decide : 3 + 0 ≤ _)⟩)
          dsimp only [Pt.U, Pt.locs, Pt.cells, Pt.slots] at X20 l20 y20 z20 st20 hQ20
          subst l20 y20 z20
          obtain ⟨rfl, Nq20, K20, P20_E, P20_F⟩ := hQ20
          have N20 := Fr.app N18 Nq20
          have O := O.keep K20 (allS g_b19 all0)
          have K := K.trans K20 (allS (Or.inr sz_b19) all0)
          have E_1 := E_1.keep K20
          have F_1 := F_1.keep K20 (ninS ne_b_1_b19 nin0)
          have E_b19 := E_b19.keep K20
          have E_20 := P20_E
          have F_20 := P20_F
          refine Go.step (fun t k => st20.trans k) ?_
          show Go p e below _ (T20.setTop (mkF m 70 #[iv p0, iv p1, iv p2, iv (p1 &&& (3 : Int32)), iv p0, rv b_1, rv w_REFUSED, u_, u_] [(.ref b19)]))
          refine Go.step (S' := T20.setTop (mkF m 87 #[iv p0, iv p1, iv p2, iv (p1 &&& (3 : Int32)), iv p0, rv b_1, rv w_REFUSED, rv b19, u_] [(.int (410 : Int32)), (.int p0)])) (fun t k => ?_) ?_
          · show Steps p.tables e below (T20.setTop (mkF m 70 #[iv p0, iv p1, iv p2, iv (p1 &&& (3 : Int32)), iv p0, rv b_1, rv w_REFUSED, u_, u_] [(.ref b19)])) _
            refine XS.astore X20.here hx rfl (hb hby at_70) rfl rfl (l' := #[iv p0, iv p1, iv p2, iv (p1 &&& (3 : Int32)), iv p0, rv b_1, rv w_REFUSED, rv b19, u_]) rfl ?_
            show Steps p.tables e below (T20.setTop (mkF m 72 #[iv p0, iv p1, iv p2, iv (p1 &&& (3 : Int32)), iv p0, rv b_1, rv w_REFUSED, rv b19, u_] [])) _
            refine XS.iloadN X20.here hx rfl (hb hby at_72) rfl ?_
            show Steps p.tables e below (T20.setTop (mkF m 73 #[iv p0, iv p1, iv p2, iv (p1 &&& (3 : Int32)), iv p0, rv b_1, rv w_REFUSED, rv b19, u_] [(.int (p1 &&& (3 : Int32)))])) _
            refine XS.ifYes X20.here hx rfl (pc0 := 73) (pc' := 82) rfl (hb hby at_73) rfl ((if0 _ _).trans (feq ((fun q => absurd (hc6.symm.trans q) (by decide)) : ¬ ((p1 &&& (3 : Int32)) = (0 : Int32)))).2) (by decide) (by decide) ?_
            show Steps p.tables e below (T20.setTop (mkF m 82 #[iv p0, iv p1, iv p2, iv (p1 &&& (3 : Int32)), iv p0, rv b_1, rv w_REFUSED, rv b19, u_] [])) _
            refine XS.iload X20.here hx rfl (hb hby at_82) rfl ?_
            show Steps p.tables e below (T20.setTop (mkF m 84 #[iv p0, iv p1, iv p2, iv (p1 &&& (3 : Int32)), iv p0, rv b_1, rv w_REFUSED, rv b19, u_] [(.int p0)])) _
            refine XS.sipush X20.here hx rfl (hb hby at_84) ?_
            exact k
          by_cases hc87 : p0 = (410 : Int32)
          · skip
            refine Go.step (S' := T20.setTop (mkF m 99 #[iv p0, iv p1, iv p2, iv (p1 &&& (3 : Int32)), iv p0, rv b_1, rv w_REFUSED, rv b19, iv (1 : Int32)] [(.ref b19)])) (fun t k => ?_) ?_
            · show Steps p.tables e below (T20.setTop (mkF m 87 #[iv p0, iv p1, iv p2, iv (p1 &&& (3 : Int32)), iv p0, rv b_1, rv w_REFUSED, rv b19, u_] [(.int (410 : Int32)), (.int p0)])) _
              refine XS.icmpNo X20.here hx rfl (hb hby at_87) rfl (teq (hc87 : p0 = (410 : Int32))).2 ?_
              show Steps p.tables e below (T20.setTop (mkF m 90 #[iv p0, iv p1, iv p2, iv (p1 &&& (3 : Int32)), iv p0, rv b_1, rv w_REFUSED, rv b19, u_] [])) _
              refine XS.iconst X20.here hx rfl (hb hby at_90) ?_
              show Steps p.tables e below (T20.setTop (mkF m 91 #[iv p0, iv p1, iv p2, iv (p1 &&& (3 : Int32)), iv p0, rv b_1, rv w_REFUSED, rv b19, u_] [(.int (1 : Int32))])) _
              refine XS.goto X20.here hx rfl (pc0 := 91) (pc' := 95) rfl (hb hby at_91) (by decide) (by decide) ?_
              show Steps p.tables e below (T20.setTop (mkF m 95 #[iv p0, iv p1, iv p2, iv (p1 &&& (3 : Int32)), iv p0, rv b_1, rv w_REFUSED, rv b19, u_] [(.int (1 : Int32))])) _
              refine XS.istore X20.here hx rfl (hb hby at_95) rfl (l' := #[iv p0, iv p1, iv p2, iv (p1 &&& (3 : Int32)), iv p0, rv b_1, rv w_REFUSED, rv b19, iv (1 : Int32)]) rfl ?_
              show Steps p.tables e below (T20.setTop (mkF m 97 #[iv p0, iv p1, iv p2, iv (p1 &&& (3 : Int32)), iv p0, rv b_1, rv w_REFUSED, rv b19, iv (1 : Int32)] [])) _
              refine XS.aload X20.here hx rfl (hb hby at_97) rfl rfl ?_
              exact k
            obtain ⟨cq21, kq21, q21a, q21b, q21c⟩ := isOf hZ (Eq.refl T20.heap) E_b19
            obtain ⟨_, _, ⟨T21, L21, k21, n21⟩, -, X21, ⟨Lc21, hQ21, l21, y21, z21⟩, st21⟩ := X20.virtualBack hx (y := (⟨"com/example/loomlist/loomlist/store/WebhookAnswer", "gone", "()Z"⟩ : MethodName)) (z := (⟨"com/example/loomlist/loomlist/store/WebhookAnswer", "gone", "()Z"⟩ : MethodName)) hown (mvT hZ (own_w hw 46 rfl)) (mvT hZ (own_w hw 47 rfl)) (notFace_of_selects (args := #[]) (mvT hZ (own_w hw 49 rfl))) (mvT hZ (own_w hw 49 rfl)) (mvT hZ (own_w hw 48 rfl)) (by decide) (backOf (W := 0) (rmG0 l Z a0 hw [] b19 b_1 p0 T20.heap n0 O F_20 E_1 F_1 hc87) hZ (own_w hw 50 rfl) (own_w hw 32 rfl) (by decide) (by decide)) q21a q21c (g := (mkF m 99 #[iv p0, iv p1, iv p2, iv (p1 &&& (3 : Int32)), iv p0, rv b_1, rv w_REFUSED, rv b19, iv (1 : Int32)] [(.ref b19)])) rfl (by rw [hml]; rfl) (Steps.refl _) (argsL := []) (rest := []) (lenOf pd__28_29Z rfl) rfl (by show 2 * 0 + _ ≤ _; exact Nat.le_of_eq rfl) (hb hby at_99) (fun _ _ => ⟨rfl, (Eq.refl T20.heap), (by decide : 2 + 0 ≤ _), (by decide : 3 + 0 ≤ _)⟩)
            dsimp only [Pt.U, Pt.locs, Pt.cells, Pt.slots] at X21 l21 y21 z21 st21 hQ21
            subst l21 y21 z21
            obtain ⟨rfl, Nq21, e21⟩ := hQ21
            have N21 := Fr.app N20 Nq21
            refine Go.step (fun t k => st21.trans k) ?_
            show Go p e below _ (T21.setTop (mkF m 102 #[iv p0, iv p1, iv p2, iv (p1 &&& (3 : Int32)), iv p0, rv b_1, rv w_REFUSED, rv b19, iv (1 : Int32)] [(.int (1 : Int32))]))
            refine Go.step (S' := T21.setTop (mkF m 112 #[iv p0, iv p1, iv p2, iv (p1 &&& (3 : Int32)), iv p0, rv b_1, rv w_REFUSED, rv b19, iv (1 : Int32)] [(.int (1 : Int32))])) (fun t k => ?_) ?_
            · show Steps p.tables e below (T21.setTop (mkF m 102 #[iv p0, iv p1, iv p2, iv (p1 &&& (3 : Int32)), iv p0, rv b_1, rv w_REFUSED, rv b19, iv (1 : Int32)] [(.int (1 : Int32))])) _
              refine XS.iload X21.here hx rfl (hb hby at_102) rfl ?_
              show Steps p.tables e below (T21.setTop (mkF m 104 #[iv p0, iv p1, iv p2, iv (p1 &&& (3 : Int32)), iv p0, rv b_1, rv w_REFUSED, rv b19, iv (1 : Int32)] [(.int (1 : Int32)), (.int (1 : Int32))])) _
              refine XS.icmpNo X21.here hx rfl (hb hby at_104) rfl (teq ((by decide) : (1 : Int32) = (1 : Int32))).2 ?_
              show Steps p.tables e below (T21.setTop (mkF m 107 #[iv p0, iv p1, iv p2, iv (p1 &&& (3 : Int32)), iv p0, rv b_1, rv w_REFUSED, rv b19, iv (1 : Int32)] [])) _
              refine XS.iconst X21.here hx rfl (hb hby at_107) ?_
              show Steps p.tables e below (T21.setTop (mkF m 108 #[iv p0, iv p1, iv p2, iv (p1 &&& (3 : Int32)), iv p0, rv b_1, rv w_REFUSED, rv b19, iv (1 : Int32)] [(.int (1 : Int32))])) _
              refine XS.goto X21.here hx rfl (pc0 := 108) (pc' := 112) rfl (hb hby at_108) (by decide) (by decide) ?_
              exact k
            obtain ⟨fs, hr, hrun, hended, hW, hsame⟩ := X21.leave (v := some (.int (1 : Int32))) (fun h => by rw [Bd.returns] at h; cases h)
            refine Go.fin (S' := T21.setFrames fs) ?_ hrun hended ⟨_, _, rfl, ?_, ⟨_, rfl⟩, hW, hsame.mono (by decide) (by decide)⟩
            · exact retOut X21 hx Bd.returns (by decide) (Or.inl ⟨rfl, Or.inr (Or.inl rfl), _, rfl⟩) (hb hby at_112) hr
            · show Q_rm0 Z p0 p1 p2 w_TIMEOUT w_UNREACHABLE w_REFUSED w_cache cl h0 n0 (some (.int (1 : Int32))) T21.heap _
              rw [e21]
              exact ⟨rfl, N21, K⟩
          · skip
            refine Go.step (S' := T20.setTop (mkF m 99 #[iv p0, iv p1, iv p2, iv (p1 &&& (3 : Int32)), iv p0, rv b_1, rv w_REFUSED, rv b19, iv (0 : Int32)] [(.ref b19)])) (fun t k => ?_) ?_
            · show Steps p.tables e below (T20.setTop (mkF m 87 #[iv p0, iv p1, iv p2, iv (p1 &&& (3 : Int32)), iv p0, rv b_1, rv w_REFUSED, rv b19, u_] [(.int (410 : Int32)), (.int p0)])) _
              refine XS.icmpYes X20.here hx rfl (pc0 := 87) (pc' := 94) rfl (hb hby at_87) rfl (feq (hc87 : ¬ (p0 = (410 : Int32)))).2 (by decide) (by decide) ?_
              show Steps p.tables e below (T20.setTop (mkF m 94 #[iv p0, iv p1, iv p2, iv (p1 &&& (3 : Int32)), iv p0, rv b_1, rv w_REFUSED, rv b19, u_] [])) _
              refine XS.iconst X20.here hx rfl (hb hby at_94) ?_
              show Steps p.tables e below (T20.setTop (mkF m 95 #[iv p0, iv p1, iv p2, iv (p1 &&& (3 : Int32)), iv p0, rv b_1, rv w_REFUSED, rv b19, u_] [(.int (0 : Int32))])) _
              refine XS.istore X20.here hx rfl (hb hby at_95) rfl (l' := #[iv p0, iv p1, iv p2, iv (p1 &&& (3 : Int32)), iv p0, rv b_1, rv w_REFUSED, rv b19, iv (0 : Int32)]) rfl ?_
              show Steps p.tables e below (T20.setTop (mkF m 97 #[iv p0, iv p1, iv p2, iv (p1 &&& (3 : Int32)), iv p0, rv b_1, rv w_REFUSED, rv b19, iv (0 : Int32)] [])) _
              refine XS.aload X20.here hx rfl (hb hby at_97) rfl rfl ?_
              exact k
            obtain ⟨cq22, kq22, q22a, q22b, q22c⟩ := isOf hZ (Eq.refl T20.heap) E_b19
            obtain ⟨_, _, ⟨T22, L22, k22, n22⟩, -, X22, ⟨Lc22, hQ22, l22, y22, z22⟩, st22⟩ := X20.virtualBack hx (y := (⟨"com/example/loomlist/loomlist/store/WebhookAnswer", "gone", "()Z"⟩ : MethodName)) (z := (⟨"com/example/loomlist/loomlist/store/WebhookAnswer", "gone", "()Z"⟩ : MethodName)) hown (mvT hZ (own_w hw 46 rfl)) (mvT hZ (own_w hw 47 rfl)) (notFace_of_selects (args := #[]) (mvT hZ (own_w hw 49 rfl))) (mvT hZ (own_w hw 49 rfl)) (mvT hZ (own_w hw 48 rfl)) (by decide) (backOf (W := 0) (rmG1 l Z a0 hw [] b19 b_1 p0 T20.heap n0 O F_20 E_1 F_1 hc87) hZ (own_w hw 50 rfl) (own_w hw 32 rfl) (by decide) (by decide)) q22a q22c (g := (mkF m 99 #[iv p0, iv p1, iv p2, iv (p1 &&& (3 : Int32)), iv p0, rv b_1, rv w_REFUSED, rv b19, iv (0 : Int32)] [(.ref b19)])) rfl (by rw [hml]; rfl) (Steps.refl _) (argsL := []) (rest := []) (lenOf pd__28_29Z rfl) rfl (by show 2 * 0 + _ ≤ _; exact Nat.le_of_eq rfl) (hb hby at_99) (fun _ _ => ⟨rfl, (Eq.refl T20.heap), (by decide : 2 + 0 ≤ _), (by decide : 3 + 0 ≤ _)⟩)
            dsimp only [Pt.U, Pt.locs, Pt.cells, Pt.slots] at X22 l22 y22 z22 st22 hQ22
            subst l22 y22 z22
            obtain ⟨rfl, Nq22, e22⟩ := hQ22
            have N22 := Fr.app N20 Nq22
            refine Go.step (fun t k => st22.trans k) ?_
            show Go p e below _ (T22.setTop (mkF m 102 #[iv p0, iv p1, iv p2, iv (p1 &&& (3 : Int32)), iv p0, rv b_1, rv w_REFUSED, rv b19, iv (0 : Int32)] [(.int (0 : Int32))]))
            refine Go.step (S' := T22.setTop (mkF m 112 #[iv p0, iv p1, iv p2, iv (p1 &&& (3 : Int32)), iv p0, rv b_1, rv w_REFUSED, rv b19, iv (0 : Int32)] [(.int (1 : Int32))])) (fun t k => ?_) ?_
            · show Steps p.tables e below (T22.setTop (mkF m 102 #[iv p0, iv p1, iv p2, iv (p1 &&& (3 : Int32)), iv p0, rv b_1, rv w_REFUSED, rv b19, iv (0 : Int32)] [(.int (0 : Int32))])) _
              refine XS.iload X22.here hx rfl (hb hby at_102) rfl ?_
              show Steps p.tables e below (T22.setTop (mkF m 104 #[iv p0, iv p1, iv p2, iv (p1 &&& (3 : Int32)), iv p0, rv b_1, rv w_REFUSED, rv b19, iv (0 : Int32)] [(.int (0 : Int32)), (.int (0 : Int32))])) _
              refine XS.icmpNo X22.here hx rfl (hb hby at_104) rfl (teq ((by decide) : (0 : Int32) = (0 : Int32))).2 ?_
              show Steps p.tables e below (T22.setTop (mkF m 107 #[iv p0, iv p1, iv p2, iv (p1 &&& (3 : Int32)), iv p0, rv b_1, rv w_REFUSED, rv b19, iv (0 : Int32)] [])) _
              refine XS.iconst X22.here hx rfl (hb hby at_107) ?_
              show Steps p.tables e below (T22.setTop (mkF m 108 #[iv p0, iv p1, iv p2, iv (p1 &&& (3 : Int32)), iv p0, rv b_1, rv w_REFUSED, rv b19, iv (0 : Int32)] [(.int (1 : Int32))])) _
              refine XS.goto X22.here hx rfl (pc0 := 108) (pc' := 112) rfl (hb hby at_108) (by decide) (by decide) ?_
              exact k
            obtain ⟨fs, hr, hrun, hended, hW, hsame⟩ := X22.leave (v := some (.int (1 : Int32))) (fun h => by rw [Bd.returns] at h; cases h)
            refine Go.fin (S' := T22.setFrames fs) ?_ hrun hended ⟨_, _, rfl, ?_, ⟨_, rfl⟩, hW, hsame.mono (by decide) (by decide)⟩
            · exact retOut X22 hx Bd.returns (by decide) (Or.inl ⟨rfl, Or.inr (Or.inl rfl), _, rfl⟩) (hb hby at_112) hr
            · show Q_rm0 Z p0 p1 p2 w_TIMEOUT w_UNREACHABLE w_REFUSED w_cache cl h0 n0 (some (.int (1 : Int32))) T22.heap _
              rw [e22]
              exact ⟨rfl, N22, K⟩
  · skip
    refine Go.step (S' := s₁.setTop (mkF m 17 #[iv p0, iv p1, iv p2, iv (p1 &&& (3 : Int32)), u_, u_, u_, u_, u_] [(.int (2 : Int32)), (.int (p1 &&& (3 : Int32)))])) (fun t k => ?_) ?_
    · show Steps p.tables e below (s₁.setTop (mkF m 6 #[iv p0, iv p1, iv p2, iv (p1 &&& (3 : Int32)), u_, u_, u_, u_, u_] [(.int (1 : Int32)), (.int (p1 &&& (3 : Int32)))])) _
      refine XS.icmpYes X0.here hx rfl (pc0 := 6) (pc' := 15) rfl (hb hby at_6) rfl (feq (hc6 : ¬ ((p1 &&& (3 : Int32)) = (1 : Int32)))).2 (by decide) (by decide) ?_
      show Steps p.tables e below (s₁.setTop (mkF m 15 #[iv p0, iv p1, iv p2, iv (p1 &&& (3 : Int32)), u_, u_, u_, u_, u_] [])) _
      refine XS.iloadN X0.here hx rfl (hb hby at_15) rfl ?_
      show Steps p.tables e below (s₁.setTop (mkF m 16 #[iv p0, iv p1, iv p2, iv (p1 &&& (3 : Int32)), u_, u_, u_, u_, u_] [(.int (p1 &&& (3 : Int32)))])) _
      refine XS.iconst X0.here hx rfl (hb hby at_16) ?_
      exact k
    by_cases hc17 : (p1 &&& (3 : Int32)) = (2 : Int32)
    · skip
      refine Go.step (S' := s₁.setTop (mkF m 46 #[iv p0, iv p1, iv p2, iv (p1 &&& (3 : Int32)), iv ((408 : Int32) + (p0 &&& (3 : Int32))), .val .null, u_, u_, u_] [(.int ((408 : Int32) + (p0 &&& (3 : Int32))))])) (fun t k => ?_) ?_
      · show Steps p.tables e below (s₁.setTop (mkF m 17 #[iv p0, iv p1, iv p2, iv (p1 &&& (3 : Int32)), u_, u_, u_, u_, u_] [(.int (2 : Int32)), (.int (p1 &&& (3 : Int32)))])) _
        refine XS.icmpNo X0.here hx rfl (hb hby at_17) rfl (teq (hc17 : (p1 &&& (3 : Int32)) = (2 : Int32))).2 ?_
        show Steps p.tables e below (s₁.setTop (mkF m 20 #[iv p0, iv p1, iv p2, iv (p1 &&& (3 : Int32)), u_, u_, u_, u_, u_] [])) _
        refine XS.sipush X0.here hx rfl (hb hby at_20) ?_
        show Steps p.tables e below (s₁.setTop (mkF m 23 #[iv p0, iv p1, iv p2, iv (p1 &&& (3 : Int32)), u_, u_, u_, u_, u_] [(.int (408 : Int32))])) _
        refine XS.iloadN X0.here hx rfl (hb hby at_23) rfl ?_
        show Steps p.tables e below (s₁.setTop (mkF m 24 #[iv p0, iv p1, iv p2, iv (p1 &&& (3 : Int32)), u_, u_, u_, u_, u_] [(.int p0), (.int (408 : Int32))])) _
        refine XS.iconst X0.here hx rfl (hb hby at_24) ?_
        show Steps p.tables e below (s₁.setTop (mkF m 25 #[iv p0, iv p1, iv p2, iv (p1 &&& (3 : Int32)), u_, u_, u_, u_, u_] [(.int (3 : Int32)), (.int p0), (.int (408 : Int32))])) _
        refine XS.iand X0.here hx rfl (hb hby at_25) rfl ?_
        show Steps p.tables e below (s₁.setTop (mkF m 26 #[iv p0, iv p1, iv p2, iv (p1 &&& (3 : Int32)), u_, u_, u_, u_, u_] [(.int (p0 &&& (3 : Int32))), (.int (408 : Int32))])) _
        refine XS.iadd X0.here hx rfl (hb hby at_26) rfl ?_
        show Steps p.tables e below (s₁.setTop (mkF m 27 #[iv p0, iv p1, iv p2, iv (p1 &&& (3 : Int32)), u_, u_, u_, u_, u_] [(.int ((408 : Int32) + (p0 &&& (3 : Int32))))])) _
        refine XS.istore X0.here hx rfl (hb hby at_27) rfl (l' := #[iv p0, iv p1, iv p2, iv (p1 &&& (3 : Int32)), iv ((408 : Int32) + (p0 &&& (3 : Int32))), u_, u_, u_, u_]) rfl ?_
        show Steps p.tables e below (s₁.setTop (mkF m 29 #[iv p0, iv p1, iv p2, iv (p1 &&& (3 : Int32)), iv ((408 : Int32) + (p0 &&& (3 : Int32))), u_, u_, u_, u_] [])) _
        refine XS.goto X0.here hx rfl (pc0 := 29) (pc' := 37) rfl (hb hby at_29) (by decide) (by decide) ?_
        show Steps p.tables e below (s₁.setTop (mkF m 37 #[iv p0, iv p1, iv p2, iv (p1 &&& (3 : Int32)), iv ((408 : Int32) + (p0 &&& (3 : Int32))), u_, u_, u_, u_] [])) _
        refine XS.aconstNull X0.here hx rfl (hb hby at_37) ?_
        show Steps p.tables e below (s₁.setTop (mkF m 38 #[iv p0, iv p1, iv p2, iv (p1 &&& (3 : Int32)), iv ((408 : Int32) + (p0 &&& (3 : Int32))), u_, u_, u_, u_] [.null])) _
        refine XS.astore X0.here hx rfl (hb hby at_38) rfl rfl (l' := #[iv p0, iv p1, iv p2, iv (p1 &&& (3 : Int32)), iv ((408 : Int32) + (p0 &&& (3 : Int32))), .val .null, u_, u_, u_]) rfl ?_
        show Steps p.tables e below (s₁.setTop (mkF m 40 #[iv p0, iv p1, iv p2, iv (p1 &&& (3 : Int32)), iv ((408 : Int32) + (p0 &&& (3 : Int32))), .val .null, u_, u_, u_] [])) _
        refine XS.iloadN X0.here hx rfl (hb hby at_40) rfl ?_
        show Steps p.tables e below (s₁.setTop (mkF m 41 #[iv p0, iv p1, iv p2, iv (p1 &&& (3 : Int32)), iv ((408 : Int32) + (p0 &&& (3 : Int32))), .val .null, u_, u_, u_] [(.int (p1 &&& (3 : Int32)))])) _
        refine XS.ifNo X0.here hx rfl (hb hby at_41) rfl ((if0 _ _).trans (feq ((fun q => absurd (hc17.symm.trans q) (by decide)) : ¬ ((p1 &&& (3 : Int32)) = (0 : Int32)))).1) ?_
        show Steps p.tables e below (s₁.setTop (mkF m 44 #[iv p0, iv p1, iv p2, iv (p1 &&& (3 : Int32)), iv ((408 : Int32) + (p0 &&& (3 : Int32))), .val .null, u_, u_, u_] [])) _
        refine XS.iload X0.here hx rfl (hb hby at_44) rfl ?_
        exact k
      obtain ⟨_, _, ⟨T23, L23, k23, n23⟩, -, X23, ⟨Lc23, hQ23, l23, y23, z23⟩, st23⟩ := Jvm.LawKit.callS X0 hx (y := (⟨"java/lang/Integer", "valueOf", "(I)Ljava/lang/Integer;"⟩ : MethodName)) hown (mvT hZ (own_w hw 0 rfl)) (mvT hZ (own_w hw 1 rfl)) (mvT hZ (own_w hw 2 rfl)) (mvT hZ (own_w hw 3 rfl)) (by decide) (backOf (W := 0) (rmVO l Z a0 hw [] ((408 : Int32) + (p0 &&& (3 : Int32))) w_cache cl h0 n0 O S_high S_cache (by assumption)) hZ (own_w hw 3 rfl) (own_w hw 2 rfl) (by decide) (by decide)) (g := (mkF m 46 #[iv p0, iv p1, iv p2, iv (p1 &&& (3 : Int32)), iv ((408 : Int32) + (p0 &&& (3 : Int32))), .val .null, u_, u_, u_] [(.int ((408 : Int32) + (p0 &&& (3 : Int32))))])) rfl (by rw [hml]; rfl) (argsL := [(.int ((408 : Int32) + (p0 &&& (3 : Int32))))]) (rest := []) (lenOf pd__28I_29Ljava_2flang_2fInteger_3b rfl) rfl (by show 2 * 0 + _ ≤ _; exact Nat.le_of_eq rfl) (hb hby at_46) (fun _ _ => ⟨rfl, e0, (by decide : 0 + 1 ≤ _), (by decide : 0 + 1 ≤ _)⟩)
      dsimp only [Pt.U, Pt.locs, Pt.cells, Pt.slots] at X23 l23 y23 z23 st23 hQ23
      subst l23 y23 z23
      obtain ⟨b_23, rfl, Nq23, K23, P23_E, P23_F⟩ := hQ23
      have N23 := Fr.app N0 Nq23
      have O := O.keep K23 all0
      have K := K.trans K23 all0
      have E_23 := P23_E
      have F_23 := P23_F
      refine Go.step st23 ?_
      show Go p e below _ (T23.setTop (mkF m 49 #[iv p0, iv p1, iv p2, iv (p1 &&& (3 : Int32)), iv ((408 : Int32) + (p0 &&& (3 : Int32))), .val .null, u_, u_, u_] [(.ref b_23)]))
      refine Go.step (S' := T23.setTop (mkF m 54 #[iv p0, iv p1, iv p2, iv (p1 &&& (3 : Int32)), iv ((408 : Int32) + (p0 &&& (3 : Int32))), rv b_23, u_, u_, u_] [(.int (p2 &&& (3 : Int32)))])) (fun t k => ?_) ?_
      · show Steps p.tables e below (T23.setTop (mkF m 49 #[iv p0, iv p1, iv p2, iv (p1 &&& (3 : Int32)), iv ((408 : Int32) + (p0 &&& (3 : Int32))), .val .null, u_, u_, u_] [(.ref b_23)])) _
        refine XS.astore X23.here hx rfl (hb hby at_49) rfl rfl (l' := #[iv p0, iv p1, iv p2, iv (p1 &&& (3 : Int32)), iv ((408 : Int32) + (p0 &&& (3 : Int32))), rv b_23, u_, u_, u_]) rfl ?_
        show Steps p.tables e below (T23.setTop (mkF m 51 #[iv p0, iv p1, iv p2, iv (p1 &&& (3 : Int32)), iv ((408 : Int32) + (p0 &&& (3 : Int32))), rv b_23, u_, u_, u_] [])) _
        refine XS.iloadN X23.here hx rfl (hb hby at_51) rfl ?_
        show Steps p.tables e below (T23.setTop (mkF m 52 #[iv p0, iv p1, iv p2, iv (p1 &&& (3 : Int32)), iv ((408 : Int32) + (p0 &&& (3 : Int32))), rv b_23, u_, u_, u_] [(.int p2)])) _
        refine XS.iconst X23.here hx rfl (hb hby at_52) ?_
        show Steps p.tables e below (T23.setTop (mkF m 53 #[iv p0, iv p1, iv p2, iv (p1 &&& (3 : Int32)), iv ((408 : Int32) + (p0 &&& (3 : Int32))), rv b_23, u_, u_, u_] [(.int (3 : Int32)), (.int p2)])) _
        refine XS.iand X23.here hx rfl (hb hby at_53) rfl ?_
        exact k
      by_cases hf0_24 : (p2 &&& (3 : Int32)) = (0 : Int32)
      · skip
        obtain ⟨_, _, ⟨T25, L25, k25, n25⟩, -, X25, ⟨Lc25, hQ25, l25, y25, z25⟩, st25⟩ := Jvm.LawKit.callS X23 hx (y := (⟨"com/example/loomlist/loomlist/store/WebhookAnswerGonePinLaw", "failure", "(I)Lcom/example/loomlist/loomlist/store/WebhookAnswer$Failure;"⟩ : MethodName)) hown (mvT hZ (own_w hw 23 rfl)) (mvT hZ (own_w hw 24 rfl)) (mvT hZ (own_w hw 25 rfl)) (mvT hZ (own_w hw 26 rfl)) (by decide) (backOf (W := 0) (rmF0 l Z a0 hw [] (p2 &&& (3 : Int32)) w_TIMEOUT w_UNREACHABLE w_REFUSED T23.heap n0 O S_TIMEOUT S_UNREACHABLE S_REFUSED hf0_24) hZ (own_w hw 26 rfl) (own_w hw 25 rfl) (by decide) (by decide)) (g := (mkF m 54 #[iv p0, iv p1, iv p2, iv (p1 &&& (3 : Int32)), iv ((408 : Int32) + (p0 &&& (3 : Int32))), rv b_23, u_, u_, u_] [(.int (p2 &&& (3 : Int32)))])) rfl (by rw [hml]; rfl) (argsL := [(.int (p2 &&& (3 : Int32)))]) (rest := []) (lenOf pd__28I_29Lcom_2fexample_2floomlist_2floomlist_2fstore_2fWebhookAnswer_24Failure_3b rfl) rfl (by show 2 * 0 + _ ≤ _; exact Nat.le_of_eq rfl) (hb hby at_54) (fun _ _ => ⟨rfl, (Eq.refl T23.heap), (by decide : 1 + 0 ≤ _), (by decide : 1 + 0 ≤ _)⟩)
        dsimp only [Pt.U, Pt.locs, Pt.cells, Pt.slots] at X25 l25 y25 z25 st25 hQ25
        subst l25 y25 z25
        obtain ⟨rfl, Nq25, e25⟩ := hQ25
        have N25 := Fr.app N23 Nq25
        refine Go.step st25 ?_
        show Go p e below _ (T25.setTop (mkF m 57 #[iv p0, iv p1, iv p2, iv (p1 &&& (3 : Int32)), iv ((408 : Int32) + (p0 &&& (3 : Int32))), rv b_23, u_, u_, u_] [.null]))
        refine Go.step (S' := T25.setTop (mkF m 59 #[iv p0, iv p1, iv p2, iv (p1 &&& (3 : Int32)), iv ((408 : Int32) + (p0 &&& (3 : Int32))), rv b_23, .val .null, u_, u_] [])) (fun t k => ?_) ?_
        · show Steps p.tables e below (T25.setTop (mkF m 57 #[iv p0, iv p1, iv p2, iv (p1 &&& (3 : Int32)), iv ((408 : Int32) + (p0 &&& (3 : Int32))), rv b_23, u_, u_, u_] [.null])) _
          refine XS.astore X25.here hx rfl (hb hby at_57) rfl rfl (l' := #[iv p0, iv p1, iv p2, iv (p1 &&& (3 : Int32)), iv ((408 : Int32) + (p0 &&& (3 : Int32))), rv b_23, .val .null, u_, u_]) rfl ?_
          exact k
        obtain ⟨T26, h26, X26, e26, E26, A26, D26, -, st26⟩ := newO X25 hx hZ hown (own_w hw 30 rfl) (own_w hw 31 rfl) (own_w hw 32 rfl) e25 (g := (mkF m 59 #[iv p0, iv p1, iv p2, iv (p1 &&& (3 : Int32)), iv ((408 : Int32) + (p0 &&& (3 : Int32))), rv b_23, .val .null, u_, u_] [])) rfl (hb hby at_59) (by decide) (by decide)
        obtain ⟨b26, g26⟩ : ∃ z, z = Array.size T23.heap := ⟨_, rfl⟩
        have g_b26 : n0 ≤ b26 := Nat.le_trans (old_le O) (Nat.le_of_eq g26.symm)
        have sz_b26 : h0.size ≤ b26 := Nat.le_trans K.1 (Nat.le_of_eq g26.symm)
        have ne_b_23_b26 : b_23 ≠ b26 := Nat.ne_of_lt (Nat.lt_of_lt_of_le E_23.lt (Nat.le_of_eq g26.symm))
        rw [← g26] at A26 D26 st26
        have O := O.ext E26
        have K := K.ext E26
        have E_23 := E_23.ext E26
        have F_23 := F_23.ext E26
        have E_b26 := A26
        have F_status_b26 : Fld Z h26 b26 "com/example/loomlist/loomlist/store/WebhookAnswer" "status" "Ljava/lang/Integer;" .null := D26 (Or.inr (own_w hw 43 rfl)) (ty := (.object "java/lang/Integer")) (by decide)
        have F_failure_b26 : Fld Z h26 b26 "com/example/loomlist/loomlist/store/WebhookAnswer" "failure" "Lcom/example/loomlist/loomlist/store/WebhookAnswer$Failure;" .null := D26 (Or.inr (own_w hw 45 rfl)) (ty := (.object "com/example/loomlist/loomlist/store/WebhookAnswer$Failure")) (by decide)
        refine Go.step st26 ?_
        show Go p e below _ (T26.setTop (mkF m 62 #[iv p0, iv p1, iv p2, iv (p1 &&& (3 : Int32)), iv ((408 : Int32) + (p0 &&& (3 : Int32))), rv b_23, .val .null, u_, u_] [(.ref b26)]))
        refine Go.step (S' := T26.setTop (mkF m 67 #[iv p0, iv p1, iv p2, iv (p1 &&& (3 : Int32)), iv ((408 : Int32) + (p0 &&& (3 : Int32))), rv b_23, .val .null, u_, u_] [.null, (.ref b_23), (.ref b26), (.ref b26)])) (fun t k => ?_) ?_
        · show Steps p.tables e below (T26.setTop (mkF m 62 #[iv p0, iv p1, iv p2, iv (p1 &&& (3 : Int32)), iv ((408 : Int32) + (p0 &&& (3 : Int32))), rv b_23, .val .null, u_, u_] [(.ref b26)])) _
          refine XS.dup X26.here hx rfl (hb hby at_62) rfl rfl ?_
          show Steps p.tables e below (T26.setTop (mkF m 63 #[iv p0, iv p1, iv p2, iv (p1 &&& (3 : Int32)), iv ((408 : Int32) + (p0 &&& (3 : Int32))), rv b_23, .val .null, u_, u_] [(.ref b26), (.ref b26)])) _
          refine XS.aload X26.here hx rfl (hb hby at_63) rfl rfl ?_
          show Steps p.tables e below (T26.setTop (mkF m 65 #[iv p0, iv p1, iv p2, iv (p1 &&& (3 : Int32)), iv ((408 : Int32) + (p0 &&& (3 : Int32))), rv b_23, .val .null, u_, u_] [(.ref b_23), (.ref b26), (.ref b26)])) _
          refine XS.aload X26.here hx rfl (hb hby at_65) rfl rfl ?_
          exact k
        obtain ⟨_, _, ⟨T27, L27, k27, n27⟩, -, X27, ⟨Lc27, hQ27, l27, y27, z27⟩, st27⟩ := X26.specialBack hx (y := (⟨"com/example/loomlist/loomlist/store/WebhookAnswer", "<init>", "(Ljava/lang/Integer;Lcom/example/loomlist/loomlist/store/WebhookAnswer$Failure;)V"⟩ : MethodName)) rfl hown (mvT hZ (own_w hw 33 rfl)) (mvT hZ (own_w hw 34 rfl)) (mvT hZ (own_w hw 35 rfl)) (by decide) (backOf (W := 1) (rmW2 l Z a0 hw [] b26 b_23 h26 n0 O E_b26 F_status_b26 F_failure_b26 (by assumption)) hZ (own_w hw 35 rfl) (own_w hw 32 rfl) (by decide) (by decide)) (g := (mkF m 67 #[iv p0, iv p1, iv p2, iv (p1 &&& (3 : Int32)), iv ((408 : Int32) + (p0 &&& (3 : Int32))), rv b_23, .val .null, u_, u_] [.null, (.ref b_23), (.ref b26), (.ref b26)])) rfl (by rw [hml]; rfl) (Steps.refl _) (a := b26) (argsL := [(.ref b_23), .null]) (rest := [(.ref b26)]) (lenOf pd__28Ljava_2flang_2fInteger_3bLcom_2fexample_2floomlist_2floomlist_2fstore_2fWebhookAnswer_24Failure_3b_29V rfl) rfl (by show 2 * 0 + _ ≤ _; exact Nat.le_of_eq rfl) (hb hby at_67) (fun _ _ => ⟨rfl, e26, (by decide : 2 + 0 ≤ _), (by decide : 3 + 0 ≤ _)⟩)
        dsimp only [Pt.U, Pt.locs, Pt.cells, Pt.slots] at X27 l27 y27 z27 st27 hQ27
        subst l27 y27 z27
        obtain ⟨rfl, Nq27, K27, P27_E, P27_F⟩ := hQ27
        have N27 := Fr.app N25 Nq27
        have O := O.keep K27 (allS g_b26 all0)
        have K := K.trans K27 (allS (Or.inr sz_b26) all0)
        have E_23 := E_23.keep K27
        have F_23 := F_23.keep K27 (ninS ne_b_23_b26 nin0)
        have E_b26 := E_b26.keep K27
        have E_27 := P27_E
        have F_27 := P27_F
        refine Go.step (fun t k => st27.trans k) ?_
        show Go p e below _ (T27.setTop (mkF m 70 #[iv p0, iv p1, iv p2, iv (p1 &&& (3 : Int32)), iv ((408 : Int32) + (p0 &&& (3 : Int32))), rv b_23, .val .null, u_, u_] [(.ref b26)]))
        refine Go.step (S' := T27.setTop (mkF m 87 #[iv p0, iv p1, iv p2, iv (p1 &&& (3 : Int32)), iv ((408 : Int32) + (p0 &&& (3 : Int32))), rv b_23, .val .null, rv b26, u_] [(.int (410 : Int32)), (.int ((408 : Int32) + (p0 &&& (3 : Int32))))])) (fun t k => ?_) ?_
        · show Steps p.tables e below (T27.setTop (mkF m 70 #[iv p0, iv p1, iv p2, iv (p1 &&& (3 : Int32)), iv ((408 : Int32) + (p0 &&& (3 : Int32))), rv b_23, .val .null, u_, u_] [(.ref b26)])) _
          refine XS.astore X27.here hx rfl (hb hby at_70) rfl rfl (l' := #[iv p0, iv p1, iv p2, iv (p1 &&& (3 : Int32)), iv ((408 : Int32) + (p0 &&& (3 : Int32))), rv b_23, .val .null, rv b26, u_]) rfl ?_
          show Steps p.tables e below (T27.setTop (mkF m 72 #[iv p0, iv p1, iv p2, iv (p1 &&& (3 : Int32)), iv ((408 : Int32) + (p0 &&& (3 : Int32))), rv b_23, .val .null, rv b26, u_] [])) _
          refine XS.iloadN X27.here hx rfl (hb hby at_72) rfl ?_
          show Steps p.tables e below (T27.setTop (mkF m 73 #[iv p0, iv p1, iv p2, iv (p1 &&& (3 : Int32)), iv ((408 : Int32) + (p0 &&& (3 : Int32))), rv b_23, .val .null, rv b26, u_] [(.int (p1 &&& (3 : Int32)))])) _
          refine XS.ifYes X27.here hx rfl (pc0 := 73) (pc' := 82) rfl (hb hby at_73) rfl ((if0 _ _).trans (feq ((fun q => absurd (hc17.symm.trans q) (by decide)) : ¬ ((p1 &&& (3 : Int32)) = (0 : Int32)))).2) (by decide) (by decide) ?_
          show Steps p.tables e below (T27.setTop (mkF m 82 #[iv p0, iv p1, iv p2, iv (p1 &&& (3 : Int32)), iv ((408 : Int32) + (p0 &&& (3 : Int32))), rv b_23, .val .null, rv b26, u_] [])) _
          refine XS.iload X27.here hx rfl (hb hby at_82) rfl ?_
          show Steps p.tables e below (T27.setTop (mkF m 84 #[iv p0, iv p1, iv p2, iv (p1 &&& (3 : Int32)), iv ((408 : Int32) + (p0 &&& (3 : Int32))), rv b_23, .val .null, rv b26, u_] [(.int ((408 : Int32) + (p0 &&& (3 : Int32))))])) _
          refine XS.sipush X27.here hx rfl (hb hby at_84) ?_
          exact k
        by_cases hc87 : ((408 : Int32) + (p0 &&& (3 : Int32))) = (410 : Int32)
        · skip
          refine Go.step (S' := T27.setTop (mkF m 99 #[iv p0, iv p1, iv p2, iv (p1 &&& (3 : Int32)), iv ((408 : Int32) + (p0 &&& (3 : Int32))), rv b_23, .val .null, rv b26, iv (1 : Int32)] [(.ref b26)])) (fun t k => ?_) ?_
          · show Steps p.tables e below (T27.setTop (mkF m 87 #[iv p0, iv p1, iv p2, iv (p1 &&& (3 : Int32)), iv ((408 : Int32) + (p0 &&& (3 : Int32))), rv b_23, .val .null, rv b26, u_] [(.int (410 : Int32)), (.int ((408 : Int32) + (p0 &&& (3 : Int32))))])) _
            refine XS.icmpNo X27.here hx rfl (hb hby at_87) rfl (teq (hc87 : ((408 : Int32) + (p0 &&& (3 : Int32))) = (410 : Int32))).2 ?_
            show Steps p.tables e below (T27.setTop (mkF m 90 #[iv p0, iv p1, iv p2, iv (p1 &&& (3 : Int32)), iv ((408 : Int32) + (p0 &&& (3 : Int32))), rv b_23, .val .null, rv b26, u_] [])) _
            refine XS.iconst X27.here hx rfl (hb hby at_90) ?_
            show Steps p.tables e below (T27.setTop (mkF m 91 #[iv p0, iv p1, iv p2, iv (p1 &&& (3 : Int32)), iv ((408 : Int32) + (p0 &&& (3 : Int32))), rv b_23, .val .null, rv b26, u_] [(.int (1 : Int32))])) _
            refine XS.goto X27.here hx rfl (pc0 := 91) (pc' := 95) rfl (hb hby at_91) (by decide) (by decide) ?_
            show Steps p.tables e below (T27.setTop (mkF m 95 #[iv p0, iv p1, iv p2, iv (p1 &&& (3 : Int32)), iv ((408 : Int32) + (p0 &&& (3 : Int32))), rv b_23, .val .null, rv b26, u_] [(.int (1 : Int32))])) _
            refine XS.istore X27.here hx rfl (hb hby at_95) rfl (l' := #[iv p0, iv p1, iv p2, iv (p1 &&& (3 : Int32)), iv ((408 : Int32) + (p0 &&& (3 : Int32))), rv b_23, .val .null, rv b26, iv (1 : Int32)]) rfl ?_
            show Steps p.tables e below (T27.setTop (mkF m 97 #[iv p0, iv p1, iv p2, iv (p1 &&& (3 : Int32)), iv ((408 : Int32) + (p0 &&& (3 : Int32))), rv b_23, .val .null, rv b26, iv (1 : Int32)] [])) _
            refine XS.aload X27.here hx rfl (hb hby at_97) rfl rfl ?_
            exact k
          obtain ⟨cq28, kq28, q28a, q28b, q28c⟩ := isOf hZ (Eq.refl T27.heap) E_b26
          obtain ⟨_, _, ⟨T28, L28, k28, n28⟩, -, X28, ⟨Lc28, hQ28, l28, y28, z28⟩, st28⟩ := X27.virtualBack hx (y := (⟨"com/example/loomlist/loomlist/store/WebhookAnswer", "gone", "()Z"⟩ : MethodName)) (z := (⟨"com/example/loomlist/loomlist/store/WebhookAnswer", "gone", "()Z"⟩ : MethodName)) hown (mvT hZ (own_w hw 46 rfl)) (mvT hZ (own_w hw 47 rfl)) (notFace_of_selects (args := #[]) (mvT hZ (own_w hw 49 rfl))) (mvT hZ (own_w hw 49 rfl)) (mvT hZ (own_w hw 48 rfl)) (by decide) (backOf (W := 0) (rmG0 l Z a0 hw [] b26 b_23 ((408 : Int32) + (p0 &&& (3 : Int32))) T27.heap n0 O F_27 E_23 F_23 hc87) hZ (own_w hw 50 rfl) (own_w hw 32 rfl) (by decide) (by decide)) q28a q28c (g := (mkF m 99 #[iv p0, iv p1, iv p2, iv (p1 &&& (3 : Int32)), iv ((408 : Int32) + (p0 &&& (3 : Int32))), rv b_23, .val .null, rv b26, iv (1 : Int32)] [(.ref b26)])) rfl (by rw [hml]; rfl) (Steps.refl _) (argsL := []) (rest := []) (lenOf pd__28_29Z rfl) rfl (by show 2 * 0 + _ ≤ _; exact Nat.le_of_eq rfl) (hb hby at_99) (fun _ _ => ⟨rfl, (Eq.refl T27.heap), (by decide : 2 + 0 ≤ _), (by decide : 3 + 0 ≤ _)⟩)
          dsimp only [Pt.U, Pt.locs, Pt.cells, Pt.slots] at X28 l28 y28 z28 st28 hQ28
          subst l28 y28 z28
          obtain ⟨rfl, Nq28, e28⟩ := hQ28
          have N28 := Fr.app N27 Nq28
          refine Go.step (fun t k => st28.trans k) ?_
          show Go p e below _ (T28.setTop (mkF m 102 #[iv p0, iv p1, iv p2, iv (p1 &&& (3 : Int32)), iv ((408 : Int32) + (p0 &&& (3 : Int32))), rv b_23, .val .null, rv b26, iv (1 : Int32)] [(.int (1 : Int32))]))
          refine Go.step (S' := T28.setTop (mkF m 112 #[iv p0, iv p1, iv p2, iv (p1 &&& (3 : Int32)), iv ((408 : Int32) + (p0 &&& (3 : Int32))), rv b_23, .val .null, rv b26, iv (1 : Int32)] [(.int (1 : Int32))])) (fun t k => ?_) ?_
          · show Steps p.tables e below (T28.setTop (mkF m 102 #[iv p0, iv p1, iv p2, iv (p1 &&& (3 : Int32)), iv ((408 : Int32) + (p0 &&& (3 : Int32))), rv b_23, .val .null, rv b26, iv (1 : Int32)] [(.int (1 : Int32))])) _
            refine XS.iload X28.here hx rfl (hb hby at_102) rfl ?_
            show Steps p.tables e below (T28.setTop (mkF m 104 #[iv p0, iv p1, iv p2, iv (p1 &&& (3 : Int32)), iv ((408 : Int32) + (p0 &&& (3 : Int32))), rv b_23, .val .null, rv b26, iv (1 : Int32)] [(.int (1 : Int32)), (.int (1 : Int32))])) _
            refine XS.icmpNo X28.here hx rfl (hb hby at_104) rfl (teq ((by decide) : (1 : Int32) = (1 : Int32))).2 ?_
            show Steps p.tables e below (T28.setTop (mkF m 107 #[iv p0, iv p1, iv p2, iv (p1 &&& (3 : Int32)), iv ((408 : Int32) + (p0 &&& (3 : Int32))), rv b_23, .val .null, rv b26, iv (1 : Int32)] [])) _
            refine XS.iconst X28.here hx rfl (hb hby at_107) ?_
            show Steps p.tables e below (T28.setTop (mkF m 108 #[iv p0, iv p1, iv p2, iv (p1 &&& (3 : Int32)), iv ((408 : Int32) + (p0 &&& (3 : Int32))), rv b_23, .val .null, rv b26, iv (1 : Int32)] [(.int (1 : Int32))])) _
            refine XS.goto X28.here hx rfl (pc0 := 108) (pc' := 112) rfl (hb hby at_108) (by decide) (by decide) ?_
            exact k
          obtain ⟨fs, hr, hrun, hended, hW, hsame⟩ := X28.leave (v := some (.int (1 : Int32))) (fun h => by rw [Bd.returns] at h; cases h)
          refine Go.fin (S' := T28.setFrames fs) ?_ hrun hended ⟨_, _, rfl, ?_, ⟨_, rfl⟩, hW, hsame.mono (by decide) (by decide)⟩
          · exact retOut X28 hx Bd.returns (by decide) (Or.inl ⟨rfl, Or.inr (Or.inl rfl), _, rfl⟩) (hb hby at_112) hr
          · show Q_rm0 Z p0 p1 p2 w_TIMEOUT w_UNREACHABLE w_REFUSED w_cache cl h0 n0 (some (.int (1 : Int32))) T28.heap _
            rw [e28]
            exact ⟨rfl, N28, K⟩
        · skip
          refine Go.step (S' := T27.setTop (mkF m 99 #[iv p0, iv p1, iv p2, iv (p1 &&& (3 : Int32)), iv ((408 : Int32) + (p0 &&& (3 : Int32))), rv b_23, .val .null, rv b26, iv (0 : Int32)] [(.ref b26)])) (fun t k => ?_) ?_
          · show Steps p.tables e below (T27.setTop (mkF m 87 #[iv p0, iv p1, iv p2, iv (p1 &&& (3 : Int32)), iv ((408 : Int32) + (p0 &&& (3 : Int32))), rv b_23, .val .null, rv b26, u_] [(.int (410 : Int32)), (.int ((408 : Int32) + (p0 &&& (3 : Int32))))])) _
            refine XS.icmpYes X27.here hx rfl (pc0 := 87) (pc' := 94) rfl (hb hby at_87) rfl (feq (hc87 : ¬ (((408 : Int32) + (p0 &&& (3 : Int32))) = (410 : Int32)))).2 (by decide) (by decide) ?_
            show Steps p.tables e below (T27.setTop (mkF m 94 #[iv p0, iv p1, iv p2, iv (p1 &&& (3 : Int32)), iv ((408 : Int32) + (p0 &&& (3 : Int32))), rv b_23, .val .null, rv b26, u_] [])) _
            refine XS.iconst X27.here hx rfl (hb hby at_94) ?_
            show Steps p.tables e below (T27.setTop (mkF m 95 #[iv p0, iv p1, iv p2, iv (p1 &&& (3 : Int32)), iv ((408 : Int32) + (p0 &&& (3 : Int32))), rv b_23, .val .null, rv b26, u_] [(.int (0 : Int32))])) _
            refine XS.istore X27.here hx rfl (hb hby at_95) rfl (l' := #[iv p0, iv p1, iv p2, iv (p1 &&& (3 : Int32)), iv ((408 : Int32) + (p0 &&& (3 : Int32))), rv b_23, .val .null, rv b26, iv (0 : Int32)]) rfl ?_
            show Steps p.tables e below (T27.setTop (mkF m 97 #[iv p0, iv p1, iv p2, iv (p1 &&& (3 : Int32)), iv ((408 : Int32) + (p0 &&& (3 : Int32))), rv b_23, .val .null, rv b26, iv (0 : Int32)] [])) _
            refine XS.aload X27.here hx rfl (hb hby at_97) rfl rfl ?_
            exact k
          obtain ⟨cq29, kq29, q29a, q29b, q29c⟩ := isOf hZ (Eq.refl T27.heap) E_b26
          obtain ⟨_, _, ⟨T29, L29, k29, n29⟩, -, X29, ⟨Lc29, hQ29, l29, y29, z29⟩, st29⟩ := X27.virtualBack hx (y := (⟨"com/example/loomlist/loomlist/store/WebhookAnswer", "gone", "()Z"⟩ : MethodName)) (z := (⟨"com/example/loomlist/loomlist/store/WebhookAnswer", "gone", "()Z"⟩ : MethodName)) hown (mvT hZ (own_w hw 46 rfl)) (mvT hZ (own_w hw 47 rfl)) (notFace_of_selects (args := #[]) (mvT hZ (own_w hw 49 rfl))) (mvT hZ (own_w hw 49 rfl)) (mvT hZ (own_w hw 48 rfl)) (by decide) (backOf (W := 0) (rmG1 l Z a0 hw [] b26 b_23 ((408 : Int32) + (p0 &&& (3 : Int32))) T27.heap n0 O F_27 E_23 F_23 hc87) hZ (own_w hw 50 rfl) (own_w hw 32 rfl) (by decide) (by decide)) q29a q29c (g := (mkF m 99 #[iv p0, iv p1, iv p2, iv (p1 &&& (3 : Int32)), iv ((408 : Int32) + (p0 &&& (3 : Int32))), rv b_23, .val .null, rv b26, iv (0 : Int32)] [(.ref b26)])) rfl (by rw [hml]; rfl) (Steps.refl _) (argsL := []) (rest := []) (lenOf pd__28_29Z rfl) rfl (by show 2 * 0 + _ ≤ _; exact Nat.le_of_eq rfl) (hb hby at_99) (fun _ _ => ⟨rfl, (Eq.refl T27.heap), (by decide : 2 + 0 ≤ _), (by decide : 3 + 0 ≤ _)⟩)
          dsimp only [Pt.U, Pt.locs, Pt.cells, Pt.slots] at X29 l29 y29 z29 st29 hQ29
          subst l29 y29 z29
          obtain ⟨rfl, Nq29, e29⟩ := hQ29
          have N29 := Fr.app N27 Nq29
          refine Go.step (fun t k => st29.trans k) ?_
          show Go p e below _ (T29.setTop (mkF m 102 #[iv p0, iv p1, iv p2, iv (p1 &&& (3 : Int32)), iv ((408 : Int32) + (p0 &&& (3 : Int32))), rv b_23, .val .null, rv b26, iv (0 : Int32)] [(.int (0 : Int32))]))
          refine Go.step (S' := T29.setTop (mkF m 112 #[iv p0, iv p1, iv p2, iv (p1 &&& (3 : Int32)), iv ((408 : Int32) + (p0 &&& (3 : Int32))), rv b_23, .val .null, rv b26, iv (0 : Int32)] [(.int (1 : Int32))])) (fun t k => ?_) ?_
          · show Steps p.tables e below (T29.setTop (mkF m 102 #[iv p0, iv p1, iv p2, iv (p1 &&& (3 : Int32)), iv ((408 : Int32) + (p0 &&& (3 : Int32))), rv b_23, .val .null, rv b26, iv (0 : Int32)] [(.int (0 : Int32))])) _
            refine XS.iload X29.here hx rfl (hb hby at_102) rfl ?_
            show Steps p.tables e below (T29.setTop (mkF m 104 #[iv p0, iv p1, iv p2, iv (p1 &&& (3 : Int32)), iv ((408 : Int32) + (p0 &&& (3 : Int32))), rv b_23, .val .null, rv b26, iv (0 : Int32)] [(.int (0 : Int32)), (.int (0 : Int32))])) _
            refine XS.icmpNo X29.here hx rfl (hb hby at_104) rfl (teq ((by decide) : (0 : Int32) = (0 : Int32))).2 ?_
            show Steps p.tables e below (T29.setTop (mkF m 107 #[iv p0, iv p1, iv p2, iv (p1 &&& (3 : Int32)), iv ((408 : Int32) + (p0 &&& (3 : Int32))), rv b_23, .val .null, rv b26, iv (0 : Int32)] [])) _
            refine XS.iconst X29.here hx rfl (hb hby at_107) ?_
            show Steps p.tables e below (T29.setTop (mkF m 108 #[iv p0, iv p1, iv p2, iv (p1 &&& (3 : Int32)), iv ((408 : Int32) + (p0 &&& (3 : Int32))), rv b_23, .val .null, rv b26, iv (0 : Int32)] [(.int (1 : Int32))])) _
            refine XS.goto X29.here hx rfl (pc0 := 108) (pc' := 112) rfl (hb hby at_108) (by decide) (by decide) ?_
            exact k
          obtain ⟨fs, hr, hrun, hended, hW, hsame⟩ := X29.leave (v := some (.int (1 : Int32))) (fun h => by rw [Bd.returns] at h; cases h)
          refine Go.fin (S' := T29.setFrames fs) ?_ hrun hended ⟨_, _, rfl, ?_, ⟨_, rfl⟩, hW, hsame.mono (by decide) (by decide)⟩
          · exact retOut X29 hx Bd.returns (by decide) (Or.inl ⟨rfl, Or.inr (Or.inl rfl), _, rfl⟩) (hb hby at_112) hr
          · show Q_rm0 Z p0 p1 p2 w_TIMEOUT w_UNREACHABLE w_REFUSED w_cache cl h0 n0 (some (.int (1 : Int32))) T29.heap _
            rw [e29]
            exact ⟨rfl, N29, K⟩
      · skip
        by_cases hf1_24 : (p2 &&& (3 : Int32)) = (1 : Int32)
        · skip
          obtain ⟨_, _, ⟨T30, L30, k30, n30⟩, -, X30, ⟨Lc30, hQ30, l30, y30, z30⟩, st30⟩ := Jvm.LawKit.callS X23 hx (y := (⟨"com/example/loomlist/loomlist/store/WebhookAnswerGonePinLaw", "failure", "(I)Lcom/example/loomlist/loomlist/store/WebhookAnswer$Failure;"⟩ : MethodName)) hown (mvT hZ (own_w hw 23 rfl)) (mvT hZ (own_w hw 24 rfl)) (mvT hZ (own_w hw 25 rfl)) (mvT hZ (own_w hw 26 rfl)) (by decide) (backOf (W := 0) (rmF1 l Z a0 hw [] (p2 &&& (3 : Int32)) w_TIMEOUT w_UNREACHABLE w_REFUSED T23.heap n0 O S_TIMEOUT S_UNREACHABLE S_REFUSED hf0_24 hf1_24) hZ (own_w hw 26 rfl) (own_w hw 25 rfl) (by decide) (by decide)) (g := (mkF m 54 #[iv p0, iv p1, iv p2, iv (p1 &&& (3 : Int32)), iv ((408 : Int32) + (p0 &&& (3 : Int32))), rv b_23, u_, u_, u_] [(.int (p2 &&& (3 : Int32)))])) rfl (by rw [hml]; rfl) (argsL := [(.int (p2 &&& (3 : Int32)))]) (rest := []) (lenOf pd__28I_29Lcom_2fexample_2floomlist_2floomlist_2fstore_2fWebhookAnswer_24Failure_3b rfl) rfl (by show 2 * 0 + _ ≤ _; exact Nat.le_of_eq rfl) (hb hby at_54) (fun _ _ => ⟨rfl, (Eq.refl T23.heap), (by decide : 1 + 0 ≤ _), (by decide : 1 + 0 ≤ _)⟩)
          dsimp only [Pt.U, Pt.locs, Pt.cells, Pt.slots] at X30 l30 y30 z30 st30 hQ30
          subst l30 y30 z30
          obtain ⟨rfl, Nq30, e30⟩ := hQ30
          have N30 := Fr.app N23 Nq30
          refine Go.step st30 ?_
          show Go p e below _ (T30.setTop (mkF m 57 #[iv p0, iv p1, iv p2, iv (p1 &&& (3 : Int32)), iv ((408 : Int32) + (p0 &&& (3 : Int32))), rv b_23, u_, u_, u_] [(.ref w_TIMEOUT)]))
          refine Go.step (S' := T30.setTop (mkF m 59 #[iv p0, iv p1, iv p2, iv (p1 &&& (3 : Int32)), iv ((408 : Int32) + (p0 &&& (3 : Int32))), rv b_23, rv w_TIMEOUT, u_, u_] [])) (fun t k => ?_) ?_
          · show Steps p.tables e below (T30.setTop (mkF m 57 #[iv p0, iv p1, iv p2, iv (p1 &&& (3 : Int32)), iv ((408 : Int32) + (p0 &&& (3 : Int32))), rv b_23, u_, u_, u_] [(.ref w_TIMEOUT)])) _
            refine XS.astore X30.here hx rfl (hb hby at_57) rfl rfl (l' := #[iv p0, iv p1, iv p2, iv (p1 &&& (3 : Int32)), iv ((408 : Int32) + (p0 &&& (3 : Int32))), rv b_23, rv w_TIMEOUT, u_, u_]) rfl ?_
            exact k
          obtain ⟨T31, h31, X31, e31, E31, A31, D31, -, st31⟩ := newO X30 hx hZ hown (own_w hw 30 rfl) (own_w hw 31 rfl) (own_w hw 32 rfl) e30 (g := (mkF m 59 #[iv p0, iv p1, iv p2, iv (p1 &&& (3 : Int32)), iv ((408 : Int32) + (p0 &&& (3 : Int32))), rv b_23, rv w_TIMEOUT, u_, u_] [])) rfl (hb hby at_59) (by decide) (by decide)
          obtain ⟨b31, g31⟩ : ∃ z, z = Array.size T23.heap := ⟨_, rfl⟩
          have g_b31 : n0 ≤ b31 := Nat.le_trans (old_le O) (Nat.le_of_eq g31.symm)
          have sz_b31 : h0.size ≤ b31 := Nat.le_trans K.1 (Nat.le_of_eq g31.symm)
          have ne_b_23_b31 : b_23 ≠ b31 := Nat.ne_of_lt (Nat.lt_of_lt_of_le E_23.lt (Nat.le_of_eq g31.symm))
          rw [← g31] at A31 D31 st31
          have O := O.ext E31
          have K := K.ext E31
          have E_23 := E_23.ext E31
          have F_23 := F_23.ext E31
          have E_b31 := A31
          have F_status_b31 : Fld Z h31 b31 "com/example/loomlist/loomlist/store/WebhookAnswer" "status" "Ljava/lang/Integer;" .null := D31 (Or.inr (own_w hw 43 rfl)) (ty := (.object "java/lang/Integer")) (by decide)
          have F_failure_b31 : Fld Z h31 b31 "com/example/loomlist/loomlist/store/WebhookAnswer" "failure" "Lcom/example/loomlist/loomlist/store/WebhookAnswer$Failure;" .null := D31 (Or.inr (own_w hw 45 rfl)) (ty := (.object "com/example/loomlist/loomlist/store/WebhookAnswer$Failure")) (by decide)
          refine Go.step st31 ?_
          show Go p e below _ (T31.setTop (mkF m 62 #[iv p0, iv p1, iv p2, iv (p1 &&& (3 : Int32)), iv ((408 : Int32) + (p0 &&& (3 : Int32))), rv b_23, rv w_TIMEOUT, u_, u_] [(.ref b31)]))
          refine Go.step (S' := T31.setTop (mkF m 67 #[iv p0, iv p1, iv p2, iv (p1 &&& (3 : Int32)), iv ((408 : Int32) + (p0 &&& (3 : Int32))), rv b_23, rv w_TIMEOUT, u_, u_] [(.ref w_TIMEOUT), (.ref b_23), (.ref b31), (.ref b31)])) (fun t k => ?_) ?_
          · show Steps p.tables e below (T31.setTop (mkF m 62 #[iv p0, iv p1, iv p2, iv (p1 &&& (3 : Int32)), iv ((408 : Int32) + (p0 &&& (3 : Int32))), rv b_23, rv w_TIMEOUT, u_, u_] [(.ref b31)])) _
            refine XS.dup X31.here hx rfl (hb hby at_62) rfl rfl ?_
            show Steps p.tables e below (T31.setTop (mkF m 63 #[iv p0, iv p1, iv p2, iv (p1 &&& (3 : Int32)), iv ((408 : Int32) + (p0 &&& (3 : Int32))), rv b_23, rv w_TIMEOUT, u_, u_] [(.ref b31), (.ref b31)])) _
            refine XS.aload X31.here hx rfl (hb hby at_63) rfl rfl ?_
            show Steps p.tables e below (T31.setTop (mkF m 65 #[iv p0, iv p1, iv p2, iv (p1 &&& (3 : Int32)), iv ((408 : Int32) + (p0 &&& (3 : Int32))), rv b_23, rv w_TIMEOUT, u_, u_] [(.ref b_23), (.ref b31), (.ref b31)])) _
            refine XS.aload X31.here hx rfl (hb hby at_65) rfl rfl ?_
            exact k
          obtain ⟨_, _, ⟨T32, L32, k32, n32⟩, -, X32, ⟨Lc32, hQ32, l32, y32, z32⟩, st32⟩ := X31.specialBack hx (y := (⟨"com/example/loomlist/loomlist/store/WebhookAnswer", "<init>", "(Ljava/lang/Integer;Lcom/example/loomlist/loomlist/store/WebhookAnswer$Failure;)V"⟩ : MethodName)) rfl hown (mvT hZ (own_w hw 33 rfl)) (mvT hZ (own_w hw 34 rfl)) (mvT hZ (own_w hw 35 rfl)) (by decide) (backOf (W := 1) (rmW3 l Z a0 hw [] b31 b_23 w_TIMEOUT h31 n0 O E_b31 F_status_b31 F_failure_b31 (by assumption)) hZ (own_w hw 35 rfl) (own_w hw 32 rfl) (by decide) (by decide)) (g := (mkF m 67 #[iv p0, iv p1, iv p2, iv (p1 &&& (3 : Int32)), iv ((408 : Int32) + (p0 &&& (3 : Int32))), rv b_23, rv w_TIMEOUT, u_, u_] [(.ref w_TIMEOUT), (.ref b_23), (.ref b31), (.ref b31)])) rfl (by rw [hml]; rfl) (Steps.refl _) (a := b31) (argsL := [(.ref b_23), (.ref w_TIMEOUT)]) (rest := [(.ref b31)]) (lenOf pd__28Ljava_2flang_2fInteger_3bLcom_2fexample_2floomlist_2floomlist_2fstore_2fWebhookAnswer_24Failure_3b_29V rfl) rfl (by show 2 * 0 + _ ≤ _; exact Nat.le_of_eq rfl) (hb hby at_67) (fun _ _ => ⟨rfl, e31, (by decide : 2 + 0 ≤ _), (by decide : 3 + 0 ≤ _)⟩)
          dsimp only [Pt.U, Pt.locs, Pt.cells, Pt.slots] at X32 l32 y32 z32 st32 hQ32
          subst l32 y32 z32
          obtain ⟨rfl, Nq32, K32, P32_E, P32_F⟩ := hQ32
          have N32 := Fr.app N30 Nq32
          have O := O.keep K32 (allS g_b31 all0)
          have K := K.trans K32 (allS (Or.inr sz_b31) all0)
          have E_23 := E_23.keep K32
          have F_23 := F_23.keep K32 (ninS ne_b_23_b31 nin0)
          have E_b31 := E_b31.keep K32
          have E_32 := P32_E
          have F_32 := P32_F
          refine Go.step (fun t k => st32.trans k) ?_
          show Go p e below _ (T32.setTop (mkF m 70 #[iv p0, iv p1, iv p2, iv (p1 &&& (3 : Int32)), iv ((408 : Int32) + (p0 &&& (3 : Int32))), rv b_23, rv w_TIMEOUT, u_, u_] [(.ref b31)]))
          refine Go.step (S' := T32.setTop (mkF m 87 #[iv p0, iv p1, iv p2, iv (p1 &&& (3 : Int32)), iv ((408 : Int32) + (p0 &&& (3 : Int32))), rv b_23, rv w_TIMEOUT, rv b31, u_] [(.int (410 : Int32)), (.int ((408 : Int32) + (p0 &&& (3 : Int32))))])) (fun t k => ?_) ?_
          · show Steps p.tables e below (T32.setTop (mkF m 70 #[iv p0, iv p1, iv p2, iv (p1 &&& (3 : Int32)), iv ((408 : Int32) + (p0 &&& (3 : Int32))), rv b_23, rv w_TIMEOUT, u_, u_] [(.ref b31)])) _
            refine XS.astore X32.here hx rfl (hb hby at_70) rfl rfl (l' := #[iv p0, iv p1, iv p2, iv (p1 &&& (3 : Int32)), iv ((408 : Int32) + (p0 &&& (3 : Int32))), rv b_23, rv w_TIMEOUT, rv b31, u_]) rfl ?_
            show Steps p.tables e below (T32.setTop (mkF m 72 #[iv p0, iv p1, iv p2, iv (p1 &&& (3 : Int32)), iv ((408 : Int32) + (p0 &&& (3 : Int32))), rv b_23, rv w_TIMEOUT, rv b31, u_] [])) _
            refine XS.iloadN X32.here hx rfl (hb hby at_72) rfl ?_
            show Steps p.tables e below (T32.setTop (mkF m 73 #[iv p0, iv p1, iv p2, iv (p1 &&& (3 : Int32)), iv ((408 : Int32) + (p0 &&& (3 : Int32))), rv b_23, rv w_TIMEOUT, rv b31, u_] [(.int (p1 &&& (3 : Int32)))])) _
            refine XS.ifYes X32.here hx rfl (pc0 := 73) (pc' := 82) rfl (hb hby at_73) rfl ((if0 _ _).trans (feq ((fun q => absurd (hc17.symm.trans q) (by decide)) : ¬ ((p1 &&& (3 : Int32)) = (0 : Int32)))).2) (by decide) (by decide) ?_
            show Steps p.tables e below (T32.setTop (mkF m 82 #[iv p0, iv p1, iv p2, iv (p1 &&& (3 : Int32)), iv ((408 : Int32) + (p0 &&& (3 : Int32))), rv b_23, rv w_TIMEOUT, rv b31, u_] [])) _
            refine XS.iload X32.here hx rfl (hb hby at_82) rfl ?_
            show Steps p.tables e below (T32.setTop (mkF m 84 #[iv p0, iv p1, iv p2, iv (p1 &&& (3 : Int32)), iv ((408 : Int32) + (p0 &&& (3 : Int32))), rv b_23, rv w_TIMEOUT, rv b31, u_] [(.int ((408 : Int32) + (p0 &&& (3 : Int32))))])) _
            refine XS.sipush X32.here hx rfl (hb hby at_84) ?_
            exact k
          by_cases hc87 : ((408 : Int32) + (p0 &&& (3 : Int32))) = (410 : Int32)
          · skip
            refine Go.step (S' := T32.setTop (mkF m 99 #[iv p0, iv p1, iv p2, iv (p1 &&& (3 : Int32)), iv ((408 : Int32) + (p0 &&& (3 : Int32))), rv b_23, rv w_TIMEOUT, rv b31, iv (1 : Int32)] [(.ref b31)])) (fun t k => ?_) ?_
            · show Steps p.tables e below (T32.setTop (mkF m 87 #[iv p0, iv p1, iv p2, iv (p1 &&& (3 : Int32)), iv ((408 : Int32) + (p0 &&& (3 : Int32))), rv b_23, rv w_TIMEOUT, rv b31, u_] [(.int (410 : Int32)), (.int ((408 : Int32) + (p0 &&& (3 : Int32))))])) _
              refine XS.icmpNo X32.here hx rfl (hb hby at_87) rfl (teq (hc87 : ((408 : Int32) + (p0 &&& (3 : Int32))) = (410 : Int32))).2 ?_
              show Steps p.tables e below (T32.setTop (mkF m 90 #[iv p0, iv p1, iv p2, iv (p1 &&& (3 : Int32)), iv ((408 : Int32) + (p0 &&& (3 : Int32))), rv b_23, rv w_TIMEOUT, rv b31, u_] [])) _
              refine XS.iconst X32.here hx rfl (hb hby at_90) ?_
              show Steps p.tables e below (T32.setTop (mkF m 91 #[iv p0, iv p1, iv p2, iv (p1 &&& (3 : Int32)), iv ((408 : Int32) + (p0 &&& (3 : Int32))), rv b_23, rv w_TIMEOUT, rv b31, u_] [(.int (1 : Int32))])) _
              refine XS.goto X32.here hx rfl (pc0 := 91) (pc' := 95) rfl (hb hby at_91) (by decide) (by decide) ?_
              show Steps p.tables e below (T32.setTop (mkF m 95 #[iv p0, iv p1, iv p2, iv (p1 &&& (3 : Int32)), iv ((408 : Int32) + (p0 &&& (3 : Int32))), rv b_23, rv w_TIMEOUT, rv b31, u_] [(.int (1 : Int32))])) _
              refine XS.istore X32.here hx rfl (hb hby at_95) rfl (l' := #[iv p0, iv p1, iv p2, iv (p1 &&& (3 : Int32)), iv ((408 : Int32) + (p0 &&& (3 : Int32))), rv b_23, rv w_TIMEOUT, rv b31, iv (1 : Int32)]) rfl ?_
              show Steps p.tables e below (T32.setTop (mkF m 97 #[iv p0, iv p1, iv p2, iv (p1 &&& (3 : Int32)), iv ((408 : Int32) + (p0 &&& (3 : Int32))), rv b_23, rv w_TIMEOUT, rv b31, iv (1 : Int32)] [])) _
              refine XS.aload X32.here hx rfl (hb hby at_97) rfl rfl ?_
              exact k
            obtain ⟨cq33, kq33, q33a, q33b, q33c⟩ := isOf hZ (Eq.refl T32.heap) E_b31
            obtain ⟨_, _, ⟨T33, L33, k33, n33⟩, -, X33, ⟨Lc33, hQ33, l33, y33, z33⟩, st33⟩ := X32.virtualBack hx (y := (⟨"com/example/loomlist/loomlist/store/WebhookAnswer", "gone", "()Z"⟩ : MethodName)) (z := (⟨"com/example/loomlist/loomlist/store/WebhookAnswer", "gone", "()Z"⟩ : MethodName)) hown (mvT hZ (own_w hw 46 rfl)) (mvT hZ (own_w hw 47 rfl)) (notFace_of_selects (args := #[]) (mvT hZ (own_w hw 49 rfl))) (mvT hZ (own_w hw 49 rfl)) (mvT hZ (own_w hw 48 rfl)) (by decide) (backOf (W := 0) (rmG0 l Z a0 hw [] b31 b_23 ((408 : Int32) + (p0 &&& (3 : Int32))) T32.heap n0 O F_32 E_23 F_23 hc87) hZ (own_w hw 50 rfl) (own_w hw 32 rfl) (by decide) (by decide)) q33a q33c (g := (mkF m 99 #[iv p0, iv p1, iv p2, iv (p1 &&& (3 : Int32)), iv ((408 : Int32) + (p0 &&& (3 : Int32))), rv b_23, rv w_TIMEOUT, rv b31, iv (1 : Int32)] [(.ref b31)])) rfl (by rw [hml]; rfl) (Steps.refl _) (argsL := []) (rest := []) (lenOf pd__28_29Z rfl) rfl (by show 2 * 0 + _ ≤ _; exact Nat.le_of_eq rfl) (hb hby at_99) (fun _ _ => ⟨rfl, (Eq.refl T32.heap), (by decide : 2 + 0 ≤ _), (by decide : 3 + 0 ≤ _)⟩)
            dsimp only [Pt.U, Pt.locs, Pt.cells, Pt.slots] at X33 l33 y33 z33 st33 hQ33
            subst l33 y33 z33
            obtain ⟨rfl, Nq33, e33⟩ := hQ33
            have N33 := Fr.app N32 Nq33
            refine Go.step (fun t k => st33.trans k) ?_
            show Go p e below _ (T33.setTop (mkF m 102 #[iv p0, iv p1, iv p2, iv (p1 &&& (3 : Int32)), iv ((408 : Int32) + (p0 &&& (3 : Int32))), rv b_23, rv w_TIMEOUT, rv b31, iv (1 : Int32)] [(.int (1 : Int32))]))
            refine Go.step (S' := T33.setTop (mkF m 112 #[iv p0, iv p1, iv p2, iv (p1 &&& (3 : Int32)), iv ((408 : Int32) + (p0 &&& (3 : Int32))), rv b_23, rv w_TIMEOUT, rv b31, iv (1 : Int32)] [(.int (1 : Int32))])) (fun t k => ?_) ?_
            · show Steps p.tables e below (T33.setTop (mkF m 102 #[iv p0, iv p1, iv p2, iv (p1 &&& (3 : Int32)), iv ((408 : Int32) + (p0 &&& (3 : Int32))), rv b_23, rv w_TIMEOUT, rv b31, iv (1 : Int32)] [(.int (1 : Int32))])) _
              refine XS.iload X33.here hx rfl (hb hby at_102) rfl ?_
              show Steps p.tables e below (T33.setTop (mkF m 104 #[iv p0, iv p1, iv p2, iv (p1 &&& (3 : Int32)), iv ((408 : Int32) + (p0 &&& (3 : Int32))), rv b_23, rv w_TIMEOUT, rv b31, iv (1 : Int32)] [(.int (1 : Int32)), (.int (1 : Int32))])) _
              refine XS.icmpNo X33.here hx rfl (hb hby at_104) rfl (teq ((by decide) : (1 : Int32) = (1 : Int32))).2 ?_
              show Steps p.tables e below (T33.setTop (mkF m 107 #[iv p0, iv p1, iv p2, iv (p1 &&& (3 : Int32)), iv ((408 : Int32) + (p0 &&& (3 : Int32))), rv b_23, rv w_TIMEOUT, rv b31, iv (1 : Int32)] [])) _
              refine XS.iconst X33.here hx rfl (hb hby at_107) ?_
              show Steps p.tables e below (T33.setTop (mkF m 108 #[iv p0, iv p1, iv p2, iv (p1 &&& (3 : Int32)), iv ((408 : Int32) + (p0 &&& (3 : Int32))), rv b_23, rv w_TIMEOUT, rv b31, iv (1 : Int32)] [(.int (1 : Int32))])) _
              refine XS.goto X33.here hx rfl (pc0 := 108) (pc' := 112) rfl (hb hby at_108) (by decide) (by decide) ?_
              exact k
            obtain ⟨fs, hr, hrun, hended, hW, hsame⟩ := X33.leave (v := some (.int (1 : Int32))) (fun h => by rw [Bd.returns] at h; cases h)
            refine Go.fin (S' := T33.setFrames fs) ?_ hrun hended ⟨_, _, rfl, ?_, ⟨_, rfl⟩, hW, hsame.mono (by decide) (by decide)⟩
            · exact retOut X33 hx Bd.returns (by decide) (Or.inl ⟨rfl, Or.inr (Or.inl rfl), _, rfl⟩) (hb hby at_112) hr
            · show Q_rm0 Z p0 p1 p2 w_TIMEOUT w_UNREACHABLE w_REFUSED w_cache cl h0 n0 (some (.int (1 : Int32))) T33.heap _
              rw [e33]
              exact ⟨rfl, N33, K⟩
          · skip
            refine Go.step (S' := T32.setTop (mkF m 99 #[iv p0, iv p1, iv p2, iv (p1 &&& (3 : Int32)), iv ((408 : Int32) + (p0 &&& (3 : Int32))), rv b_23, rv w_TIMEOUT, rv b31, iv (0 : Int32)] [(.ref b31)])) (fun t k => ?_) ?_
            · show Steps p.tables e below (T32.setTop (mkF m 87 #[iv p0, iv p1, iv p2, iv (p1 &&& (3 : Int32)), iv ((408 : Int32) + (p0 &&& (3 : Int32))), rv b_23, rv w_TIMEOUT, rv b31, u_] [(.int (410 : Int32)), (.int ((408 : Int32) + (p0 &&& (3 : Int32))))])) _
              refine XS.icmpYes X32.here hx rfl (pc0 := 87) (pc' := 94) rfl (hb hby at_87) rfl (feq (hc87 : ¬ (((408 : Int32) + (p0 &&& (3 : Int32))) = (410 : Int32)))).2 (by decide) (by decide) ?_
              show Steps p.tables e below (T32.setTop (mkF m 94 #[iv p0, iv p1, iv p2, iv (p1 &&& (3 : Int32)), iv ((408 : Int32) + (p0 &&& (3 : Int32))), rv b_23, rv w_TIMEOUT, rv b31, u_] [])) _
              refine XS.iconst X32.here hx rfl (hb hby at_94) ?_
              show Steps p.tables e below (T32.setTop (mkF m 95 #[iv p0, iv p1, iv p2, iv (p1 &&& (3 : Int32)), iv ((408 : Int32) + (p0 &&& (3 : Int32))), rv b_23, rv w_TIMEOUT, rv b31, u_] [(.int (0 : Int32))])) _
              refine XS.istore X32.here hx rfl (hb hby at_95) rfl (l' := #[iv p0, iv p1, iv p2, iv (p1 &&& (3 : Int32)), iv ((408 : Int32) + (p0 &&& (3 : Int32))), rv b_23, rv w_TIMEOUT, rv b31, iv (0 : Int32)]) rfl ?_
              show Steps p.tables e below (T32.setTop (mkF m 97 #[iv p0, iv p1, iv p2, iv (p1 &&& (3 : Int32)), iv ((408 : Int32) + (p0 &&& (3 : Int32))), rv b_23, rv w_TIMEOUT, rv b31, iv (0 : Int32)] [])) _
              refine XS.aload X32.here hx rfl (hb hby at_97) rfl rfl ?_
              exact k
            obtain ⟨cq34, kq34, q34a, q34b, q34c⟩ := isOf hZ (Eq.refl T32.heap) E_b31
            obtain ⟨_, _, ⟨T34, L34, k34, n34⟩, -, X34, ⟨Lc34, hQ34, l34, y34, z34⟩, st34⟩ := X32.virtualBack hx (y := (⟨"com/example/loomlist/loomlist/store/WebhookAnswer", "gone", "()Z"⟩ : MethodName)) (z := (⟨"com/example/loomlist/loomlist/store/WebhookAnswer", "gone", "()Z"⟩ : MethodName)) hown (mvT hZ (own_w hw 46 rfl)) (mvT hZ (own_w hw 47 rfl)) (notFace_of_selects (args := #[]) (mvT hZ (own_w hw 49 rfl))) (mvT hZ (own_w hw 49 rfl)) (mvT hZ (own_w hw 48 rfl)) (by decide) (backOf (W := 0) (rmG1 l Z a0 hw [] b31 b_23 ((408 : Int32) + (p0 &&& (3 : Int32))) T32.heap n0 O F_32 E_23 F_23 hc87) hZ (own_w hw 50 rfl) (own_w hw 32 rfl) (by decide) (by decide)) q34a q34c (g := (mkF m 99 #[iv p0, iv p1, iv p2, iv (p1 &&& (3 : Int32)), iv ((408 : Int32) + (p0 &&& (3 : Int32))), rv b_23, rv w_TIMEOUT, rv b31, iv (0 : Int32)] [(.ref b31)])) rfl (by rw [hml]; rfl) (Steps.refl _) (argsL := []) (rest := []) (lenOf pd__28_29Z rfl) rfl (by show 2 * 0 + _ ≤ _; exact Nat.le_of_eq rfl) (hb hby at_99) (fun _ _ => ⟨rfl, (Eq.refl T32.heap), (by decide : 2 + 0 ≤ _), (by decide : 3 + 0 ≤ _)⟩)
            dsimp only [Pt.U, Pt.locs, Pt.cells, Pt.slots] at X34 l34 y34 z34 st34 hQ34
            subst l34 y34 z34
            obtain ⟨rfl, Nq34, e34⟩ := hQ34
            have N34 := Fr.app N32 Nq34
            refine Go.step (fun t k => st34.trans k) ?_
            show Go p e below _ (T34.setTop (mkF m 102 #[iv p0, iv p1, iv p2, iv (p1 &&& (3 : Int32)), iv ((408 : Int32) + (p0 &&& (3 : Int32))), rv b_23, rv w_TIMEOUT, rv b31, iv (0 : Int32)] [(.int (0 : Int32))]))
            refine Go.step (S' := T34.setTop (mkF m 112 #[iv p0, iv p1, iv p2, iv (p1 &&& (3 : Int32)), iv ((408 : Int32) + (p0 &&& (3 : Int32))), rv b_23, rv w_TIMEOUT, rv b31, iv (0 : Int32)] [(.int (1 : Int32))])) (fun t k => ?_) ?_
            · show Steps p.tables e below (T34.setTop (mkF m 102 #[iv p0, iv p1, iv p2, iv (p1 &&& (3 : Int32)), iv ((408 : Int32) + (p0 &&& (3 : Int32))), rv b_23, rv w_TIMEOUT, rv b31, iv (0 : Int32)] [(.int (0 : Int32))])) _
              refine XS.iload X34.here hx rfl (hb hby at_102) rfl ?_
              show Steps p.tables e below (T34.setTop (mkF m 104 #[iv p0, iv p1, iv p2, iv (p1 &&& (3 : Int32)), iv ((408 : Int32) + (p0 &&& (3 : Int32))), rv b_23, rv w_TIMEOUT, rv b31, iv (0 : Int32)] [(.int (0 : Int32)), (.int (0 : Int32))])) _
              refine XS.icmpNo X34.here hx rfl (hb hby at_104) rfl (teq ((by decide) : (0 : Int32) = (0 : Int32))).2 ?_
              show Steps p.tables e below (T34.setTop (mkF m 107 #[iv p0, iv p1, iv p2, iv (p1 &&& (3 : Int32)), iv ((408 : Int32) + (p0 &&& (3 : Int32))), rv b_23, rv w_TIMEOUT, rv b31, iv (0 : Int32)] [])) _
              refine XS.iconst X34.here hx rfl (hb hby at_107) ?_
              show Steps p.tables e below (T34.setTop (mkF m 108 #[iv p0, iv p1, iv p2, iv (p1 &&& (3 : Int32)), iv ((408 : Int32) + (p0 &&& (3 : Int32))), rv b_23, rv w_TIMEOUT, rv b31, iv (0 : Int32)] [(.int (1 : Int32))])) _
              refine XS.goto X34.here hx rfl (pc0 := 108) (pc' := 112) rfl (hb hby at_108) (by decide) (by decide) ?_
              exact k
            obtain ⟨fs, hr, hrun, hended, hW, hsame⟩ := X34.leave (v := some (.int (1 : Int32))) (fun h => by rw [Bd.returns] at h; cases h)
            refine Go.fin (S' := T34.setFrames fs) ?_ hrun hended ⟨_, _, rfl, ?_, ⟨_, rfl⟩, hW, hsame.mono (by decide) (by decide)⟩
            · exact retOut X34 hx Bd.returns (by decide) (Or.inl ⟨rfl, Or.inr (Or.inl rfl), _, rfl⟩) (hb hby at_112) hr
            · show Q_rm0 Z p0 p1 p2 w_TIMEOUT w_UNREACHABLE w_REFUSED w_cache cl h0 n0 (some (.int (1 : Int32))) T34.heap _
              rw [e34]
              exact ⟨rfl, N34, K⟩
        · skip
          by_cases hf2_24 : (p2 &&& (3 : Int32)) = (2 : Int32)
          · skip
            obtain ⟨_, _, ⟨T35, L35, k35, n35⟩, -, X35, ⟨Lc35, hQ35, l35, y35, z35⟩, st35⟩ := Jvm.LawKit.callS X23 hx (y := (⟨"com/example/loomlist/loomlist/store/WebhookAnswerGonePinLaw", "failure", "(I)Lcom/example/loomlist/loomlist/store/WebhookAnswer$Failure;"⟩ : MethodName)) hown (mvT hZ (own_w hw 23 rfl)) (mvT hZ (own_w hw 24 rfl)) (mvT hZ (own_w hw 25 rfl)) (mvT hZ (own_w hw 26 rfl)) (by decide) (backOf (W := 0) (rmF2 l Z a0 hw [] (p2 &&& (3 : Int32)) w_TIMEOUT w_UNREACHABLE w_REFUSED T23.heap n0 O S_TIMEOUT S_UNREACHABLE S_REFUSED hf0_24 hf1_24 hf2_24) hZ (own_w hw 26 rfl) (own_w hw 25 rfl) (by decide) (by decide)) (g := (mkF m 54 #[iv p0, iv p1, iv p2, iv (p1 &&& (3 : Int32)), iv ((408 : Int32) + (p0 &&& (3 : Int32))), rv b_23, u_, u_, u_] [(.int (p2 &&& (3 : Int32)))])) rfl (by rw [hml]; rfl) (argsL := [(.int (p2 &&& (3 : Int32)))]) (rest := []) (lenOf pd__28I_29Lcom_2fexample_2floomlist_2floomlist_2fstore_2fWebhookAnswer_24Failure_3b rfl) rfl (by show 2 * 0 + _ ≤ _; exact Nat.le_of_eq rfl) (hb hby at_54) (fun _ _ => ⟨rfl, (Eq.refl T23.heap), (by decide : 1 + 0 ≤ _), (by decide : 1 + 0 ≤ _)⟩)
            dsimp only [Pt.U, Pt.locs, Pt.cells, Pt.slots] at X35 l35 y35 z35 st35 hQ35
            subst l35 y35 z35
            obtain ⟨rfl, Nq35, e35⟩ := hQ35
            have N35 := Fr.app N23 Nq35
            refine Go.step st35 ?_
            show Go p e below _ (T35.setTop (mkF m 57 #[iv p0, iv p1, iv p2, iv (p1 &&& (3 : Int32)), iv ((408 : Int32) + (p0 &&& (3 : Int32))), rv b_23, u_, u_, u_] [(.ref w_UNREACHABLE)]))
            refine Go.step (S' := T35.setTop (mkF m 59 #[iv p0, iv p1, iv p2, iv (p1 &&& (3 : Int32)), iv ((408 : Int32) + (p0 &&& (3 : Int32))), rv b_23, rv w_UNREACHABLE, u_, u_] [])) (fun t k => ?_) ?_
            · show Steps p.tables e below (T35.setTop (mkF m 57 #[iv p0, iv p1, iv p2, iv (p1 &&& (3 : Int32)), iv ((408 : Int32) + (p0 &&& (3 : Int32))), rv b_23, u_, u_, u_] [(.ref w_UNREACHABLE)])) _
              refine XS.astore X35.here hx rfl (hb hby at_57) rfl rfl (l' := #[iv p0, iv p1, iv p2, iv (p1 &&& (3 : Int32)), iv ((408 : Int32) + (p0 &&& (3 : Int32))), rv b_23, rv w_UNREACHABLE, u_, u_]) rfl ?_
              exact k
            obtain ⟨T36, h36, X36, e36, E36, A36, D36, -, st36⟩ := newO X35 hx hZ hown (own_w hw 30 rfl) (own_w hw 31 rfl) (own_w hw 32 rfl) e35 (g := (mkF m 59 #[iv p0, iv p1, iv p2, iv (p1 &&& (3 : Int32)), iv ((408 : Int32) + (p0 &&& (3 : Int32))), rv b_23, rv w_UNREACHABLE, u_, u_] [])) rfl (hb hby at_59) (by decide) (by decide)
            obtain ⟨b36, g36⟩ : ∃ z, z = Array.size T23.heap := ⟨_, rfl⟩
            have g_b36 : n0 ≤ b36 := Nat.le_trans (old_le O) (Nat.le_of_eq g36.symm)
            have sz_b36 : h0.size ≤ b36 := Nat.le_trans K.1 (Nat.le_of_eq g36.symm)
            have ne_b_23_b36 : b_23 ≠ b36 := Nat.ne_of_lt (Nat.lt_of_lt_of_le E_23.lt (Nat.le_of_eq g36.symm))
            rw [← g36] at A36 D36 st36
            have O := O.ext E36
            have K := K.ext E36
            have E_23 := E_23.ext E36
            have F_23 := F_23.ext E36
            have E_b36 := A36
            have F_status_b36 : Fld Z h36 b36 "com/example/loomlist/loomlist/store/WebhookAnswer" "status" "Ljava/lang/Integer;" .null := D36 (Or.inr (own_w hw 43 rfl)) (ty := (.object "java/lang/Integer")) (by decide)
            have F_failure_b36 : Fld Z h36 b36 "com/example/loomlist/loomlist/store/WebhookAnswer" "failure" "Lcom/example/loomlist/loomlist/store/WebhookAnswer$Failure;" .null := D36 (Or.inr (own_w hw 45 rfl)) (ty := (.object "com/example/loomlist/loomlist/store/WebhookAnswer$Failure")) (by decide)
            refine Go.step st36 ?_
            show Go p e below _ (T36.setTop (mkF m 62 #[iv p0, iv p1, iv p2, iv (p1 &&& (3 : Int32)), iv ((408 : Int32) + (p0 &&& (3 : Int32))), rv b_23, rv w_UNREACHABLE, u_, u_] [(.ref b36)]))
            refine Go.step (S' := T36.setTop (mkF m 67 #[iv p0, iv p1, iv p2, iv (p1 &&& (3 : Int32)), iv ((408 : Int32) + (p0 &&& (3 : Int32))), rv b_23, rv w_UNREACHABLE, u_, u_] [(.ref w_UNREACHABLE), (.ref b_23), (.ref b36), (.ref b36)])) (fun t k => ?_) ?_
            · show Steps p.tables e below (T36.setTop (mkF m 62 #[iv p0, iv p1, iv p2, iv (p1 &&& (3 : Int32)), iv ((408 : Int32) + (p0 &&& (3 : Int32))), rv b_23, rv w_UNREACHABLE, u_, u_] [(.ref b36)])) _
              refine XS.dup X36.here hx rfl (hb hby at_62) rfl rfl ?_
              show Steps p.tables e below (T36.setTop (mkF m 63 #[iv p0, iv p1, iv p2, iv (p1 &&& (3 : Int32)), iv ((408 : Int32) + (p0 &&& (3 : Int32))), rv b_23, rv w_UNREACHABLE, u_, u_] [(.ref b36), (.ref b36)])) _
              refine XS.aload X36.here hx rfl (hb hby at_63) rfl rfl ?_
              show Steps p.tables e below (T36.setTop (mkF m 65 #[iv p0, iv p1, iv p2, iv (p1 &&& (3 : Int32)), iv ((408 : Int32) + (p0 &&& (3 : Int32))), rv b_23, rv w_UNREACHABLE, u_, u_] [(.ref b_23), (.ref b36), (.ref b36)])) _
              refine XS.aload X36.here hx rfl (hb hby at_65) rfl rfl ?_
              exact k
            obtain ⟨_, _, ⟨T37, L37, k37, n37⟩, -, X37, ⟨Lc37, hQ37, l37, y37, z37⟩, st37⟩ := X36.specialBack hx (y := (⟨"com/example/loomlist/loomlist/store/WebhookAnswer", "<init>", "(Ljava/lang/Integer;Lcom/example/loomlist/loomlist/store/WebhookAnswer$Failure;)V"⟩ : MethodName)) rfl hown (mvT hZ (own_w hw 33 rfl)) (mvT hZ (own_w hw 34 rfl)) (mvT hZ (own_w hw 35 rfl)) (by decide) (backOf (W := 1) (rmW3 l Z a0 hw [] b36 b_23 w_UNREACHABLE h36 n0 O E_b36 F_status_b36 F_failure_b36 (by assumption)) hZ (own_w hw 35 rfl) (own_w hw 32 rfl) (by decide) (by decide)) (g := (mkF m 67 #[iv p0, iv p1, iv p2, iv (p1 &&& (3 : Int32)), iv ((408 : Int32) + (p0 &&& (3 : Int32))), rv b_23, rv w_UNREACHABLE, u_, u_] [(.ref w_UNREACHABLE), (.ref b_23), (.ref b36), (.ref b36)])) rfl (by rw [hml]; rfl) (Steps.refl _) (a := b36) (argsL := [(.ref b_23), (.ref w_UNREACHABLE)]) (rest := [(.ref b36)]) (lenOf pd__28Ljava_2flang_2fInteger_3bLcom_2fexample_2floomlist_2floomlist_2fstore_2fWebhookAnswer_24Failure_3b_29V rfl) rfl (by show 2 * 0 + _ ≤ _; exact Nat.le_of_eq rfl) (hb hby at_67) (fun _ _ => ⟨rfl, e36, (by decide : 2 + 0 ≤ _), (by decide : 3 + 0 ≤ _)⟩)
            dsimp only [Pt.U, Pt.locs, Pt.cells, Pt.slots] at X37 l37 y37 z37 st37 hQ37
            subst l37 y37 z37
            obtain ⟨rfl, Nq37, K37, P37_E, P37_F⟩ := hQ37
            have N37 := Fr.app N35 Nq37
            have O := O.keep K37 (allS g_b36 all0)
            have K := K.trans K37 (allS (Or.inr sz_b36) all0)
            have E_23 := E_23.keep K37
            have F_23 := F_23.keep K37 (ninS ne_b_23_b36 nin0)
            have E_b36 := E_b36.keep K37
            have E_37 := P37_E
            have F_37 := P37_F
            refine Go.step (fun t k => st37.trans k) ?_
            show Go p e below _ (T37.setTop (mkF m 70 #[iv p0, iv p1, iv p2, iv (p1 &&& (3 : Int32)), iv ((408 : Int32) + (p0 &&& (3 : Int32))), rv b_23, rv w_UNREACHABLE, u_, u_] [(.ref b36)]))
            refine Go.step (S' := T37.setTop (mkF m 87 #[iv p0, iv p1, iv p2, iv (p1 &&& (3 : Int32)), iv ((408 : Int32) + (p0 &&& (3 : Int32))), rv b_23, rv w_UNREACHABLE, rv b36, u_] [(.int (410 : Int32)), (.int ((408 : Int32) + (p0 &&& (3 : Int32))))])) (fun t k => ?_) ?_
            · show Steps p.tables e below (T37.setTop (mkF m 70 #[iv p0, iv p1, iv p2, iv (p1 &&& (3 : Int32)), iv ((408 : Int32) + (p0 &&& (3 : Int32))), rv b_23, rv w_UNREACHABLE, u_, u_] [(.ref b36)])) _
              refine XS.astore X37.here hx rfl (hb hby at_70) rfl rfl (l' := #[iv p0, iv p1, iv p2, iv (p1 &&& (3 : Int32)), iv ((408 : Int32) + (p0 &&& (3 : Int32))), rv b_23, rv w_UNREACHABLE, rv b36, u_]) rfl ?_
              show Steps p.tables e below (T37.setTop (mkF m 72 #[iv p0, iv p1, iv p2, iv (p1 &&& (3 : Int32)), iv ((408 : Int32) + (p0 &&& (3 : Int32))), rv b_23, rv w_UNREACHABLE, rv b36, u_] [])) _
              refine XS.iloadN X37.here hx rfl (hb hby at_72) rfl ?_
              show Steps p.tables e below (T37.setTop (mkF m 73 #[iv p0, iv p1, iv p2, iv (p1 &&& (3 : Int32)), iv ((408 : Int32) + (p0 &&& (3 : Int32))), rv b_23, rv w_UNREACHABLE, rv b36, u_] [(.int (p1 &&& (3 : Int32)))])) _
              refine XS.ifYes X37.here hx rfl (pc0 := 73) (pc' := 82) rfl (hb hby at_73) rfl ((if0 _ _).trans (feq ((fun q => absurd (hc17.symm.trans q) (by decide)) : ¬ ((p1 &&& (3 : Int32)) = (0 : Int32)))).2) (by decide) (by decide) ?_
              show Steps p.tables e below (T37.setTop (mkF m 82 #[iv p0, iv p1, iv p2, iv (p1 &&& (3 : Int32)), iv ((408 : Int32) + (p0 &&& (3 : Int32))), rv b_23, rv w_UNREACHABLE, rv b36, u_] [])) _
              refine XS.iload X37.here hx rfl (hb hby at_82) rfl ?_
              show Steps p.tables e below (T37.setTop (mkF m 84 #[iv p0, iv p1, iv p2, iv (p1 &&& (3 : Int32)), iv ((408 : Int32) + (p0 &&& (3 : Int32))), rv b_23, rv w_UNREACHABLE, rv b36, u_] [(.int ((408 : Int32) + (p0 &&& (3 : Int32))))])) _
              refine XS.sipush X37.here hx rfl (hb hby at_84) ?_
              exact k
            by_cases hc87 : ((408 : Int32) + (p0 &&& (3 : Int32))) = (410 : Int32)
            · skip
              refine Go.step (S' := T37.setTop (mkF m 99 #[iv p0, iv p1, iv p2, iv (p1 &&& (3 : Int32)), iv ((408 : Int32) + (p0 &&& (3 : Int32))), rv b_23, rv w_UNREACHABLE, rv b36, iv (1 : Int32)] [(.ref b36)])) (fun t k => ?_) ?_
              · show Steps p.tables e below (T37.setTop (mkF m 87 #[iv p0, iv p1, iv p2, iv (p1 &&& (3 : Int32)), iv ((408 : Int32) + (p0 &&& (3 : Int32))), rv b_23, rv w_UNREACHABLE, rv b36, u_] [(.int (410 : Int32)), (.int ((408 : Int32) + (p0 &&& (3 : Int32))))])) _
                refine XS.icmpNo X37.here hx rfl (hb hby at_87) rfl (teq (hc87 : ((408 : Int32) + (p0 &&& (3 : Int32))) = (410 : Int32))).2 ?_
                show Steps p.tables e below (T37.setTop (mkF m 90 #[iv p0, iv p1, iv p2, iv (p1 &&& (3 : Int32)), iv ((408 : Int32) + (p0 &&& (3 : Int32))), rv b_23, rv w_UNREACHABLE, rv b36, u_] [])) _
                refine XS.iconst X37.here hx rfl (hb hby at_90) ?_
                show Steps p.tables e below (T37.setTop (mkF m 91 #[iv p0, iv p1, iv p2, iv (p1 &&& (3 : Int32)), iv ((408 : Int32) + (p0 &&& (3 : Int32))), rv b_23, rv w_UNREACHABLE, rv b36, u_] [(.int (1 : Int32))])) _
                refine XS.goto X37.here hx rfl (pc0 := 91) (pc' := 95) rfl (hb hby at_91) (by decide) (by decide) ?_
                show Steps p.tables e below (T37.setTop (mkF m 95 #[iv p0, iv p1, iv p2, iv (p1 &&& (3 : Int32)), iv ((408 : Int32) + (p0 &&& (3 : Int32))), rv b_23, rv w_UNREACHABLE, rv b36, u_] [(.int (1 : Int32))])) _
                refine XS.istore X37.here hx rfl (hb hby at_95) rfl (l' := #[iv p0, iv p1, iv p2, iv (p1 &&& (3 : Int32)), iv ((408 : Int32) + (p0 &&& (3 : Int32))), rv b_23, rv w_UNREACHABLE, rv b36, iv (1 : Int32)]) rfl ?_
                show Steps p.tables e below (T37.setTop (mkF m 97 #[iv p0, iv p1, iv p2, iv (p1 &&& (3 : Int32)), iv ((408 : Int32) + (p0 &&& (3 : Int32))), rv b_23, rv w_UNREACHABLE, rv b36, iv (1 : Int32)] [])) _
                refine XS.aload X37.here hx rfl (hb hby at_97) rfl rfl ?_
                exact k
              obtain ⟨cq38, kq38, q38a, q38b, q38c⟩ := isOf hZ (Eq.refl T37.heap) E_b36
              obtain ⟨_, _, ⟨T38, L38, k38, n38⟩, -, X38, ⟨Lc38, hQ38, l38, y38, z38⟩, st38⟩ := X37.virtualBack hx (y := (⟨"com/example/loomlist/loomlist/store/WebhookAnswer", "gone", "()Z"⟩ : MethodName)) (z := (⟨"com/example/loomlist/loomlist/store/WebhookAnswer", "gone", "()Z"⟩ : MethodName)) hown (mvT hZ (own_w hw 46 rfl)) (mvT hZ (own_w hw 47 rfl)) (notFace_of_selects (args := #[]) (mvT hZ (own_w hw 49 rfl))) (mvT hZ (own_w hw 49 rfl)) (mvT hZ (own_w hw 48 rfl)) (by decide) (backOf (W := 0) (rmG0 l Z a0 hw [] b36 b_23 ((408 : Int32) + (p0 &&& (3 : Int32))) T37.heap n0 O F_37 E_23 F_23 hc87) hZ (own_w hw 50 rfl) (own_w hw 32 rfl) (by decide) (by decide)) q38a q38c (g := (mkF m 99 #[iv p0, iv p1, iv p2, iv (p1 &&& (3 : Int32)), iv ((408 : Int32) + (p0 &&& (3 : Int32))), rv b_23, rv w_UNREACHABLE, rv b36, iv (1 : Int32)] [(.ref b36)])) rfl (by rw [hml]; rfl) (Steps.refl _) (argsL := []) (rest := []) (lenOf pd__28_29Z rfl) rfl (by show 2 * 0 + _ ≤ _; exact Nat.le_of_eq rfl) (hb hby at_99) (fun _ _ => ⟨rfl, (Eq.refl T37.heap), (by decide : 2 + 0 ≤ _), (by decide : 3 + 0 ≤ _)⟩)
              dsimp only [Pt.U, Pt.locs, Pt.cells, Pt.slots] at X38 l38 y38 z38 st38 hQ38
              subst l38 y38 z38
              obtain ⟨rfl, Nq38, e38⟩ := hQ38
              have N38 := Fr.app N37 Nq38
              refine Go.step (fun t k => st38.trans k) ?_
              show Go p e below _ (T38.setTop (mkF m 102 #[iv p0, iv p1, iv p2, iv (p1 &&& (3 : Int32)), iv ((408 : Int32) + (p0 &&& (3 : Int32))), rv b_23, rv w_UNREACHABLE, rv b36, iv (1 : Int32)] [(.int (1 : Int32))]))
              refine Go.step (S' := T38.setTop (mkF m 112 #[iv p0, iv p1, iv p2, iv (p1 &&& (3 : Int32)), iv ((408 : Int32) + (p0 &&& (3 : Int32))), rv b_23, rv w_UNREACHABLE, rv b36, iv (1 : Int32)] [(.int (1 : Int32))])) (fun t k => ?_) ?_
              · show Steps p.tables e below (T38.setTop (mkF m 102 #[iv p0, iv p1, iv p2, iv (p1 &&& (3 : Int32)), iv ((408 : Int32) + (p0 &&& (3 : Int32))), rv b_23, rv w_UNREACHABLE, rv b36, iv (1 : Int32)] [(.int (1 : Int32))])) _
                refine XS.iload X38.here hx rfl (hb hby at_102) rfl ?_
                show Steps p.tables e below (T38.setTop (mkF m 104 #[iv p0, iv p1, iv p2, iv (p1 &&& (3 : Int32)), iv ((408 : Int32) + (p0 &&& (3 : Int32))), rv b_23, rv w_UNREACHABLE, rv b36, iv (1 : Int32)] [(.int (1 : Int32)), (.int (1 : Int32))])) _
                refine XS.icmpNo X38.here hx rfl (hb hby at_104) rfl (teq ((by decide) : (1 : Int32) = (1 : Int32))).2 ?_
                show Steps p.tables e below (T38.setTop (mkF m 107 #[iv p0, iv p1, iv p2, iv (p1 &&& (3 : Int32)), iv ((408 : Int32) + (p0 &&& (3 : Int32))), rv b_23, rv w_UNREACHABLE, rv b36, iv (1 : Int32)] [])) _
                refine XS.iconst X38.here hx rfl (hb hby at_107) ?_
                show Steps p.tables e below (T38.setTop (mkF m 108 #[iv p0, iv p1, iv p2, iv (p1 &&& (3 : Int32)), iv ((408 : Int32) + (p0 &&& (3 : Int32))), rv b_23, rv w_UNREACHABLE, rv b36, iv (1 : Int32)] [(.int (1 : Int32))])) _
                refine XS.goto X38.here hx rfl (pc0 := 108) (pc' := 112) rfl (hb hby at_108) (by decide) (by decide) ?_
                exact k
              obtain ⟨fs, hr, hrun, hended, hW, hsame⟩ := X38.leave (v := some (.int (1 : Int32))) (fun h => by rw [Bd.returns] at h; cases h)
              refine Go.fin (S' := T38.setFrames fs) ?_ hrun hended ⟨_, _, rfl, ?_, ⟨_, rfl⟩, hW, hsame.mono (by decide) (by decide)⟩
              · exact retOut X38 hx Bd.returns (by decide) (Or.inl ⟨rfl, Or.inr (Or.inl rfl), _, rfl⟩) (hb hby at_112) hr
              · show Q_rm0 Z p0 p1 p2 w_TIMEOUT w_UNREACHABLE w_REFUSED w_cache cl h0 n0 (some (.int (1 : Int32))) T38.heap _
                rw [e38]
                exact ⟨rfl, N38, K⟩
            · skip
              refine Go.step (S' := T37.setTop (mkF m 99 #[iv p0, iv p1, iv p2, iv (p1 &&& (3 : Int32)), iv ((408 : Int32) + (p0 &&& (3 : Int32))), rv b_23, rv w_UNREACHABLE, rv b36, iv (0 : Int32)] [(.ref b36)])) (fun t k => ?_) ?_
              · show Steps p.tables e below (T37.setTop (mkF m 87 #[iv p0, iv p1, iv p2, iv (p1 &&& (3 : Int32)), iv ((408 : Int32) + (p0 &&& (3 : Int32))), rv b_23, rv w_UNREACHABLE, rv b36, u_] [(.int (410 : Int32)), (.int ((408 : Int32) + (p0 &&& (3 : Int32))))])) _
                refine XS.icmpYes X37.here hx rfl (pc0 := 87) (pc' := 94) rfl (hb hby at_87) rfl (feq (hc87 : ¬ (((408 : Int32) + (p0 &&& (3 : Int32))) = (410 : Int32)))).2 (by decide) (by decide) ?_
                show Steps p.tables e below (T37.setTop (mkF m 94 #[iv p0, iv p1, iv p2, iv (p1 &&& (3 : Int32)), iv ((408 : Int32) + (p0 &&& (3 : Int32))), rv b_23, rv w_UNREACHABLE, rv b36, u_] [])) _
                refine XS.iconst X37.here hx rfl (hb hby at_94) ?_
                show Steps p.tables e below (T37.setTop (mkF m 95 #[iv p0, iv p1, iv p2, iv (p1 &&& (3 : Int32)), iv ((408 : Int32) + (p0 &&& (3 : Int32))), rv b_23, rv w_UNREACHABLE, rv b36, u_] [(.int (0 : Int32))])) _
                refine XS.istore X37.here hx rfl (hb hby at_95) rfl (l' := #[iv p0, iv p1, iv p2, iv (p1 &&& (3 : Int32)), iv ((408 : Int32) + (p0 &&& (3 : Int32))), rv b_23, rv w_UNREACHABLE, rv b36, iv (0 : Int32)]) rfl ?_
                show Steps p.tables e below (T37.setTop (mkF m 97 #[iv p0, iv p1, iv p2, iv (p1 &&& (3 : Int32)), iv ((408 : Int32) + (p0 &&& (3 : Int32))), rv b_23, rv w_UNREACHABLE, rv b36, iv (0 : Int32)] [])) _
                refine XS.aload X37.here hx rfl (hb hby at_97) rfl rfl ?_
                exact k
              obtain ⟨cq39, kq39, q39a, q39b, q39c⟩ := isOf hZ (Eq.refl T37.heap) E_b36
              obtain ⟨_, _, ⟨T39, L39, k39, n39⟩, -, X39, ⟨Lc39, hQ39, l39, y39, z39⟩, st39⟩ := X37.virtualBack hx (y := (⟨"com/example/loomlist/loomlist/store/WebhookAnswer", "gone", "()Z"⟩ : MethodName)) (z := (⟨"com/example/loomlist/loomlist/store/WebhookAnswer", "gone", "()Z"⟩ : MethodName)) hown (mvT hZ (own_w hw 46 rfl)) (mvT hZ (own_w hw 47 rfl)) (notFace_of_selects (args := #[]) (mvT hZ (own_w hw 49 rfl))) (mvT hZ (own_w hw 49 rfl)) (mvT hZ (own_w hw 48 rfl)) (by decide) (backOf (W := 0) (rmG1 l Z a0 hw [] b36 b_23 ((408 : Int32) + (p0 &&& (3 : Int32))) T37.heap n0 O F_37 E_23 F_23 hc87) hZ (own_w hw 50 rfl) (own_w hw 32 rfl) (by decide) (by decide)) q39a q39c (g := (mkF m 99 #[iv p0, iv p1, iv p2, iv (p1 &&& (3 : Int32)), iv ((408 : Int32) + (p0 &&& (3 : Int32))), rv b_23, rv w_UNREACHABLE, rv b36, iv (0 : Int32)] [(.ref b36)])) rfl (by rw [hml]; rfl) (Steps.refl _) (argsL := []) (rest := []) (lenOf pd__28_29Z rfl) rfl (by show 2 * 0 + _ ≤ _; exact Nat.le_of_eq rfl) (hb hby at_99) (fun _ _ => ⟨rfl, (Eq.refl T37.heap), (by decide : 2 + 0 ≤ _), (by decide : 3 + 0 ≤ _)⟩)
              dsimp only [Pt.U, Pt.locs, Pt.cells, Pt.slots] at X39 l39 y39 z39 st39 hQ39
              subst l39 y39 z39
              obtain ⟨rfl, Nq39, e39⟩ := hQ39
              have N39 := Fr.app N37 Nq39
              refine Go.step (fun t k => st39.trans k) ?_
              show Go p e below _ (T39.setTop (mkF m 102 #[iv p0, iv p1, iv p2, iv (p1 &&& (3 : Int32)), iv ((408 : Int32) + (p0 &&& (3 : Int32))), rv b_23, rv w_UNREACHABLE, rv b36, iv (0 : Int32)] [(.int (0 : Int32))]))
              refine Go.step (S' := T39.setTop (mkF m 112 #[iv p0, iv p1, iv p2, iv (p1 &&& (3 : Int32)), iv ((408 : Int32) + (p0 &&& (3 : Int32))), rv b_23, rv w_UNREACHABLE, rv b36, iv (0 : Int32)] [(.int (1 : Int32))])) (fun t k => ?_) ?_
              · show Steps p.tables e below (T39.setTop (mkF m 102 #[iv p0, iv p1, iv p2, iv (p1 &&& (3 : Int32)), iv ((408 : Int32) + (p0 &&& (3 : Int32))), rv b_23, rv w_UNREACHABLE, rv b36, iv (0 : Int32)] [(.int (0 : Int32))])) _
                refine XS.iload X39.here hx rfl (hb hby at_102) rfl ?_
                show Steps p.tables e below (T39.setTop (mkF m 104 #[iv p0, iv p1, iv p2, iv (p1 &&& (3 : Int32)), iv ((408 : Int32) + (p0 &&& (3 : Int32))), rv b_23, rv w_UNREACHABLE, rv b36, iv (0 : Int32)] [(.int (0 : Int32)), (.int (0 : Int32))])) _
                refine XS.icmpNo X39.here hx rfl (hb hby at_104) rfl (teq ((by decide) : (0 : Int32) = (0 : Int32))).2 ?_
                show Steps p.tables e below (T39.setTop (mkF m 107 #[iv p0, iv p1, iv p2, iv (p1 &&& (3 : Int32)), iv ((408 : Int32) + (p0 &&& (3 : Int32))), rv b_23, rv w_UNREACHABLE, rv b36, iv (0 : Int32)] [])) _
                refine XS.iconst X39.here hx rfl (hb hby at_107) ?_
                show Steps p.tables e below (T39.setTop (mkF m 108 #[iv p0, iv p1, iv p2, iv (p1 &&& (3 : Int32)), iv ((408 : Int32) + (p0 &&& (3 : Int32))), rv b_23, rv w_UNREACHABLE, rv b36, iv (0 : Int32)] [(.int (1 : Int32))])) _
                refine XS.goto X39.here hx rfl (pc0 := 108) (pc' := 112) rfl (hb hby at_108) (by decide) (by decide) ?_
                exact k
              obtain ⟨fs, hr, hrun, hended, hW, hsame⟩ := X39.leave (v := some (.int (1 : Int32))) (fun h => by rw [Bd.returns] at h; cases h)
              refine Go.fin (S' := T39.setFrames fs) ?_ hrun hended ⟨_, _, rfl, ?_, ⟨_, rfl⟩, hW, hsame.mono (by decide) (by decide)⟩
              · exact retOut X39 hx Bd.returns (by decide) (Or.inl ⟨rfl, Or.inr (Or.inl rfl), _, rfl⟩) (hb hby at_112) hr
              · show Q_rm0 Z p0 p1 p2 w_TIMEOUT w_UNREACHABLE w_REFUSED w_cache cl h0 n0 (some (.int (1 : Int32))) T39.heap _
                rw [e39]
                exact ⟨rfl, N39, K⟩
          · skip
            obtain ⟨_, _, ⟨T40, L40, k40, n40⟩, -, X40, ⟨Lc40, hQ40, l40, y40, z40⟩, st40⟩ := Jvm.LawKit.callS X23 hx (y := (⟨"com/example/loomlist/loomlist/store/WebhookAnswerGonePinLaw", "failure", "(I)Lcom/example/loomlist/loomlist/store/WebhookAnswer$Failure;"⟩ : MethodName)) hown (mvT hZ (own_w hw 23 rfl)) (mvT hZ (own_w hw 24 rfl)) (mvT hZ (own_w hw 25 rfl)) (mvT hZ (own_w hw 26 rfl)) (by decide) (backOf (W := 0) (rmF3 l Z a0 hw [] (p2 &&& (3 : Int32)) w_TIMEOUT w_UNREACHABLE w_REFUSED T23.heap n0 O S_TIMEOUT S_UNREACHABLE S_REFUSED hf0_24 hf1_24 hf2_24) hZ (own_w hw 26 rfl) (own_w hw 25 rfl) (by decide) (by decide)) (g := (mkF m 54 #[iv p0, iv p1, iv p2, iv (p1 &&& (3 : Int32)), iv ((408 : Int32) + (p0 &&& (3 : Int32))), rv b_23, u_, u_, u_] [(.int (p2 &&& (3 : Int32)))])) rfl (by rw [hml]; rfl) (argsL := [(.int (p2 &&& (3 : Int32)))]) (rest := []) (lenOf pd__28I_29Lcom_2fexample_2floomlist_2floomlist_2fstore_2fWebhookAnswer_24Failure_3b rfl) rfl (by show 2 * 0 + _ ≤ _; exact Nat.le_of_eq rfl) (hb hby at_54) (fun _ _ => ⟨rfl, (Eq.refl T23.heap), (by decide : 1 + 0 ≤ _), (by decide : 1 + 0 ≤ _)⟩)
            dsimp only [Pt.U, Pt.locs, Pt.cells, Pt.slots] at X40 l40 y40 z40 st40 hQ40
            subst l40 y40 z40
            obtain ⟨rfl, Nq40, e40⟩ := hQ40
            have N40 := Fr.app N23 Nq40
            refine Go.step st40 ?_
            show Go p e below _ (T40.setTop (mkF m 57 #[iv p0, iv p1, iv p2, iv (p1 &&& (3 : Int32)), iv ((408 : Int32) + (p0 &&& (3 : Int32))), rv b_23, u_, u_, u_] [(.ref w_REFUSED)]))
            refine Go.step (S' := T40.setTop (mkF m 59 #[iv p0, iv p1, iv p2, iv (p1 &&& (3 : Int32)), iv ((408 : Int32) + (p0 &&& (3 : Int32))), rv b_23, rv w_REFUSED, u_, u_] [])) (fun t k => ?_) ?_
            · show Steps p.tables e below (T40.setTop (mkF m 57 #[iv p0, iv p1, iv p2, iv (p1 &&& (3 : Int32)), iv ((408 : Int32) + (p0 &&& (3 : Int32))), rv b_23, u_, u_, u_] [(.ref w_REFUSED)])) _
              refine XS.astore X40.here hx rfl (hb hby at_57) rfl rfl (l' := #[iv p0, iv p1, iv p2, iv (p1 &&& (3 : Int32)), iv ((408 : Int32) + (p0 &&& (3 : Int32))), rv b_23, rv w_REFUSED, u_, u_]) rfl ?_
              exact k
            obtain ⟨T41, h41, X41, e41, E41, A41, D41, -, st41⟩ := newO X40 hx hZ hown (own_w hw 30 rfl) (own_w hw 31 rfl) (own_w hw 32 rfl) e40 (g := (mkF m 59 #[iv p0, iv p1, iv p2, iv (p1 &&& (3 : Int32)), iv ((408 : Int32) + (p0 &&& (3 : Int32))), rv b_23, rv w_REFUSED, u_, u_] [])) rfl (hb hby at_59) (by decide) (by decide)
            obtain ⟨b41, g41⟩ : ∃ z, z = Array.size T23.heap := ⟨_, rfl⟩
            have g_b41 : n0 ≤ b41 := Nat.le_trans (old_le O) (Nat.le_of_eq g41.symm)
            have sz_b41 : h0.size ≤ b41 := Nat.le_trans K.1 (Nat.le_of_eq g41.symm)
            have ne_b_23_b41 : b_23 ≠ b41 := Nat.ne_of_lt (Nat.lt_of_lt_of_le E_23.lt (Nat.le_of_eq g41.symm))
            rw [← g41] at A41 D41 st41
            have O := O.ext E41
            have K := K.ext E41
            have E_23 := E_23.ext E41
            have F_23 := F_23.ext E41
            have E_b41 := A41
            have F_status_b41 : Fld Z h41 b41 "com/example/loomlist/loomlist/store/WebhookAnswer" "status" "Ljava/lang/Integer;" .null := D41 (Or.inr (own_w hw 43 rfl)) (ty := (.object "java/lang/Integer")) (by decide)
            have F_failure_b41 : Fld Z h41 b41 "com/example/loomlist/loomlist/store/WebhookAnswer" "failure" "Lcom/example/loomlist/loomlist/store/WebhookAnswer$Failure;" .null := D41 (Or.inr (own_w hw 45 rfl)) (ty := (.object "com/example/loomlist/loomlist/store/WebhookAnswer$Failure")) (by decide)
            refine Go.step st41 ?_
            show Go p e below _ (T41.setTop (mkF m 62 #[iv p0, iv p1, iv p2, iv (p1 &&& (3 : Int32)), iv ((408 : Int32) + (p0 &&& (3 : Int32))), rv b_23, rv w_REFUSED, u_, u_] [(.ref b41)]))
            refine Go.step (S' := T41.setTop (mkF m 67 #[iv p0, iv p1, iv p2, iv (p1 &&& (3 : Int32)), iv ((408 : Int32) + (p0 &&& (3 : Int32))), rv b_23, rv w_REFUSED, u_, u_] [(.ref w_REFUSED), (.ref b_23), (.ref b41), (.ref b41)])) (fun t k => ?_) ?_
            · show Steps p.tables e below (T41.setTop (mkF m 62 #[iv p0, iv p1, iv p2, iv (p1 &&& (3 : Int32)), iv ((408 : Int32) + (p0 &&& (3 : Int32))), rv b_23, rv w_REFUSED, u_, u_] [(.ref b41)])) _
              refine XS.dup X41.here hx rfl (hb hby at_62) rfl rfl ?_
              show Steps p.tables e below (T41.setTop (mkF m 63 #[iv p0, iv p1, iv p2, iv (p1 &&& (3 : Int32)), iv ((408 : Int32) + (p0 &&& (3 : Int32))), rv b_23, rv w_REFUSED, u_, u_] [(.ref b41), (.ref b41)])) _
              refine XS.aload X41.here hx rfl (hb hby at_63) rfl rfl ?_
              show Steps p.tables e below (T41.setTop (mkF m 65 #[iv p0, iv p1, iv p2, iv (p1 &&& (3 : Int32)), iv ((408 : Int32) + (p0 &&& (3 : Int32))), rv b_23, rv w_REFUSED, u_, u_] [(.ref b_23), (.ref b41), (.ref b41)])) _
              refine XS.aload X41.here hx rfl (hb hby at_65) rfl rfl ?_
              exact k
            obtain ⟨_, _, ⟨T42, L42, k42, n42⟩, -, X42, ⟨Lc42, hQ42, l42, y42, z42⟩, st42⟩ := X41.specialBack hx (y := (⟨"com/example/loomlist/loomlist/store/WebhookAnswer", "<init>", "(Ljava/lang/Integer;Lcom/example/loomlist/loomlist/store/WebhookAnswer$Failure;)V"⟩ : MethodName)) rfl hown (mvT hZ (own_w hw 33 rfl)) (mvT hZ (own_w hw 34 rfl)) (mvT hZ (own_w hw 35 rfl)) (by decide) (backOf (W := 1) (rmW3 l Z a0 hw [] b41 b_23 w_REFUSED h41 n0 O E_b41 F_status_b41 F_failure_b41 (by assumption)) hZ (own_w hw 35 rfl) (own_w hw 32 rfl) (by decide) (by decide)) (g := (mkF m 67 #[iv p0, iv p1, iv p2, iv (p1 &&& (3 : Int32)), iv ((408 : Int32) + (p0 &&& (3 : Int32))), rv b_23, rv w_REFUSED, u_, u_] [(.ref w_REFUSED), (.ref b_23), (.ref b41), (.ref b41)])) rfl (by rw [hml]; rfl) (Steps.refl _) (a := b41) (argsL := [(.ref b_23), (.ref w_REFUSED)]) (rest := [(.ref b41)]) (lenOf pd__28Ljava_2flang_2fInteger_3bLcom_2fexample_2floomlist_2floomlist_2fstore_2fWebhookAnswer_24Failure_3b_29V rfl) rfl (by show 2 * 0 + _ ≤ _; exact Nat.le_of_eq rfl) (hb hby at_67) (fun _ _ => ⟨rfl, e41, (by decide : 2 + 0 ≤ _), (by decide : 3 + 0 ≤ _)⟩)
            dsimp only [Pt.U, Pt.locs, Pt.cells, Pt.slots] at X42 l42 y42 z42 st42 hQ42
            subst l42 y42 z42
            obtain ⟨rfl, Nq42, K42, P42_E, P42_F⟩ := hQ42
            have N42 := Fr.app N40 Nq42
            have O := O.keep K42 (allS g_b41 all0)
            have K := K.trans K42 (allS (Or.inr sz_b41) all0)
            have E_23 := E_23.keep K42
            have F_23 := F_23.keep K42 (ninS ne_b_23_b41 nin0)
            have E_b41 := E_b41.keep K42
            have E_42 := P42_E
            have F_42 := P42_F
            refine Go.step (fun t k => st42.trans k) ?_
            show Go p e below _ (T42.setTop (mkF m 70 #[iv p0, iv p1, iv p2, iv (p1 &&& (3 : Int32)), iv ((408 : Int32) + (p0 &&& (3 : Int32))), rv b_23, rv w_REFUSED, u_, u_] [(.ref b41)]))
            refine Go.step (S' := T42.setTop (mkF m 87 #[iv p0, iv p1, iv p2, iv (p1 &&& (3 : Int32)), iv ((408 : Int32) + (p0 &&& (3 : Int32))), rv b_23, rv w_REFUSED, rv b41, u_] [(.int (410 : Int32)), (.int ((408 : Int32) + (p0 &&& (3 : Int32))))])) (fun t k => ?_) ?_
            · show Steps p.tables e below (T42.setTop (mkF m 70 #[iv p0, iv p1, iv p2, iv (p1 &&& (3 : Int32)), iv ((408 : Int32) + (p0 &&& (3 : Int32))), rv b_23, rv w_REFUSED, u_, u_] [(.ref b41)])) _
              refine XS.astore X42.here hx rfl (hb hby at_70) rfl rfl (l' := #[iv p0, iv p1, iv p2, iv (p1 &&& (3 : Int32)), iv ((408 : Int32) + (p0 &&& (3 : Int32))), rv b_23, rv w_REFUSED, rv b41, u_]) rfl ?_
              show Steps p.tables e below (T42.setTop (mkF m 72 #[iv p0, iv p1, iv p2, iv (p1 &&& (3 : Int32)), iv ((408 : Int32) + (p0 &&& (3 : Int32))), rv b_23, rv w_REFUSED, rv b41, u_] [])) _
              refine XS.iloadN X42.here hx rfl (hb hby at_72) rfl ?_
              show Steps p.tables e below (T42.setTop (mkF m 73 #[iv p0, iv p1, iv p2, iv (p1 &&& (3 : Int32)), iv ((408 : Int32) + (p0 &&& (3 : Int32))), rv b_23, rv w_REFUSED, rv b41, u_] [(.int (p1 &&& (3 : Int32)))])) _
              refine XS.ifYes X42.here hx rfl (pc0 := 73) (pc' := 82) rfl (hb hby at_73) rfl ((if0 _ _).trans (feq ((fun q => absurd (hc17.symm.trans q) (by decide)) : ¬ ((p1 &&& (3 : Int32)) = (0 : Int32)))).2) (by decide) (by decide) ?_
              show Steps p.tables e below (T42.setTop (mkF m 82 #[iv p0, iv p1, iv p2, iv (p1 &&& (3 : Int32)), iv ((408 : Int32) + (p0 &&& (3 : Int32))), rv b_23, rv w_REFUSED, rv b41, u_] [])) _
              refine XS.iload X42.here hx rfl (hb hby at_82) rfl ?_
              show Steps p.tables e below (T42.setTop (mkF m 84 #[iv p0, iv p1, iv p2, iv (p1 &&& (3 : Int32)), iv ((408 : Int32) + (p0 &&& (3 : Int32))), rv b_23, rv w_REFUSED, rv b41, u_] [(.int ((408 : Int32) + (p0 &&& (3 : Int32))))])) _
              refine XS.sipush X42.here hx rfl (hb hby at_84) ?_
              exact k
            by_cases hc87 : ((408 : Int32) + (p0 &&& (3 : Int32))) = (410 : Int32)
            · skip
              refine Go.step (S' := T42.setTop (mkF m 99 #[iv p0, iv p1, iv p2, iv (p1 &&& (3 : Int32)), iv ((408 : Int32) + (p0 &&& (3 : Int32))), rv b_23, rv w_REFUSED, rv b41, iv (1 : Int32)] [(.ref b41)])) (fun t k => ?_) ?_
              · show Steps p.tables e below (T42.setTop (mkF m 87 #[iv p0, iv p1, iv p2, iv (p1 &&& (3 : Int32)), iv ((408 : Int32) + (p0 &&& (3 : Int32))), rv b_23, rv w_REFUSED, rv b41, u_] [(.int (410 : Int32)), (.int ((408 : Int32) + (p0 &&& (3 : Int32))))])) _
                refine XS.icmpNo X42.here hx rfl (hb hby at_87) rfl (teq (hc87 : ((408 : Int32) + (p0 &&& (3 : Int32))) = (410 : Int32))).2 ?_
                show Steps p.tables e below (T42.setTop (mkF m 90 #[iv p0, iv p1, iv p2, iv (p1 &&& (3 : Int32)), iv ((408 : Int32) + (p0 &&& (3 : Int32))), rv b_23, rv w_REFUSED, rv b41, u_] [])) _
                refine XS.iconst X42.here hx rfl (hb hby at_90) ?_
                show Steps p.tables e below (T42.setTop (mkF m 91 #[iv p0, iv p1, iv p2, iv (p1 &&& (3 : Int32)), iv ((408 : Int32) + (p0 &&& (3 : Int32))), rv b_23, rv w_REFUSED, rv b41, u_] [(.int (1 : Int32))])) _
                refine XS.goto X42.here hx rfl (pc0 := 91) (pc' := 95) rfl (hb hby at_91) (by decide) (by decide) ?_
                show Steps p.tables e below (T42.setTop (mkF m 95 #[iv p0, iv p1, iv p2, iv (p1 &&& (3 : Int32)), iv ((408 : Int32) + (p0 &&& (3 : Int32))), rv b_23, rv w_REFUSED, rv b41, u_] [(.int (1 : Int32))])) _
                refine XS.istore X42.here hx rfl (hb hby at_95) rfl (l' := #[iv p0, iv p1, iv p2, iv (p1 &&& (3 : Int32)), iv ((408 : Int32) + (p0 &&& (3 : Int32))), rv b_23, rv w_REFUSED, rv b41, iv (1 : Int32)]) rfl ?_
                show Steps p.tables e below (T42.setTop (mkF m 97 #[iv p0, iv p1, iv p2, iv (p1 &&& (3 : Int32)), iv ((408 : Int32) + (p0 &&& (3 : Int32))), rv b_23, rv w_REFUSED, rv b41, iv (1 : Int32)] [])) _
                refine XS.aload X42.here hx rfl (hb hby at_97) rfl rfl ?_
                exact k
              obtain ⟨cq43, kq43, q43a, q43b, q43c⟩ := isOf hZ (Eq.refl T42.heap) E_b41
              obtain ⟨_, _, ⟨T43, L43, k43, n43⟩, -, X43, ⟨Lc43, hQ43, l43, y43, z43⟩, st43⟩ := X42.virtualBack hx (y := (⟨"com/example/loomlist/loomlist/store/WebhookAnswer", "gone", "()Z"⟩ : MethodName)) (z := (⟨"com/example/loomlist/loomlist/store/WebhookAnswer", "gone", "()Z"⟩ : MethodName)) hown (mvT hZ (own_w hw 46 rfl)) (mvT hZ (own_w hw 47 rfl)) (notFace_of_selects (args := #[]) (mvT hZ (own_w hw 49 rfl))) (mvT hZ (own_w hw 49 rfl)) (mvT hZ (own_w hw 48 rfl)) (by decide) (backOf (W := 0) (rmG0 l Z a0 hw [] b41 b_23 ((408 : Int32) + (p0 &&& (3 : Int32))) T42.heap n0 O F_42 E_23 F_23 hc87) hZ (own_w hw 50 rfl) (own_w hw 32 rfl) (by decide) (by decide)) q43a q43c (g := (mkF m 99 #[iv p0, iv p1, iv p2, iv (p1 &&& (3 : Int32)), iv ((408 : Int32) + (p0 &&& (3 : Int32))), rv b_23, rv w_REFUSED, rv b41, iv (1 : Int32)] [(.ref b41)])) rfl (by rw [hml]; rfl) (Steps.refl _) (argsL := []) (rest := []) (lenOf pd__28_29Z rfl) rfl (by show 2 * 0 + _ ≤ _; exact Nat.le_of_eq rfl) (hb hby at_99) (fun _ _ => ⟨rfl, (Eq.refl T42.heap), (by decide : 2 + 0 ≤ _), (by decide : 3 + 0 ≤ _)⟩)
              dsimp only [Pt.U, Pt.locs, Pt.cells, Pt.slots] at X43 l43 y43 z43 st43 hQ43
              subst l43 y43 z43
              obtain ⟨rfl, Nq43, e43⟩ := hQ43
              have N43 := Fr.app N42 Nq43
              refine Go.step (fun t k => st43.trans k) ?_
              show Go p e below _ (T43.setTop (mkF m 102 #[iv p0, iv p1, iv p2, iv (p1 &&& (3 : Int32)), iv ((408 : Int32) + (p0 &&& (3 : Int32))), rv b_23, rv w_REFUSED, rv b41, iv (1 : Int32)] [(.int (1 : Int32))]))
              refine Go.step (S' := T43.setTop (mkF m 112 #[iv p0, iv p1, iv p2, iv (p1 &&& (3 : Int32)), iv ((408 : Int32) + (p0 &&& (3 : Int32))), rv b_23, rv w_REFUSED, rv b41, iv (1 : Int32)] [(.int (1 : Int32))])) (fun t k => ?_) ?_
              · show Steps p.tables e below (T43.setTop (mkF m 102 #[iv p0, iv p1, iv p2, iv (p1 &&& (3 : Int32)), iv ((408 : Int32) + (p0 &&& (3 : Int32))), rv b_23, rv w_REFUSED, rv b41, iv (1 : Int32)] [(.int (1 : Int32))])) _
                refine XS.iload X43.here hx rfl (hb hby at_102) rfl ?_
                show Steps p.tables e below (T43.setTop (mkF m 104 #[iv p0, iv p1, iv p2, iv (p1 &&& (3 : Int32)), iv ((408 : Int32) + (p0 &&& (3 : Int32))), rv b_23, rv w_REFUSED, rv b41, iv (1 : Int32)] [(.int (1 : Int32)), (.int (1 : Int32))])) _
                refine XS.icmpNo X43.here hx rfl (hb hby at_104) rfl (teq ((by decide) : (1 : Int32) = (1 : Int32))).2 ?_
                show Steps p.tables e below (T43.setTop (mkF m 107 #[iv p0, iv p1, iv p2, iv (p1 &&& (3 : Int32)), iv ((408 : Int32) + (p0 &&& (3 : Int32))), rv b_23, rv w_REFUSED, rv b41, iv (1 : Int32)] [])) _
                refine XS.iconst X43.here hx rfl (hb hby at_107) ?_
                show Steps p.tables e below (T43.setTop (mkF m 108 #[iv p0, iv p1, iv p2, iv (p1 &&& (3 : Int32)), iv ((408 : Int32) + (p0 &&& (3 : Int32))), rv b_23, rv w_REFUSED, rv b41, iv (1 : Int32)] [(.int (1 : Int32))])) _
                refine XS.goto X43.here hx rfl (pc0 := 108) (pc' := 112) rfl (hb hby at_108) (by decide) (by decide) ?_
                exact k
              obtain ⟨fs, hr, hrun, hended, hW, hsame⟩ := X43.leave (v := some (.int (1 : Int32))) (fun h => by rw [Bd.returns] at h; cases h)
              refine Go.fin (S' := T43.setFrames fs) ?_ hrun hended ⟨_, _, rfl, ?_, ⟨_, rfl⟩, hW, hsame.mono (by decide) (by decide)⟩
              · exact retOut X43 hx Bd.returns (by decide) (Or.inl ⟨rfl, Or.inr (Or.inl rfl), _, rfl⟩) (hb hby at_112) hr
              · show Q_rm0 Z p0 p1 p2 w_TIMEOUT w_UNREACHABLE w_REFUSED w_cache cl h0 n0 (some (.int (1 : Int32))) T43.heap _
                rw [e43]
                exact ⟨rfl, N43, K⟩
            · skip
              refine Go.step (S' := T42.setTop (mkF m 99 #[iv p0, iv p1, iv p2, iv (p1 &&& (3 : Int32)), iv ((408 : Int32) + (p0 &&& (3 : Int32))), rv b_23, rv w_REFUSED, rv b41, iv (0 : Int32)] [(.ref b41)])) (fun t k => ?_) ?_
              · show Steps p.tables e below (T42.setTop (mkF m 87 #[iv p0, iv p1, iv p2, iv (p1 &&& (3 : Int32)), iv ((408 : Int32) + (p0 &&& (3 : Int32))), rv b_23, rv w_REFUSED, rv b41, u_] [(.int (410 : Int32)), (.int ((408 : Int32) + (p0 &&& (3 : Int32))))])) _
                refine XS.icmpYes X42.here hx rfl (pc0 := 87) (pc' := 94) rfl (hb hby at_87) rfl (feq (hc87 : ¬ (((408 : Int32) + (p0 &&& (3 : Int32))) = (410 : Int32)))).2 (by decide) (by decide) ?_
                show Steps p.tables e below (T42.setTop (mkF m 94 #[iv p0, iv p1, iv p2, iv (p1 &&& (3 : Int32)), iv ((408 : Int32) + (p0 &&& (3 : Int32))), rv b_23, rv w_REFUSED, rv b41, u_] [])) _
                refine XS.iconst X42.here hx rfl (hb hby at_94) ?_
                show Steps p.tables e below (T42.setTop (mkF m 95 #[iv p0, iv p1, iv p2, iv (p1 &&& (3 : Int32)), iv ((408 : Int32) + (p0 &&& (3 : Int32))), rv b_23, rv w_REFUSED, rv b41, u_] [(.int (0 : Int32))])) _
                refine XS.istore X42.here hx rfl (hb hby at_95) rfl (l' := #[iv p0, iv p1, iv p2, iv (p1 &&& (3 : Int32)), iv ((408 : Int32) + (p0 &&& (3 : Int32))), rv b_23, rv w_REFUSED, rv b41, iv (0 : Int32)]) rfl ?_
                show Steps p.tables e below (T42.setTop (mkF m 97 #[iv p0, iv p1, iv p2, iv (p1 &&& (3 : Int32)), iv ((408 : Int32) + (p0 &&& (3 : Int32))), rv b_23, rv w_REFUSED, rv b41, iv (0 : Int32)] [])) _
                refine XS.aload X42.here hx rfl (hb hby at_97) rfl rfl ?_
                exact k
              obtain ⟨cq44, kq44, q44a, q44b, q44c⟩ := isOf hZ (Eq.refl T42.heap) E_b41
              obtain ⟨_, _, ⟨T44, L44, k44, n44⟩, -, X44, ⟨Lc44, hQ44, l44, y44, z44⟩, st44⟩ := X42.virtualBack hx (y := (⟨"com/example/loomlist/loomlist/store/WebhookAnswer", "gone", "()Z"⟩ : MethodName)) (z := (⟨"com/example/loomlist/loomlist/store/WebhookAnswer", "gone", "()Z"⟩ : MethodName)) hown (mvT hZ (own_w hw 46 rfl)) (mvT hZ (own_w hw 47 rfl)) (notFace_of_selects (args := #[]) (mvT hZ (own_w hw 49 rfl))) (mvT hZ (own_w hw 49 rfl)) (mvT hZ (own_w hw 48 rfl)) (by decide) (backOf (W := 0) (rmG1 l Z a0 hw [] b41 b_23 ((408 : Int32) + (p0 &&& (3 : Int32))) T42.heap n0 O F_42 E_23 F_23 hc87) hZ (own_w hw 50 rfl) (own_w hw 32 rfl) (by decide) (by decide)) q44a q44c (g := (mkF m 99 #[iv p0, iv p1, iv p2, iv (p1 &&& (3 : Int32)), iv ((408 : Int32) + (p0 &&& (3 : Int32))), rv b_23, rv w_REFUSED, rv b41, iv (0 : Int32)] [(.ref b41)])) rfl (by rw [hml]; rfl) (Steps.refl _) (argsL := []) (rest := []) (lenOf pd__28_29Z rfl) rfl (by show 2 * 0 + _ ≤ _; exact Nat.le_of_eq rfl) (hb hby at_99) (fun _ _ => ⟨rfl, (Eq.refl T42.heap), (by decide : 2 + 0 ≤ _), (by decide : 3 + 0 ≤ _)⟩)
              dsimp only [Pt.U, Pt.locs, Pt.cells, Pt.slots] at X44 l44 y44 z44 st44 hQ44
              subst l44 y44 z44
              obtain ⟨rfl, Nq44, e44⟩ := hQ44
              have N44 := Fr.app N42 Nq44
              refine Go.step (fun t k => st44.trans k) ?_
              show Go p e below _ (T44.setTop (mkF m 102 #[iv p0, iv p1, iv p2, iv (p1 &&& (3 : Int32)), iv ((408 : Int32) + (p0 &&& (3 : Int32))), rv b_23, rv w_REFUSED, rv b41, iv (0 : Int32)] [(.int (0 : Int32))]))
              refine Go.step (S' := T44.setTop (mkF m 112 #[iv p0, iv p1, iv p2, iv (p1 &&& (3 : Int32)), iv ((408 : Int32) + (p0 &&& (3 : Int32))), rv b_23, rv w_REFUSED, rv b41, iv (0 : Int32)] [(.int (1 : Int32))])) (fun t k => ?_) ?_
              · show Steps p.tables e below (T44.setTop (mkF m 102 #[iv p0, iv p1, iv p2, iv (p1 &&& (3 : Int32)), iv ((408 : Int32) + (p0 &&& (3 : Int32))), rv b_23, rv w_REFUSED, rv b41, iv (0 : Int32)] [(.int (0 : Int32))])) _
                refine XS.iload X44.here hx rfl (hb hby at_102) rfl ?_
                show Steps p.tables e below (T44.setTop (mkF m 104 #[iv p0, iv p1, iv p2, iv (p1 &&& (3 : Int32)), iv ((408 : Int32) + (p0 &&& (3 : Int32))), rv b_23, rv w_REFUSED, rv b41, iv (0 : Int32)] [(.int (0 : Int32)), (.int (0 : Int32))])) _
                refine XS.icmpNo X44.here hx rfl (hb hby at_104) rfl (teq ((by decide) : (0 : Int32) = (0 : Int32))).2 ?_
                show Steps p.tables e below (T44.setTop (mkF m 107 #[iv p0, iv p1, iv p2, iv (p1 &&& (3 : Int32)), iv ((408 : Int32) + (p0 &&& (3 : Int32))), rv b_23, rv w_REFUSED, rv b41, iv (0 : Int32)] [])) _
                refine XS.iconst X44.here hx rfl (hb hby at_107) ?_
                show Steps p.tables e below (T44.setTop (mkF m 108 #[iv p0, iv p1, iv p2, iv (p1 &&& (3 : Int32)), iv ((408 : Int32) + (p0 &&& (3 : Int32))), rv b_23, rv w_REFUSED, rv b41, iv (0 : Int32)] [(.int (1 : Int32))])) _
                refine XS.goto X44.here hx rfl (pc0 := 108) (pc' := 112) rfl (hb hby at_108) (by decide) (by decide) ?_
                exact k
              obtain ⟨fs, hr, hrun, hended, hW, hsame⟩ := X44.leave (v := some (.int (1 : Int32))) (fun h => by rw [Bd.returns] at h; cases h)
              refine Go.fin (S' := T44.setFrames fs) ?_ hrun hended ⟨_, _, rfl, ?_, ⟨_, rfl⟩, hW, hsame.mono (by decide) (by decide)⟩
              · exact retOut X44 hx Bd.returns (by decide) (Or.inl ⟨rfl, Or.inr (Or.inl rfl), _, rfl⟩) (hb hby at_112) hr
              · show Q_rm0 Z p0 p1 p2 w_TIMEOUT w_UNREACHABLE w_REFUSED w_cache cl h0 n0 (some (.int (1 : Int32))) T44.heap _
                rw [e44]
                exact ⟨rfl, N44, K⟩
    · skip
      refine Go.step (S' := s₁.setTop (mkF m 41 #[iv p0, iv p1, iv p2, iv (p1 &&& (3 : Int32)), iv (410 : Int32), .val .null, u_, u_, u_] [(.int (p1 &&& (3 : Int32)))])) (fun t k => ?_) ?_
      · show Steps p.tables e below (s₁.setTop (mkF m 17 #[iv p0, iv p1, iv p2, iv (p1 &&& (3 : Int32)), u_, u_, u_, u_, u_] [(.int (2 : Int32)), (.int (p1 &&& (3 : Int32)))])) _
        refine XS.icmpYes X0.here hx rfl (pc0 := 17) (pc' := 32) rfl (hb hby at_17) rfl (feq (hc17 : ¬ ((p1 &&& (3 : Int32)) = (2 : Int32)))).2 (by decide) (by decide) ?_
        show Steps p.tables e below (s₁.setTop (mkF m 32 #[iv p0, iv p1, iv p2, iv (p1 &&& (3 : Int32)), u_, u_, u_, u_, u_] [])) _
        refine XS.sipush X0.here hx rfl (hb hby at_32) ?_
        show Steps p.tables e below (s₁.setTop (mkF m 35 #[iv p0, iv p1, iv p2, iv (p1 &&& (3 : Int32)), u_, u_, u_, u_, u_] [(.int (410 : Int32))])) _
        refine XS.istore X0.here hx rfl (hb hby at_35) rfl (l' := #[iv p0, iv p1, iv p2, iv (p1 &&& (3 : Int32)), iv (410 : Int32), u_, u_, u_, u_]) rfl ?_
        show Steps p.tables e below (s₁.setTop (mkF m 37 #[iv p0, iv p1, iv p2, iv (p1 &&& (3 : Int32)), iv (410 : Int32), u_, u_, u_, u_] [])) _
        refine XS.aconstNull X0.here hx rfl (hb hby at_37) ?_
        show Steps p.tables e below (s₁.setTop (mkF m 38 #[iv p0, iv p1, iv p2, iv (p1 &&& (3 : Int32)), iv (410 : Int32), u_, u_, u_, u_] [.null])) _
        refine XS.astore X0.here hx rfl (hb hby at_38) rfl rfl (l' := #[iv p0, iv p1, iv p2, iv (p1 &&& (3 : Int32)), iv (410 : Int32), .val .null, u_, u_, u_]) rfl ?_
        show Steps p.tables e below (s₁.setTop (mkF m 40 #[iv p0, iv p1, iv p2, iv (p1 &&& (3 : Int32)), iv (410 : Int32), .val .null, u_, u_, u_] [])) _
        refine XS.iloadN X0.here hx rfl (hb hby at_40) rfl ?_
        exact k
      by_cases hc41 : (p1 &&& (3 : Int32)) = (0 : Int32)
      · skip
        refine Go.step (S' := s₁.setTop (mkF m 54 #[iv p0, iv p1, iv p2, iv (p1 &&& (3 : Int32)), iv (410 : Int32), .val .null, u_, u_, u_] [(.int (p2 &&& (3 : Int32)))])) (fun t k => ?_) ?_
        · show Steps p.tables e below (s₁.setTop (mkF m 41 #[iv p0, iv p1, iv p2, iv (p1 &&& (3 : Int32)), iv (410 : Int32), .val .null, u_, u_, u_] [(.int (p1 &&& (3 : Int32)))])) _
          refine XS.ifYes X0.here hx rfl (pc0 := 41) (pc' := 51) rfl (hb hby at_41) rfl ((if0 _ _).trans (teq (hc41 : (p1 &&& (3 : Int32)) = (0 : Int32))).1) (by decide) (by decide) ?_
          show Steps p.tables e below (s₁.setTop (mkF m 51 #[iv p0, iv p1, iv p2, iv (p1 &&& (3 : Int32)), iv (410 : Int32), .val .null, u_, u_, u_] [])) _
          refine XS.iloadN X0.here hx rfl (hb hby at_51) rfl ?_
          show Steps p.tables e below (s₁.setTop (mkF m 52 #[iv p0, iv p1, iv p2, iv (p1 &&& (3 : Int32)), iv (410 : Int32), .val .null, u_, u_, u_] [(.int p2)])) _
          refine XS.iconst X0.here hx rfl (hb hby at_52) ?_
          show Steps p.tables e below (s₁.setTop (mkF m 53 #[iv p0, iv p1, iv p2, iv (p1 &&& (3 : Int32)), iv (410 : Int32), .val .null, u_, u_, u_] [(.int (3 : Int32)), (.int p2)])) _
          refine XS.iand X0.here hx rfl (hb hby at_53) rfl ?_
          exact k
        by_cases hf0_45 : (p2 &&& (3 : Int32)) = (0 : Int32)
        · skip
          obtain ⟨_, _, ⟨T46, L46, k46, n46⟩, -, X46, ⟨Lc46, hQ46, l46, y46, z46⟩, st46⟩ := Jvm.LawKit.callS X0 hx (y := (⟨"com/example/loomlist/loomlist/store/WebhookAnswerGonePinLaw", "failure", "(I)Lcom/example/loomlist/loomlist/store/WebhookAnswer$Failure;"⟩ : MethodName)) hown (mvT hZ (own_w hw 23 rfl)) (mvT hZ (own_w hw 24 rfl)) (mvT hZ (own_w hw 25 rfl)) (mvT hZ (own_w hw 26 rfl)) (by decide) (backOf (W := 0) (rmF0 l Z a0 hw [] (p2 &&& (3 : Int32)) w_TIMEOUT w_UNREACHABLE w_REFUSED h0 n0 O S_TIMEOUT S_UNREACHABLE S_REFUSED hf0_45) hZ (own_w hw 26 rfl) (own_w hw 25 rfl) (by decide) (by decide)) (g := (mkF m 54 #[iv p0, iv p1, iv p2, iv (p1 &&& (3 : Int32)), iv (410 : Int32), .val .null, u_, u_, u_] [(.int (p2 &&& (3 : Int32)))])) rfl (by rw [hml]; rfl) (argsL := [(.int (p2 &&& (3 : Int32)))]) (rest := []) (lenOf pd__28I_29Lcom_2fexample_2floomlist_2floomlist_2fstore_2fWebhookAnswer_24Failure_3b rfl) rfl (by show 2 * 0 + _ ≤ _; exact Nat.le_of_eq rfl) (hb hby at_54) (fun _ _ => ⟨rfl, e0, (by decide : 0 + 0 ≤ _), (by decide : 0 + 0 ≤ _)⟩)
          dsimp only [Pt.U, Pt.locs, Pt.cells, Pt.slots] at X46 l46 y46 z46 st46 hQ46
          subst l46 y46 z46
          obtain ⟨rfl, Nq46, e46⟩ := hQ46
          have N46 := Fr.app N0 Nq46
          refine Go.step st46 ?_
          show Go p e below _ (T46.setTop (mkF m 57 #[iv p0, iv p1, iv p2, iv (p1 &&& (3 : Int32)), iv (410 : Int32), .val .null, u_, u_, u_] [.null]))
          refine Go.step (S' := T46.setTop (mkF m 59 #[iv p0, iv p1, iv p2, iv (p1 &&& (3 : Int32)), iv (410 : Int32), .val .null, .val .null, u_, u_] [])) (fun t k => ?_) ?_
          · show Steps p.tables e below (T46.setTop (mkF m 57 #[iv p0, iv p1, iv p2, iv (p1 &&& (3 : Int32)), iv (410 : Int32), .val .null, u_, u_, u_] [.null])) _
            refine XS.astore X46.here hx rfl (hb hby at_57) rfl rfl (l' := #[iv p0, iv p1, iv p2, iv (p1 &&& (3 : Int32)), iv (410 : Int32), .val .null, .val .null, u_, u_]) rfl ?_
            exact k
          obtain ⟨T47, h47, X47, e47, E47, A47, D47, -, st47⟩ := newO X46 hx hZ hown (own_w hw 30 rfl) (own_w hw 31 rfl) (own_w hw 32 rfl) e46 (g := (mkF m 59 #[iv p0, iv p1, iv p2, iv (p1 &&& (3 : Int32)), iv (410 : Int32), .val .null, .val .null, u_, u_] [])) rfl (hb hby at_59) (by decide) (by decide)
          obtain ⟨b47, g47⟩ : ∃ z, z = Array.size h0 := ⟨_, rfl⟩
          have g_b47 : n0 ≤ b47 := Nat.le_trans (old_le O) (Nat.le_of_eq g47.symm)
          have sz_b47 : h0.size ≤ b47 := Nat.le_trans K.1 (Nat.le_of_eq g47.symm)
          rw [← g47] at A47 D47 st47
          have O := O.ext E47
          have K := K.ext E47
          have E_b47 := A47
          have F_status_b47 : Fld Z h47 b47 "com/example/loomlist/loomlist/store/WebhookAnswer" "status" "Ljava/lang/Integer;" .null := D47 (Or.inr (own_w hw 43 rfl)) (ty := (.object "java/lang/Integer")) (by decide)
          have F_failure_b47 : Fld Z h47 b47 "com/example/loomlist/loomlist/store/WebhookAnswer" "failure" "Lcom/example/loomlist/loomlist/store/WebhookAnswer$Failure;" .null := D47 (Or.inr (own_w hw 45 rfl)) (ty := (.object "com/example/loomlist/loomlist/store/WebhookAnswer$Failure")) (by decide)
          refine Go.step st47 ?_
          show Go p e below _ (T47.setTop (mkF m 62 #[iv p0, iv p1, iv p2, iv (p1 &&& (3 : Int32)), iv (410 : Int32), .val .null, .val .null, u_, u_] [(.ref b47)]))
          refine Go.step (S' := T47.setTop (mkF m 67 #[iv p0, iv p1, iv p2, iv (p1 &&& (3 : Int32)), iv (410 : Int32), .val .null, .val .null, u_, u_] [.null, .null, (.ref b47), (.ref b47)])) (fun t k => ?_) ?_
          · show Steps p.tables e below (T47.setTop (mkF m 62 #[iv p0, iv p1, iv p2, iv (p1 &&& (3 : Int32)), iv (410 : Int32), .val .null, .val .null, u_, u_] [(.ref b47)])) _
            refine XS.dup X47.here hx rfl (hb hby at_62) rfl rfl ?_
            show Steps p.tables e below (T47.setTop (mkF m 63 #[iv p0, iv p1, iv p2, iv (p1 &&& (3 : Int32)), iv (410 : Int32), .val .null, .val .null, u_, u_] [(.ref b47), (.ref b47)])) _
            refine XS.aload X47.here hx rfl (hb hby at_63) rfl rfl ?_
            show Steps p.tables e below (T47.setTop (mkF m 65 #[iv p0, iv p1, iv p2, iv (p1 &&& (3 : Int32)), iv (410 : Int32), .val .null, .val .null, u_, u_] [.null, (.ref b47), (.ref b47)])) _
            refine XS.aload X47.here hx rfl (hb hby at_65) rfl rfl ?_
            exact k
          obtain ⟨_, _, ⟨T48, L48, k48, n48⟩, -, X48, ⟨Lc48, hQ48, l48, y48, z48⟩, st48⟩ := X47.specialBack hx (y := (⟨"com/example/loomlist/loomlist/store/WebhookAnswer", "<init>", "(Ljava/lang/Integer;Lcom/example/loomlist/loomlist/store/WebhookAnswer$Failure;)V"⟩ : MethodName)) rfl hown (mvT hZ (own_w hw 33 rfl)) (mvT hZ (own_w hw 34 rfl)) (mvT hZ (own_w hw 35 rfl)) (by decide) (backOf (W := 1) (rmW0 l Z a0 hw [] b47 h47 n0 O E_b47 F_status_b47 F_failure_b47 (by assumption)) hZ (own_w hw 35 rfl) (own_w hw 32 rfl) (by decide) (by decide)) (g := (mkF m 67 #[iv p0, iv p1, iv p2, iv (p1 &&& (3 : Int32)), iv (410 : Int32), .val .null, .val .null, u_, u_] [.null, .null, (.ref b47), (.ref b47)])) rfl (by rw [hml]; rfl) (Steps.refl _) (a := b47) (argsL := [.null, .null]) (rest := [(.ref b47)]) (lenOf pd__28Ljava_2flang_2fInteger_3bLcom_2fexample_2floomlist_2floomlist_2fstore_2fWebhookAnswer_24Failure_3b_29V rfl) rfl (by show 2 * 0 + _ ≤ _; exact Nat.le_of_eq rfl) (hb hby at_67) (fun _ _ => ⟨rfl, e47, (by decide : 1 + 0 ≤ _), (by decide : 2 + 0 ≤ _)⟩)
          dsimp only [Pt.U, Pt.locs, Pt.cells, Pt.slots] at X48 l48 y48 z48 st48 hQ48
          subst l48 y48 z48
          obtain ⟨rfl, Nq48, K48, P48_E, P48_F⟩ := hQ48
          have N48 := Fr.app N46 Nq48
          have O := O.keep K48 (allS g_b47 all0)
          have K := K.trans K48 (allS (Or.inr sz_b47) all0)
          have E_b47 := E_b47.keep K48
          have E_48 := P48_E
          have F_48 := P48_F
          refine Go.step (fun t k => st48.trans k) ?_
          show Go p e below _ (T48.setTop (mkF m 70 #[iv p0, iv p1, iv p2, iv (p1 &&& (3 : Int32)), iv (410 : Int32), .val .null, .val .null, u_, u_] [(.ref b47)]))
          refine Go.step (S' := T48.setTop (mkF m 99 #[iv p0, iv p1, iv p2, iv (p1 &&& (3 : Int32)), iv (410 : Int32), .val .null, .val .null, rv b47, iv (0 : Int32)] [(.ref b47)])) (fun t k => ?_) ?_
          · show Steps p.tables e below (T48.setTop (mkF m 70 #[iv p0, iv p1, iv p2, iv (p1 &&& (3 : Int32)), iv (410 : Int32), .val .null, .val .null, u_, u_] [(.ref b47)])) _
            refine XS.astore X48.here hx rfl (hb hby at_70) rfl rfl (l' := #[iv p0, iv p1, iv p2, iv (p1 &&& (3 : Int32)), iv (410 : Int32), .val .null, .val .null, rv b47, u_]) rfl ?_
            show Steps p.tables e below (T48.setTop (mkF m 72 #[iv p0, iv p1, iv p2, iv (p1 &&& (3 : Int32)), iv (410 : Int32), .val .null, .val .null, rv b47, u_] [])) _
            refine XS.iloadN X48.here hx rfl (hb hby at_72) rfl ?_
            show Steps p.tables e below (T48.setTop (mkF m 73 #[iv p0, iv p1, iv p2, iv (p1 &&& (3 : Int32)), iv (410 : Int32), .val .null, .val .null, rv b47, u_] [(.int (p1 &&& (3 : Int32)))])) _
            refine XS.ifNo X48.here hx rfl (hb hby at_73) rfl ((if0 _ _).trans (teq (hc41 : (p1 &&& (3 : Int32)) = (0 : Int32))).2) ?_
            show Steps p.tables e below (T48.setTop (mkF m 76 #[iv p0, iv p1, iv p2, iv (p1 &&& (3 : Int32)), iv (410 : Int32), .val .null, .val .null, rv b47, u_] [])) _
            refine XS.iconst X48.here hx rfl (hb hby at_76) ?_
            show Steps p.tables e below (T48.setTop (mkF m 77 #[iv p0, iv p1, iv p2, iv (p1 &&& (3 : Int32)), iv (410 : Int32), .val .null, .val .null, rv b47, u_] [(.int (0 : Int32))])) _
            refine XS.istore X48.here hx rfl (hb hby at_77) rfl (l' := #[iv p0, iv p1, iv p2, iv (p1 &&& (3 : Int32)), iv (410 : Int32), .val .null, .val .null, rv b47, iv (0 : Int32)]) rfl ?_
            show Steps p.tables e below (T48.setTop (mkF m 79 #[iv p0, iv p1, iv p2, iv (p1 &&& (3 : Int32)), iv (410 : Int32), .val .null, .val .null, rv b47, iv (0 : Int32)] [])) _
            refine XS.goto X48.here hx rfl (pc0 := 79) (pc' := 97) rfl (hb hby at_79) (by decide) (by decide) ?_
            show Steps p.tables e below (T48.setTop (mkF m 97 #[iv p0, iv p1, iv p2, iv (p1 &&& (3 : Int32)), iv (410 : Int32), .val .null, .val .null, rv b47, iv (0 : Int32)] [])) _
            refine XS.aload X48.here hx rfl (hb hby at_97) rfl rfl ?_
            exact k
          obtain ⟨cq49, kq49, q49a, q49b, q49c⟩ := isOf hZ (Eq.refl T48.heap) E_b47
          obtain ⟨_, _, ⟨T49, L49, k49, n49⟩, -, X49, ⟨Lc49, hQ49, l49, y49, z49⟩, st49⟩ := X48.virtualBack hx (y := (⟨"com/example/loomlist/loomlist/store/WebhookAnswer", "gone", "()Z"⟩ : MethodName)) (z := (⟨"com/example/loomlist/loomlist/store/WebhookAnswer", "gone", "()Z"⟩ : MethodName)) hown (mvT hZ (own_w hw 46 rfl)) (mvT hZ (own_w hw 47 rfl)) (notFace_of_selects (args := #[]) (mvT hZ (own_w hw 49 rfl))) (mvT hZ (own_w hw 49 rfl)) (mvT hZ (own_w hw 48 rfl)) (by decide) (backOf (W := 0) (rmGN l Z a0 hw [] b47 T48.heap n0 O F_48) hZ (own_w hw 50 rfl) (own_w hw 32 rfl) (by decide) (by decide)) q49a q49c (g := (mkF m 99 #[iv p0, iv p1, iv p2, iv (p1 &&& (3 : Int32)), iv (410 : Int32), .val .null, .val .null, rv b47, iv (0 : Int32)] [(.ref b47)])) rfl (by rw [hml]; rfl) (Steps.refl _) (argsL := []) (rest := []) (lenOf pd__28_29Z rfl) rfl (by show 2 * 0 + _ ≤ _; exact Nat.le_of_eq rfl) (hb hby at_99) (fun _ _ => ⟨rfl, (Eq.refl T48.heap), (by decide : 1 + 0 ≤ _), (by decide : 2 + 0 ≤ _)⟩)
          dsimp only [Pt.U, Pt.locs, Pt.cells, Pt.slots] at X49 l49 y49 z49 st49 hQ49
          subst l49 y49 z49
          obtain ⟨rfl, Nq49, e49⟩ := hQ49
          have N49 := Fr.app N48 Nq49
          refine Go.step (fun t k => st49.trans k) ?_
          show Go p e below _ (T49.setTop (mkF m 102 #[iv p0, iv p1, iv p2, iv (p1 &&& (3 : Int32)), iv (410 : Int32), .val .null, .val .null, rv b47, iv (0 : Int32)] [(.int (0 : Int32))]))
          refine Go.step (S' := T49.setTop (mkF m 112 #[iv p0, iv p1, iv p2, iv (p1 &&& (3 : Int32)), iv (410 : Int32), .val .null, .val .null, rv b47, iv (0 : Int32)] [(.int (1 : Int32))])) (fun t k => ?_) ?_
          · show Steps p.tables e below (T49.setTop (mkF m 102 #[iv p0, iv p1, iv p2, iv (p1 &&& (3 : Int32)), iv (410 : Int32), .val .null, .val .null, rv b47, iv (0 : Int32)] [(.int (0 : Int32))])) _
            refine XS.iload X49.here hx rfl (hb hby at_102) rfl ?_
            show Steps p.tables e below (T49.setTop (mkF m 104 #[iv p0, iv p1, iv p2, iv (p1 &&& (3 : Int32)), iv (410 : Int32), .val .null, .val .null, rv b47, iv (0 : Int32)] [(.int (0 : Int32)), (.int (0 : Int32))])) _
            refine XS.icmpNo X49.here hx rfl (hb hby at_104) rfl (teq ((by decide) : (0 : Int32) = (0 : Int32))).2 ?_
            show Steps p.tables e below (T49.setTop (mkF m 107 #[iv p0, iv p1, iv p2, iv (p1 &&& (3 : Int32)), iv (410 : Int32), .val .null, .val .null, rv b47, iv (0 : Int32)] [])) _
            refine XS.iconst X49.here hx rfl (hb hby at_107) ?_
            show Steps p.tables e below (T49.setTop (mkF m 108 #[iv p0, iv p1, iv p2, iv (p1 &&& (3 : Int32)), iv (410 : Int32), .val .null, .val .null, rv b47, iv (0 : Int32)] [(.int (1 : Int32))])) _
            refine XS.goto X49.here hx rfl (pc0 := 108) (pc' := 112) rfl (hb hby at_108) (by decide) (by decide) ?_
            exact k
          obtain ⟨fs, hr, hrun, hended, hW, hsame⟩ := X49.leave (v := some (.int (1 : Int32))) (fun h => by rw [Bd.returns] at h; cases h)
          refine Go.fin (S' := T49.setFrames fs) ?_ hrun hended ⟨_, _, rfl, ?_, ⟨_, rfl⟩, hW, hsame.mono (by decide) (by decide)⟩
          · exact retOut X49 hx Bd.returns (by decide) (Or.inl ⟨rfl, Or.inr (Or.inl rfl), _, rfl⟩) (hb hby at_112) hr
          · show Q_rm0 Z p0 p1 p2 w_TIMEOUT w_UNREACHABLE w_REFUSED w_cache cl h0 n0 (some (.int (1 : Int32))) T49.heap _
            rw [e49]
            exact ⟨rfl, N49, K⟩
        · skip
          by_cases hf1_45 : (p2 &&& (3 : Int32)) = (1 : Int32)
          · skip
            obtain ⟨_, _, ⟨T50, L50, k50, n50⟩, -, X50, ⟨Lc50, hQ50, l50, y50, z50⟩, st50⟩ := Jvm.LawKit.callS X0 hx (y := (⟨"com/example/loomlist/loomlist/store/WebhookAnswerGonePinLaw", "failure", "(I)Lcom/example/loomlist/loomlist/store/WebhookAnswer$Failure;"⟩ : MethodName)) hown (mvT hZ (own_w hw 23 rfl)) (mvT hZ (own_w hw 24 rfl)) (mvT hZ (own_w hw 25 rfl)) (mvT hZ (own_w hw 26 rfl)) (by decide) (backOf (W := 0) (rmF1 l Z a0 hw [] (p2 &&& (3 : Int32)) w_TIMEOUT w_UNREACHABLE w_REFUSED h0 n0 O S_TIMEOUT S_UNREACHABLE S_REFUSED hf0_45 hf1_45) hZ (own_w hw 26 rfl) (own_w hw 25 rfl) (by decide) (by decide)) (g := (mkF m 54 #[iv p0, iv p1, iv p2, iv (p1 &&& (3 : Int32)), iv (410 : Int32), .val .null, u_, u_, u_] [(.int (p2 &&& (3 : Int32)))])) rfl (by rw [hml]; rfl) (argsL := [(.int (p2 &&& (3 : Int32)))]) (rest := []) (lenOf pd__28I_29Lcom_2fexample_2floomlist_2floomlist_2fstore_2fWebhookAnswer_24Failure_3b rfl) rfl (by show 2 * 0 + _ ≤ _; exact Nat.le_of_eq rfl) (hb hby at_54) (fun _ _ => ⟨rfl, e0, (by decide : 0 + 0 ≤ _), (by decide : 0 + 0 ≤ _)⟩)
            dsimp only [Pt.U, Pt.locs, Pt.cells, Pt.slots] at X50 l50 y50 z50 st50 hQ50
            subst l50 y50 z50
            obtain ⟨rfl, Nq50, e50⟩ := hQ50
            have N50 := Fr.app N0 Nq50
            refine Go.step st50 ?_
            show Go p e below _ (T50.setTop (mkF m 57 #[iv p0, iv p1, iv p2, iv (p1 &&& (3 : Int32)), iv (410 : Int32), .val .null, u_, u_, u_] [(.ref w_TIMEOUT)]))
            refine Go.step (S' := T50.setTop (mkF m 59 #[iv p0, iv p1, iv p2, iv (p1 &&& (3 : Int32)), iv (410 : Int32), .val .null, rv w_TIMEOUT, u_, u_] [])) (fun t k => ?_) ?_
            · show Steps p.tables e below (T50.setTop (mkF m 57 #[iv p0, iv p1, iv p2, iv (p1 &&& (3 : Int32)), iv (410 : Int32), .val .null, u_, u_, u_] [(.ref w_TIMEOUT)])) _
              refine XS.astore X50.here hx rfl (hb hby at_57) rfl rfl (l' := #[iv p0, iv p1, iv p2, iv (p1 &&& (3 : Int32)), iv (410 : Int32), .val .null, rv w_TIMEOUT, u_, u_]) rfl ?_
              exact k
            obtain ⟨T51, h51, X51, e51, E51, A51, D51, -, st51⟩ := newO X50 hx hZ hown (own_w hw 30 rfl) (own_w hw 31 rfl) (own_w hw 32 rfl) e50 (g := (mkF m 59 #[iv p0, iv p1, iv p2, iv (p1 &&& (3 : Int32)), iv (410 : Int32), .val .null, rv w_TIMEOUT, u_, u_] [])) rfl (hb hby at_59) (by decide) (by decide)
            obtain ⟨b51, g51⟩ : ∃ z, z = Array.size h0 := ⟨_, rfl⟩
            have g_b51 : n0 ≤ b51 := Nat.le_trans (old_le O) (Nat.le_of_eq g51.symm)
            have sz_b51 : h0.size ≤ b51 := Nat.le_trans K.1 (Nat.le_of_eq g51.symm)
            rw [← g51] at A51 D51 st51
            have O := O.ext E51
            have K := K.ext E51
            have E_b51 := A51
            have F_status_b51 : Fld Z h51 b51 "com/example/loomlist/loomlist/store/WebhookAnswer" "status" "Ljava/lang/Integer;" .null := D51 (Or.inr (own_w hw 43 rfl)) (ty := (.object "java/lang/Integer")) (by decide)
            have F_failure_b51 : Fld Z h51 b51 "com/example/loomlist/loomlist/store/WebhookAnswer" "failure" "Lcom/example/loomlist/loomlist/store/WebhookAnswer$Failure;" .null := D51 (Or.inr (own_w hw 45 rfl)) (ty := (.object "com/example/loomlist/loomlist/store/WebhookAnswer$Failure")) (by decide)
            refine Go.step st51 ?_
            show Go p e below _ (T51.setTop (mkF m 62 #[iv p0, iv p1, iv p2, iv (p1 &&& (3 : Int32)), iv (410 : Int32), .val .null, rv w_TIMEOUT, u_, u_] [(.ref b51)]))
            refine Go.step (S' := T51.setTop (mkF m 67 #[iv p0, iv p1, iv p2, iv (p1 &&& (3 : Int32)), iv (410 : Int32), .val .null, rv w_TIMEOUT, u_, u_] [(.ref w_TIMEOUT), .null, (.ref b51), (.ref b51)])) (fun t k => ?_) ?_
            · show Steps p.tables e below (T51.setTop (mkF m 62 #[iv p0, iv p1, iv p2, iv (p1 &&& (3 : Int32)), iv (410 : Int32), .val .null, rv w_TIMEOUT, u_, u_] [(.ref b51)])) _
              refine XS.dup X51.here hx rfl (hb hby at_62) rfl rfl ?_
              show Steps p.tables e below (T51.setTop (mkF m 63 #[iv p0, iv p1, iv p2, iv (p1 &&& (3 : Int32)), iv (410 : Int32), .val .null, rv w_TIMEOUT, u_, u_] [(.ref b51), (.ref b51)])) _
              refine XS.aload X51.here hx rfl (hb hby at_63) rfl rfl ?_
              show Steps p.tables e below (T51.setTop (mkF m 65 #[iv p0, iv p1, iv p2, iv (p1 &&& (3 : Int32)), iv (410 : Int32), .val .null, rv w_TIMEOUT, u_, u_] [.null, (.ref b51), (.ref b51)])) _
              refine XS.aload X51.here hx rfl (hb hby at_65) rfl rfl ?_
              exact k
            obtain ⟨_, _, ⟨T52, L52, k52, n52⟩, -, X52, ⟨Lc52, hQ52, l52, y52, z52⟩, st52⟩ := X51.specialBack hx (y := (⟨"com/example/loomlist/loomlist/store/WebhookAnswer", "<init>", "(Ljava/lang/Integer;Lcom/example/loomlist/loomlist/store/WebhookAnswer$Failure;)V"⟩ : MethodName)) rfl hown (mvT hZ (own_w hw 33 rfl)) (mvT hZ (own_w hw 34 rfl)) (mvT hZ (own_w hw 35 rfl)) (by decide) (backOf (W := 1) (rmW1 l Z a0 hw [] b51 w_TIMEOUT h51 n0 O E_b51 F_status_b51 F_failure_b51 (by assumption)) hZ (own_w hw 35 rfl) (own_w hw 32 rfl) (by decide) (by decide)) (g := (mkF m 67 #[iv p0, iv p1, iv p2, iv (p1 &&& (3 : Int32)), iv (410 : Int32), .val .null, rv w_TIMEOUT, u_, u_] [(.ref w_TIMEOUT), .null, (.ref b51), (.ref b51)])) rfl (by rw [hml]; rfl) (Steps.refl _) (a := b51) (argsL := [.null, (.ref w_TIMEOUT)]) (rest := [(.ref b51)]) (lenOf pd__28Ljava_2flang_2fInteger_3bLcom_2fexample_2floomlist_2floomlist_2fstore_2fWebhookAnswer_24Failure_3b_29V rfl) rfl (by show 2 * 0 + _ ≤ _; exact Nat.le_of_eq rfl) (hb hby at_67) (fun _ _ => ⟨rfl, e51, (by decide : 1 + 0 ≤ _), (by decide : 2 + 0 ≤ _)⟩)
            dsimp only [Pt.U, Pt.locs, Pt.cells, Pt.slots] at X52 l52 y52 z52 st52 hQ52
            subst l52 y52 z52
            obtain ⟨rfl, Nq52, K52, P52_E, P52_F⟩ := hQ52
            have N52 := Fr.app N50 Nq52
            have O := O.keep K52 (allS g_b51 all0)
            have K := K.trans K52 (allS (Or.inr sz_b51) all0)
            have E_b51 := E_b51.keep K52
            have E_52 := P52_E
            have F_52 := P52_F
            refine Go.step (fun t k => st52.trans k) ?_
            show Go p e below _ (T52.setTop (mkF m 70 #[iv p0, iv p1, iv p2, iv (p1 &&& (3 : Int32)), iv (410 : Int32), .val .null, rv w_TIMEOUT, u_, u_] [(.ref b51)]))
            refine Go.step (S' := T52.setTop (mkF m 99 #[iv p0, iv p1, iv p2, iv (p1 &&& (3 : Int32)), iv (410 : Int32), .val .null, rv w_TIMEOUT, rv b51, iv (0 : Int32)] [(.ref b51)])) (fun t k => ?_) ?_
            · show Steps p.tables e below (T52.setTop (mkF m 70 #[iv p0, iv p1, iv p2, iv (p1 &&& (3 : Int32)), iv (410 : Int32), .val .null, rv w_TIMEOUT, u_, u_] [(.ref b51)])) _
              refine XS.astore X52.here hx rfl (hb hby at_70) rfl rfl (l' := #[iv p0, iv p1, iv p2, iv (p1 &&& (3 : Int32)), iv (410 : Int32), .val .null, rv w_TIMEOUT, rv b51, u_]) rfl ?_
              show Steps p.tables e below (T52.setTop (mkF m 72 #[iv p0, iv p1, iv p2, iv (p1 &&& (3 : Int32)), iv (410 : Int32), .val .null, rv w_TIMEOUT, rv b51, u_] [])) _
              refine XS.iloadN X52.here hx rfl (hb hby at_72) rfl ?_
              show Steps p.tables e below (T52.setTop (mkF m 73 #[iv p0, iv p1, iv p2, iv (p1 &&& (3 : Int32)), iv (410 : Int32), .val .null, rv w_TIMEOUT, rv b51, u_] [(.int (p1 &&& (3 : Int32)))])) _
              refine XS.ifNo X52.here hx rfl (hb hby at_73) rfl ((if0 _ _).trans (teq (hc41 : (p1 &&& (3 : Int32)) = (0 : Int32))).2) ?_
              show Steps p.tables e below (T52.setTop (mkF m 76 #[iv p0, iv p1, iv p2, iv (p1 &&& (3 : Int32)), iv (410 : Int32), .val .null, rv w_TIMEOUT, rv b51, u_] [])) _
              refine XS.iconst X52.here hx rfl (hb hby at_76) ?_
              show Steps p.tables e below (T52.setTop (mkF m 77 #[iv p0, iv p1, iv p2, iv (p1 &&& (3 : Int32)), iv (410 : Int32), .val .null, rv w_TIMEOUT, rv b51, u_] [(.int (0 : Int32))])) _
              refine XS.istore X52.here hx rfl (hb hby at_77) rfl (l' := #[iv p0, iv p1, iv p2, iv (p1 &&& (3 : Int32)), iv (410 : Int32), .val .null, rv w_TIMEOUT, rv b51, iv (0 : Int32)]) rfl ?_
              show Steps p.tables e below (T52.setTop (mkF m 79 #[iv p0, iv p1, iv p2, iv (p1 &&& (3 : Int32)), iv (410 : Int32), .val .null, rv w_TIMEOUT, rv b51, iv (0 : Int32)] [])) _
              refine XS.goto X52.here hx rfl (pc0 := 79) (pc' := 97) rfl (hb hby at_79) (by decide) (by decide) ?_
              show Steps p.tables e below (T52.setTop (mkF m 97 #[iv p0, iv p1, iv p2, iv (p1 &&& (3 : Int32)), iv (410 : Int32), .val .null, rv w_TIMEOUT, rv b51, iv (0 : Int32)] [])) _
              refine XS.aload X52.here hx rfl (hb hby at_97) rfl rfl ?_
              exact k
            obtain ⟨cq53, kq53, q53a, q53b, q53c⟩ := isOf hZ (Eq.refl T52.heap) E_b51
            obtain ⟨_, _, ⟨T53, L53, k53, n53⟩, -, X53, ⟨Lc53, hQ53, l53, y53, z53⟩, st53⟩ := X52.virtualBack hx (y := (⟨"com/example/loomlist/loomlist/store/WebhookAnswer", "gone", "()Z"⟩ : MethodName)) (z := (⟨"com/example/loomlist/loomlist/store/WebhookAnswer", "gone", "()Z"⟩ : MethodName)) hown (mvT hZ (own_w hw 46 rfl)) (mvT hZ (own_w hw 47 rfl)) (notFace_of_selects (args := #[]) (mvT hZ (own_w hw 49 rfl))) (mvT hZ (own_w hw 49 rfl)) (mvT hZ (own_w hw 48 rfl)) (by decide) (backOf (W := 0) (rmGN l Z a0 hw [] b51 T52.heap n0 O F_52) hZ (own_w hw 50 rfl) (own_w hw 32 rfl) (by decide) (by decide)) q53a q53c (g := (mkF m 99 #[iv p0, iv p1, iv p2, iv (p1 &&& (3 : Int32)), iv (410 : Int32), .val .null, rv w_TIMEOUT, rv b51, iv (0 : Int32)] [(.ref b51)])) rfl (by rw [hml]; rfl) (Steps.refl _) (argsL := []) (rest := []) (lenOf pd__28_29Z rfl) rfl (by show 2 * 0 + _ ≤ _; exact Nat.le_of_eq rfl) (hb hby at_99) (fun _ _ => ⟨rfl, (Eq.refl T52.heap), (by decide : 1 + 0 ≤ _), (by decide : 2 + 0 ≤ _)⟩)
            dsimp only [Pt.U, Pt.locs, Pt.cells, Pt.slots] at X53 l53 y53 z53 st53 hQ53
            subst l53 y53 z53
            obtain ⟨rfl, Nq53, e53⟩ := hQ53
            have N53 := Fr.app N52 Nq53
            refine Go.step (fun t k => st53.trans k) ?_
            show Go p e below _ (T53.setTop (mkF m 102 #[iv p0, iv p1, iv p2, iv (p1 &&& (3 : Int32)), iv (410 : Int32), .val .null, rv w_TIMEOUT, rv b51, iv (0 : Int32)] [(.int (0 : Int32))]))
            refine Go.step (S' := T53.setTop (mkF m 112 #[iv p0, iv p1, iv p2, iv (p1 &&& (3 : Int32)), iv (410 : Int32), .val .null, rv w_TIMEOUT, rv b51, iv (0 : Int32)] [(.int (1 : Int32))])) (fun t k => ?_) ?_
            · show Steps p.tables e below (T53.setTop (mkF m 102 #[iv p0, iv p1, iv p2, iv (p1 &&& (3 : Int32)), iv (410 : Int32), .val .null, rv w_TIMEOUT, rv b51, iv (0 : Int32)] [(.int (0 : Int32))])) _
              refine XS.iload X53.here hx rfl (hb hby at_102) rfl ?_
              show Steps p.tables e below (T53.setTop (mkF m 104 #[iv p0, iv p1, iv p2, iv (p1 &&& (3 : Int32)), iv (410 : Int32), .val .null, rv w_TIMEOUT, rv b51, iv (0 : Int32)] [(.int (0 : Int32)), (.int (0 : Int32))])) _
              refine XS.icmpNo X53.here hx rfl (hb hby at_104) rfl (teq ((by decide) : (0 : Int32) = (0 : Int32))).2 ?_
              show Steps p.tables e below (T53.setTop (mkF m 107 #[iv p0, iv p1, iv p2, iv (p1 &&& (3 : Int32)), iv (410 : Int32), .val .null, rv w_TIMEOUT, rv b51, iv (0 : Int32)] [])) _
              refine XS.iconst X53.here hx rfl (hb hby at_107) ?_
              show Steps p.tables e below (T53.setTop (mkF m 108 #[iv p0, iv p1, iv p2, iv (p1 &&& (3 : Int32)), iv (410 : Int32), .val .null, rv w_TIMEOUT, rv b51, iv (0 : Int32)] [(.int (1 : Int32))])) _
              refine XS.goto X53.here hx rfl (pc0 := 108) (pc' := 112) rfl (hb hby at_108) (by decide) (by decide) ?_
              exact k
            obtain ⟨fs, hr, hrun, hended, hW, hsame⟩ := X53.leave (v := some (.int (1 : Int32))) (fun h => by rw [Bd.returns] at h; cases h)
            refine Go.fin (S' := T53.setFrames fs) ?_ hrun hended ⟨_, _, rfl, ?_, ⟨_, rfl⟩, hW, hsame.mono (by decide) (by decide)⟩
            · exact retOut X53 hx Bd.returns (by decide) (Or.inl ⟨rfl, Or.inr (Or.inl rfl), _, rfl⟩) (hb hby at_112) hr
            · show Q_rm0 Z p0 p1 p2 w_TIMEOUT w_UNREACHABLE w_REFUSED w_cache cl h0 n0 (some (.int (1 : Int32))) T53.heap _
              rw [e53]
              exact ⟨rfl, N53, K⟩
          · skip
            by_cases hf2_45 : (p2 &&& (3 : Int32)) = (2 : Int32)
            · skip
              obtain ⟨_, _, ⟨T54, L54, k54, n54⟩, -, X54, ⟨Lc54, hQ54, l54, y54, z54⟩, st54⟩ := Jvm.LawKit.callS X0 hx (y := (⟨"com/example/loomlist/loomlist/store/WebhookAnswerGonePinLaw", "failure", "(I)Lcom/example/loomlist/loomlist/store/WebhookAnswer$Failure;"⟩ : MethodName)) hown (mvT hZ (own_w hw 23 rfl)) (mvT hZ (own_w hw 24 rfl)) (mvT hZ (own_w hw 25 rfl)) (mvT hZ (own_w hw 26 rfl)) (by decide) (backOf (W := 0) (rmF2 l Z a0 hw [] (p2 &&& (3 : Int32)) w_TIMEOUT w_UNREACHABLE w_REFUSED h0 n0 O S_TIMEOUT S_UNREACHABLE S_REFUSED hf0_45 hf1_45 hf2_45) hZ (own_w hw 26 rfl) (own_w hw 25 rfl) (by decide) (by decide)) (g := (mkF m 54 #[iv p0, iv p1, iv p2, iv (p1 &&& (3 : Int32)), iv (410 : Int32), .val .null, u_, u_, u_] [(.int (p2 &&& (3 : Int32)))])) rfl (by rw [hml]; rfl) (argsL := [(.int (p2 &&& (3 : Int32)))]) (rest := []) (lenOf pd__28I_29Lcom_2fexample_2floomlist_2floomlist_2fstore_2fWebhookAnswer_24Failure_3b rfl) rfl (by show 2 * 0 + _ ≤ _; exact Nat.le_of_eq rfl) (hb hby at_54) (fun _ _ => ⟨rfl, e0, (by decide : 0 + 0 ≤ _), (by decide : 0 + 0 ≤ _)⟩)
              dsimp only [Pt.U, Pt.locs, Pt.cells, Pt.slots] at X54 l54 y54 z54 st54 hQ54
              subst l54 y54 z54
              obtain ⟨rfl, Nq54, e54⟩ := hQ54
              have N54 := Fr.app N0 Nq54
              refine Go.step st54 ?_
              show Go p e below _ (T54.setTop (mkF m 57 #[iv p0, iv p1, iv p2, iv (p1 &&& (3 : Int32)), iv (410 : Int32), .val .null, u_, u_, u_] [(.ref w_UNREACHABLE)]))
              refine Go.step (S' := T54.setTop (mkF m 59 #[iv p0, iv p1, iv p2, iv (p1 &&& (3 : Int32)), iv (410 : Int32), .val .null, rv w_UNREACHABLE, u_, u_] [])) (fun t k => ?_) ?_
              · show Steps p.tables e below (T54.setTop (mkF m 57 #[iv p0, iv p1, iv p2, iv (p1 &&& (3 : Int32)), iv (410 : Int32), .val .null, u_, u_, u_] [(.ref w_UNREACHABLE)])) _
                refine XS.astore X54.here hx rfl (hb hby at_57) rfl rfl (l' := #[iv p0, iv p1, iv p2, iv (p1 &&& (3 : Int32)), iv (410 : Int32), .val .null, rv w_UNREACHABLE, u_, u_]) rfl ?_
                exact k
              obtain ⟨T55, h55, X55, e55, E55, A55, D55, -, st55⟩ := newO X54 hx hZ hown (own_w hw 30 rfl) (own_w hw 31 rfl) (own_w hw 32 rfl) e54 (g := (mkF m 59 #[iv p0, iv p1, iv p2, iv (p1 &&& (3 : Int32)), iv (410 : Int32), .val .null, rv w_UNREACHABLE, u_, u_] [])) rfl (hb hby at_59) (by decide) (by decide)
              obtain ⟨b55, g55⟩ : ∃ z, z = Array.size h0 := ⟨_, rfl⟩
              have g_b55 : n0 ≤ b55 := Nat.le_trans (old_le O) (Nat.le_of_eq g55.symm)
              have sz_b55 : h0.size ≤ b55 := Nat.le_trans K.1 (Nat.le_of_eq g55.symm)
              rw [← g55] at A55 D55 st55
              have O := O.ext E55
              have K := K.ext E55
              have E_b55 := A55
              have F_status_b55 : Fld Z h55 b55 "com/example/loomlist/loomlist/store/WebhookAnswer" "status" "Ljava/lang/Integer;" .null := D55 (Or.inr (own_w hw 43 rfl)) (ty := (.object "java/lang/Integer")) (by decide)
              have F_failure_b55 : Fld Z h55 b55 "com/example/loomlist/loomlist/store/WebhookAnswer" "failure" "Lcom/example/loomlist/loomlist/store/WebhookAnswer$Failure;" .null := D55 (Or.inr (own_w hw 45 rfl)) (ty := (.object "com/example/loomlist/loomlist/store/WebhookAnswer$Failure")) (by decide)
              refine Go.step st55 ?_
              show Go p e below _ (T55.setTop (mkF m 62 #[iv p0, iv p1, iv p2, iv (p1 &&& (3 : Int32)), iv (410 : Int32), .val .null, rv w_UNREACHABLE, u_, u_] [(.ref b55)]))
              refine Go.step (S' := T55.setTop (mkF m 67 #[iv p0, iv p1, iv p2, iv (p1 &&& (3 : Int32)), iv (410 : Int32), .val .null, rv w_UNREACHABLE, u_, u_] [(.ref w_UNREACHABLE), .null, (.ref b55), (.ref b55)])) (fun t k => ?_) ?_
              · show Steps p.tables e below (T55.setTop (mkF m 62 #[iv p0, iv p1, iv p2, iv (p1 &&& (3 : Int32)), iv (410 : Int32), .val .null, rv w_UNREACHABLE, u_, u_] [(.ref b55)])) _
                refine XS.dup X55.here hx rfl (hb hby at_62) rfl rfl ?_
                show Steps p.tables e below (T55.setTop (mkF m 63 #[iv p0, iv p1, iv p2, iv (p1 &&& (3 : Int32)), iv (410 : Int32), .val .null, rv w_UNREACHABLE, u_, u_] [(.ref b55), (.ref b55)])) _
                refine XS.aload X55.here hx rfl (hb hby at_63) rfl rfl ?_
                show Steps p.tables e below (T55.setTop (mkF m 65 #[iv p0, iv p1, iv p2, iv (p1 &&& (3 : Int32)), iv (410 : Int32), .val .null, rv w_UNREACHABLE, u_, u_] [.null, (.ref b55), (.ref b55)])) _
                refine XS.aload X55.here hx rfl (hb hby at_65) rfl rfl ?_
                exact k
              obtain ⟨_, _, ⟨T56, L56, k56, n56⟩, -, X56, ⟨Lc56, hQ56, l56, y56, z56⟩, st56⟩ := X55.specialBack hx (y := (⟨"com/example/loomlist/loomlist/store/WebhookAnswer", "<init>", "(Ljava/lang/Integer;Lcom/example/loomlist/loomlist/store/WebhookAnswer$Failure;)V"⟩ : MethodName)) rfl hown (mvT hZ (own_w hw 33 rfl)) (mvT hZ (own_w hw 34 rfl)) (mvT hZ (own_w hw 35 rfl)) (by decide) (backOf (W := 1) (rmW1 l Z a0 hw [] b55 w_UNREACHABLE h55 n0 O E_b55 F_status_b55 F_failure_b55 (by assumption)) hZ (own_w hw 35 rfl) (own_w hw 32 rfl) (by decide) (by decide)) (g := (mkF m 67 #[iv p0, iv p1, iv p2, iv (p1 &&& (3 : Int32)), iv (410 : Int32), .val .null, rv w_UNREACHABLE, u_, u_] [(.ref w_UNREACHABLE), .null, (.ref b55), (.ref b55)])) rfl (by rw [hml]; rfl) (Steps.refl _) (a := b55) (argsL := [.null, (.ref w_UNREACHABLE)]) (rest := [(.ref b55)]) (lenOf pd__28Ljava_2flang_2fInteger_3bLcom_2fexample_2floomlist_2floomlist_2fstore_2fWebhookAnswer_24Failure_3b_29V rfl) rfl (by show 2 * 0 + _ ≤ _; exact Nat.le_of_eq rfl) (hb hby at_67) (fun _ _ => ⟨rfl, e55, (by decide : 1 + 0 ≤ _), (by decide : 2 + 0 ≤ _)⟩)
              dsimp only [Pt.U, Pt.locs, Pt.cells, Pt.slots] at X56 l56 y56 z56 st56 hQ56
              subst l56 y56 z56
              obtain ⟨rfl, Nq56, K56, P56_E, P56_F⟩ := hQ56
              have N56 := Fr.app N54 Nq56
              have O := O.keep K56 (allS g_b55 all0)
              have K := K.trans K56 (allS (Or.inr sz_b55) all0)
              have E_b55 := E_b55.keep K56
              have E_56 := P56_E
              have F_56 := P56_F
              refine Go.step (fun t k => st56.trans k) ?_
              show Go p e below _ (T56.setTop (mkF m 70 #[iv p0, iv p1, iv p2, iv (p1 &&& (3 : Int32)), iv (410 : Int32), .val .null, rv w_UNREACHABLE, u_, u_] [(.ref b55)]))
              refine Go.step (S' := T56.setTop (mkF m 99 #[iv p0, iv p1, iv p2, iv (p1 &&& (3 : Int32)), iv (410 : Int32), .val .null, rv w_UNREACHABLE, rv b55, iv (0 : Int32)] [(.ref b55)])) (fun t k => ?_) ?_
              · show Steps p.tables e below (T56.setTop (mkF m 70 #[iv p0, iv p1, iv p2, iv (p1 &&& (3 : Int32)), iv (410 : Int32), .val .null, rv w_UNREACHABLE, u_, u_] [(.ref b55)])) _
                refine XS.astore X56.here hx rfl (hb hby at_70) rfl rfl (l' := #[iv p0, iv p1, iv p2, iv (p1 &&& (3 : Int32)), iv (410 : Int32), .val .null, rv w_UNREACHABLE, rv b55, u_]) rfl ?_
                show Steps p.tables e below (T56.setTop (mkF m 72 #[iv p0, iv p1, iv p2, iv (p1 &&& (3 : Int32)), iv (410 : Int32), .val .null, rv w_UNREACHABLE, rv b55, u_] [])) _
                refine XS.iloadN X56.here hx rfl (hb hby at_72) rfl ?_
                show Steps p.tables e below (T56.setTop (mkF m 73 #[iv p0, iv p1, iv p2, iv (p1 &&& (3 : Int32)), iv (410 : Int32), .val .null, rv w_UNREACHABLE, rv b55, u_] [(.int (p1 &&& (3 : Int32)))])) _
                refine XS.ifNo X56.here hx rfl (hb hby at_73) rfl ((if0 _ _).trans (teq (hc41 : (p1 &&& (3 : Int32)) = (0 : Int32))).2) ?_
                show Steps p.tables e below (T56.setTop (mkF m 76 #[iv p0, iv p1, iv p2, iv (p1 &&& (3 : Int32)), iv (410 : Int32), .val .null, rv w_UNREACHABLE, rv b55, u_] [])) _
                refine XS.iconst X56.here hx rfl (hb hby at_76) ?_
                show Steps p.tables e below (T56.setTop (mkF m 77 #[iv p0, iv p1, iv p2, iv (p1 &&& (3 : Int32)), iv (410 : Int32), .val .null, rv w_UNREACHABLE, rv b55, u_] [(.int (0 : Int32))])) _
                refine XS.istore X56.here hx rfl (hb hby at_77) rfl (l' := #[iv p0, iv p1, iv p2, iv (p1 &&& (3 : Int32)), iv (410 : Int32), .val .null, rv w_UNREACHABLE, rv b55, iv (0 : Int32)]) rfl ?_
                show Steps p.tables e below (T56.setTop (mkF m 79 #[iv p0, iv p1, iv p2, iv (p1 &&& (3 : Int32)), iv (410 : Int32), .val .null, rv w_UNREACHABLE, rv b55, iv (0 : Int32)] [])) _
                refine XS.goto X56.here hx rfl (pc0 := 79) (pc' := 97) rfl (hb hby at_79) (by decide) (by decide) ?_
                show Steps p.tables e below (T56.setTop (mkF m 97 #[iv p0, iv p1, iv p2, iv (p1 &&& (3 : Int32)), iv (410 : Int32), .val .null, rv w_UNREACHABLE, rv b55, iv (0 : Int32)] [])) _
                refine XS.aload X56.here hx rfl (hb hby at_97) rfl rfl ?_
                exact k
              obtain ⟨cq57, kq57, q57a, q57b, q57c⟩ := isOf hZ (Eq.refl T56.heap) E_b55
              obtain ⟨_, _, ⟨T57, L57, k57, n57⟩, -, X57, ⟨Lc57, hQ57, l57, y57, z57⟩, st57⟩ := X56.virtualBack hx (y := (⟨"com/example/loomlist/loomlist/store/WebhookAnswer", "gone", "()Z"⟩ : MethodName)) (z := (⟨"com/example/loomlist/loomlist/store/WebhookAnswer", "gone", "()Z"⟩ : MethodName)) hown (mvT hZ (own_w hw 46 rfl)) (mvT hZ (own_w hw 47 rfl)) (notFace_of_selects (args := #[]) (mvT hZ (own_w hw 49 rfl))) (mvT hZ (own_w hw 49 rfl)) (mvT hZ (own_w hw 48 rfl)) (by decide) (backOf (W := 0) (rmGN l Z a0 hw [] b55 T56.heap n0 O F_56) hZ (own_w hw 50 rfl) (own_w hw 32 rfl) (by decide) (by decide)) q57a q57c (g := (mkF m 99 #[iv p0, iv p1, iv p2, iv (p1 &&& (3 : Int32)), iv (410 : Int32), .val .null, rv w_UNREACHABLE, rv b55, iv (0 : Int32)] [(.ref b55)])) rfl (by rw [hml]; rfl) (Steps.refl _) (argsL := []) (rest := []) (lenOf pd__28_29Z rfl) rfl (by show 2 * 0 + _ ≤ _; exact Nat.le_of_eq rfl) (hb hby at_99) (fun _ _ => ⟨rfl, (Eq.refl T56.heap), (by decide : 1 + 0 ≤ _), (by decide : 2 + 0 ≤ _)⟩)
              dsimp only [Pt.U, Pt.locs, Pt.cells, Pt.slots] at X57 l57 y57 z57 st57 hQ57
              subst l57 y57 z57
              obtain ⟨rfl, Nq57, e57⟩ := hQ57
              have N57 := Fr.app N56 Nq57
              refine Go.step (fun t k => st57.trans k) ?_
              show Go p e below _ (T57.setTop (mkF m 102 #[iv p0, iv p1, iv p2, iv (p1 &&& (3 : Int32)), iv (410 : Int32), .val .null, rv w_UNREACHABLE, rv b55, iv (0 : Int32)] [(.int (0 : Int32))]))
              refine Go.step (S' := T57.setTop (mkF m 112 #[iv p0, iv p1, iv p2, iv (p1 &&& (3 : Int32)), iv (410 : Int32), .val .null, rv w_UNREACHABLE, rv b55, iv (0 : Int32)] [(.int (1 : Int32))])) (fun t k => ?_) ?_
              · show Steps p.tables e below (T57.setTop (mkF m 102 #[iv p0, iv p1, iv p2, iv (p1 &&& (3 : Int32)), iv (410 : Int32), .val .null, rv w_UNREACHABLE, rv b55, iv (0 : Int32)] [(.int (0 : Int32))])) _
                refine XS.iload X57.here hx rfl (hb hby at_102) rfl ?_
                show Steps p.tables e below (T57.setTop (mkF m 104 #[iv p0, iv p1, iv p2, iv (p1 &&& (3 : Int32)), iv (410 : Int32), .val .null, rv w_UNREACHABLE, rv b55, iv (0 : Int32)] [(.int (0 : Int32)), (.int (0 : Int32))])) _
                refine XS.icmpNo X57.here hx rfl (hb hby at_104) rfl (teq ((by decide) : (0 : Int32) = (0 : Int32))).2 ?_
                show Steps p.tables e below (T57.setTop (mkF m 107 #[iv p0, iv p1, iv p2, iv (p1 &&& (3 : Int32)), iv (410 : Int32), .val .null, rv w_UNREACHABLE, rv b55, iv (0 : Int32)] [])) _
                refine XS.iconst X57.here hx rfl (hb hby at_107) ?_
                show Steps p.tables e below (T57.setTop (mkF m 108 #[iv p0, iv p1, iv p2, iv (p1 &&& (3 : Int32)), iv (410 : Int32), .val .null, rv w_UNREACHABLE, rv b55, iv (0 : Int32)] [(.int (1 : Int32))])) _
                refine XS.goto X57.here hx rfl (pc0 := 108) (pc' := 112) rfl (hb hby at_108) (by decide) (by decide) ?_
                exact k
              obtain ⟨fs, hr, hrun, hended, hW, hsame⟩ := X57.leave (v := some (.int (1 : Int32))) (fun h => by rw [Bd.returns] at h; cases h)
              refine Go.fin (S' := T57.setFrames fs) ?_ hrun hended ⟨_, _, rfl, ?_, ⟨_, rfl⟩, hW, hsame.mono (by decide) (by decide)⟩
              · exact retOut X57 hx Bd.returns (by decide) (Or.inl ⟨rfl, Or.inr (Or.inl rfl), _, rfl⟩) (hb hby at_112) hr
              · show Q_rm0 Z p0 p1 p2 w_TIMEOUT w_UNREACHABLE w_REFUSED w_cache cl h0 n0 (some (.int (1 : Int32))) T57.heap _
                rw [e57]
                exact ⟨rfl, N57, K⟩
            · skip
              obtain ⟨_, _, ⟨T58, L58, k58, n58⟩, -, X58, ⟨Lc58, hQ58, l58, y58, z58⟩, st58⟩ := Jvm.LawKit.callS X0 hx (y := (⟨"com/example/loomlist/loomlist/store/WebhookAnswerGonePinLaw", "failure", "(I)Lcom/example/loomlist/loomlist/store/WebhookAnswer$Failure;"⟩ : MethodName)) hown (mvT hZ (own_w hw 23 rfl)) (mvT hZ (own_w hw 24 rfl)) (mvT hZ (own_w hw 25 rfl)) (mvT hZ (own_w hw 26 rfl)) (by decide) (backOf (W := 0) (rmF3 l Z a0 hw [] (p2 &&& (3 : Int32)) w_TIMEOUT w_UNREACHABLE w_REFUSED h0 n0 O S_TIMEOUT S_UNREACHABLE S_REFUSED hf0_45 hf1_45 hf2_45) hZ (own_w hw 26 rfl) (own_w hw 25 rfl) (by decide) (by decide)) (g := (mkF m 54 #[iv p0, iv p1, iv p2, iv (p1 &&& (3 : Int32)), iv (410 : Int32), .val .null, u_, u_, u_] [(.int (p2 &&& (3 : Int32)))])) rfl (by rw [hml]; rfl) (argsL := [(.int (p2 &&& (3 : Int32)))]) (rest := []) (lenOf pd__28I_29Lcom_2fexample_2floomlist_2floomlist_2fstore_2fWebhookAnswer_24Failure_3b rfl) rfl (by show 2 * 0 + _ ≤ _; exact Nat.le_of_eq rfl) (hb hby at_54) (fun _ _ => ⟨rfl, e0, (by decide : 0 + 0 ≤ _), (by decide : 0 + 0 ≤ _)⟩)
              dsimp only [Pt.U, Pt.locs, Pt.cells, Pt.slots] at X58 l58 y58 z58 st58 hQ58
              subst l58 y58 z58
              obtain ⟨rfl, Nq58, e58⟩ := hQ58
              have N58 := Fr.app N0 Nq58
              refine Go.step st58 ?_
              show Go p e below _ (T58.setTop (mkF m 57 #[iv p0, iv p1, iv p2, iv (p1 &&& (3 : Int32)), iv (410 : Int32), .val .null, u_, u_, u_] [(.ref w_REFUSED)]))
              refine Go.step (S' := T58.setTop (mkF m 59 #[iv p0, iv p1, iv p2, iv (p1 &&& (3 : Int32)), iv (410 : Int32), .val .null, rv w_REFUSED, u_, u_] [])) (fun t k => ?_) ?_
              · show Steps p.tables e below (T58.setTop (mkF m 57 #[iv p0, iv p1, iv p2, iv (p1 &&& (3 : Int32)), iv (410 : Int32), .val .null, u_, u_, u_] [(.ref w_REFUSED)])) _
                refine XS.astore X58.here hx rfl (hb hby at_57) rfl rfl (l' := #[iv p0, iv p1, iv p2, iv (p1 &&& (3 : Int32)), iv (410 : Int32), .val .null, rv w_REFUSED, u_, u_]) rfl ?_
                exact k
              obtain ⟨T59, h59, X59, e59, E59, A59, D59, -, st59⟩ := newO X58 hx hZ hown (own_w hw 30 rfl) (own_w hw 31 rfl) (own_w hw 32 rfl) e58 (g := (mkF m 59 #[iv p0, iv p1, iv p2, iv (p1 &&& (3 : Int32)), iv (410 : Int32), .val .null, rv w_REFUSED, u_, u_] [])) rfl (hb hby at_59) (by decide) (by decide)
              obtain ⟨b59, g59⟩ : ∃ z, z = Array.size h0 := ⟨_, rfl⟩
              have g_b59 : n0 ≤ b59 := Nat.le_trans (old_le O) (Nat.le_of_eq g59.symm)
              have sz_b59 : h0.size ≤ b59 := Nat.le_trans K.1 (Nat.le_of_eq g59.symm)
              rw [← g59] at A59 D59 st59
              have O := O.ext E59
              have K := K.ext E59
              have E_b59 := A59
              have F_status_b59 : Fld Z h59 b59 "com/example/loomlist/loomlist/store/WebhookAnswer" "status" "Ljava/lang/Integer;" .null := D59 (Or.inr (own_w hw 43 rfl)) (ty := (.object "java/lang/Integer")) (by decide)
              have F_failure_b59 : Fld Z h59 b59 "com/example/loomlist/loomlist/store/WebhookAnswer" "failure" "Lcom/example/loomlist/loomlist/store/WebhookAnswer$Failure;" .null := D59 (Or.inr (own_w hw 45 rfl)) (ty := (.object "com/example/loomlist/loomlist/store/WebhookAnswer$Failure")) (by decide)
              refine Go.step st59 ?_
              show Go p e below _ (T59.setTop (mkF m 62 #[iv p0, iv p1, iv p2, iv (p1 &&& (3 : Int32)), iv (410 : Int32), .val .null, rv w_REFUSED, u_, u_] [(.ref b59)]))
              refine Go.step (S' := T59.setTop (mkF m 67 #[iv p0, iv p1, iv p2, iv (p1 &&& (3 : Int32)), iv (410 : Int32), .val .null, rv w_REFUSED, u_, u_] [(.ref w_REFUSED), .null, (.ref b59), (.ref b59)])) (fun t k => ?_) ?_
              · show Steps p.tables e below (T59.setTop (mkF m 62 #[iv p0, iv p1, iv p2, iv (p1 &&& (3 : Int32)), iv (410 : Int32), .val .null, rv w_REFUSED, u_, u_] [(.ref b59)])) _
                refine XS.dup X59.here hx rfl (hb hby at_62) rfl rfl ?_
                show Steps p.tables e below (T59.setTop (mkF m 63 #[iv p0, iv p1, iv p2, iv (p1 &&& (3 : Int32)), iv (410 : Int32), .val .null, rv w_REFUSED, u_, u_] [(.ref b59), (.ref b59)])) _
                refine XS.aload X59.here hx rfl (hb hby at_63) rfl rfl ?_
                show Steps p.tables e below (T59.setTop (mkF m 65 #[iv p0, iv p1, iv p2, iv (p1 &&& (3 : Int32)), iv (410 : Int32), .val .null, rv w_REFUSED, u_, u_] [.null, (.ref b59), (.ref b59)])) _
                refine XS.aload X59.here hx rfl (hb hby at_65) rfl rfl ?_
                exact k
              obtain ⟨_, _, ⟨T60, L60, k60, n60⟩, -, X60, ⟨Lc60, hQ60, l60, y60, z60⟩, st60⟩ := X59.specialBack hx (y := (⟨"com/example/loomlist/loomlist/store/WebhookAnswer", "<init>", "(Ljava/lang/Integer;Lcom/example/loomlist/loomlist/store/WebhookAnswer$Failure;)V"⟩ : MethodName)) rfl hown (mvT hZ (own_w hw 33 rfl)) (mvT hZ (own_w hw 34 rfl)) (mvT hZ (own_w hw 35 rfl)) (by decide) (backOf (W := 1) (rmW1 l Z a0 hw [] b59 w_REFUSED h59 n0 O E_b59 F_status_b59 F_failure_b59 (by assumption)) hZ (own_w hw 35 rfl) (own_w hw 32 rfl) (by decide) (by decide)) (g := (mkF m 67 #[iv p0, iv p1, iv p2, iv (p1 &&& (3 : Int32)), iv (410 : Int32), .val .null, rv w_REFUSED, u_, u_] [(.ref w_REFUSED), .null, (.ref b59), (.ref b59)])) rfl (by rw [hml]; rfl) (Steps.refl _) (a := b59) (argsL := [.null, (.ref w_REFUSED)]) (rest := [(.ref b59)]) (lenOf pd__28Ljava_2flang_2fInteger_3bLcom_2fexample_2floomlist_2floomlist_2fstore_2fWebhookAnswer_24Failure_3b_29V rfl) rfl (by show 2 * 0 + _ ≤ _; exact Nat.le_of_eq rfl) (hb hby at_67) (fun _ _ => ⟨rfl, e59, (by decide : 1 + 0 ≤ _), (by decide : 2 + 0 ≤ _)⟩)
              dsimp only [Pt.U, Pt.locs, Pt.cells, Pt.slots] at X60 l60 y60 z60 st60 hQ60
              subst l60 y60 z60
              obtain ⟨rfl, Nq60, K60, P60_E, P60_F⟩ := hQ60
              have N60 := Fr.app N58 Nq60
              have O := O.keep K60 (allS g_b59 all0)
              have K := K.trans K60 (allS (Or.inr sz_b59) all0)
              have E_b59 := E_b59.keep K60
              have E_60 := P60_E
              have F_60 := P60_F
              refine Go.step (fun t k => st60.trans k) ?_
              show Go p e below _ (T60.setTop (mkF m 70 #[iv p0, iv p1, iv p2, iv (p1 &&& (3 : Int32)), iv (410 : Int32), .val .null, rv w_REFUSED, u_, u_] [(.ref b59)]))
              refine Go.step (S' := T60.setTop (mkF m 99 #[iv p0, iv p1, iv p2, iv (p1 &&& (3 : Int32)), iv (410 : Int32), .val .null, rv w_REFUSED, rv b59, iv (0 : Int32)] [(.ref b59)])) (fun t k => ?_) ?_
              · show Steps p.tables e below (T60.setTop (mkF m 70 #[iv p0, iv p1, iv p2, iv (p1 &&& (3 : Int32)), iv (410 : Int32), .val .null, rv w_REFUSED, u_, u_] [(.ref b59)])) _
                refine XS.astore X60.here hx rfl (hb hby at_70) rfl rfl (l' := #[iv p0, iv p1, iv p2, iv (p1 &&& (3 : Int32)), iv (410 : Int32), .val .null, rv w_REFUSED, rv b59, u_]) rfl ?_
                show Steps p.tables e below (T60.setTop (mkF m 72 #[iv p0, iv p1, iv p2, iv (p1 &&& (3 : Int32)), iv (410 : Int32), .val .null, rv w_REFUSED, rv b59, u_] [])) _
                refine XS.iloadN X60.here hx rfl (hb hby at_72) rfl ?_
                show Steps p.tables e below (T60.setTop (mkF m 73 #[iv p0, iv p1, iv p2, iv (p1 &&& (3 : Int32)), iv (410 : Int32), .val .null, rv w_REFUSED, rv b59, u_] [(.int (p1 &&& (3 : Int32)))])) _
                refine XS.ifNo X60.here hx rfl (hb hby at_73) rfl ((if0 _ _).trans (teq (hc41 : (p1 &&& (3 : Int32)) = (0 : Int32))).2) ?_
                show Steps p.tables e below (T60.setTop (mkF m 76 #[iv p0, iv p1, iv p2, iv (p1 &&& (3 : Int32)), iv (410 : Int32), .val .null, rv w_REFUSED, rv b59, u_] [])) _
                refine XS.iconst X60.here hx rfl (hb hby at_76) ?_
                show Steps p.tables e below (T60.setTop (mkF m 77 #[iv p0, iv p1, iv p2, iv (p1 &&& (3 : Int32)), iv (410 : Int32), .val .null, rv w_REFUSED, rv b59, u_] [(.int (0 : Int32))])) _
                refine XS.istore X60.here hx rfl (hb hby at_77) rfl (l' := #[iv p0, iv p1, iv p2, iv (p1 &&& (3 : Int32)), iv (410 : Int32), .val .null, rv w_REFUSED, rv b59, iv (0 : Int32)]) rfl ?_
                show Steps p.tables e below (T60.setTop (mkF m 79 #[iv p0, iv p1, iv p2, iv (p1 &&& (3 : Int32)), iv (410 : Int32), .val .null, rv w_REFUSED, rv b59, iv (0 : Int32)] [])) _
                refine XS.goto X60.here hx rfl (pc0 := 79) (pc' := 97) rfl (hb hby at_79) (by decide) (by decide) ?_
                show Steps p.tables e below (T60.setTop (mkF m 97 #[iv p0, iv p1, iv p2, iv (p1 &&& (3 : Int32)), iv (410 : Int32), .val .null, rv w_REFUSED, rv b59, iv (0 : Int32)] [])) _
                refine XS.aload X60.here hx rfl (hb hby at_97) rfl rfl ?_
                exact k
              obtain ⟨cq61, kq61, q61a, q61b, q61c⟩ := isOf hZ (Eq.refl T60.heap) E_b59
              obtain ⟨_, _, ⟨T61, L61, k61, n61⟩, -, X61, ⟨Lc61, hQ61, l61, y61, z61⟩, st61⟩ := X60.virtualBack hx (y := (⟨"com/example/loomlist/loomlist/store/WebhookAnswer", "gone", "()Z"⟩ : MethodName)) (z := (⟨"com/example/loomlist/loomlist/store/WebhookAnswer", "gone", "()Z"⟩ : MethodName)) hown (mvT hZ (own_w hw 46 rfl)) (mvT hZ (own_w hw 47 rfl)) (notFace_of_selects (args := #[]) (mvT hZ (own_w hw 49 rfl))) (mvT hZ (own_w hw 49 rfl)) (mvT hZ (own_w hw 48 rfl)) (by decide) (backOf (W := 0) (rmGN l Z a0 hw [] b59 T60.heap n0 O F_60) hZ (own_w hw 50 rfl) (own_w hw 32 rfl) (by decide) (by decide)) q61a q61c (g := (mkF m 99 #[iv p0, iv p1, iv p2, iv (p1 &&& (3 : Int32)), iv (410 : Int32), .val .null, rv w_REFUSED, rv b59, iv (0 : Int32)] [(.ref b59)])) rfl (by rw [hml]; rfl) (Steps.refl _) (argsL := []) (rest := []) (lenOf pd__28_29Z rfl) rfl (by show 2 * 0 + _ ≤ _; exact Nat.le_of_eq rfl) (hb hby at_99) (fun _ _ => ⟨rfl, (Eq.refl T60.heap), (by decide : 1 + 0 ≤ _), (by decide : 2 + 0 ≤ _)⟩)
              dsimp only [Pt.U, Pt.locs, Pt.cells, Pt.slots] at X61 l61 y61 z61 st61 hQ61
              subst l61 y61 z61
              obtain ⟨rfl, Nq61, e61⟩ := hQ61
              have N61 := Fr.app N60 Nq61
              refine Go.step (fun t k => st61.trans k) ?_
              show Go p e below _ (T61.setTop (mkF m 102 #[iv p0, iv p1, iv p2, iv (p1 &&& (3 : Int32)), iv (410 : Int32), .val .null, rv w_REFUSED, rv b59, iv (0 : Int32)] [(.int (0 : Int32))]))
              refine Go.step (S' := T61.setTop (mkF m 112 #[iv p0, iv p1, iv p2, iv (p1 &&& (3 : Int32)), iv (410 : Int32), .val .null, rv w_REFUSED, rv b59, iv (0 : Int32)] [(.int (1 : Int32))])) (fun t k => ?_) ?_
              · show Steps p.tables e below (T61.setTop (mkF m 102 #[iv p0, iv p1, iv p2, iv (p1 &&& (3 : Int32)), iv (410 : Int32), .val .null, rv w_REFUSED, rv b59, iv (0 : Int32)] [(.int (0 : Int32))])) _
                refine XS.iload X61.here hx rfl (hb hby at_102) rfl ?_
                show Steps p.tables e below (T61.setTop (mkF m 104 #[iv p0, iv p1, iv p2, iv (p1 &&& (3 : Int32)), iv (410 : Int32), .val .null, rv w_REFUSED, rv b59, iv (0 : Int32)] [(.int (0 : Int32)), (.int (0 : Int32))])) _
                refine XS.icmpNo X61.here hx rfl (hb hby at_104) rfl (teq ((by decide) : (0 : Int32) = (0 : Int32))).2 ?_
                show Steps p.tables e below (T61.setTop (mkF m 107 #[iv p0, iv p1, iv p2, iv (p1 &&& (3 : Int32)), iv (410 : Int32), .val .null, rv w_REFUSED, rv b59, iv (0 : Int32)] [])) _
                refine XS.iconst X61.here hx rfl (hb hby at_107) ?_
                show Steps p.tables e below (T61.setTop (mkF m 108 #[iv p0, iv p1, iv p2, iv (p1 &&& (3 : Int32)), iv (410 : Int32), .val .null, rv w_REFUSED, rv b59, iv (0 : Int32)] [(.int (1 : Int32))])) _
                refine XS.goto X61.here hx rfl (pc0 := 108) (pc' := 112) rfl (hb hby at_108) (by decide) (by decide) ?_
                exact k
              obtain ⟨fs, hr, hrun, hended, hW, hsame⟩ := X61.leave (v := some (.int (1 : Int32))) (fun h => by rw [Bd.returns] at h; cases h)
              refine Go.fin (S' := T61.setFrames fs) ?_ hrun hended ⟨_, _, rfl, ?_, ⟨_, rfl⟩, hW, hsame.mono (by decide) (by decide)⟩
              · exact retOut X61 hx Bd.returns (by decide) (Or.inl ⟨rfl, Or.inr (Or.inl rfl), _, rfl⟩) (hb hby at_112) hr
              · show Q_rm0 Z p0 p1 p2 w_TIMEOUT w_UNREACHABLE w_REFUSED w_cache cl h0 n0 (some (.int (1 : Int32))) T61.heap _
                rw [e61]
                exact ⟨rfl, N61, K⟩
      · skip
        refine Go.step (S' := s₁.setTop (mkF m 46 #[iv p0, iv p1, iv p2, iv (p1 &&& (3 : Int32)), iv (410 : Int32), .val .null, u_, u_, u_] [(.int (410 : Int32))])) (fun t k => ?_) ?_
        · show Steps p.tables e below (s₁.setTop (mkF m 41 #[iv p0, iv p1, iv p2, iv (p1 &&& (3 : Int32)), iv (410 : Int32), .val .null, u_, u_, u_] [(.int (p1 &&& (3 : Int32)))])) _
          refine XS.ifNo X0.here hx rfl (hb hby at_41) rfl ((if0 _ _).trans (feq (hc41 : ¬ ((p1 &&& (3 : Int32)) = (0 : Int32)))).1) ?_
          show Steps p.tables e below (s₁.setTop (mkF m 44 #[iv p0, iv p1, iv p2, iv (p1 &&& (3 : Int32)), iv (410 : Int32), .val .null, u_, u_, u_] [])) _
          refine XS.iload X0.here hx rfl (hb hby at_44) rfl ?_
          exact k
        obtain ⟨_, _, ⟨T62, L62, k62, n62⟩, -, X62, ⟨Lc62, hQ62, l62, y62, z62⟩, st62⟩ := Jvm.LawKit.callS X0 hx (y := (⟨"java/lang/Integer", "valueOf", "(I)Ljava/lang/Integer;"⟩ : MethodName)) hown (mvT hZ (own_w hw 0 rfl)) (mvT hZ (own_w hw 1 rfl)) (mvT hZ (own_w hw 2 rfl)) (mvT hZ (own_w hw 3 rfl)) (by decide) (backOf (W := 0) (rmVO l Z a0 hw [] (410 : Int32) w_cache cl h0 n0 O S_high S_cache (by assumption)) hZ (own_w hw 3 rfl) (own_w hw 2 rfl) (by decide) (by decide)) (g := (mkF m 46 #[iv p0, iv p1, iv p2, iv (p1 &&& (3 : Int32)), iv (410 : Int32), .val .null, u_, u_, u_] [(.int (410 : Int32))])) rfl (by rw [hml]; rfl) (argsL := [(.int (410 : Int32))]) (rest := []) (lenOf pd__28I_29Ljava_2flang_2fInteger_3b rfl) rfl (by show 2 * 0 + _ ≤ _; exact Nat.le_of_eq rfl) (hb hby at_46) (fun _ _ => ⟨rfl, e0, (by decide : 0 + 1 ≤ _), (by decide : 0 + 1 ≤ _)⟩)
        dsimp only [Pt.U, Pt.locs, Pt.cells, Pt.slots] at X62 l62 y62 z62 st62 hQ62
        subst l62 y62 z62
        obtain ⟨b_62, rfl, Nq62, K62, P62_E, P62_F⟩ := hQ62
        have N62 := Fr.app N0 Nq62
        have O := O.keep K62 all0
        have K := K.trans K62 all0
        have E_62 := P62_E
        have F_62 := P62_F
        refine Go.step st62 ?_
        show Go p e below _ (T62.setTop (mkF m 49 #[iv p0, iv p1, iv p2, iv (p1 &&& (3 : Int32)), iv (410 : Int32), .val .null, u_, u_, u_] [(.ref b_62)]))
        refine Go.step (S' := T62.setTop (mkF m 54 #[iv p0, iv p1, iv p2, iv (p1 &&& (3 : Int32)), iv (410 : Int32), rv b_62, u_, u_, u_] [(.int (p2 &&& (3 : Int32)))])) (fun t k => ?_) ?_
        · show Steps p.tables e below (T62.setTop (mkF m 49 #[iv p0, iv p1, iv p2, iv (p1 &&& (3 : Int32)), iv (410 : Int32), .val .null, u_, u_, u_] [(.ref b_62)])) _
          refine XS.astore X62.here hx rfl (hb hby at_49) rfl rfl (l' := #[iv p0, iv p1, iv p2, iv (p1 &&& (3 : Int32)), iv (410 : Int32), rv b_62, u_, u_, u_]) rfl ?_
          show Steps p.tables e below (T62.setTop (mkF m 51 #[iv p0, iv p1, iv p2, iv (p1 &&& (3 : Int32)), iv (410 : Int32), rv b_62, u_, u_, u_] [])) _
          refine XS.iloadN X62.here hx rfl (hb hby at_51) rfl ?_
          show Steps p.tables e below (T62.setTop (mkF m 52 #[iv p0, iv p1, iv p2, iv (p1 &&& (3 : Int32)), iv (410 : Int32), rv b_62, u_, u_, u_] [(.int p2)])) _
          refine XS.iconst X62.here hx rfl (hb hby at_52) ?_
          show Steps p.tables e below (T62.setTop (mkF m 53 #[iv p0, iv p1, iv p2, iv (p1 &&& (3 : Int32)), iv (410 : Int32), rv b_62, u_, u_, u_] [(.int (3 : Int32)), (.int p2)])) _
          refine XS.iand X62.here hx rfl (hb hby at_53) rfl ?_
          exact k
        by_cases hf0_63 : (p2 &&& (3 : Int32)) = (0 : Int32)
        · skip
          obtain ⟨_, _, ⟨T64, L64, k64, n64⟩, -, X64, ⟨Lc64, hQ64, l64, y64, z64⟩, st64⟩ := Jvm.LawKit.callS X62 hx (y := (⟨"com/example/loomlist/loomlist/store/WebhookAnswerGonePinLaw", "failure", "(I)Lcom/example/loomlist/loomlist/store/WebhookAnswer$Failure;"⟩ : MethodName)) hown (mvT hZ (own_w hw 23 rfl)) (mvT hZ (own_w hw 24 rfl)) (mvT hZ (own_w hw 25 rfl)) (mvT hZ (own_w hw 26 rfl)) (by decide) (backOf (W := 0) (rmF0 l Z a0 hw [] (p2 &&& (3 : Int32)) w_TIMEOUT w_UNREACHABLE w_REFUSED T62.heap n0 O S_TIMEOUT S_UNREACHABLE S_REFUSED hf0_63) hZ (own_w hw 26 rfl) (own_w hw 25 rfl) (by decide) (by decide)) (g := (mkF m 54 #[iv p0, iv p1, iv p2, iv (p1 &&& (3 : Int32)), iv (410 : Int32), rv b_62, u_, u_, u_] [(.int (p2 &&& (3 : Int32)))])) rfl (by rw [hml]; rfl) (argsL := [(.int (p2 &&& (3 : Int32)))]) (rest := []) (lenOf pd__28I_29Lcom_2fexample_2floomlist_2floomlist_2fstore_2fWebhookAnswer_24Failure_3b rfl) rfl (by show 2 * 0 + _ ≤ _; exact Nat.le_of_eq rfl) (hb hby at_54) (fun _ _ => ⟨rfl, (Eq.refl T62.heap), (by decide : 1 + 0 ≤ _), (by decide : 1 + 0 ≤ _)⟩)
          dsimp only [Pt.U, Pt.locs, Pt.cells, Pt.slots] at X64 l64 y64 z64 st64 hQ64
          subst l64 y64 z64
          obtain ⟨rfl, Nq64, e64⟩ := hQ64
          have N64 := Fr.app N62 Nq64
          refine Go.step st64 ?_
          show Go p e below _ (T64.setTop (mkF m 57 #[iv p0, iv p1, iv p2, iv (p1 &&& (3 : Int32)), iv (410 : Int32), rv b_62, u_, u_, u_] [.null]))
          refine Go.step (S' := T64.setTop (mkF m 59 #[iv p0, iv p1, iv p2, iv (p1 &&& (3 : Int32)), iv (410 : Int32), rv b_62, .val .null, u_, u_] [])) (fun t k => ?_) ?_
          · show Steps p.tables e below (T64.setTop (mkF m 57 #[iv p0, iv p1, iv p2, iv (p1 &&& (3 : Int32)), iv (410 : Int32), rv b_62, u_, u_, u_] [.null])) _
            refine XS.astore X64.here hx rfl (hb hby at_57) rfl rfl (l' := #[iv p0, iv p1, iv p2, iv (p1 &&& (3 : Int32)), iv (410 : Int32), rv b_62, .val .null, u_, u_]) rfl ?_
            exact k
          obtain ⟨T65, h65, X65, e65, E65, A65, D65, -, st65⟩ := newO X64 hx hZ hown (own_w hw 30 rfl) (own_w hw 31 rfl) (own_w hw 32 rfl) e64 (g := (mkF m 59 #[iv p0, iv p1, iv p2, iv (p1 &&& (3 : Int32)), iv (410 : Int32), rv b_62, .val .null, u_, u_] [])) rfl (hb hby at_59) (by decide) (by decide)
          obtain ⟨b65, g65⟩ : ∃ z, z = Array.size T62.heap := ⟨_, rfl⟩
          have g_b65 : n0 ≤ b65 := Nat.le_trans (old_le O) (Nat.le_of_eq g65.symm)
          have sz_b65 : h0.size ≤ b65 := Nat.le_trans K.1 (Nat.le_of_eq g65.symm)
          have ne_b_62_b65 : b_62 ≠ b65 := Nat.ne_of_lt (Nat.lt_of_lt_of_le E_62.lt (Nat.le_of_eq g65.symm))
          rw [← g65] at A65 D65 st65
          have O := O.ext E65
          have K := K.ext E65
          have E_62 := E_62.ext E65
          have F_62 := F_62.ext E65
          have E_b65 := A65
          have F_status_b65 : Fld Z h65 b65 "com/example/loomlist/loomlist/store/WebhookAnswer" "status" "Ljava/lang/Integer;" .null := D65 (Or.inr (own_w hw 43 rfl)) (ty := (.object "java/lang/Integer")) (by decide)
          have F_failure_b65 : Fld Z h65 b65 "com/example/loomlist/loomlist/store/WebhookAnswer" "failure" "Lcom/example/loomlist/loomlist/store/WebhookAnswer$Failure;" .null := D65 (Or.inr (own_w hw 45 rfl)) (ty := (.object "com/example/loomlist/loomlist/store/WebhookAnswer$Failure")) (by decide)
          refine Go.step st65 ?_
          show Go p e below _ (T65.setTop (mkF m 62 #[iv p0, iv p1, iv p2, iv (p1 &&& (3 : Int32)), iv (410 : Int32), rv b_62, .val .null, u_, u_] [(.ref b65)]))
          refine Go.step (S' := T65.setTop (mkF m 67 #[iv p0, iv p1, iv p2, iv (p1 &&& (3 : Int32)), iv (410 : Int32), rv b_62, .val .null, u_, u_] [.null, (.ref b_62), (.ref b65), (.ref b65)])) (fun t k => ?_) ?_
          · show Steps p.tables e below (T65.setTop (mkF m 62 #[iv p0, iv p1, iv p2, iv (p1 &&& (3 : Int32)), iv (410 : Int32), rv b_62, .val .null, u_, u_] [(.ref b65)])) _
            refine XS.dup X65.here hx rfl (hb hby at_62) rfl rfl ?_
            show Steps p.tables e below (T65.setTop (mkF m 63 #[iv p0, iv p1, iv p2, iv (p1 &&& (3 : Int32)), iv (410 : Int32), rv b_62, .val .null, u_, u_] [(.ref b65), (.ref b65)])) _
            refine XS.aload X65.here hx rfl (hb hby at_63) rfl rfl ?_
            show Steps p.tables e below (T65.setTop (mkF m 65 #[iv p0, iv p1, iv p2, iv (p1 &&& (3 : Int32)), iv (410 : Int32), rv b_62, .val .null, u_, u_] [(.ref b_62), (.ref b65), (.ref b65)])) _
            refine XS.aload X65.here hx rfl (hb hby at_65) rfl rfl ?_
            exact k
          obtain ⟨_, _, ⟨T66, L66, k66, n66⟩, -, X66, ⟨Lc66, hQ66, l66, y66, z66⟩, st66⟩ := X65.specialBack hx (y := (⟨"com/example/loomlist/loomlist/store/WebhookAnswer", "<init>", "(Ljava/lang/Integer;Lcom/example/loomlist/loomlist/store/WebhookAnswer$Failure;)V"⟩ : MethodName)) rfl hown (mvT hZ (own_w hw 33 rfl)) (mvT hZ (own_w hw 34 rfl)) (mvT hZ (own_w hw 35 rfl)) (by decide) (backOf (W := 1) (rmW2 l Z a0 hw [] b65 b_62 h65 n0 O E_b65 F_status_b65 F_failure_b65 (by assumption)) hZ (own_w hw 35 rfl) (own_w hw 32 rfl) (by decide) (by decide)) (g := (mkF m 67 #[iv p0, iv p1, iv p2, iv (p1 &&& (3 : Int32)), iv (410 : Int32), rv b_62, .val .null, u_, u_] [.null, (.ref b_62), (.ref b65), (.ref b65)])) rfl (by rw [hml]; rfl) (Steps.refl _) (a := b65) (argsL := [(.ref b_62), .null]) (rest := [(.ref b65)]) (lenOf pd__28Ljava_2flang_2fInteger_3bLcom_2fexample_2floomlist_2floomlist_2fstore_2fWebhookAnswer_24Failure_3b_29V rfl) rfl (by show 2 * 0 + _ ≤ _; exact Nat.le_of_eq rfl) (hb hby at_67) (fun _ _ => ⟨rfl, e65, (by decide : 2 + 0 ≤ _), (by decide : 3 + 0 ≤ _)⟩)
          dsimp only [Pt.U, Pt.locs, Pt.cells, Pt.slots] at X66 l66 y66 z66 st66 hQ66
          subst l66 y66 z66
          obtain ⟨rfl, Nq66, K66, P66_E, P66_F⟩ := hQ66
          have N66 := Fr.app N64 Nq66
          have O := O.keep K66 (allS g_b65 all0)
          have K := K.trans K66 (allS (Or.inr sz_b65) all0)
          have E_62 := E_62.keep K66
          have F_62 := F_62.keep K66 (ninS ne_b_62_b65 nin0)
          have E_b65 := E_b65.keep K66
          have E_66 := P66_E
          have F_66 := P66_F
          refine Go.step (fun t k => st66.trans k) ?_
          show Go p e below _ (T66.setTop (mkF m 70 #[iv p0, iv p1, iv p2, iv (p1 &&& (3 : Int32)), iv (410 : Int32), rv b_62, .val .null, u_, u_] [(.ref b65)]))
          refine Go.step (S' := T66.setTop (mkF m 99 #[iv p0, iv p1, iv p2, iv (p1 &&& (3 : Int32)), iv (410 : Int32), rv b_62, .val .null, rv b65, iv (1 : Int32)] [(.ref b65)])) (fun t k => ?_) ?_
          · show Steps p.tables e below (T66.setTop (mkF m 70 #[iv p0, iv p1, iv p2, iv (p1 &&& (3 : Int32)), iv (410 : Int32), rv b_62, .val .null, u_, u_] [(.ref b65)])) _
            refine XS.astore X66.here hx rfl (hb hby at_70) rfl rfl (l' := #[iv p0, iv p1, iv p2, iv (p1 &&& (3 : Int32)), iv (410 : Int32), rv b_62, .val .null, rv b65, u_]) rfl ?_
            show Steps p.tables e below (T66.setTop (mkF m 72 #[iv p0, iv p1, iv p2, iv (p1 &&& (3 : Int32)), iv (410 : Int32), rv b_62, .val .null, rv b65, u_] [])) _
            refine XS.iloadN X66.here hx rfl (hb hby at_72) rfl ?_
            show Steps p.tables e below (T66.setTop (mkF m 73 #[iv p0, iv p1, iv p2, iv (p1 &&& (3 : Int32)), iv (410 : Int32), rv b_62, .val .null, rv b65, u_] [(.int (p1 &&& (3 : Int32)))])) _
            refine XS.ifYes X66.here hx rfl (pc0 := 73) (pc' := 82) rfl (hb hby at_73) rfl ((if0 _ _).trans (feq (hc41 : ¬ ((p1 &&& (3 : Int32)) = (0 : Int32)))).2) (by decide) (by decide) ?_
            show Steps p.tables e below (T66.setTop (mkF m 82 #[iv p0, iv p1, iv p2, iv (p1 &&& (3 : Int32)), iv (410 : Int32), rv b_62, .val .null, rv b65, u_] [])) _
            refine XS.iload X66.here hx rfl (hb hby at_82) rfl ?_
            show Steps p.tables e below (T66.setTop (mkF m 84 #[iv p0, iv p1, iv p2, iv (p1 &&& (3 : Int32)), iv (410 : Int32), rv b_62, .val .null, rv b65, u_] [(.int (410 : Int32))])) _
            refine XS.sipush X66.here hx rfl (hb hby at_84) ?_
            show Steps p.tables e below (T66.setTop (mkF m 87 #[iv p0, iv p1, iv p2, iv (p1 &&& (3 : Int32)), iv (410 : Int32), rv b_62, .val .null, rv b65, u_] [(.int (410 : Int32)), (.int (410 : Int32))])) _
            refine XS.icmpNo X66.here hx rfl (hb hby at_87) rfl (teq ((by decide) : (410 : Int32) = (410 : Int32))).2 ?_
            show Steps p.tables e below (T66.setTop (mkF m 90 #[iv p0, iv p1, iv p2, iv (p1 &&& (3 : Int32)), iv (410 : Int32), rv b_62, .val .null, rv b65, u_] [])) _
            refine XS.iconst X66.here hx rfl (hb hby at_90) ?_
            show Steps p.tables e below (T66.setTop (mkF m 91 #[iv p0, iv p1, iv p2, iv (p1 &&& (3 : Int32)), iv (410 : Int32), rv b_62, .val .null, rv b65, u_] [(.int (1 : Int32))])) _
            refine XS.goto X66.here hx rfl (pc0 := 91) (pc' := 95) rfl (hb hby at_91) (by decide) (by decide) ?_
            show Steps p.tables e below (T66.setTop (mkF m 95 #[iv p0, iv p1, iv p2, iv (p1 &&& (3 : Int32)), iv (410 : Int32), rv b_62, .val .null, rv b65, u_] [(.int (1 : Int32))])) _
            refine XS.istore X66.here hx rfl (hb hby at_95) rfl (l' := #[iv p0, iv p1, iv p2, iv (p1 &&& (3 : Int32)), iv (410 : Int32), rv b_62, .val .null, rv b65, iv (1 : Int32)]) rfl ?_
            show Steps p.tables e below (T66.setTop (mkF m 97 #[iv p0, iv p1, iv p2, iv (p1 &&& (3 : Int32)), iv (410 : Int32), rv b_62, .val .null, rv b65, iv (1 : Int32)] [])) _
            refine XS.aload X66.here hx rfl (hb hby at_97) rfl rfl ?_
            exact k
          obtain ⟨cq67, kq67, q67a, q67b, q67c⟩ := isOf hZ (Eq.refl T66.heap) E_b65
          obtain ⟨_, _, ⟨T67, L67, k67, n67⟩, -, X67, ⟨Lc67, hQ67, l67, y67, z67⟩, st67⟩ := X66.virtualBack hx (y := (⟨"com/example/loomlist/loomlist/store/WebhookAnswer", "gone", "()Z"⟩ : MethodName)) (z := (⟨"com/example/loomlist/loomlist/store/WebhookAnswer", "gone", "()Z"⟩ : MethodName)) hown (mvT hZ (own_w hw 46 rfl)) (mvT hZ (own_w hw 47 rfl)) (notFace_of_selects (args := #[]) (mvT hZ (own_w hw 49 rfl))) (mvT hZ (own_w hw 49 rfl)) (mvT hZ (own_w hw 48 rfl)) (by decide) (backOf (W := 0) (rmG0 l Z a0 hw [] b65 b_62 (410 : Int32) T66.heap n0 O F_66 E_62 F_62 (by decide)) hZ (own_w hw 50 rfl) (own_w hw 32 rfl) (by decide) (by decide)) q67a q67c (g := (mkF m 99 #[iv p0, iv p1, iv p2, iv (p1 &&& (3 : Int32)), iv (410 : Int32), rv b_62, .val .null, rv b65, iv (1 : Int32)] [(.ref b65)])) rfl (by rw [hml]; rfl) (Steps.refl _) (argsL := []) (rest := []) (lenOf pd__28_29Z rfl) rfl (by show 2 * 0 + _ ≤ _; exact Nat.le_of_eq rfl) (hb hby at_99) (fun _ _ => ⟨rfl, (Eq.refl T66.heap), (by decide : 2 + 0 ≤ _), (by decide : 3 + 0 ≤ _)⟩)
          dsimp only [Pt.U, Pt.locs, Pt.cells, Pt.slots] at X67 l67 y67 z67 st67 hQ67
          subst l67 y67 z67
          obtain ⟨rfl, Nq67, e67⟩ := hQ67
          have N67 := Fr.app N66 Nq67
          refine Go.step (fun t k => st67.trans k) ?_
          show Go p e below _ (T67.setTop (mkF m 102 #[iv p0, iv p1, iv p2, iv (p1 &&& (3 : Int32)), iv (410 : Int32), rv b_62, .val .null, rv b65, iv (1 : Int32)] [(.int (1 : Int32))]))
          refine Go.step (S' := T67.setTop (mkF m 112 #[iv p0, iv p1, iv p2, iv (p1 &&& (3 : Int32)), iv (410 : Int32), rv b_62, .val .null, rv b65, iv (1 : Int32)] [(.int (1 : Int32))])) (fun t k => ?_) ?_
          · show Steps p.tables e below (T67.setTop (mkF m 102 #[iv p0, iv p1, iv p2, iv (p1 &&& (3 : Int32)), iv (410 : Int32), rv b_62, .val .null, rv b65, iv (1 : Int32)] [(.int (1 : Int32))])) _
            refine XS.iload X67.here hx rfl (hb hby at_102) rfl ?_
            show Steps p.tables e below (T67.setTop (mkF m 104 #[iv p0, iv p1, iv p2, iv (p1 &&& (3 : Int32)), iv (410 : Int32), rv b_62, .val .null, rv b65, iv (1 : Int32)] [(.int (1 : Int32)), (.int (1 : Int32))])) _
            refine XS.icmpNo X67.here hx rfl (hb hby at_104) rfl (teq ((by decide) : (1 : Int32) = (1 : Int32))).2 ?_
            show Steps p.tables e below (T67.setTop (mkF m 107 #[iv p0, iv p1, iv p2, iv (p1 &&& (3 : Int32)), iv (410 : Int32), rv b_62, .val .null, rv b65, iv (1 : Int32)] [])) _
            refine XS.iconst X67.here hx rfl (hb hby at_107) ?_
            show Steps p.tables e below (T67.setTop (mkF m 108 #[iv p0, iv p1, iv p2, iv (p1 &&& (3 : Int32)), iv (410 : Int32), rv b_62, .val .null, rv b65, iv (1 : Int32)] [(.int (1 : Int32))])) _
            refine XS.goto X67.here hx rfl (pc0 := 108) (pc' := 112) rfl (hb hby at_108) (by decide) (by decide) ?_
            exact k
          obtain ⟨fs, hr, hrun, hended, hW, hsame⟩ := X67.leave (v := some (.int (1 : Int32))) (fun h => by rw [Bd.returns] at h; cases h)
          refine Go.fin (S' := T67.setFrames fs) ?_ hrun hended ⟨_, _, rfl, ?_, ⟨_, rfl⟩, hW, hsame.mono (by decide) (by decide)⟩
          · exact retOut X67 hx Bd.returns (by decide) (Or.inl ⟨rfl, Or.inr (Or.inl rfl), _, rfl⟩) (hb hby at_112) hr
          · show Q_rm0 Z p0 p1 p2 w_TIMEOUT w_UNREACHABLE w_REFUSED w_cache cl h0 n0 (some (.int (1 : Int32))) T67.heap _
            rw [e67]
            exact ⟨rfl, N67, K⟩
        · skip
          by_cases hf1_63 : (p2 &&& (3 : Int32)) = (1 : Int32)
          · skip
            obtain ⟨_, _, ⟨T68, L68, k68, n68⟩, -, X68, ⟨Lc68, hQ68, l68, y68, z68⟩, st68⟩ := Jvm.LawKit.callS X62 hx (y := (⟨"com/example/loomlist/loomlist/store/WebhookAnswerGonePinLaw", "failure", "(I)Lcom/example/loomlist/loomlist/store/WebhookAnswer$Failure;"⟩ : MethodName)) hown (mvT hZ (own_w hw 23 rfl)) (mvT hZ (own_w hw 24 rfl)) (mvT hZ (own_w hw 25 rfl)) (mvT hZ (own_w hw 26 rfl)) (by decide) (backOf (W := 0) (rmF1 l Z a0 hw [] (p2 &&& (3 : Int32)) w_TIMEOUT w_UNREACHABLE w_REFUSED T62.heap n0 O S_TIMEOUT S_UNREACHABLE S_REFUSED hf0_63 hf1_63) hZ (own_w hw 26 rfl) (own_w hw 25 rfl) (by decide) (by decide)) (g := (mkF m 54 #[iv p0, iv p1, iv p2, iv (p1 &&& (3 : Int32)), iv (410 : Int32), rv b_62, u_, u_, u_] [(.int (p2 &&& (3 : Int32)))])) rfl (by rw [hml]; rfl) (argsL := [(.int (p2 &&& (3 : Int32)))]) (rest := []) (lenOf pd__28I_29Lcom_2fexample_2floomlist_2floomlist_2fstore_2fWebhookAnswer_24Failure_3b rfl) rfl (by show 2 * 0 + _ ≤ _; exact Nat.le_of_eq rfl) (hb hby at_54) (fun _ _ => ⟨rfl, (Eq.refl T62.heap), (by decide : 1 + 0 ≤ _), (by decide : 1 + 0 ≤ _)⟩)
            dsimp only [Pt.U, Pt.locs, Pt.cells, Pt.slots] at X68 l68 y68 z68 st68 hQ68
            subst l68 y68 z68
            obtain ⟨rfl, Nq68, e68⟩ := hQ68
            have N68 := Fr.app N62 Nq68
            refine Go.step st68 ?_
            show Go p e below _ (T68.setTop (mkF m 57 #[iv p0, iv p1, iv p2, iv (p1 &&& (3 : Int32)), iv (410 : Int32), rv b_62, u_, u_, u_] [(.ref w_TIMEOUT)]))
            refine Go.step (S' := T68.setTop (mkF m 59 #[iv p0, iv p1, iv p2, iv (p1 &&& (3 : Int32)), iv (410 : Int32), rv b_62, rv w_TIMEOUT, u_, u_] [])) (fun t k => ?_) ?_
            · show Steps p.tables e below (T68.setTop (mkF m 57 #[iv p0, iv p1, iv p2, iv (p1 &&& (3 : Int32)), iv (410 : Int32), rv b_62, u_, u_, u_] [(.ref w_TIMEOUT)])) _
              refine XS.astore X68.here hx rfl (hb hby at_57) rfl rfl (l' := #[iv p0, iv p1, iv p2, iv (p1 &&& (3 : Int32)), iv (410 : Int32), rv b_62, rv w_TIMEOUT, u_, u_]) rfl ?_
              exact k
            obtain ⟨T69, h69, X69, e69, E69, A69, D69, -, st69⟩ := newO X68 hx hZ hown (own_w hw 30 rfl) (own_w hw 31 rfl) (own_w hw 32 rfl) e68 (g := (mkF m 59 #[iv p0, iv p1, iv p2, iv (p1 &&& (3 : Int32)), iv (410 : Int32), rv b_62, rv w_TIMEOUT, u_, u_] [])) rfl (hb hby at_59) (by decide) (by decide)
            obtain ⟨b69, g69⟩ : ∃ z, z = Array.size T62.heap := ⟨_, rfl⟩
            have g_b69 : n0 ≤ b69 := Nat.le_trans (old_le O) (Nat.le_of_eq g69.symm)
            have sz_b69 : h0.size ≤ b69 := Nat.le_trans K.1 (Nat.le_of_eq g69.symm)
            have ne_b_62_b69 : b_62 ≠ b69 := Nat.ne_of_lt (Nat.lt_of_lt_of_le E_62.lt (Nat.le_of_eq g69.symm))
            rw [← g69] at A69 D69 st69
            have O := O.ext E69
            have K := K.ext E69
            have E_62 := E_62.ext E69
            have F_62 := F_62.ext E69
            have E_b69 := A69
            have F_status_b69 : Fld Z h69 b69 "com/example/loomlist/loomlist/store/WebhookAnswer" "status" "Ljava/lang/Integer;" .null := D69 (Or.inr (own_w hw 43 rfl)) (ty := (.object "java/lang/Integer")) (by decide)
            have F_failure_b69 : Fld Z h69 b69 "com/example/loomlist/loomlist/store/WebhookAnswer" "failure" "Lcom/example/loomlist/loomlist/store/WebhookAnswer$Failure;" .null := D69 (Or.inr (own_w hw 45 rfl)) (ty := (.object "com/example/loomlist/loomlist/store/WebhookAnswer$Failure")) (by decide)
            refine Go.step st69 ?_
            show Go p e below _ (T69.setTop (mkF m 62 #[iv p0, iv p1, iv p2, iv (p1 &&& (3 : Int32)), iv (410 : Int32), rv b_62, rv w_TIMEOUT, u_, u_] [(.ref b69)]))
            refine Go.step (S' := T69.setTop (mkF m 67 #[iv p0, iv p1, iv p2, iv (p1 &&& (3 : Int32)), iv (410 : Int32), rv b_62, rv w_TIMEOUT, u_, u_] [(.ref w_TIMEOUT), (.ref b_62), (.ref b69), (.ref b69)])) (fun t k => ?_) ?_
            · show Steps p.tables e below (T69.setTop (mkF m 62 #[iv p0, iv p1, iv p2, iv (p1 &&& (3 : Int32)), iv (410 : Int32), rv b_62, rv w_TIMEOUT, u_, u_] [(.ref b69)])) _
              refine XS.dup X69.here hx rfl (hb hby at_62) rfl rfl ?_
              show Steps p.tables e below (T69.setTop (mkF m 63 #[iv p0, iv p1, iv p2, iv (p1 &&& (3 : Int32)), iv (410 : Int32), rv b_62, rv w_TIMEOUT, u_, u_] [(.ref b69), (.ref b69)])) _
              refine XS.aload X69.here hx rfl (hb hby at_63) rfl rfl ?_
              show Steps p.tables e below (T69.setTop (mkF m 65 #[iv p0, iv p1, iv p2, iv (p1 &&& (3 : Int32)), iv (410 : Int32), rv b_62, rv w_TIMEOUT, u_, u_] [(.ref b_62), (.ref b69), (.ref b69)])) _
              refine XS.aload X69.here hx rfl (hb hby at_65) rfl rfl ?_
              exact k
            obtain ⟨_, _, ⟨T70, L70, k70, n70⟩, -, X70, ⟨Lc70, hQ70, l70, y70, z70⟩, st70⟩ := X69.specialBack hx (y := (⟨"com/example/loomlist/loomlist/store/WebhookAnswer", "<init>", "(Ljava/lang/Integer;Lcom/example/loomlist/loomlist/store/WebhookAnswer$Failure;)V"⟩ : MethodName)) rfl hown (mvT hZ (own_w hw 33 rfl)) (mvT hZ (own_w hw 34 rfl)) (mvT hZ (own_w hw 35 rfl)) (by decide) (backOf (W := 1) (rmW3 l Z a0 hw [] b69 b_62 w_TIMEOUT h69 n0 O E_b69 F_status_b69 F_failure_b69 (by assumption)) hZ (own_w hw 35 rfl) (own_w hw 32 rfl) (by decide) (by decide)) (g := (mkF m 67 #[iv p0, iv p1, iv p2, iv (p1 &&& (3 : Int32)), iv (410 : Int32), rv b_62, rv w_TIMEOUT, u_, u_] [(.ref w_TIMEOUT), (.ref b_62), (.ref b69), (.ref b69)])) rfl (by rw [hml]; rfl) (Steps.refl _) (a := b69) (argsL := [(.ref b_62), (.ref w_TIMEOUT)]) (rest := [(.ref b69)]) (lenOf pd__28Ljava_2flang_2fInteger_3bLcom_2fexample_2floomlist_2floomlist_2fstore_2fWebhookAnswer_24Failure_3b_29V rfl) rfl (by show 2 * 0 + _ ≤ _; exact Nat.le_of_eq rfl) (hb hby at_67) (fun _ _ => ⟨rfl, e69, (by decide : 2 + 0 ≤ _), (by decide : 3 + 0 ≤ _)⟩)
            dsimp only [Pt.U, Pt.locs, Pt.cells, Pt.slots] at X70 l70 y70 z70 st70 hQ70
            subst l70 y70 z70
            obtain ⟨rfl, Nq70, K70, P70_E, P70_F⟩ := hQ70
            have N70 := Fr.app N68 Nq70
            have O := O.keep K70 (allS g_b69 all0)
            have K := K.trans K70 (allS (Or.inr sz_b69) all0)
            have E_62 := E_62.keep K70
            have F_62 := F_62.keep K70 (ninS ne_b_62_b69 nin0)
            have E_b69 := E_b69.keep K70
            have E_70 := P70_E
            have F_70 := P70_F
            refine Go.step (fun t k => st70.trans k) ?_
            show Go p e below _ (T70.setTop (mkF m 70 #[iv p0, iv p1, iv p2, iv (p1 &&& (3 : Int32)), iv (410 : Int32), rv b_62, rv w_TIMEOUT, u_, u_] [(.ref b69)]))
            refine Go.step (S' := T70.setTop (mkF m 99 #[iv p0, iv p1, iv p2, iv (p1 &&& (3 : Int32)), iv (410 : Int32), rv b_62, rv w_TIMEOUT, rv b69, iv (1 : Int32)] [(.ref b69)])) (fun t k => ?_) ?_
            · show Steps p.tables e below (T70.setTop (mkF m 70 #[iv p0, iv p1, iv p2, iv (p1 &&& (3 : Int32)), iv (410 : Int32), rv b_62, rv w_TIMEOUT, u_, u_] [(.ref b69)])) _
              refine XS.astore X70.here hx rfl (hb hby at_70) rfl rfl (l' := #[iv p0, iv p1, iv p2, iv (p1 &&& (3 : Int32)), iv (410 : Int32), rv b_62, rv w_TIMEOUT, rv b69, u_]) rfl ?_
              show Steps p.tables e below (T70.setTop (mkF m 72 #[iv p0, iv p1, iv p2, iv (p1 &&& (3 : Int32)), iv (410 : Int32), rv b_62, rv w_TIMEOUT, rv b69, u_] [])) _
              refine XS.iloadN X70.here hx rfl (hb hby at_72) rfl ?_
              show Steps p.tables e below (T70.setTop (mkF m 73 #[iv p0, iv p1, iv p2, iv (p1 &&& (3 : Int32)), iv (410 : Int32), rv b_62, rv w_TIMEOUT, rv b69, u_] [(.int (p1 &&& (3 : Int32)))])) _
              refine XS.ifYes X70.here hx rfl (pc0 := 73) (pc' := 82) rfl (hb hby at_73) rfl ((if0 _ _).trans (feq (hc41 : ¬ ((p1 &&& (3 : Int32)) = (0 : Int32)))).2) (by decide) (by decide) ?_
              show Steps p.tables e below (T70.setTop (mkF m 82 #[iv p0, iv p1, iv p2, iv (p1 &&& (3 : Int32)), iv (410 : Int32), rv b_62, rv w_TIMEOUT, rv b69, u_] [])) _
              refine XS.iload X70.here hx rfl (hb hby at_82) rfl ?_
              show Steps p.tables e below (T70.setTop (mkF m 84 #[iv p0, iv p1, iv p2, iv (p1 &&& (3 : Int32)), iv (410 : Int32), rv b_62, rv w_TIMEOUT, rv b69, u_] [(.int (410 : Int32))])) _
              refine XS.sipush X70.here hx rfl (hb hby at_84) ?_
              show Steps p.tables e below (T70.setTop (mkF m 87 #[iv p0, iv p1, iv p2, iv (p1 &&& (3 : Int32)), iv (410 : Int32), rv b_62, rv w_TIMEOUT, rv b69, u_] [(.int (410 : Int32)), (.int (410 : Int32))])) _
              refine XS.icmpNo X70.here hx rfl (hb hby at_87) rfl (teq ((by decide) : (410 : Int32) = (410 : Int32))).2 ?_
              show Steps p.tables e below (T70.setTop (mkF m 90 #[iv p0, iv p1, iv p2, iv (p1 &&& (3 : Int32)), iv (410 : Int32), rv b_62, rv w_TIMEOUT, rv b69, u_] [])) _
              refine XS.iconst X70.here hx rfl (hb hby at_90) ?_
              show Steps p.tables e below (T70.setTop (mkF m 91 #[iv p0, iv p1, iv p2, iv (p1 &&& (3 : Int32)), iv (410 : Int32), rv b_62, rv w_TIMEOUT, rv b69, u_] [(.int (1 : Int32))])) _
              refine XS.goto X70.here hx rfl (pc0 := 91) (pc' := 95) rfl (hb hby at_91) (by decide) (by decide) ?_
              show Steps p.tables e below (T70.setTop (mkF m 95 #[iv p0, iv p1, iv p2, iv (p1 &&& (3 : Int32)), iv (410 : Int32), rv b_62, rv w_TIMEOUT, rv b69, u_] [(.int (1 : Int32))])) _
              refine XS.istore X70.here hx rfl (hb hby at_95) rfl (l' := #[iv p0, iv p1, iv p2, iv (p1 &&& (3 : Int32)), iv (410 : Int32), rv b_62, rv w_TIMEOUT, rv b69, iv (1 : Int32)]) rfl ?_
              show Steps p.tables e below (T70.setTop (mkF m 97 #[iv p0, iv p1, iv p2, iv (p1 &&& (3 : Int32)), iv (410 : Int32), rv b_62, rv w_TIMEOUT, rv b69, iv (1 : Int32)] [])) _
              refine XS.aload X70.here hx rfl (hb hby at_97) rfl rfl ?_
              exact k
            obtain ⟨cq71, kq71, q71a, q71b, q71c⟩ := isOf hZ (Eq.refl T70.heap) E_b69
            obtain ⟨_, _, ⟨T71, L71, k71, n71⟩, -, X71, ⟨Lc71, hQ71, l71, y71, z71⟩, st71⟩ := X70.virtualBack hx (y := (⟨"com/example/loomlist/loomlist/store/WebhookAnswer", "gone", "()Z"⟩ : MethodName)) (z := (⟨"com/example/loomlist/loomlist/store/WebhookAnswer", "gone", "()Z"⟩ : MethodName)) hown (mvT hZ (own_w hw 46 rfl)) (mvT hZ (own_w hw 47 rfl)) (notFace_of_selects (args := #[]) (mvT hZ (own_w hw 49 rfl))) (mvT hZ (own_w hw 49 rfl)) (mvT hZ (own_w hw 48 rfl)) (by decide) (backOf (W := 0) (rmG0 l Z a0 hw [] b69 b_62 (410 : Int32) T70.heap n0 O F_70 E_62 F_62 (by decide)) hZ (own_w hw 50 rfl) (own_w hw 32 rfl) (by decide) (by decide)) q71a q71c (g := (mkF m 99 #[iv p0, iv p1, iv p2, iv (p1 &&& (3 : Int32)), iv (410 : Int32), rv b_62, rv w_TIMEOUT, rv b69, iv (1 : Int32)] [(.ref b69)])) rfl (by rw [hml]; rfl) (Steps.refl _) (argsL := []) (rest := []) (lenOf pd__28_29Z rfl) rfl (by show 2 * 0 + _ ≤ _; exact Nat.le_of_eq rfl) (hb hby at_99) (fun _ _ => ⟨rfl, (Eq.refl T70.heap), (by decide : 2 + 0 ≤ _), (by decide : 3 + 0 ≤ _)⟩)
            dsimp only [Pt.U, Pt.locs, Pt.cells, Pt.slots] at X71 l71 y71 z71 st71 hQ71
            subst l71 y71 z71
            obtain ⟨rfl, Nq71, e71⟩ := hQ71
            have N71 := Fr.app N70 Nq71
            refine Go.step (fun t k => st71.trans k) ?_
            show Go p e below _ (T71.setTop (mkF m 102 #[iv p0, iv p1, iv p2, iv (p1 &&& (3 : Int32)), iv (410 : Int32), rv b_62, rv w_TIMEOUT, rv b69, iv (1 : Int32)] [(.int (1 : Int32))]))
            refine Go.step (S' := T71.setTop (mkF m 112 #[iv p0, iv p1, iv p2, iv (p1 &&& (3 : Int32)), iv (410 : Int32), rv b_62, rv w_TIMEOUT, rv b69, iv (1 : Int32)] [(.int (1 : Int32))])) (fun t k => ?_) ?_
            · show Steps p.tables e below (T71.setTop (mkF m 102 #[iv p0, iv p1, iv p2, iv (p1 &&& (3 : Int32)), iv (410 : Int32), rv b_62, rv w_TIMEOUT, rv b69, iv (1 : Int32)] [(.int (1 : Int32))])) _
              refine XS.iload X71.here hx rfl (hb hby at_102) rfl ?_
              show Steps p.tables e below (T71.setTop (mkF m 104 #[iv p0, iv p1, iv p2, iv (p1 &&& (3 : Int32)), iv (410 : Int32), rv b_62, rv w_TIMEOUT, rv b69, iv (1 : Int32)] [(.int (1 : Int32)), (.int (1 : Int32))])) _
              refine XS.icmpNo X71.here hx rfl (hb hby at_104) rfl (teq ((by decide) : (1 : Int32) = (1 : Int32))).2 ?_
              show Steps p.tables e below (T71.setTop (mkF m 107 #[iv p0, iv p1, iv p2, iv (p1 &&& (3 : Int32)), iv (410 : Int32), rv b_62, rv w_TIMEOUT, rv b69, iv (1 : Int32)] [])) _
              refine XS.iconst X71.here hx rfl (hb hby at_107) ?_
              show Steps p.tables e below (T71.setTop (mkF m 108 #[iv p0, iv p1, iv p2, iv (p1 &&& (3 : Int32)), iv (410 : Int32), rv b_62, rv w_TIMEOUT, rv b69, iv (1 : Int32)] [(.int (1 : Int32))])) _
              refine XS.goto X71.here hx rfl (pc0 := 108) (pc' := 112) rfl (hb hby at_108) (by decide) (by decide) ?_
              exact k
            obtain ⟨fs, hr, hrun, hended, hW, hsame⟩ := X71.leave (v := some (.int (1 : Int32))) (fun h => by rw [Bd.returns] at h; cases h)
            refine Go.fin (S' := T71.setFrames fs) ?_ hrun hended ⟨_, _, rfl, ?_, ⟨_, rfl⟩, hW, hsame.mono (by decide) (by decide)⟩
            · exact retOut X71 hx Bd.returns (by decide) (Or.inl ⟨rfl, Or.inr (Or.inl rfl), _, rfl⟩) (hb hby at_112) hr
            · show Q_rm0 Z p0 p1 p2 w_TIMEOUT w_UNREACHABLE w_REFUSED w_cache cl h0 n0 (some (.int (1 : Int32))) T71.heap _
              rw [e71]
              exact ⟨rfl, N71, K⟩
          · skip
            by_cases hf2_63 : (p2 &&& (3 : Int32)) = (2 : Int32)
            · skip
              obtain ⟨_, _, ⟨T72, L72, k72, n72⟩, -, X72, ⟨Lc72, hQ72, l72, y72, z72⟩, st72⟩ := Jvm.LawKit.callS X62 hx (y := (⟨"com/example/loomlist/loomlist/store/WebhookAnswerGonePinLaw", "failure", "(I)Lcom/example/loomlist/loomlist/store/WebhookAnswer$Failure;"⟩ : MethodName)) hown (mvT hZ (own_w hw 23 rfl)) (mvT hZ (own_w hw 24 rfl)) (mvT hZ (own_w hw 25 rfl)) (mvT hZ (own_w hw 26 rfl)) (by decide) (backOf (W := 0) (rmF2 l Z a0 hw [] (p2 &&& (3 : Int32)) w_TIMEOUT w_UNREACHABLE w_REFUSED T62.heap n0 O S_TIMEOUT S_UNREACHABLE S_REFUSED hf0_63 hf1_63 hf2_63) hZ (own_w hw 26 rfl) (own_w hw 25 rfl) (by decide) (by decide)) (g := (mkF m 54 #[iv p0, iv p1, iv p2, iv (p1 &&& (3 : Int32)), iv (410 : Int32), rv b_62, u_, u_, u_] [(.int (p2 &&& (3 : Int32)))])) rfl (by rw [hml]; rfl) (argsL := [(.int (p2 &&& (3 : Int32)))]) (rest := []) (lenOf pd__28I_29Lcom_2fexample_2floomlist_2floomlist_2fstore_2fWebhookAnswer_24Failure_3b rfl) rfl (by show 2 * 0 + _ ≤ _; exact Nat.le_of_eq rfl) (hb hby at_54) (fun _ _ => ⟨rfl, (Eq.refl T62.heap), (by decide : 1 + 0 ≤ _), (by decide : 1 + 0 ≤ _)⟩)
              dsimp only [Pt.U, Pt.locs, Pt.cells, Pt.slots] at X72 l72 y72 z72 st72 hQ72
              subst l72 y72 z72
              obtain ⟨rfl, Nq72, e72⟩ := hQ72
              have N72 := Fr.app N62 Nq72
              refine Go.step st72 ?_
              show Go p e below _ (T72.setTop (mkF m 57 #[iv p0, iv p1, iv p2, iv (p1 &&& (3 : Int32)), iv (410 : Int32), rv b_62, u_, u_, u_] [(.ref w_UNREACHABLE)]))
              refine Go.step (S' := T72.setTop (mkF m 59 #[iv p0, iv p1, iv p2, iv (p1 &&& (3 : Int32)), iv (410 : Int32), rv b_62, rv w_UNREACHABLE, u_, u_] [])) (fun t k => ?_) ?_
              · show Steps p.tables e below (T72.setTop (mkF m 57 #[iv p0, iv p1, iv p2, iv (p1 &&& (3 : Int32)), iv (410 : Int32), rv b_62, u_, u_, u_] [(.ref w_UNREACHABLE)])) _
                refine XS.astore X72.here hx rfl (hb hby at_57) rfl rfl (l' := #[iv p0, iv p1, iv p2, iv (p1 &&& (3 : Int32)), iv (410 : Int32), rv b_62, rv w_UNREACHABLE, u_, u_]) rfl ?_
                exact k
              obtain ⟨T73, h73, X73, e73, E73, A73, D73, -, st73⟩ := newO X72 hx hZ hown (own_w hw 30 rfl) (own_w hw 31 rfl) (own_w hw 32 rfl) e72 (g := (mkF m 59 #[iv p0, iv p1, iv p2, iv (p1 &&& (3 : Int32)), iv (410 : Int32), rv b_62, rv w_UNREACHABLE, u_, u_] [])) rfl (hb hby at_59) (by decide) (by decide)
              obtain ⟨b73, g73⟩ : ∃ z, z = Array.size T62.heap := ⟨_, rfl⟩
              have g_b73 : n0 ≤ b73 := Nat.le_trans (old_le O) (Nat.le_of_eq g73.symm)
              have sz_b73 : h0.size ≤ b73 := Nat.le_trans K.1 (Nat.le_of_eq g73.symm)
              have ne_b_62_b73 : b_62 ≠ b73 := Nat.ne_of_lt (Nat.lt_of_lt_of_le E_62.lt (Nat.le_of_eq g73.symm))
              rw [← g73] at A73 D73 st73
              have O := O.ext E73
              have K := K.ext E73
              have E_62 := E_62.ext E73
              have F_62 := F_62.ext E73
              have E_b73 := A73
              have F_status_b73 : Fld Z h73 b73 "com/example/loomlist/loomlist/store/WebhookAnswer" "status" "Ljava/lang/Integer;" .null := D73 (Or.inr (own_w hw 43 rfl)) (ty := (.object "java/lang/Integer")) (by decide)
              have F_failure_b73 : Fld Z h73 b73 "com/example/loomlist/loomlist/store/WebhookAnswer" "failure" "Lcom/example/loomlist/loomlist/store/WebhookAnswer$Failure;" .null := D73 (Or.inr (own_w hw 45 rfl)) (ty := (.object "com/example/loomlist/loomlist/store/WebhookAnswer$Failure")) (by decide)
              refine Go.step st73 ?_
              show Go p e below _ (T73.setTop (mkF m 62 #[iv p0, iv p1, iv p2, iv (p1 &&& (3 : Int32)), iv (410 : Int32), rv b_62, rv w_UNREACHABLE, u_, u_] [(.ref b73)]))
              refine Go.step (S' := T73.setTop (mkF m 67 #[iv p0, iv p1, iv p2, iv (p1 &&& (3 : Int32)), iv (410 : Int32), rv b_62, rv w_UNREACHABLE, u_, u_] [(.ref w_UNREACHABLE), (.ref b_62), (.ref b73), (.ref b73)])) (fun t k => ?_) ?_
              · show Steps p.tables e below (T73.setTop (mkF m 62 #[iv p0, iv p1, iv p2, iv (p1 &&& (3 : Int32)), iv (410 : Int32), rv b_62, rv w_UNREACHABLE, u_, u_] [(.ref b73)])) _
                refine XS.dup X73.here hx rfl (hb hby at_62) rfl rfl ?_
                show Steps p.tables e below (T73.setTop (mkF m 63 #[iv p0, iv p1, iv p2, iv (p1 &&& (3 : Int32)), iv (410 : Int32), rv b_62, rv w_UNREACHABLE, u_, u_] [(.ref b73), (.ref b73)])) _
                refine XS.aload X73.here hx rfl (hb hby at_63) rfl rfl ?_
                show Steps p.tables e below (T73.setTop (mkF m 65 #[iv p0, iv p1, iv p2, iv (p1 &&& (3 : Int32)), iv (410 : Int32), rv b_62, rv w_UNREACHABLE, u_, u_] [(.ref b_62), (.ref b73), (.ref b73)])) _
                refine XS.aload X73.here hx rfl (hb hby at_65) rfl rfl ?_
                exact k
              obtain ⟨_, _, ⟨T74, L74, k74, n74⟩, -, X74, ⟨Lc74, hQ74, l74, y74, z74⟩, st74⟩ := X73.specialBack hx (y := (⟨"com/example/loomlist/loomlist/store/WebhookAnswer", "<init>", "(Ljava/lang/Integer;Lcom/example/loomlist/loomlist/store/WebhookAnswer$Failure;)V"⟩ : MethodName)) rfl hown (mvT hZ (own_w hw 33 rfl)) (mvT hZ (own_w hw 34 rfl)) (mvT hZ (own_w hw 35 rfl)) (by decide) (backOf (W := 1) (rmW3 l Z a0 hw [] b73 b_62 w_UNREACHABLE h73 n0 O E_b73 F_status_b73 F_failure_b73 (by assumption)) hZ (own_w hw 35 rfl) (own_w hw 32 rfl) (by decide) (by decide)) (g := (mkF m 67 #[iv p0, iv p1, iv p2, iv (p1 &&& (3 : Int32)), iv (410 : Int32), rv b_62, rv w_UNREACHABLE, u_, u_] [(.ref w_UNREACHABLE), (.ref b_62), (.ref b73), (.ref b73)])) rfl (by rw [hml]; rfl) (Steps.refl _) (a := b73) (argsL := [(.ref b_62), (.ref w_UNREACHABLE)]) (rest := [(.ref b73)]) (lenOf pd__28Ljava_2flang_2fInteger_3bLcom_2fexample_2floomlist_2floomlist_2fstore_2fWebhookAnswer_24Failure_3b_29V rfl) rfl (by show 2 * 0 + _ ≤ _; exact Nat.le_of_eq rfl) (hb hby at_67) (fun _ _ => ⟨rfl, e73, (by decide : 2 + 0 ≤ _), (by decide : 3 + 0 ≤ _)⟩)
              dsimp only [Pt.U, Pt.locs, Pt.cells, Pt.slots] at X74 l74 y74 z74 st74 hQ74
              subst l74 y74 z74
              obtain ⟨rfl, Nq74, K74, P74_E, P74_F⟩ := hQ74
              have N74 := Fr.app N72 Nq74
              have O := O.keep K74 (allS g_b73 all0)
              have K := K.trans K74 (allS (Or.inr sz_b73) all0)
              have E_62 := E_62.keep K74
              have F_62 := F_62.keep K74 (ninS ne_b_62_b73 nin0)
              have E_b73 := E_b73.keep K74
              have E_74 := P74_E
              have F_74 := P74_F
              refine Go.step (fun t k => st74.trans k) ?_
              show Go p e below _ (T74.setTop (mkF m 70 #[iv p0, iv p1, iv p2, iv (p1 &&& (3 : Int32)), iv (410 : Int32), rv b_62, rv w_UNREACHABLE, u_, u_] [(.ref b73)]))
              refine Go.step (S' := T74.setTop (mkF m 99 #[iv p0, iv p1, iv p2, iv (p1 &&& (3 : Int32)), iv (410 : Int32), rv b_62, rv w_UNREACHABLE, rv b73, iv (1 : Int32)] [(.ref b73)])) (fun t k => ?_) ?_
              · show Steps p.tables e below (T74.setTop (mkF m 70 #[iv p0, iv p1, iv p2, iv (p1 &&& (3 : Int32)), iv (410 : Int32), rv b_62, rv w_UNREACHABLE, u_, u_] [(.ref b73)])) _
                refine XS.astore X74.here hx rfl (hb hby at_70) rfl rfl (l' := #[iv p0, iv p1, iv p2, iv (p1 &&& (3 : Int32)), iv (410 : Int32), rv b_62, rv w_UNREACHABLE, rv b73, u_]) rfl ?_
                show Steps p.tables e below (T74.setTop (mkF m 72 #[iv p0, iv p1, iv p2, iv (p1 &&& (3 : Int32)), iv (410 : Int32), rv b_62, rv w_UNREACHABLE, rv b73, u_] [])) _
                refine XS.iloadN X74.here hx rfl (hb hby at_72) rfl ?_
                show Steps p.tables e below (T74.setTop (mkF m 73 #[iv p0, iv p1, iv p2, iv (p1 &&& (3 : Int32)), iv (410 : Int32), rv b_62, rv w_UNREACHABLE, rv b73, u_] [(.int (p1 &&& (3 : Int32)))])) _
                refine XS.ifYes X74.here hx rfl (pc0 := 73) (pc' := 82) rfl (hb hby at_73) rfl ((if0 _ _).trans (feq (hc41 : ¬ ((p1 &&& (3 : Int32)) = (0 : Int32)))).2) (by decide) (by decide) ?_
                show Steps p.tables e below (T74.setTop (mkF m 82 #[iv p0, iv p1, iv p2, iv (p1 &&& (3 : Int32)), iv (410 : Int32), rv b_62, rv w_UNREACHABLE, rv b73, u_] [])) _
                refine XS.iload X74.here hx rfl (hb hby at_82) rfl ?_
                show Steps p.tables e below (T74.setTop (mkF m 84 #[iv p0, iv p1, iv p2, iv (p1 &&& (3 : Int32)), iv (410 : Int32), rv b_62, rv w_UNREACHABLE, rv b73, u_] [(.int (410 : Int32))])) _
                refine XS.sipush X74.here hx rfl (hb hby at_84) ?_
                show Steps p.tables e below (T74.setTop (mkF m 87 #[iv p0, iv p1, iv p2, iv (p1 &&& (3 : Int32)), iv (410 : Int32), rv b_62, rv w_UNREACHABLE, rv b73, u_] [(.int (410 : Int32)), (.int (410 : Int32))])) _
                refine XS.icmpNo X74.here hx rfl (hb hby at_87) rfl (teq ((by decide) : (410 : Int32) = (410 : Int32))).2 ?_
                show Steps p.tables e below (T74.setTop (mkF m 90 #[iv p0, iv p1, iv p2, iv (p1 &&& (3 : Int32)), iv (410 : Int32), rv b_62, rv w_UNREACHABLE, rv b73, u_] [])) _
                refine XS.iconst X74.here hx rfl (hb hby at_90) ?_
                show Steps p.tables e below (T74.setTop (mkF m 91 #[iv p0, iv p1, iv p2, iv (p1 &&& (3 : Int32)), iv (410 : Int32), rv b_62, rv w_UNREACHABLE, rv b73, u_] [(.int (1 : Int32))])) _
                refine XS.goto X74.here hx rfl (pc0 := 91) (pc' := 95) rfl (hb hby at_91) (by decide) (by decide) ?_
                show Steps p.tables e below (T74.setTop (mkF m 95 #[iv p0, iv p1, iv p2, iv (p1 &&& (3 : Int32)), iv (410 : Int32), rv b_62, rv w_UNREACHABLE, rv b73, u_] [(.int (1 : Int32))])) _
                refine XS.istore X74.here hx rfl (hb hby at_95) rfl (l' := #[iv p0, iv p1, iv p2, iv (p1 &&& (3 : Int32)), iv (410 : Int32), rv b_62, rv w_UNREACHABLE, rv b73, iv (1 : Int32)]) rfl ?_
                show Steps p.tables e below (T74.setTop (mkF m 97 #[iv p0, iv p1, iv p2, iv (p1 &&& (3 : Int32)), iv (410 : Int32), rv b_62, rv w_UNREACHABLE, rv b73, iv (1 : Int32)] [])) _
                refine XS.aload X74.here hx rfl (hb hby at_97) rfl rfl ?_
                exact k
              obtain ⟨cq75, kq75, q75a, q75b, q75c⟩ := isOf hZ (Eq.refl T74.heap) E_b73
              obtain ⟨_, _, ⟨T75, L75, k75, n75⟩, -, X75, ⟨Lc75, hQ75, l75, y75, z75⟩, st75⟩ := X74.virtualBack hx (y := (⟨"com/example/loomlist/loomlist/store/WebhookAnswer", "gone", "()Z"⟩ : MethodName)) (z := (⟨"com/example/loomlist/loomlist/store/WebhookAnswer", "gone", "()Z"⟩ : MethodName)) hown (mvT hZ (own_w hw 46 rfl)) (mvT hZ (own_w hw 47 rfl)) (notFace_of_selects (args := #[]) (mvT hZ (own_w hw 49 rfl))) (mvT hZ (own_w hw 49 rfl)) (mvT hZ (own_w hw 48 rfl)) (by decide) (backOf (W := 0) (rmG0 l Z a0 hw [] b73 b_62 (410 : Int32) T74.heap n0 O F_74 E_62 F_62 (by decide)) hZ (own_w hw 50 rfl) (own_w hw 32 rfl) (by decide) (by decide)) q75a q75c (g := (mkF m 99 #[iv p0, iv p1, iv p2, iv (p1 &&& (3 : Int32)), iv (410 : Int32), rv b_62, rv w_UNREACHABLE, rv b73, iv (1 : Int32)] [(.ref b73)])) rfl (by rw [hml]; rfl) (Steps.refl _) (argsL := []) (rest := []) (lenOf pd__28_29Z rfl) rfl (by show 2 * 0 + _ ≤ _; exact Nat.le_of_eq rfl) (hb hby at_99) (fun _ _ => ⟨rfl, (Eq.refl T74.heap), (by decide : 2 + 0 ≤ _), (by decide : 3 + 0 ≤ _)⟩)
              dsimp only [Pt.U, Pt.locs, Pt.cells, Pt.slots] at X75 l75 y75 z75 st75 hQ75
              subst l75 y75 z75
              obtain ⟨rfl, Nq75, e75⟩ := hQ75
              have N75 := Fr.app N74 Nq75
              refine Go.step (fun t k => st75.trans k) ?_
              show Go p e below _ (T75.setTop (mkF m 102 #[iv p0, iv p1, iv p2, iv (p1 &&& (3 : Int32)), iv (410 : Int32), rv b_62, rv w_UNREACHABLE, rv b73, iv (1 : Int32)] [(.int (1 : Int32))]))
              refine Go.step (S' := T75.setTop (mkF m 112 #[iv p0, iv p1, iv p2, iv (p1 &&& (3 : Int32)), iv (410 : Int32), rv b_62, rv w_UNREACHABLE, rv b73, iv (1 : Int32)] [(.int (1 : Int32))])) (fun t k => ?_) ?_
              · show Steps p.tables e below (T75.setTop (mkF m 102 #[iv p0, iv p1, iv p2, iv (p1 &&& (3 : Int32)), iv (410 : Int32), rv b_62, rv w_UNREACHABLE, rv b73, iv (1 : Int32)] [(.int (1 : Int32))])) _
                refine XS.iload X75.here hx rfl (hb hby at_102) rfl ?_
                show Steps p.tables e below (T75.setTop (mkF m 104 #[iv p0, iv p1, iv p2, iv (p1 &&& (3 : Int32)), iv (410 : Int32), rv b_62, rv w_UNREACHABLE, rv b73, iv (1 : Int32)] [(.int (1 : Int32)), (.int (1 : Int32))])) _
                refine XS.icmpNo X75.here hx rfl (hb hby at_104) rfl (teq ((by decide) : (1 : Int32) = (1 : Int32))).2 ?_
                show Steps p.tables e below (T75.setTop (mkF m 107 #[iv p0, iv p1, iv p2, iv (p1 &&& (3 : Int32)), iv (410 : Int32), rv b_62, rv w_UNREACHABLE, rv b73, iv (1 : Int32)] [])) _
                refine XS.iconst X75.here hx rfl (hb hby at_107) ?_
                show Steps p.tables e below (T75.setTop (mkF m 108 #[iv p0, iv p1, iv p2, iv (p1 &&& (3 : Int32)), iv (410 : Int32), rv b_62, rv w_UNREACHABLE, rv b73, iv (1 : Int32)] [(.int (1 : Int32))])) _
                refine XS.goto X75.here hx rfl (pc0 := 108) (pc' := 112) rfl (hb hby at_108) (by decide) (by decide) ?_
                exact k
              obtain ⟨fs, hr, hrun, hended, hW, hsame⟩ := X75.leave (v := some (.int (1 : Int32))) (fun h => by rw [Bd.returns] at h; cases h)
              refine Go.fin (S' := T75.setFrames fs) ?_ hrun hended ⟨_, _, rfl, ?_, ⟨_, rfl⟩, hW, hsame.mono (by decide) (by decide)⟩
              · exact retOut X75 hx Bd.returns (by decide) (Or.inl ⟨rfl, Or.inr (Or.inl rfl), _, rfl⟩) (hb hby at_112) hr
              · show Q_rm0 Z p0 p1 p2 w_TIMEOUT w_UNREACHABLE w_REFUSED w_cache cl h0 n0 (some (.int (1 : Int32))) T75.heap _
                rw [e75]
                exact ⟨rfl, N75, K⟩
            · skip
              obtain ⟨_, _, ⟨T76, L76, k76, n76⟩, -, X76, ⟨Lc76, hQ76, l76, y76, z76⟩, st76⟩ := Jvm.LawKit.callS X62 hx (y := (⟨"com/example/loomlist/loomlist/store/WebhookAnswerGonePinLaw", "failure", "(I)Lcom/example/loomlist/loomlist/store/WebhookAnswer$Failure;"⟩ : MethodName)) hown (mvT hZ (own_w hw 23 rfl)) (mvT hZ (own_w hw 24 rfl)) (mvT hZ (own_w hw 25 rfl)) (mvT hZ (own_w hw 26 rfl)) (by decide) (backOf (W := 0) (rmF3 l Z a0 hw [] (p2 &&& (3 : Int32)) w_TIMEOUT w_UNREACHABLE w_REFUSED T62.heap n0 O S_TIMEOUT S_UNREACHABLE S_REFUSED hf0_63 hf1_63 hf2_63) hZ (own_w hw 26 rfl) (own_w hw 25 rfl) (by decide) (by decide)) (g := (mkF m 54 #[iv p0, iv p1, iv p2, iv (p1 &&& (3 : Int32)), iv (410 : Int32), rv b_62, u_, u_, u_] [(.int (p2 &&& (3 : Int32)))])) rfl (by rw [hml]; rfl) (argsL := [(.int (p2 &&& (3 : Int32)))]) (rest := []) (lenOf pd__28I_29Lcom_2fexample_2floomlist_2floomlist_2fstore_2fWebhookAnswer_24Failure_3b rfl) rfl (by show 2 * 0 + _ ≤ _; exact Nat.le_of_eq rfl) (hb hby at_54) (fun _ _ => ⟨rfl, (Eq.refl T62.heap), (by decide : 1 + 0 ≤ _), (by decide : 1 + 0 ≤ _)⟩)
              dsimp only [Pt.U, Pt.locs, Pt.cells, Pt.slots] at X76 l76 y76 z76 st76 hQ76
              subst l76 y76 z76
              obtain ⟨rfl, Nq76, e76⟩ := hQ76
              have N76 := Fr.app N62 Nq76
              refine Go.step st76 ?_
              show Go p e below _ (T76.setTop (mkF m 57 #[iv p0, iv p1, iv p2, iv (p1 &&& (3 : Int32)), iv (410 : Int32), rv b_62, u_, u_, u_] [(.ref w_REFUSED)]))
              refine Go.step (S' := T76.setTop (mkF m 59 #[iv p0, iv p1, iv p2, iv (p1 &&& (3 : Int32)), iv (410 : Int32), rv b_62, rv w_REFUSED, u_, u_] [])) (fun t k => ?_) ?_
              · show Steps p.tables e below (T76.setTop (mkF m 57 #[iv p0, iv p1, iv p2, iv (p1 &&& (3 : Int32)), iv (410 : Int32), rv b_62, u_, u_, u_] [(.ref w_REFUSED)])) _
                refine XS.astore X76.here hx rfl (hb hby at_57) rfl rfl (l' := #[iv p0, iv p1, iv p2, iv (p1 &&& (3 : Int32)), iv (410 : Int32), rv b_62, rv w_REFUSED, u_, u_]) rfl ?_
                exact k
              obtain ⟨T77, h77, X77, e77, E77, A77, D77, -, st77⟩ := newO X76 hx hZ hown (own_w hw 30 rfl) (own_w hw 31 rfl) (own_w hw 32 rfl) e76 (g := (mkF m 59 #[iv p0, iv p1, iv p2, iv (p1 &&& (3 : Int32)), iv (410 : Int32), rv b_62, rv w_REFUSED, u_, u_] [])) rfl (hb hby at_59) (by decide) (by decide)
              obtain ⟨b77, g77⟩ : ∃ z, z = Array.size T62.heap := ⟨_, rfl⟩
              have g_b77 : n0 ≤ b77 := Nat.le_trans (old_le O) (Nat.le_of_eq g77.symm)
              have sz_b77 : h0.size ≤ b77 := Nat.le_trans K.1 (Nat.le_of_eq g77.symm)
              have ne_b_62_b77 : b_62 ≠ b77 := Nat.ne_of_lt (Nat.lt_of_lt_of_le E_62.lt (Nat.le_of_eq g77.symm))
              rw [← g77] at A77 D77 st77
              have O := O.ext E77
              have K := K.ext E77
              have E_62 := E_62.ext E77
              have F_62 := F_62.ext E77
              have E_b77 := A77
              have F_status_b77 : Fld Z h77 b77 "com/example/loomlist/loomlist/store/WebhookAnswer" "status" "Ljava/lang/Integer;" .null := D77 (Or.inr (own_w hw 43 rfl)) (ty := (.object "java/lang/Integer")) (by decide)
              have F_failure_b77 : Fld Z h77 b77 "com/example/loomlist/loomlist/store/WebhookAnswer" "failure" "Lcom/example/loomlist/loomlist/store/WebhookAnswer$Failure;" .null := D77 (Or.inr (own_w hw 45 rfl)) (ty := (.object "com/example/loomlist/loomlist/store/WebhookAnswer$Failure")) (by decide)
              refine Go.step st77 ?_
              show Go p e below _ (T77.setTop (mkF m 62 #[iv p0, iv p1, iv p2, iv (p1 &&& (3 : Int32)), iv (410 : Int32), rv b_62, rv w_REFUSED, u_, u_] [(.ref b77)]))
              refine Go.step (S' := T77.setTop (mkF m 67 #[iv p0, iv p1, iv p2, iv (p1 &&& (3 : Int32)), iv (410 : Int32), rv b_62, rv w_REFUSED, u_, u_] [(.ref w_REFUSED), (.ref b_62), (.ref b77), (.ref b77)])) (fun t k => ?_) ?_
              · show Steps p.tables e below (T77.setTop (mkF m 62 #[iv p0, iv p1, iv p2, iv (p1 &&& (3 : Int32)), iv (410 : Int32), rv b_62, rv w_REFUSED, u_, u_] [(.ref b77)])) _
                refine XS.dup X77.here hx rfl (hb hby at_62) rfl rfl ?_
                show Steps p.tables e below (T77.setTop (mkF m 63 #[iv p0, iv p1, iv p2, iv (p1 &&& (3 : Int32)), iv (410 : Int32), rv b_62, rv w_REFUSED, u_, u_] [(.ref b77), (.ref b77)])) _
                refine XS.aload X77.here hx rfl (hb hby at_63) rfl rfl ?_
                show Steps p.tables e below (T77.setTop (mkF m 65 #[iv p0, iv p1, iv p2, iv (p1 &&& (3 : Int32)), iv (410 : Int32), rv b_62, rv w_REFUSED, u_, u_] [(.ref b_62), (.ref b77), (.ref b77)])) _
                refine XS.aload X77.here hx rfl (hb hby at_65) rfl rfl ?_
                exact k
              obtain ⟨_, _, ⟨T78, L78, k78, n78⟩, -, X78, ⟨Lc78, hQ78, l78, y78, z78⟩, st78⟩ := X77.specialBack hx (y := (⟨"com/example/loomlist/loomlist/store/WebhookAnswer", "<init>", "(Ljava/lang/Integer;Lcom/example/loomlist/loomlist/store/WebhookAnswer$Failure;)V"⟩ : MethodName)) rfl hown (mvT hZ (own_w hw 33 rfl)) (mvT hZ (own_w hw 34 rfl)) (mvT hZ (own_w hw 35 rfl)) (by decide) (backOf (W := 1) (rmW3 l Z a0 hw [] b77 b_62 w_REFUSED h77 n0 O E_b77 F_status_b77 F_failure_b77 (by assumption)) hZ (own_w hw 35 rfl) (own_w hw 32 rfl) (by decide) (by decide)) (g := (mkF m 67 #[iv p0, iv p1, iv p2, iv (p1 &&& (3 : Int32)), iv (410 : Int32), rv b_62, rv w_REFUSED, u_, u_] [(.ref w_REFUSED), (.ref b_62), (.ref b77), (.ref b77)])) rfl (by rw [hml]; rfl) (Steps.refl _) (a := b77) (argsL := [(.ref b_62), (.ref w_REFUSED)]) (rest := [(.ref b77)]) (lenOf pd__28Ljava_2flang_2fInteger_3bLcom_2fexample_2floomlist_2floomlist_2fstore_2fWebhookAnswer_24Failure_3b_29V rfl) rfl (by show 2 * 0 + _ ≤ _; exact Nat.le_of_eq rfl) (hb hby at_67) (fun _ _ => ⟨rfl, e77, (by decide : 2 + 0 ≤ _), (by decide : 3 + 0 ≤ _)⟩)
              dsimp only [Pt.U, Pt.locs, Pt.cells, Pt.slots] at X78 l78 y78 z78 st78 hQ78
              subst l78 y78 z78
              obtain ⟨rfl, Nq78, K78, P78_E, P78_F⟩ := hQ78
              have N78 := Fr.app N76 Nq78
              have O := O.keep K78 (allS g_b77 all0)
              have K := K.trans K78 (allS (Or.inr sz_b77) all0)
              have E_62 := E_62.keep K78
              have F_62 := F_62.keep K78 (ninS ne_b_62_b77 nin0)
              have E_b77 := E_b77.keep K78
              have E_78 := P78_E
              have F_78 := P78_F
              refine Go.step (fun t k => st78.trans k) ?_
              show Go p e below _ (T78.setTop (mkF m 70 #[iv p0, iv p1, iv p2, iv (p1 &&& (3 : Int32)), iv (410 : Int32), rv b_62, rv w_REFUSED, u_, u_] [(.ref b77)]))
              refine Go.step (S' := T78.setTop (mkF m 99 #[iv p0, iv p1, iv p2, iv (p1 &&& (3 : Int32)), iv (410 : Int32), rv b_62, rv w_REFUSED, rv b77, iv (1 : Int32)] [(.ref b77)])) (fun t k => ?_) ?_
              · show Steps p.tables e below (T78.setTop (mkF m 70 #[iv p0, iv p1, iv p2, iv (p1 &&& (3 : Int32)), iv (410 : Int32), rv b_62, rv w_REFUSED, u_, u_] [(.ref b77)])) _
                refine XS.astore X78.here hx rfl (hb hby at_70) rfl rfl (l' := #[iv p0, iv p1, iv p2, iv (p1 &&& (3 : Int32)), iv (410 : Int32), rv b_62, rv w_REFUSED, rv b77, u_]) rfl ?_
                show Steps p.tables e below (T78.setTop (mkF m 72 #[iv p0, iv p1, iv p2, iv (p1 &&& (3 : Int32)), iv (410 : Int32), rv b_62, rv w_REFUSED, rv b77, u_] [])) _
                refine XS.iloadN X78.here hx rfl (hb hby at_72) rfl ?_
                show Steps p.tables e below (T78.setTop (mkF m 73 #[iv p0, iv p1, iv p2, iv (p1 &&& (3 : Int32)), iv (410 : Int32), rv b_62, rv w_REFUSED, rv b77, u_] [(.int (p1 &&& (3 : Int32)))])) _
                refine XS.ifYes X78.here hx rfl (pc0 := 73) (pc' := 82) rfl (hb hby at_73) rfl ((if0 _ _).trans (feq (hc41 : ¬ ((p1 &&& (3 : Int32)) = (0 : Int32)))).2) (by decide) (by decide) ?_
                show Steps p.tables e below (T78.setTop (mkF m 82 #[iv p0, iv p1, iv p2, iv (p1 &&& (3 : Int32)), iv (410 : Int32), rv b_62, rv w_REFUSED, rv b77, u_] [])) _
                refine XS.iload X78.here hx rfl (hb hby at_82) rfl ?_
                show Steps p.tables e below (T78.setTop (mkF m 84 #[iv p0, iv p1, iv p2, iv (p1 &&& (3 : Int32)), iv (410 : Int32), rv b_62, rv w_REFUSED, rv b77, u_] [(.int (410 : Int32))])) _
                refine XS.sipush X78.here hx rfl (hb hby at_84) ?_
                show Steps p.tables e below (T78.setTop (mkF m 87 #[iv p0, iv p1, iv p2, iv (p1 &&& (3 : Int32)), iv (410 : Int32), rv b_62, rv w_REFUSED, rv b77, u_] [(.int (410 : Int32)), (.int (410 : Int32))])) _
                refine XS.icmpNo X78.here hx rfl (hb hby at_87) rfl (teq ((by decide) : (410 : Int32) = (410 : Int32))).2 ?_
                show Steps p.tables e below (T78.setTop (mkF m 90 #[iv p0, iv p1, iv p2, iv (p1 &&& (3 : Int32)), iv (410 : Int32), rv b_62, rv w_REFUSED, rv b77, u_] [])) _
                refine XS.iconst X78.here hx rfl (hb hby at_90) ?_
                show Steps p.tables e below (T78.setTop (mkF m 91 #[iv p0, iv p1, iv p2, iv (p1 &&& (3 : Int32)), iv (410 : Int32), rv b_62, rv w_REFUSED, rv b77, u_] [(.int (1 : Int32))])) _
                refine XS.goto X78.here hx rfl (pc0 := 91) (pc' := 95) rfl (hb hby at_91) (by decide) (by decide) ?_
                show Steps p.tables e below (T78.setTop (mkF m 95 #[iv p0, iv p1, iv p2, iv (p1 &&& (3 : Int32)), iv (410 : Int32), rv b_62, rv w_REFUSED, rv b77, u_] [(.int (1 : Int32))])) _
                refine XS.istore X78.here hx rfl (hb hby at_95) rfl (l' := #[iv p0, iv p1, iv p2, iv (p1 &&& (3 : Int32)), iv (410 : Int32), rv b_62, rv w_REFUSED, rv b77, iv (1 : Int32)]) rfl ?_
                show Steps p.tables e below (T78.setTop (mkF m 97 #[iv p0, iv p1, iv p2, iv (p1 &&& (3 : Int32)), iv (410 : Int32), rv b_62, rv w_REFUSED, rv b77, iv (1 : Int32)] [])) _
                refine XS.aload X78.here hx rfl (hb hby at_97) rfl rfl ?_
                exact k
              obtain ⟨cq79, kq79, q79a, q79b, q79c⟩ := isOf hZ (Eq.refl T78.heap) E_b77
              obtain ⟨_, _, ⟨T79, L79, k79, n79⟩, -, X79, ⟨Lc79, hQ79, l79, y79, z79⟩, st79⟩ := X78.virtualBack hx (y := (⟨"com/example/loomlist/loomlist/store/WebhookAnswer", "gone", "()Z"⟩ : MethodName)) (z := (⟨"com/example/loomlist/loomlist/store/WebhookAnswer", "gone", "()Z"⟩ : MethodName)) hown (mvT hZ (own_w hw 46 rfl)) (mvT hZ (own_w hw 47 rfl)) (notFace_of_selects (args := #[]) (mvT hZ (own_w hw 49 rfl))) (mvT hZ (own_w hw 49 rfl)) (mvT hZ (own_w hw 48 rfl)) (by decide) (backOf (W := 0) (rmG0 l Z a0 hw [] b77 b_62 (410 : Int32) T78.heap n0 O F_78 E_62 F_62 (by decide)) hZ (own_w hw 50 rfl) (own_w hw 32 rfl) (by decide) (by decide)) q79a q79c (g := (mkF m 99 #[iv p0, iv p1, iv p2, iv (p1 &&& (3 : Int32)), iv (410 : Int32), rv b_62, rv w_REFUSED, rv b77, iv (1 : Int32)] [(.ref b77)])) rfl (by rw [hml]; rfl) (Steps.refl _) (argsL := []) (rest := []) (lenOf pd__28_29Z rfl) rfl (by show 2 * 0 + _ ≤ _; exact Nat.le_of_eq rfl) (hb hby at_99) (fun _ _ => ⟨rfl, (Eq.refl T78.heap), (by decide : 2 + 0 ≤ _), (by decide : 3 + 0 ≤ _)⟩)
              dsimp only [Pt.U, Pt.locs, Pt.cells, Pt.slots] at X79 l79 y79 z79 st79 hQ79
              subst l79 y79 z79
              obtain ⟨rfl, Nq79, e79⟩ := hQ79
              have N79 := Fr.app N78 Nq79
              refine Go.step (fun t k => st79.trans k) ?_
              show Go p e below _ (T79.setTop (mkF m 102 #[iv p0, iv p1, iv p2, iv (p1 &&& (3 : Int32)), iv (410 : Int32), rv b_62, rv w_REFUSED, rv b77, iv (1 : Int32)] [(.int (1 : Int32))]))
              refine Go.step (S' := T79.setTop (mkF m 112 #[iv p0, iv p1, iv p2, iv (p1 &&& (3 : Int32)), iv (410 : Int32), rv b_62, rv w_REFUSED, rv b77, iv (1 : Int32)] [(.int (1 : Int32))])) (fun t k => ?_) ?_
              · show Steps p.tables e below (T79.setTop (mkF m 102 #[iv p0, iv p1, iv p2, iv (p1 &&& (3 : Int32)), iv (410 : Int32), rv b_62, rv w_REFUSED, rv b77, iv (1 : Int32)] [(.int (1 : Int32))])) _
                refine XS.iload X79.here hx rfl (hb hby at_102) rfl ?_
                show Steps p.tables e below (T79.setTop (mkF m 104 #[iv p0, iv p1, iv p2, iv (p1 &&& (3 : Int32)), iv (410 : Int32), rv b_62, rv w_REFUSED, rv b77, iv (1 : Int32)] [(.int (1 : Int32)), (.int (1 : Int32))])) _
                refine XS.icmpNo X79.here hx rfl (hb hby at_104) rfl (teq ((by decide) : (1 : Int32) = (1 : Int32))).2 ?_
                show Steps p.tables e below (T79.setTop (mkF m 107 #[iv p0, iv p1, iv p2, iv (p1 &&& (3 : Int32)), iv (410 : Int32), rv b_62, rv w_REFUSED, rv b77, iv (1 : Int32)] [])) _
                refine XS.iconst X79.here hx rfl (hb hby at_107) ?_
                show Steps p.tables e below (T79.setTop (mkF m 108 #[iv p0, iv p1, iv p2, iv (p1 &&& (3 : Int32)), iv (410 : Int32), rv b_62, rv w_REFUSED, rv b77, iv (1 : Int32)] [(.int (1 : Int32))])) _
                refine XS.goto X79.here hx rfl (pc0 := 108) (pc' := 112) rfl (hb hby at_108) (by decide) (by decide) ?_
                exact k
              obtain ⟨fs, hr, hrun, hended, hW, hsame⟩ := X79.leave (v := some (.int (1 : Int32))) (fun h => by rw [Bd.returns] at h; cases h)
              refine Go.fin (S' := T79.setFrames fs) ?_ hrun hended ⟨_, _, rfl, ?_, ⟨_, rfl⟩, hW, hsame.mono (by decide) (by decide)⟩
              · exact retOut X79 hx Bd.returns (by decide) (Or.inl ⟨rfl, Or.inr (Or.inl rfl), _, rfl⟩) (hb hby at_112) hr
              · show Q_rm0 Z p0 p1 p2 w_TIMEOUT w_UNREACHABLE w_REFUSED w_cache cl h0 n0 (some (.int (1 : Int32))) T79.heap _
                rw [e79]
                exact ⟨rfl, N79, K⟩
set_option maxRecDepth 65536 in
set_option maxHeartbeats 40000000 in
theorem comes_1 {Post : Tables → Env → Array Value → State → Outcome → State → Prop} (hpost : ∀ tb e args s v u, (limb_1_1.after args s (.returned v) u = true ∧ limb_1_2.after args s (.returned v) u = true ∧ True) → FrameEnd s (.returned v) u (Jvm.fieldLocs frame_1_writes args s ++ Jvm.arrayLocs frame_1_arrays args s ++ Jvm.staticLocs frame_1_statics s) 16 128 → Post tb e args s (.returned v) u) :
    ArmFor flags0 classFile x code maxLocals ret World_1 tables_1 room_1 Calls_1 rest_1 Pre_1 Post := by
  intro l hfl _ _ p e ha hc hk s m args below hf hA hF happ hP
  obtain ⟨hcalls, hrest, hpre⟩ := hP
  obtain ⟨-, -, -, hnamed, -, -, -, hat⟩ := (Spec.applies_iff hf).mp happ
  obtain ⟨hg, hn⟩ := and_e (Cond.before_iff.mp (show (Jvm.Cond.and given_1 narrow_1).before args s = true from hpre))
  obtain ⟨hgl, hgr⟩ := and_e hg
  obtain ⟨hgrl, hgrr⟩ := and_e hgr
  obtain ⟨hgrrl, hgrrr⟩ := and_e hgrr
  obtain ⟨w0, w1, w2, rfl⟩ : ∃ w0 w1 w2 : Value, args = #[w0, w1, w2] := by
    have hs : args.size = 3 := by simpa [Cond.value, given_1] using hgl
    obtain ⟨L⟩ := args
    match L, hs with
    | [w0, w1, w2], _ => exact ⟨w0, w1, w2, rfl⟩
  have hw := fun d (hd : d ∈ tables_1) => atoms_spec (ws := Jvm.Cond.code x code maxLocals ret :: tables_1) hat d (List.mem_cons_of_mem _ hd)
  have hfit : Fit s := fun {y c} hc i hi => by
    obtain ⟨ha, rfl⟩ := Array.getElem?_eq_some_iff.mp hc
    have q := List.all_eq_true.mp ((Array.all_eq_true_iff_forall_mem.mp hF) _ (Array.getElem_mem ha)) i (List.mem_range.mpr hi)
    simpa [Array.getElem?_eq_getElem hi] using q
  obtain ⟨hsets, hown0⟩ := atoms_of _ (rest_1_c_eq ▸ (show rest_1_c.before _ s = true from hrest))
  obtain ⟨i0, ei0⟩ := is_v hgrl
  obtain rfl : w0 = (.int i0) := Option.some.inj ei0
  obtain ⟨i1, ei1⟩ := is_v hgrrl
  obtain rfl : w1 = (.int i1) := Option.some.inj ei1
  obtain ⟨i2, ei2⟩ := is_v hgrrr
  obtain rfl : w2 = (.int i2) := Option.some.inj ei2
  obtain ⟨hna, hnb⟩ := and_e hn
  obtain ⟨w_UNREACHABLE, ev_UNREACHABLE⟩ := exa_v hna
  have E_UNREACHABLE := Exa.start ev_UNREACHABLE hna
  have S_UNREACHABLE := Sta.start ev_UNREACHABLE (Or.inr ⟨(own_w hw 28 rfl), (own_w hw 29 rfl)⟩)
  obtain ⟨hnba, hnbb⟩ := and_e hnb
  obtain ⟨w_REFUSED, ev_REFUSED⟩ := exa_v hnba
  have E_REFUSED := Exa.start ev_REFUSED hnba
  have S_REFUSED := Sta.start ev_REFUSED (Or.inr ⟨(own_w hw 28 rfl), (own_w hw 57 rfl)⟩)
  obtain ⟨w_TIMEOUT, ev_TIMEOUT⟩ := exa_v hnbb
  have E_TIMEOUT := Exa.start ev_TIMEOUT hnbb
  have S_TIMEOUT := Sta.start ev_TIMEOUT (Or.inr ⟨(own_w hw 28 rfl), (own_w hw 59 rfl)⟩)
  have evH := own_eqI (Cond.before_iff.mp (hsets _ (List.mem_of_getElem? (i := 3) rfl)))
  have S_high := Sta.start evH (Or.inr ⟨(own_w hw 5 rfl), (hsets _ (List.mem_of_getElem? (i := 0) rfl))⟩)
  obtain ⟨w_cache, evC⟩ := arr_v (Cond.before_iff.mp (hsets _ (List.mem_of_getElem? (i := 4) rfl)))
  have S_cache := Sta.start evC (Or.inr ⟨(own_w hw 5 rfl), (hsets _ (List.mem_of_getElem? (i := 2) rfl))⟩)
  obtain ⟨cl, CA⟩ := own_cache evC (hsets _ (List.mem_of_getElem? (i := 4) rfl)) (hsets _ (List.mem_of_getElem? (i := 6) rfl)) (hsets _ (List.mem_of_getElem? (i := 7) rfl))
  obtain ⟨n, o, h1, h2, h3, _, L, rfl, ⟨rfl, N, -⟩, hq⟩ := rm0 l s _ hw tables_1 i0 i1 i2 w_TIMEOUT w_UNREACHABLE w_REFUSED w_cache cl s.heap s.heap.size (Old.start s) S_TIMEOUT S_UNREACHABLE S_REFUSED S_high S_cache CA p e ha hc hk s m _ below hf ((Spec.applies_iff_loose hf).mp happ).1 ⟨rfl, State.Warmed39.refl s, rfl⟩ trivial
  refine ⟨n, _, h1, h2, h3, hpost _ _ _ _ _ _ ⟨Cond.after_iff.mpr rfl, Cond.after_iff.mpr (eq_i res_at (Term.int_eval (1)) rfl), trivial⟩ ⟨hq.1, hq.2.1, (hq.2.2.sift fun y hy => Or.inr (N y hy)).mono (by decide) (by decide)⟩⟩
theorem main_1_1 : Claimed_1_1 := comes_1 fun _ _ _ _ _ _ h hF => ⟨h.1, hF⟩
theorem main_1_2 : Claimed_1_2 := comes_1 fun _ _ _ _ _ _ h hF => ⟨h.2.1, hF⟩
end Jvm.Pilot.@@N@@
namespace Jvm.Pilot.@@N@@
open Jvm Jvm.ClassFile Sem Op Lib Jvm.Free Jvm.Stand Jvm.Pilot.@@N@@.Jvm.D
/-! MADE BY PROGRAM (witnessworld.py) out of the Statement's table words and the real class files: 20 classes; the members and pool entries that the words name. The judged class is class 1, her method 2. -/
namespace start1
open Jvm.ClassFile
def u (s : String) : CpInfo := .utf8 (stringToUtf16 s)
/-- a pool by its gaps: so many unusable entries, then the entry; so many at the end -/
def gap : Nat → List CpInfo → List CpInfo
  | 0, r => r
  | n + 1, r => .unusable :: gap n r
def poolList (es : List (Nat × CpInfo)) (last : Nat) : List CpInfo := es.foldr (fun e r => gap e.1 (e.2 :: r)) (gap last [])
def pool (es : List (Nat × CpInfo)) (last : Nat) : Array CpInfo := ⟨poolList es last⟩
def fileOf (pool : Array CpInfo) (this : Nat) (attrs : Array Attribute := #[]) (ms : Array MethodInfo := #[]) (fl : Nat := 33) (sup : Nat := 0) (ifs : Array Nat := #[]) (fds : Array FieldInfo := #[]) : ClassFile where
  minorVersion := 0
  majorVersion := 65
  constantPool := pool
  accessFlags := fl
  thisClass := this
  superClass := sup
  interfaces := ifs
  fields := fds
  methods := ms
  attributes := attrs
def plain (name : String) (sup : Option ClassId) : Class where
  name := name
  kind := .ordinary
  loader := none
  accessFlags := 33
  super := sup
  interfaces := #[]
  cf := none
  fields := #[]
  methods := #[]
  instanceTypes := #[]
  staticTypes := #[]
  resolved := #[]
  callSites := []
  init := .initialized
  statics := none
  mirror := none

def pool0 : Array CpInfo := pool [(5, u "<init>"), (0, u "()V"), (1, .class_ 10), (1, u "java/lang/Object")] 113

def k0c0 : Code := { maxStack := 0, maxLocals := 1, code := object_method_1_code, exceptionTable := #[], attributes := #[] }
def k0m0 : Method := { name := "<init>", desc := "()V", sig := { parameters := [], returnType := none }, accessFlags := 1, code := some k0c0 }
/-- java/lang/Object -/
def k0 : Class := { plain "java/lang/Object" none with
  accessFlags := 33
  interfaces := #[]
  cf := some (fileOf pool0 8 #[] #[{ accessFlags := 1, nameIndex := 5, descriptorIndex := 6, attributes := #[] }] 33 0 #[] #[])
  fields := #[]
  methods := #[k0m0]
  instanceTypes := #[]
  staticTypes := #[]
  resolved := Array.replicate 124 none
  statics := none }

def pool1 : Array CpInfo := pool [(2, .class_ 4), (1, u "java/lang/Object"), (0, u "<init>"), (0, u "()V"), (0, .fieldref 8 9), (0, .class_ 10), (0, .nameAndType 11 12), (0, u "com/example/loomlist/loomlist/store/WebhookAnswer$Failure"), (0, u "TIMEOUT"), (0, u "Lcom/example/loomlist/loomlist/store/WebhookAnswer$Failure;"), (0, .fieldref 8 14), (0, .nameAndType 15 12), (0, u "UNREACHABLE"), (0, .fieldref 8 17), (0, .nameAndType 18 12), (0, u "REFUSED"), (0, .methodref 20 21), (0, .class_ 22), (0, .nameAndType 23 24), (0, u "java/lang/Integer"), (0, u "valueOf"), (0, u "(I)Ljava/lang/Integer;"), (0, .methodref 26 27), (0, .class_ 28), (0, .nameAndType 29 30), (0, u "com/example/loomlist/loomlist/store/WebhookAnswerGonePinLaw"), (0, u "failure"), (0, u "(I)Lcom/example/loomlist/loomlist/store/WebhookAnswer$Failure;"), (0, .class_ 32), (0, u "com/example/loomlist/loomlist/store/WebhookAnswer"), (0, .methodref 31 34), (0, .nameAndType 5 35), (0, u "(Ljava/lang/Integer;Lcom/example/loomlist/loomlist/store/WebhookAnswer$Failure;)V"), (0, .methodref 31 37), (0, .nameAndType 38 39), (0, u "gone"), (0, u "()Z"), (3, u "law"), (0, u "(III)Z")] 4

def k1m0 : Method := { name := "<init>", desc := "()V", sig := { parameters := [], returnType := none }, accessFlags := 1, code := none }
def k1c1 : Code := { maxStack := 2, maxLocals := 1, code := method_2_code, exceptionTable := #[], attributes := #[] }
def k1m1 : Method := { name := "failure", desc := "(I)Lcom/example/loomlist/loomlist/store/WebhookAnswer$Failure;", sig := { parameters := [.int], returnType := some (.object "com/example/loomlist/loomlist/store/WebhookAnswer$Failure") }, accessFlags := 10, code := some k1c1 }
def k1c2 : Code := { maxStack := 4, maxLocals := 9, code := code, exceptionTable := #[], attributes := #[] }
def k1m2 : Method := { name := "law", desc := "(III)Z", sig := { parameters := [.int, .int, .int], returnType := some .boolean }, accessFlags := 9, code := some k1c2 }
/-- com/example/loomlist/loomlist/store/WebhookAnswerGonePinLaw -/
def k1 : Class := { plain "com/example/loomlist/loomlist/store/WebhookAnswerGonePinLaw" (some 0) with
  accessFlags := 49
  interfaces := #[]
  cf := some (fileOf pool1 26 #[] #[{ accessFlags := 1, nameIndex := 5, descriptorIndex := 6, attributes := #[] }, { accessFlags := 10, nameIndex := 29, descriptorIndex := 30, attributes := #[] }, { accessFlags := 9, nameIndex := 43, descriptorIndex := 44, attributes := #[] }] 49 2 #[] #[])
  fields := #[]
  methods := #[k1m0, k1m1, k1m2]
  instanceTypes := #[]
  staticTypes := #[]
  resolved := Array.replicate 49 none
  statics := none }

def pool2 : Array CpInfo := pool [(1, .class_ 2), (0, u "java/io/Serializable"), (0, .class_ 4), (0, u "java/lang/Object")] 2

/-- java/io/Serializable -/
def k2 : Class := { plain "java/io/Serializable" (some 0) with
  accessFlags := 1537
  interfaces := #[]
  cf := some (fileOf pool2 1 #[] #[] 1537 3 #[] #[])
  fields := #[]
  methods := #[]
  instanceTypes := #[]
  staticTypes := #[]
  resolved := Array.replicate 7 none
  statics := none }

def pool3 : Array CpInfo := pool [(1, .methodref 2 3), (0, .class_ 4), (0, .nameAndType 5 6), (0, u "java/lang/Object"), (0, u "<init>"), (0, u "()V"), (1, .class_ 10), (1, u "java/lang/Number"), (2, .class_ 14), (0, u "java/io/Serializable"), (0, u "serialVersionUID"), (0, u "J")] 20

def k3c0 : Code := { maxStack := 1, maxLocals := 1, code := jdk_18_method_1_code, exceptionTable := #[], attributes := #[] }
def k3m0 : Method := { name := "<init>", desc := "()V", sig := { parameters := [], returnType := none }, accessFlags := 1, code := some k3c0 }
/-- java/lang/Number -/
def k3 : Class := { plain "java/lang/Number" (some 0) with
  accessFlags := 1057
  interfaces := #[2]
  cf := some (fileOf pool3 8 #[] #[{ accessFlags := 1, nameIndex := 5, descriptorIndex := 6, attributes := #[] }] 1057 2 #[13] #[{ accessFlags := 26, nameIndex := 15, descriptorIndex := 16, attributes := #[] }])
  fields := #[{ name := "serialVersionUID", type := .long, accessFlags := 26, slot := 0, constantValue := 0 }]
  methods := #[k3m0]
  instanceTypes := #[]
  staticTypes := #[.long]
  resolved := Array.replicate 37 none
  statics := none }

def pool4 : Array CpInfo := pool [(1, .class_ 2), (0, u "java/lang/Comparable"), (0, .class_ 4), (0, u "java/lang/Object")] 7

/-- java/lang/Comparable -/
def k4 : Class := { plain "java/lang/Comparable" (some 0) with
  accessFlags := 1537
  interfaces := #[]
  cf := some (fileOf pool4 1 #[] #[] 1537 3 #[] #[])
  fields := #[]
  methods := #[]
  instanceTypes := #[]
  staticTypes := #[]
  resolved := Array.replicate 12 none
  statics := none }

def pool5 : Array CpInfo := pool [(1, .class_ 2), (0, u "java/lang/constant/Constable"), (0, .class_ 4), (0, u "java/lang/Object")] 6

/-- java/lang/constant/Constable -/
def k5 : Class := { plain "java/lang/constant/Constable" (some 0) with
  accessFlags := 1537
  interfaces := #[]
  cf := some (fileOf pool5 1 #[] #[] 1537 3 #[] #[])
  fields := #[]
  methods := #[]
  instanceTypes := #[]
  staticTypes := #[]
  resolved := Array.replicate 11 none
  statics := none }

def pool6 : Array CpInfo := pool [(1, .class_ 2), (0, u "java/lang/constant/ConstantDesc"), (0, .class_ 4), (0, u "java/lang/Object")] 32

/-- java/lang/constant/ConstantDesc -/
def k6 : Class := { plain "java/lang/constant/ConstantDesc" (some 0) with
  accessFlags := 1537
  interfaces := #[]
  cf := some (fileOf pool6 1 #[] #[] 1537 3 #[] #[])
  fields := #[]
  methods := #[]
  instanceTypes := #[]
  staticTypes := #[]
  resolved := Array.replicate 37 none
  statics := none }

def pool7 : Array CpInfo := pool [(1, .class_ 2), (0, u "java/lang/Integer"), (16, u "digits"), (0, u "[C"), (46, u "<init>"), (17, u "DigitOnes"), (0, u "[B"), (2, u "DigitTens"), (10, .nameAndType 67 101), (0, u "()V"), (19, u "()I"), (65, u "valueOf"), (0, u "(I)Ljava/lang/Integer;"), (0, .class_ 190), (0, u "java/lang/Integer$IntegerCache"), (0, .fieldref 189 192), (0, .nameAndType 193 194), (0, u "high"), (0, u "I"), (0, .fieldref 189 196), (0, .nameAndType 197 198), (0, u "cache"), (0, u "[Ljava/lang/Integer;"), (0, .methodref 1 200), (0, .nameAndType 67 201), (0, u "(I)V"), (0, .methodref 203 100), (0, .class_ 204), (0, u "java/lang/Number"), (0, .fieldref 1 206), (0, .nameAndType 207 194), (0, u "value"), (5, u "intValue"), (88, u "TYPE"), (0, u "Ljava/lang/Class;"), (0, .class_ 305), (0, u "java/lang/Comparable"), (0, .class_ 307), (0, u "java/lang/constant/Constable"), (0, .class_ 309), (0, u "java/lang/constant/ConstantDesc"), (0, u "MIN_VALUE"), (1, u "MAX_VALUE"), (3, u "SIZE"), (1, u "BYTES"), (1, u "serialVersionUID"), (0, u "J")] 131

def k7c0 : Code := { maxStack := 3, maxLocals := 1, code := jdk_33_method_22_code, exceptionTable := #[], attributes := #[] }
def k7m0 : Method := { name := "valueOf", desc := "(I)Ljava/lang/Integer;", sig := { parameters := [.int], returnType := some (.object "java/lang/Integer") }, accessFlags := 9, code := some k7c0 }
def k7c1 : Code := { maxStack := 2, maxLocals := 2, code := jdk_33_method_23_code, exceptionTable := #[], attributes := #[] }
def k7m1 : Method := { name := "<init>", desc := "(I)V", sig := { parameters := [.int], returnType := none }, accessFlags := 1, code := some k7c1 }
def k7c2 : Code := { maxStack := 1, maxLocals := 1, code := jdk_33_method_27_code, exceptionTable := #[], attributes := #[] }
def k7m2 : Method := { name := "intValue", desc := "()I", sig := { parameters := [], returnType := some .int }, accessFlags := 1, code := some k7c2 }
/-- java/lang/Integer -/
def k7 : Class := { plain "java/lang/Integer" (some 3) with
  accessFlags := 49
  interfaces := #[4, 5, 6]
  cf := some (fileOf pool7 1 #[.nestMembers #[189]] #[{ accessFlags := 9, nameIndex := 187, descriptorIndex := 188, attributes := #[] }, { accessFlags := 1, nameIndex := 67, descriptorIndex := 201, attributes := #[] }, { accessFlags := 1, nameIndex := 213, descriptorIndex := 121, attributes := #[] }] 49 203 #[304, 306, 308] #[{ accessFlags := 25, nameIndex := 310, descriptorIndex := 194, attributes := #[] }, { accessFlags := 25, nameIndex := 312, descriptorIndex := 194, attributes := #[] }, { accessFlags := 25, nameIndex := 302, descriptorIndex := 303, attributes := #[] }, { accessFlags := 24, nameIndex := 19, descriptorIndex := 20, attributes := #[] }, { accessFlags := 24, nameIndex := 89, descriptorIndex := 86, attributes := #[] }, { accessFlags := 24, nameIndex := 85, descriptorIndex := 86, attributes := #[] }, { accessFlags := 18, nameIndex := 207, descriptorIndex := 194, attributes := #[] }, { accessFlags := 25, nameIndex := 316, descriptorIndex := 194, attributes := #[] }, { accessFlags := 25, nameIndex := 318, descriptorIndex := 194, attributes := #[] }, { accessFlags := 26, nameIndex := 320, descriptorIndex := 321, attributes := #[] }])
  fields := #[{ name := "MIN_VALUE", type := .int, accessFlags := 25, slot := 0, constantValue := 0 }, { name := "MAX_VALUE", type := .int, accessFlags := 25, slot := 1, constantValue := 0 }, { name := "TYPE", type := (.object "java/lang/Class"), accessFlags := 25, slot := 2, constantValue := 0 }, { name := "digits", type := (.array .char), accessFlags := 24, slot := 3, constantValue := 0 }, { name := "DigitTens", type := (.array .byte), accessFlags := 24, slot := 4, constantValue := 0 }, { name := "DigitOnes", type := (.array .byte), accessFlags := 24, slot := 5, constantValue := 0 }, { name := "value", type := .int, accessFlags := 18, slot := 0, constantValue := 0 }, { name := "SIZE", type := .int, accessFlags := 25, slot := 6, constantValue := 0 }, { name := "BYTES", type := .int, accessFlags := 25, slot := 7, constantValue := 0 }, { name := "serialVersionUID", type := .long, accessFlags := 26, slot := 8, constantValue := 0 }]
  methods := #[k7m0, k7m1, k7m2]
  instanceTypes := #[.int]
  staticTypes := #[.int, .int, (.object "java/lang/Class"), (.array .char), (.array .byte), (.array .byte), .int, .int, .long]
  resolved := Array.replicate 453 none
  statics := none }

def pool8 : Array CpInfo := pool [(2, .class_ 4), (1, u "java/lang/Object"), (0, u "<init>"), (0, u "()V"), (0, .class_ 8), (0, u "java/lang/Integer"), (7, .class_ 18), (1, u "java/lang/Integer$IntegerCache"), (0, u "$assertionsDisabled"), (0, u "Z"), (26, u "high"), (0, u "I"), (8, u "archivedCache"), (0, u "[Ljava/lang/Integer;"), (12, u "cache"), (0, u "low")] 27

def k8m0 : Method := { name := "<init>", desc := "()V", sig := { parameters := [], returnType := none }, accessFlags := 2, code := none }
/-- java/lang/Integer$IntegerCache -/
def k8 : Class := { plain "java/lang/Integer$IntegerCache" (some 0) with
  accessFlags := 48
  interfaces := #[]
  cf := some (fileOf pool8 16 #[.nestHost 7] #[{ accessFlags := 2, nameIndex := 5, descriptorIndex := 6, attributes := #[] }] 48 2 #[] #[{ accessFlags := 24, nameIndex := 72, descriptorIndex := 48, attributes := #[] }, { accessFlags := 24, nameIndex := 47, descriptorIndex := 48, attributes := #[] }, { accessFlags := 24, nameIndex := 71, descriptorIndex := 58, attributes := #[] }, { accessFlags := 8, nameIndex := 57, descriptorIndex := 58, attributes := #[] }, { accessFlags := 4120, nameIndex := 19, descriptorIndex := 20, attributes := #[] }])
  fields := #[{ name := "low", type := .int, accessFlags := 24, slot := 0, constantValue := 0 }, { name := "high", type := .int, accessFlags := 24, slot := 1, constantValue := 0 }, { name := "cache", type := (.array (.object "java/lang/Integer")), accessFlags := 24, slot := 2, constantValue := 0 }, { name := "archivedCache", type := (.array (.object "java/lang/Integer")), accessFlags := 8, slot := 3, constantValue := 0 }, { name := "$assertionsDisabled", type := .boolean, accessFlags := 4120, slot := 4, constantValue := 0 }]
  methods := #[k8m0]
  instanceTypes := #[]
  staticTypes := #[.int, .int, (.array (.object "java/lang/Integer")), (.array (.object "java/lang/Integer")), .boolean]
  resolved := Array.replicate 100 none
  statics := some 0 }

def pool9 : Array CpInfo := pool [(2, .class_ 4), (1, u "java/lang/Enum"), (0, u "name"), (0, u "Ljava/lang/String;"), (2, u "ordinal"), (0, u "I"), (1, .class_ 14), (1, u "java/lang/Object"), (4, u "hash"), (86, .class_ 108), (1, u "java/lang/Enum$EnumDesc"), (2, .class_ 112), (0, u "java/lang/constant/Constable"), (0, .class_ 114), (0, u "java/lang/Comparable"), (0, .class_ 116), (0, u "java/io/Serializable")] 87

/-- java/lang/Enum -/
def k9 : Class := { plain "java/lang/Enum" (some 0) with
  accessFlags := 1057
  interfaces := #[5, 4, 2]
  cf := some (fileOf pool9 2 #[.nestMembers #[106]] #[] 1057 12 #[111, 113, 115] #[{ accessFlags := 18, nameIndex := 5, descriptorIndex := 6, attributes := #[] }, { accessFlags := 18, nameIndex := 9, descriptorIndex := 10, attributes := #[] }, { accessFlags := 2, nameIndex := 19, descriptorIndex := 10, attributes := #[] }])
  fields := #[{ name := "name", type := (.object "java/lang/String"), accessFlags := 18, slot := 0, constantValue := 0 }, { name := "ordinal", type := .int, accessFlags := 18, slot := 1, constantValue := 0 }, { name := "hash", type := .int, accessFlags := 2, slot := 2, constantValue := 0 }]
  methods := #[]
  instanceTypes := #[(.object "java/lang/String"), .int, .int]
  staticTypes := #[]
  resolved := Array.replicate 204 none
  statics := none }

def pool10 : Array CpInfo := pool [(2, .class_ 4), (1, u "com/example/loomlist/loomlist/core/WireName"), (57, .class_ 63), (0, u "java/lang/Object")] 78

/-- com/example/loomlist/loomlist/core/WireName -/
def k10 : Class := { plain "com/example/loomlist/loomlist/core/WireName" (some 0) with
  accessFlags := 1537
  interfaces := #[]
  cf := some (fileOf pool10 2 #[] #[] 1537 62 #[] #[])
  fields := #[]
  methods := #[]
  instanceTypes := #[]
  staticTypes := #[]
  resolved := Array.replicate 142 none
  statics := none }

def pool11 : Array CpInfo := pool [(1, .class_ 2), (0, u "com/example/loomlist/loomlist/store/WebhookAnswer$Failure"), (2, u "TIMEOUT"), (0, u "Lcom/example/loomlist/loomlist/store/WebhookAnswer$Failure;"), (2, u "UNREACHABLE"), (2, u "REFUSED"), (2, u "$VALUES"), (0, u "[Lcom/example/loomlist/loomlist/store/WebhookAnswer$Failure;"), (6, .class_ 25), (1, u "java/lang/Enum"), (14, .class_ 41), (0, u "com/example/loomlist/loomlist/core/WireName"), (12, .class_ 55), (0, u "com/example/loomlist/loomlist/store/WebhookAnswer")] 2

/-- com/example/loomlist/loomlist/store/WebhookAnswer$Failure -/
def k11 : Class := { plain "com/example/loomlist/loomlist/store/WebhookAnswer$Failure" (some 9) with
  accessFlags := 16433
  interfaces := #[10]
  cf := some (fileOf pool11 1 #[.nestHost 54] #[] 16433 23 #[40] #[{ accessFlags := 16409, nameIndex := 5, descriptorIndex := 6, attributes := #[] }, { accessFlags := 16409, nameIndex := 9, descriptorIndex := 6, attributes := #[] }, { accessFlags := 16409, nameIndex := 12, descriptorIndex := 6, attributes := #[] }, { accessFlags := 4122, nameIndex := 15, descriptorIndex := 16, attributes := #[] }])
  fields := #[{ name := "TIMEOUT", type := (.object "com/example/loomlist/loomlist/store/WebhookAnswer$Failure"), accessFlags := 16409, slot := 0, constantValue := 0 }, { name := "UNREACHABLE", type := (.object "com/example/loomlist/loomlist/store/WebhookAnswer$Failure"), accessFlags := 16409, slot := 1, constantValue := 0 }, { name := "REFUSED", type := (.object "com/example/loomlist/loomlist/store/WebhookAnswer$Failure"), accessFlags := 16409, slot := 2, constantValue := 0 }, { name := "$VALUES", type := (.array (.object "com/example/loomlist/loomlist/store/WebhookAnswer$Failure")), accessFlags := 4122, slot := 3, constantValue := 0 }]
  methods := #[]
  instanceTypes := #[(.object "java/lang/String"), .int, .int]
  staticTypes := #[(.object "com/example/loomlist/loomlist/store/WebhookAnswer$Failure"), (.object "com/example/loomlist/loomlist/store/WebhookAnswer$Failure"), (.object "com/example/loomlist/loomlist/store/WebhookAnswer$Failure"), (.array (.object "com/example/loomlist/loomlist/store/WebhookAnswer$Failure"))]
  resolved := Array.replicate 58 none
  statics := some 1 }

def pool12 : Array CpInfo := pool [(1, .methodref 2 3), (0, .class_ 4), (0, .nameAndType 5 6), (0, u "java/lang/Object"), (0, u "<init>"), (0, u "()V"), (0, .class_ 8), (0, u "java/lang/Record")] 13

def k12c0 : Code := { maxStack := 1, maxLocals := 1, code := jdk_30_method_1_code, exceptionTable := #[], attributes := #[] }
def k12m0 : Method := { name := "<init>", desc := "()V", sig := { parameters := [], returnType := none }, accessFlags := 4, code := some k12c0 }
/-- java/lang/Record -/
def k12 : Class := { plain "java/lang/Record" (some 0) with
  accessFlags := 1057
  interfaces := #[]
  cf := some (fileOf pool12 7 #[] #[{ accessFlags := 4, nameIndex := 5, descriptorIndex := 6, attributes := #[] }] 1057 2 #[] #[])
  fields := #[]
  methods := #[k12m0]
  instanceTypes := #[]
  staticTypes := #[]
  resolved := Array.replicate 22 none
  statics := none }

def pool13 : Array CpInfo := pool [(1, .methodref 2 3), (0, .class_ 4), (0, .nameAndType 5 6), (0, u "java/lang/Record"), (0, u "<init>"), (0, u "()V"), (0, .fieldref 8 9), (0, .class_ 10), (0, .nameAndType 11 12), (0, u "com/example/loomlist/loomlist/store/WebhookAnswer"), (0, u "status"), (0, u "Ljava/lang/Integer;"), (0, .fieldref 8 14), (0, .nameAndType 15 16), (0, u "failure"), (0, u "Lcom/example/loomlist/loomlist/store/WebhookAnswer$Failure;"), (1, .class_ 20), (1, u "java/lang/Integer"), (4, u "(Ljava/lang/Integer;Lcom/example/loomlist/loomlist/store/WebhookAnswer$Failure;)V"), (0, .methodref 18 27), (0, .nameAndType 28 29), (0, u "intValue"), (0, u "()I"), (20, u "()Z"), (1, u "gone"), (7, .class_ 61), (0, u "com/example/loomlist/loomlist/store/WebhookAnswer$Failure")] 20

def k13c0 : Code := { maxStack := 2, maxLocals := 3, code := prog_74_method_1_code, exceptionTable := #[], attributes := #[] }
def k13m0 : Method := { name := "<init>", desc := "(Ljava/lang/Integer;Lcom/example/loomlist/loomlist/store/WebhookAnswer$Failure;)V", sig := { parameters := [(.object "java/lang/Integer"), (.object "com/example/loomlist/loomlist/store/WebhookAnswer$Failure")], returnType := none }, accessFlags := 1, code := some k13c0 }
def k13c1 : Code := { maxStack := 2, maxLocals := 1, code := prog_74_method_5_code, exceptionTable := #[], attributes := #[] }
def k13m1 : Method := { name := "gone", desc := "()Z", sig := { parameters := [], returnType := some .boolean }, accessFlags := 1, code := some k13c1 }
/-- com/example/loomlist/loomlist/store/WebhookAnswer -/
def k13 : Class := { plain "com/example/loomlist/loomlist/store/WebhookAnswer" (some 12) with
  accessFlags := 49
  interfaces := #[]
  cf := some (fileOf pool13 8 #[.nestMembers #[60]] #[{ accessFlags := 1, nameIndex := 5, descriptorIndex := 25, attributes := #[] }, { accessFlags := 1, nameIndex := 52, descriptorIndex := 50, attributes := #[] }] 49 2 #[] #[{ accessFlags := 18, nameIndex := 11, descriptorIndex := 12, attributes := #[] }, { accessFlags := 18, nameIndex := 15, descriptorIndex := 16, attributes := #[] }])
  fields := #[{ name := "status", type := (.object "java/lang/Integer"), accessFlags := 18, slot := 0, constantValue := 0 }, { name := "failure", type := (.object "com/example/loomlist/loomlist/store/WebhookAnswer$Failure"), accessFlags := 18, slot := 1, constantValue := 0 }]
  methods := #[k13m0, k13m1]
  instanceTypes := #[(.object "java/lang/Integer"), (.object "com/example/loomlist/loomlist/store/WebhookAnswer$Failure")]
  staticTypes := #[]
  resolved := Array.replicate 82 none
  statics := none }

def pool14 : Array CpInfo := pool [(1, u "java/lang/Cloneable"), (0, .class_ 1), (0, u "java/lang/Object"), (0, .class_ 3)] 3

/-- java/lang/Cloneable -/
def k14 : Class := { plain "java/lang/Cloneable" (some 0) with
  accessFlags := 1537
  interfaces := #[]
  cf := some (fileOf pool14 2 #[] #[] 1537 4 #[] #[])
  fields := #[]
  methods := #[]
  instanceTypes := #[]
  staticTypes := #[]
  resolved := Array.replicate 8 none
  statics := none }

/-- the primitive byte -/
def k15 : Class := { plain "byte" none with kind := .primitive 'B', accessFlags := 0x411 }
/-- [B -/
def k16 : Class := { plain "[B" (some 0) with kind := .array 15 .byte, interfaces := #[14, 2], accessFlags := 1041 }

/-- the primitive int -/
def k17 : Class := { plain "int" none with kind := .primitive 'I', accessFlags := 0x411 }
/-- [I -/
def k18 : Class := { plain "[I" (some 0) with kind := .array 17 .int, interfaces := #[14, 2], accessFlags := 1041 }

/-- [Ljava/lang/Integer; -/
def k19 : Class := { plain "[Ljava/lang/Integer;" (some 0) with kind := .array 7 (.object "java/lang/Integer"), interfaces := #[14, 2], accessFlags := 1041 }

def heap : Heap := #[{ cls := 8, slots := #[.int 0, .int 127, .ref 2, .null, .int 0], vm := .statics 8 },
  { cls := 11, slots := #[.ref 5, .ref 3, .ref 4, .null], vm := .statics 11 },
  { cls := 19, slots := #[.ref 6, .ref 7, .ref 8, .ref 9, .ref 10, .ref 11, .ref 12, .ref 13, .ref 14, .ref 15, .ref 16, .ref 17, .ref 18, .ref 19, .ref 20, .ref 21, .ref 22, .ref 23, .ref 24, .ref 25, .ref 26, .ref 27, .ref 28, .ref 29, .ref 30, .ref 31, .ref 32, .ref 33, .ref 34, .ref 35, .ref 36, .ref 37, .ref 38, .ref 39, .ref 40, .ref 41, .ref 42, .ref 43, .ref 44, .ref 45, .ref 46, .ref 47, .ref 48, .ref 49, .ref 50, .ref 51, .ref 52, .ref 53, .ref 54, .ref 55, .ref 56, .ref 57, .ref 58, .ref 59, .ref 60, .ref 61, .ref 62, .ref 63, .ref 64, .ref 65, .ref 66, .ref 67, .ref 68, .ref 69, .ref 70, .ref 71, .ref 72, .ref 73, .ref 74, .ref 75, .ref 76, .ref 77, .ref 78, .ref 79, .ref 80, .ref 81, .ref 82, .ref 83, .ref 84, .ref 85, .ref 86, .ref 87, .ref 88, .ref 89, .ref 90, .ref 91, .ref 92, .ref 93, .ref 94, .ref 95, .ref 96, .ref 97, .ref 98, .ref 99, .ref 100, .ref 101, .ref 102, .ref 103, .ref 104, .ref 105, .ref 106, .ref 107, .ref 108, .ref 109, .ref 110, .ref 111, .ref 112, .ref 113, .ref 114, .ref 115, .ref 116, .ref 117, .ref 118, .ref 119, .ref 120, .ref 121, .ref 122, .ref 123, .ref 124, .ref 125, .ref 126, .ref 127, .ref 128, .ref 129, .ref 130, .ref 131, .ref 132, .ref 133, .ref 134, .ref 135, .ref 136, .ref 137, .ref 138, .ref 139, .ref 140, .ref 141, .ref 142, .ref 143, .ref 144, .ref 145, .ref 146, .ref 147, .ref 148, .ref 149, .ref 150, .ref 151, .ref 152, .ref 153, .ref 154, .ref 155, .ref 156, .ref 157, .ref 158, .ref 159, .ref 160, .ref 161, .ref 162, .ref 163, .ref 164, .ref 165, .ref 166, .ref 167, .ref 168, .ref 169, .ref 170, .ref 171, .ref 172, .ref 173, .ref 174, .ref 175, .ref 176, .ref 177, .ref 178, .ref 179, .ref 180, .ref 181, .ref 182, .ref 183, .ref 184, .ref 185, .ref 186, .ref 187, .ref 188, .ref 189, .ref 190, .ref 191, .ref 192, .ref 193, .ref 194, .ref 195, .ref 196, .ref 197, .ref 198, .ref 199, .ref 200, .ref 201, .ref 202, .ref 203, .ref 204, .ref 205, .ref 206, .ref 207, .ref 208, .ref 209, .ref 210, .ref 211, .ref 212, .ref 213, .ref 214, .ref 215, .ref 216, .ref 217, .ref 218, .ref 219, .ref 220, .ref 221, .ref 222, .ref 223, .ref 224, .ref 225, .ref 226, .ref 227, .ref 228, .ref 229, .ref 230, .ref 231, .ref 232, .ref 233, .ref 234, .ref 235, .ref 236, .ref 237, .ref 238, .ref 239, .ref 240, .ref 241, .ref 242, .ref 243, .ref 244, .ref 245, .ref 246, .ref 247, .ref 248, .ref 249, .ref 250, .ref 251, .ref 252, .ref 253, .ref 254, .ref 255, .ref 256, .ref 257, .ref 258, .ref 259, .ref 260, .ref 261], vm := .none },
  { cls := 11, slots := #[.null, .int 0, .int 0], vm := .none },
  { cls := 11, slots := #[.null, .int 0, .int 0], vm := .none },
  { cls := 11, slots := #[.null, .int 0, .int 0], vm := .none },
  { cls := 7, slots := #[.int (-128)], vm := .none },
  { cls := 7, slots := #[.int (-127)], vm := .none },
  { cls := 7, slots := #[.int (-126)], vm := .none },
  { cls := 7, slots := #[.int (-125)], vm := .none },
  { cls := 7, slots := #[.int (-124)], vm := .none },
  { cls := 7, slots := #[.int (-123)], vm := .none },
  { cls := 7, slots := #[.int (-122)], vm := .none },
  { cls := 7, slots := #[.int (-121)], vm := .none },
  { cls := 7, slots := #[.int (-120)], vm := .none },
  { cls := 7, slots := #[.int (-119)], vm := .none },
  { cls := 7, slots := #[.int (-118)], vm := .none },
  { cls := 7, slots := #[.int (-117)], vm := .none },
  { cls := 7, slots := #[.int (-116)], vm := .none },
  { cls := 7, slots := #[.int (-115)], vm := .none },
  { cls := 7, slots := #[.int (-114)], vm := .none },
  { cls := 7, slots := #[.int (-113)], vm := .none },
  { cls := 7, slots := #[.int (-112)], vm := .none },
  { cls := 7, slots := #[.int (-111)], vm := .none },
  { cls := 7, slots := #[.int (-110)], vm := .none },
  { cls := 7, slots := #[.int (-109)], vm := .none },
  { cls := 7, slots := #[.int (-108)], vm := .none },
  { cls := 7, slots := #[.int (-107)], vm := .none },
  { cls := 7, slots := #[.int (-106)], vm := .none },
  { cls := 7, slots := #[.int (-105)], vm := .none },
  { cls := 7, slots := #[.int (-104)], vm := .none },
  { cls := 7, slots := #[.int (-103)], vm := .none },
  { cls := 7, slots := #[.int (-102)], vm := .none },
  { cls := 7, slots := #[.int (-101)], vm := .none },
  { cls := 7, slots := #[.int (-100)], vm := .none },
  { cls := 7, slots := #[.int (-99)], vm := .none },
  { cls := 7, slots := #[.int (-98)], vm := .none },
  { cls := 7, slots := #[.int (-97)], vm := .none },
  { cls := 7, slots := #[.int (-96)], vm := .none },
  { cls := 7, slots := #[.int (-95)], vm := .none },
  { cls := 7, slots := #[.int (-94)], vm := .none },
  { cls := 7, slots := #[.int (-93)], vm := .none },
  { cls := 7, slots := #[.int (-92)], vm := .none },
  { cls := 7, slots := #[.int (-91)], vm := .none },
  { cls := 7, slots := #[.int (-90)], vm := .none },
  { cls := 7, slots := #[.int (-89)], vm := .none },
  { cls := 7, slots := #[.int (-88)], vm := .none },
  { cls := 7, slots := #[.int (-87)], vm := .none },
  { cls := 7, slots := #[.int (-86)], vm := .none },
  { cls := 7, slots := #[.int (-85)], vm := .none },
  { cls := 7, slots := #[.int (-84)], vm := .none },
  { cls := 7, slots := #[.int (-83)], vm := .none },
  { cls := 7, slots := #[.int (-82)], vm := .none },
  { cls := 7, slots := #[.int (-81)], vm := .none },
  { cls := 7, slots := #[.int (-80)], vm := .none },
  { cls := 7, slots := #[.int (-79)], vm := .none },
  { cls := 7, slots := #[.int (-78)], vm := .none },
  { cls := 7, slots := #[.int (-77)], vm := .none },
  { cls := 7, slots := #[.int (-76)], vm := .none },
  { cls := 7, slots := #[.int (-75)], vm := .none },
  { cls := 7, slots := #[.int (-74)], vm := .none },
  { cls := 7, slots := #[.int (-73)], vm := .none },
  { cls := 7, slots := #[.int (-72)], vm := .none },
  { cls := 7, slots := #[.int (-71)], vm := .none },
  { cls := 7, slots := #[.int (-70)], vm := .none },
  { cls := 7, slots := #[.int (-69)], vm := .none },
  { cls := 7, slots := #[.int (-68)], vm := .none },
  { cls := 7, slots := #[.int (-67)], vm := .none },
  { cls := 7, slots := #[.int (-66)], vm := .none },
  { cls := 7, slots := #[.int (-65)], vm := .none },
  { cls := 7, slots := #[.int (-64)], vm := .none },
  { cls := 7, slots := #[.int (-63)], vm := .none },
  { cls := 7, slots := #[.int (-62)], vm := .none },
  { cls := 7, slots := #[.int (-61)], vm := .none },
  { cls := 7, slots := #[.int (-60)], vm := .none },
  { cls := 7, slots := #[.int (-59)], vm := .none },
  { cls := 7, slots := #[.int (-58)], vm := .none },
  { cls := 7, slots := #[.int (-57)], vm := .none },
  { cls := 7, slots := #[.int (-56)], vm := .none },
  { cls := 7, slots := #[.int (-55)], vm := .none },
  { cls := 7, slots := #[.int (-54)], vm := .none },
  { cls := 7, slots := #[.int (-53)], vm := .none },
  { cls := 7, slots := #[.int (-52)], vm := .none },
  { cls := 7, slots := #[.int (-51)], vm := .none },
  { cls := 7, slots := #[.int (-50)], vm := .none },
  { cls := 7, slots := #[.int (-49)], vm := .none },
  { cls := 7, slots := #[.int (-48)], vm := .none },
  { cls := 7, slots := #[.int (-47)], vm := .none },
  { cls := 7, slots := #[.int (-46)], vm := .none },
  { cls := 7, slots := #[.int (-45)], vm := .none },
  { cls := 7, slots := #[.int (-44)], vm := .none },
  { cls := 7, slots := #[.int (-43)], vm := .none },
  { cls := 7, slots := #[.int (-42)], vm := .none },
  { cls := 7, slots := #[.int (-41)], vm := .none },
  { cls := 7, slots := #[.int (-40)], vm := .none },
  { cls := 7, slots := #[.int (-39)], vm := .none },
  { cls := 7, slots := #[.int (-38)], vm := .none },
  { cls := 7, slots := #[.int (-37)], vm := .none },
  { cls := 7, slots := #[.int (-36)], vm := .none },
  { cls := 7, slots := #[.int (-35)], vm := .none },
  { cls := 7, slots := #[.int (-34)], vm := .none },
  { cls := 7, slots := #[.int (-33)], vm := .none },
  { cls := 7, slots := #[.int (-32)], vm := .none },
  { cls := 7, slots := #[.int (-31)], vm := .none },
  { cls := 7, slots := #[.int (-30)], vm := .none },
  { cls := 7, slots := #[.int (-29)], vm := .none },
  { cls := 7, slots := #[.int (-28)], vm := .none },
  { cls := 7, slots := #[.int (-27)], vm := .none },
  { cls := 7, slots := #[.int (-26)], vm := .none },
  { cls := 7, slots := #[.int (-25)], vm := .none },
  { cls := 7, slots := #[.int (-24)], vm := .none },
  { cls := 7, slots := #[.int (-23)], vm := .none },
  { cls := 7, slots := #[.int (-22)], vm := .none },
  { cls := 7, slots := #[.int (-21)], vm := .none },
  { cls := 7, slots := #[.int (-20)], vm := .none },
  { cls := 7, slots := #[.int (-19)], vm := .none },
  { cls := 7, slots := #[.int (-18)], vm := .none },
  { cls := 7, slots := #[.int (-17)], vm := .none },
  { cls := 7, slots := #[.int (-16)], vm := .none },
  { cls := 7, slots := #[.int (-15)], vm := .none },
  { cls := 7, slots := #[.int (-14)], vm := .none },
  { cls := 7, slots := #[.int (-13)], vm := .none },
  { cls := 7, slots := #[.int (-12)], vm := .none },
  { cls := 7, slots := #[.int (-11)], vm := .none },
  { cls := 7, slots := #[.int (-10)], vm := .none },
  { cls := 7, slots := #[.int (-9)], vm := .none },
  { cls := 7, slots := #[.int (-8)], vm := .none },
  { cls := 7, slots := #[.int (-7)], vm := .none },
  { cls := 7, slots := #[.int (-6)], vm := .none },
  { cls := 7, slots := #[.int (-5)], vm := .none },
  { cls := 7, slots := #[.int (-4)], vm := .none },
  { cls := 7, slots := #[.int (-3)], vm := .none },
  { cls := 7, slots := #[.int (-2)], vm := .none },
  { cls := 7, slots := #[.int (-1)], vm := .none },
  { cls := 7, slots := #[.int 0], vm := .none },
  { cls := 7, slots := #[.int 1], vm := .none },
  { cls := 7, slots := #[.int 2], vm := .none },
  { cls := 7, slots := #[.int 3], vm := .none },
  { cls := 7, slots := #[.int 4], vm := .none },
  { cls := 7, slots := #[.int 5], vm := .none },
  { cls := 7, slots := #[.int 6], vm := .none },
  { cls := 7, slots := #[.int 7], vm := .none },
  { cls := 7, slots := #[.int 8], vm := .none },
  { cls := 7, slots := #[.int 9], vm := .none },
  { cls := 7, slots := #[.int 10], vm := .none },
  { cls := 7, slots := #[.int 11], vm := .none },
  { cls := 7, slots := #[.int 12], vm := .none },
  { cls := 7, slots := #[.int 13], vm := .none },
  { cls := 7, slots := #[.int 14], vm := .none },
  { cls := 7, slots := #[.int 15], vm := .none },
  { cls := 7, slots := #[.int 16], vm := .none },
  { cls := 7, slots := #[.int 17], vm := .none },
  { cls := 7, slots := #[.int 18], vm := .none },
  { cls := 7, slots := #[.int 19], vm := .none },
  { cls := 7, slots := #[.int 20], vm := .none },
  { cls := 7, slots := #[.int 21], vm := .none },
  { cls := 7, slots := #[.int 22], vm := .none },
  { cls := 7, slots := #[.int 23], vm := .none },
  { cls := 7, slots := #[.int 24], vm := .none },
  { cls := 7, slots := #[.int 25], vm := .none },
  { cls := 7, slots := #[.int 26], vm := .none },
  { cls := 7, slots := #[.int 27], vm := .none },
  { cls := 7, slots := #[.int 28], vm := .none },
  { cls := 7, slots := #[.int 29], vm := .none },
  { cls := 7, slots := #[.int 30], vm := .none },
  { cls := 7, slots := #[.int 31], vm := .none },
  { cls := 7, slots := #[.int 32], vm := .none },
  { cls := 7, slots := #[.int 33], vm := .none },
  { cls := 7, slots := #[.int 34], vm := .none },
  { cls := 7, slots := #[.int 35], vm := .none },
  { cls := 7, slots := #[.int 36], vm := .none },
  { cls := 7, slots := #[.int 37], vm := .none },
  { cls := 7, slots := #[.int 38], vm := .none },
  { cls := 7, slots := #[.int 39], vm := .none },
  { cls := 7, slots := #[.int 40], vm := .none },
  { cls := 7, slots := #[.int 41], vm := .none },
  { cls := 7, slots := #[.int 42], vm := .none },
  { cls := 7, slots := #[.int 43], vm := .none },
  { cls := 7, slots := #[.int 44], vm := .none },
  { cls := 7, slots := #[.int 45], vm := .none },
  { cls := 7, slots := #[.int 46], vm := .none },
  { cls := 7, slots := #[.int 47], vm := .none },
  { cls := 7, slots := #[.int 48], vm := .none },
  { cls := 7, slots := #[.int 49], vm := .none },
  { cls := 7, slots := #[.int 50], vm := .none },
  { cls := 7, slots := #[.int 51], vm := .none },
  { cls := 7, slots := #[.int 52], vm := .none },
  { cls := 7, slots := #[.int 53], vm := .none },
  { cls := 7, slots := #[.int 54], vm := .none },
  { cls := 7, slots := #[.int 55], vm := .none },
  { cls := 7, slots := #[.int 56], vm := .none },
  { cls := 7, slots := #[.int 57], vm := .none },
  { cls := 7, slots := #[.int 58], vm := .none },
  { cls := 7, slots := #[.int 59], vm := .none },
  { cls := 7, slots := #[.int 60], vm := .none },
  { cls := 7, slots := #[.int 61], vm := .none },
  { cls := 7, slots := #[.int 62], vm := .none },
  { cls := 7, slots := #[.int 63], vm := .none },
  { cls := 7, slots := #[.int 64], vm := .none },
  { cls := 7, slots := #[.int 65], vm := .none },
  { cls := 7, slots := #[.int 66], vm := .none },
  { cls := 7, slots := #[.int 67], vm := .none },
  { cls := 7, slots := #[.int 68], vm := .none },
  { cls := 7, slots := #[.int 69], vm := .none },
  { cls := 7, slots := #[.int 70], vm := .none },
  { cls := 7, slots := #[.int 71], vm := .none },
  { cls := 7, slots := #[.int 72], vm := .none },
  { cls := 7, slots := #[.int 73], vm := .none },
  { cls := 7, slots := #[.int 74], vm := .none },
  { cls := 7, slots := #[.int 75], vm := .none },
  { cls := 7, slots := #[.int 76], vm := .none },
  { cls := 7, slots := #[.int 77], vm := .none },
  { cls := 7, slots := #[.int 78], vm := .none },
  { cls := 7, slots := #[.int 79], vm := .none },
  { cls := 7, slots := #[.int 80], vm := .none },
  { cls := 7, slots := #[.int 81], vm := .none },
  { cls := 7, slots := #[.int 82], vm := .none },
  { cls := 7, slots := #[.int 83], vm := .none },
  { cls := 7, slots := #[.int 84], vm := .none },
  { cls := 7, slots := #[.int 85], vm := .none },
  { cls := 7, slots := #[.int 86], vm := .none },
  { cls := 7, slots := #[.int 87], vm := .none },
  { cls := 7, slots := #[.int 88], vm := .none },
  { cls := 7, slots := #[.int 89], vm := .none },
  { cls := 7, slots := #[.int 90], vm := .none },
  { cls := 7, slots := #[.int 91], vm := .none },
  { cls := 7, slots := #[.int 92], vm := .none },
  { cls := 7, slots := #[.int 93], vm := .none },
  { cls := 7, slots := #[.int 94], vm := .none },
  { cls := 7, slots := #[.int 95], vm := .none },
  { cls := 7, slots := #[.int 96], vm := .none },
  { cls := 7, slots := #[.int 97], vm := .none },
  { cls := 7, slots := #[.int 98], vm := .none },
  { cls := 7, slots := #[.int 99], vm := .none },
  { cls := 7, slots := #[.int 100], vm := .none },
  { cls := 7, slots := #[.int 101], vm := .none },
  { cls := 7, slots := #[.int 102], vm := .none },
  { cls := 7, slots := #[.int 103], vm := .none },
  { cls := 7, slots := #[.int 104], vm := .none },
  { cls := 7, slots := #[.int 105], vm := .none },
  { cls := 7, slots := #[.int 106], vm := .none },
  { cls := 7, slots := #[.int 107], vm := .none },
  { cls := 7, slots := #[.int 108], vm := .none },
  { cls := 7, slots := #[.int 109], vm := .none },
  { cls := 7, slots := #[.int 110], vm := .none },
  { cls := 7, slots := #[.int 111], vm := .none },
  { cls := 7, slots := #[.int 112], vm := .none },
  { cls := 7, slots := #[.int 113], vm := .none },
  { cls := 7, slots := #[.int 114], vm := .none },
  { cls := 7, slots := #[.int 115], vm := .none },
  { cls := 7, slots := #[.int 116], vm := .none },
  { cls := 7, slots := #[.int 117], vm := .none },
  { cls := 7, slots := #[.int 118], vm := .none },
  { cls := 7, slots := #[.int 119], vm := .none },
  { cls := 7, slots := #[.int 120], vm := .none },
  { cls := 7, slots := #[.int 121], vm := .none },
  { cls := 7, slots := #[.int 122], vm := .none },
  { cls := 7, slots := #[.int 123], vm := .none },
  { cls := 7, slots := #[.int 124], vm := .none },
  { cls := 7, slots := #[.int 125], vm := .none },
  { cls := 7, slots := #[.int 126], vm := .none },
  { cls := 7, slots := #[.int 127], vm := .none }]
def classes : Array Class := #[k0, k1, k2, k3, k4, k5, k6, k7, k8, k9, k10, k11, k12, k13, k14, k15, k16, k17, k18, k19]
def interned : List (Array UInt16 × Addr) := []
def slotsUsed : Nat := 530
def theMethod : MethodId := ⟨1, 2⟩
def args0 : Array Value := #[.int 250, .int 1, .int 1]
def aboutOver (below : List Frame) : State where
  vm := { classes := classes, interned := interned.toArray }
  heap := heap
  slotsUsed := slotsUsed
  threads := #[{ frames := .invoking theMethod args0 :: below }]
def below0 : List Frame := [.native { method := ⟨0, 0⟩, args := #[] }]
def about1 : State := aboutOver below0
def p0 : Program := .bare "" "" ""
def e0 : Env := launch0.env 0 0 0
theorem w_frames : about1.frames = Frame.invoking theMethod args0 :: below0 := rfl
set_option maxRecDepth 65536 in
theorem w_args : argsFit about1.vm theMethod args0 = true := by decide +kernel
set_option maxRecDepth 65536 in
theorem w_heap : heapFits about1 = true := by decide +kernel
set_option maxRecDepth 65536 in
theorem w_runnable : about1.curStatus? = some .runnable := by decide +kernel
set_option maxRecDepth 65536 in
theorem w_alone : about1.alone = true := by decide +kernel
set_option maxRecDepth 65536 in
theorem w_named : about1.methodNamed? x = some theMethod := by decide +kernel
set_option maxRecDepth 65536 in
theorem w_hears : about1.hears theMethod below0 = true := by decide +kernel
set_option maxRecDepth 65536 in
theorem w_ripe : about1.ripe theMethod args0 below0 = true := by decide +kernel
theorem w_running : about1.status = .running := rfl
set_option maxRecDepth 65536 in
theorem w_room : about1.hasRoom e0.platform room_1 = true :=
  launch0.hasRoom_least _ room_1 (by decide +kernel) (by decide +kernel) (by decide +kernel) (by decide +kernel) (by decide +kernel) (by decide +kernel)
theorem allAtoms_all (ts : List Jvm.Cond) (a : Array Jvm.Value) (st : Jvm.State) : (allAtoms ts).before a st = ts.all (fun c => c.before a st) := by
  induction ts with
  | nil => rfl
  | cons c t ih =>
    show (Jvm.Cond.and c (allAtoms t)).before a st = _
    rw [Jvm.Cond.before_and, ih, List.all_cons]
def words1 : List Jvm.Cond := Jvm.Cond.code x code maxLocals ret :: tables_1
/-- a 'code' word, met by the world's own term for the bytes: nothing is compared byte by byte -/
theorem code_word {y : MethodName} {bytes : ByteArray} {mx : Nat} {rt : Option FieldType} {a : Array Value} {s : State} {m : MethodId} {meth : Method} {c : Code} (h1 : s.methodNamed? y = some m) (h2 : s.vm.method? m = some meth) (h3 : meth.code = some c) (h4 : c.code = bytes)
    (h5 : (c.maxLocals == mx && c.exceptionTable.isEmpty && decide (c.maxStack ≤ mostOperands) && decide (meth.sig.returnType = rt) && !meth.locks && decide (parseMethodDescriptor y.desc = some meth.sig)) = true) : (Jvm.Cond.code y bytes mx rt).before a s = true := by
  simp only [Bool.and_eq_true, beq_iff_eq, Bool.not_eq_true', decide_eq_true_eq] at h5
  obtain ⟨⟨⟨⟨⟨g1, g2⟩, g3⟩, g4⟩, g5⟩, g6⟩ := h5
  simp [Cond.before, Cond.holds, Cond.value, h1, h2, h3, h4, g1, g2, g3, g4, g5, g6]
def isCode : Jvm.Cond → Bool
  | .code _ _ _ _ => true
  | _ => false
theorem all_split {L : List Jvm.Cond} {P : Jvm.Cond → Bool} (h1 : L.all (fun c => isCode c || P c) = true) (h2 : ∀ c ∈ L.filter isCode, P c = true) : L.all P = true := by
  refine List.all_eq_true.mpr fun c hc => ?_
  have h := List.all_eq_true.mp h1 c hc
  rcases Bool.eq_false_or_eq_true (isCode c) with hi | hi
  · exact h2 c (List.mem_filter.mpr ⟨hc, hi⟩)
  · simpa [hi] using h
set_option maxRecDepth 65536 in
theorem w_c0 : (Jvm.Cond.code x code maxLocals ret).before args0 about1 = true := code_word (m := ⟨1, 2⟩) (meth := k1m2) (c := k1c2) (by decide +kernel) rfl rfl rfl (by decide +kernel)
set_option maxRecDepth 65536 in
theorem w_c1 : (Jvm.Cond.code ({ cls := "java/lang/Integer", name := "valueOf", desc := "(I)Ljava/lang/Integer;" } : Jvm.MethodName) jdk_33_method_22_code (1 : Nat) (Option.some (Jvm.ClassFile.FieldType.object "java/lang/Integer"))).before args0 about1 = true := code_word (m := ⟨7, 0⟩) (meth := k7m0) (c := k7c0) (by decide +kernel) rfl rfl rfl (by decide +kernel)
set_option maxRecDepth 65536 in
theorem w_c2 : (Jvm.Cond.code ({ cls := "java/lang/Integer", name := "<init>", desc := "(I)V" } : Jvm.MethodName) jdk_33_method_23_code (2 : Nat) (Option.none : Option Jvm.ClassFile.FieldType)).before args0 about1 = true := code_word (m := ⟨7, 1⟩) (meth := k7m1) (c := k7c1) (by decide +kernel) rfl rfl rfl (by decide +kernel)
set_option maxRecDepth 65536 in
theorem w_c3 : (Jvm.Cond.code ({ cls := "java/lang/Number", name := "<init>", desc := "()V" } : Jvm.MethodName) jdk_18_method_1_code (1 : Nat) (Option.none : Option Jvm.ClassFile.FieldType)).before args0 about1 = true := code_word (m := ⟨3, 0⟩) (meth := k3m0) (c := k3c0) (by decide +kernel) rfl rfl rfl (by decide +kernel)
set_option maxRecDepth 65536 in
theorem w_c4 : (Jvm.Cond.code ({ cls := "java/lang/Object", name := "<init>", desc := "()V" } : Jvm.MethodName) object_method_1_code (1 : Nat) (Option.none : Option Jvm.ClassFile.FieldType)).before args0 about1 = true := code_word (m := ⟨0, 0⟩) (meth := k0m0) (c := k0c0) (by decide +kernel) rfl rfl rfl (by decide +kernel)
set_option maxRecDepth 65536 in
theorem w_c5 : (Jvm.Cond.code ({ cls := "com/example/loomlist/loomlist/store/WebhookAnswerGonePinLaw", name := "failure", desc := "(I)Lcom/example/loomlist/loomlist/store/WebhookAnswer$Failure;" } : Jvm.MethodName) method_2_code (1 : Nat) (Option.some (Jvm.ClassFile.FieldType.object "com/example/loomlist/loomlist/store/WebhookAnswer$Failure"))).before args0 about1 = true := code_word (m := ⟨1, 1⟩) (meth := k1m1) (c := k1c1) (by decide +kernel) rfl rfl rfl (by decide +kernel)
set_option maxRecDepth 65536 in
theorem w_c6 : (Jvm.Cond.code ({ cls := "com/example/loomlist/loomlist/store/WebhookAnswer", name := "<init>", desc := "(Ljava/lang/Integer;Lcom/example/loomlist/loomlist/store/WebhookAnswer$Failure;)V" } : Jvm.MethodName) prog_74_method_1_code (3 : Nat) (Option.none : Option Jvm.ClassFile.FieldType)).before args0 about1 = true := code_word (m := ⟨13, 0⟩) (meth := k13m0) (c := k13c0) (by decide +kernel) rfl rfl rfl (by decide +kernel)
set_option maxRecDepth 65536 in
theorem w_c7 : (Jvm.Cond.code ({ cls := "java/lang/Record", name := "<init>", desc := "()V" } : Jvm.MethodName) jdk_30_method_1_code (1 : Nat) (Option.none : Option Jvm.ClassFile.FieldType)).before args0 about1 = true := code_word (m := ⟨12, 0⟩) (meth := k12m0) (c := k12c0) (by decide +kernel) rfl rfl rfl (by decide +kernel)
set_option maxRecDepth 65536 in
theorem w_c8 : (Jvm.Cond.code ({ cls := "com/example/loomlist/loomlist/store/WebhookAnswer", name := "gone", desc := "()Z" } : Jvm.MethodName) prog_74_method_5_code (1 : Nat) (Option.some Jvm.ClassFile.FieldType.boolean)).before args0 about1 = true := code_word (m := ⟨13, 1⟩) (meth := k13m1) (c := k13c1) (by decide +kernel) rfl rfl rfl (by decide +kernel)
set_option maxRecDepth 65536 in
theorem w_c9 : (Jvm.Cond.code ({ cls := "java/lang/Integer", name := "intValue", desc := "()I" } : Jvm.MethodName) jdk_33_method_27_code (1 : Nat) (Option.some Jvm.ClassFile.FieldType.int)).before args0 about1 = true := code_word (m := ⟨7, 2⟩) (meth := k7m2) (c := k7c2) (by decide +kernel) rfl rfl rfl (by decide +kernel)
def codes1 : List Jvm.Cond := [Jvm.Cond.code x code maxLocals ret, Jvm.Cond.code ({ cls := "java/lang/Integer", name := "valueOf", desc := "(I)Ljava/lang/Integer;" } : Jvm.MethodName) jdk_33_method_22_code (1 : Nat) (Option.some (Jvm.ClassFile.FieldType.object "java/lang/Integer")), Jvm.Cond.code ({ cls := "java/lang/Integer", name := "<init>", desc := "(I)V" } : Jvm.MethodName) jdk_33_method_23_code (2 : Nat) (Option.none : Option Jvm.ClassFile.FieldType), Jvm.Cond.code ({ cls := "java/lang/Number", name := "<init>", desc := "()V" } : Jvm.MethodName) jdk_18_method_1_code (1 : Nat) (Option.none : Option Jvm.ClassFile.FieldType), Jvm.Cond.code ({ cls := "java/lang/Object", name := "<init>", desc := "()V" } : Jvm.MethodName) object_method_1_code (1 : Nat) (Option.none : Option Jvm.ClassFile.FieldType), Jvm.Cond.code ({ cls := "com/example/loomlist/loomlist/store/WebhookAnswerGonePinLaw", name := "failure", desc := "(I)Lcom/example/loomlist/loomlist/store/WebhookAnswer$Failure;" } : Jvm.MethodName) method_2_code (1 : Nat) (Option.some (Jvm.ClassFile.FieldType.object "com/example/loomlist/loomlist/store/WebhookAnswer$Failure")), Jvm.Cond.code ({ cls := "com/example/loomlist/loomlist/store/WebhookAnswer", name := "<init>", desc := "(Ljava/lang/Integer;Lcom/example/loomlist/loomlist/store/WebhookAnswer$Failure;)V" } : Jvm.MethodName) prog_74_method_1_code (3 : Nat) (Option.none : Option Jvm.ClassFile.FieldType), Jvm.Cond.code ({ cls := "java/lang/Record", name := "<init>", desc := "()V" } : Jvm.MethodName) jdk_30_method_1_code (1 : Nat) (Option.none : Option Jvm.ClassFile.FieldType), Jvm.Cond.code ({ cls := "com/example/loomlist/loomlist/store/WebhookAnswer", name := "gone", desc := "()Z" } : Jvm.MethodName) prog_74_method_5_code (1 : Nat) (Option.some Jvm.ClassFile.FieldType.boolean), Jvm.Cond.code ({ cls := "java/lang/Integer", name := "intValue", desc := "()I" } : Jvm.MethodName) jdk_33_method_27_code (1 : Nat) (Option.some Jvm.ClassFile.FieldType.int)]
set_option maxRecDepth 65536 in
theorem codes_eq : words1.filter isCode = codes1 := rfl
theorem w_codes : ∀ c ∈ words1.filter isCode, c.before args0 about1 = true := by
  rw [codes_eq]
  intro c hc
  simp only [codes1, List.mem_cons, List.not_mem_nil, or_false] at hc
  rcases hc with rfl | rfl | rfl | rfl | rfl | rfl | rfl | rfl | rfl | rfl
  · exact w_c0
  · exact w_c1
  · exact w_c2
  · exact w_c3
  · exact w_c4
  · exact w_c5
  · exact w_c6
  · exact w_c7
  · exact w_c8
  · exact w_c9
set_option maxRecDepth 65536 in
theorem w_t1 : (words1.take 24).all (fun c => isCode c || c.before args0 about1) = true := by decide +kernel
set_option maxRecDepth 65536 in
theorem w_t2 : ((words1.drop 24).take 24).all (fun c => isCode c || c.before args0 about1) = true := by decide +kernel
set_option maxRecDepth 65536 in
theorem w_t3 : ((words1.drop 24).drop 24).all (fun c => isCode c || c.before args0 about1) = true := by decide +kernel
theorem w_tables : (allAtoms (Jvm.Cond.code x code maxLocals ret :: tables_1)).before args0 about1 = true := by
  rw [allAtoms_all]
  show words1.all (fun c => c.before args0 about1) = true
  refine all_split ?_ w_codes
  rw [← List.take_append_drop 24 words1, List.all_append, w_t1, ← List.take_append_drop 24 (words1.drop 24), List.all_append, w_t2, w_t3]
  rfl
set_option maxRecDepth 65536 in
theorem w_rest : rest_1_c.before args0 about1 = true := by decide +kernel
set_option maxRecDepth 65536 in
theorem w_case : (Jvm.Cond.and given_1 narrow_1).before args0 about1 = true := by decide +kernel
theorem w_applies : (headSpec (Jvm.Cond.code x code maxLocals ret :: tables_1) room_1).applies x e0.platform about1 = true :=
  (Spec.applies_iff w_frames).mpr ⟨w_running, w_runnable, w_alone, w_named, w_hears, w_ripe, w_room, w_tables⟩
theorem atStart : AtStart classFile x code maxLocals ret World_1 tables_1 room_1 Calls_1 rest_1 Pre_1 launch0 p0 e0 about1 theMethod args0 below0 :=
  ⟨lists_1, trivial, launch0.admits_env _ _ _, launch0.least_env, fairChoices_fair.cas, fairChoices_fair.clock, w_frames, w_args, w_heap, w_applies, trivial, w_rest, w_case⟩
end start1
theorem witness_1 : WitnessClaimed_1 := ⟨start1.p0, start1.e0, start1.about1, start1.theMethod, start1.args0, start1.below0, start1.atStart⟩
end Jvm.Pilot.@@N@@
