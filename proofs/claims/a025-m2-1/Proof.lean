import JvmDerived
import JvmDerived.Pilot.@@N@@Statement
import JvmDerived.Pilot.@@N@@Code
set_option linter.unusedVariables false
set_option linter.unusedSimpArgs false
namespace Jvm.Pilot.@@N@@
open Jvm Jvm.ClassFile Sem Op Lib Jvm.Free Jvm.Stand Jvm.LawKit Jvm.RoadKit Bundle Jvm.Pilot.@@N@@.Jvm.D
/-- from the state S the body comes to its end, and there G holds -/
def Go (p : Program) (e : Env) (below : List Frame) (G : Outcome → State → Prop) (S : State) : Prop := ∃ s₂ o, Steps p.tables e below S s₂ ∧ s₂.status = .running ∧ Ended s₂ below o ∧ G o s₂
theorem Go.step {p : Program} {e : Env} {below : List Frame} {G : Outcome → State → Prop} {S S' : State} (k : ∀ t, Steps p.tables e below S' t → Steps p.tables e below S t) (g : Go p e below G S') : Go p e below G S := by
  obtain ⟨s₂, o, h, r⟩ := g
  exact ⟨s₂, o, k _ h, r⟩
theorem Go.fin {p : Program} {e : Env} {below : List Frame} {G : Outcome → State → Prop} {S S' : State} {o : Outcome} (h : Steps p.tables e below S S') (h1 : S'.status = .running) (h2 : Ended S' below o) (h3 : G o S') : Go p e below G S := ⟨_, _, h, h1, h2, h3⟩
abbrev lv (x : Int64) : Slot := .val (.long x)
abbrev u_ : Slot := .unset
theorem own_w {Z : State} {a0 : Array Value} (hw : ∀ d ∈ tables_1, d.before a0 Z = true) (k : Nat) {d : Jvm.Cond} (h : tables_1[k]? = some d) : d.before a0 Z = true := hw d (List.mem_of_getElem? h)
theorem old_le {Z : State} {n0 : Nat} {h : Heap} (O : Old Z n0 h) : n0 ≤ h.size := O.1 ▸ O.2.1
theorem own_getR {p : Program} {l : Launch} {e : Env} {R : Room} {s : State} {m : MethodId} {args : Array Value} {below : List Frame} {meth : Method} {c : Code} {T : State} {locs : List Loc} {cells slots : Nat} {Z : State} {a0 : Array Value} {h : Heap}
    (X : Stand p l e R s m args below meth c T locs cells slots) (hx : p.tables.exec = Jvm.exec) (hZ : Z.Warmed39 s.vm) {own R0 n d : String} {index : Nat} (hown : s.vm.findClass own = some m.cls) (w : (Jvm.Cond.fieldRef own index R0 n d).before a0 Z = true)
    (eT : T.heap = h) {a : Addr} {v : Value} (F : Fld Z h a R0 n d v) {g : JFrame} (hg : g.method = m) {rest : List Value} (hs : g.stack = .ref a :: rest) (hd : decode c.code g.pc = .ok (.getfield index, 3)) : ∀ target, Steps p.tables e below (T.setTop { g with pc := g.pc + 3, stack := v :: rest }) target → Steps p.tables e below (T.setTop g) target := by
  obtain ⟨cell, cf, k, i, f, h1, h2, h3, h4, -, -, h7⟩ := F
  have hT : Z.Warmed39 T.vm := wtrans hZ X.warmed
  have w' := Cond.fieldRef_warmed39 hT w
  have ho : (Z.setVm T.vm).vm.findClass own = some m.cls := by show T.vm.findClass own = _; rw [X.warmed.alike.findClass]; exact hown
  obtain ⟨c1, k1, i1, f1, e1, hr⟩ := Cond.fieldRef_spec ho w'
  obtain ⟨k', hi, -⟩ := State.fieldFound?_setVm (s := Z) hT.alike h2
  cases e1.symm.trans hi
  intro target kk
  exact (X.getfieldR hx hg hr h3 hs (by rw [eT]; exact h1) h4 h7 hd (Steps.refl _)).trans kk
theorem own_selP {Z s : State} {a0 args : Array Value} {y : MethodName} {n : Nat} (hZ : Z.Warmed39 s.vm) (wi : (Jvm.Cond.instantiable y.cls n).before a0 Z = true) (wn : (Jvm.Cond.instanceMethod y).before a0 Z = true) (wp : (Jvm.Cond.privateMethod y).before a0 Z = true)
    (hy : y.cls ≠ "java/lang/invoke/MethodHandle" ∧ y.cls ≠ "java/lang/invoke/VarHandle") : (Jvm.Cond.selects y.cls y y).before args s = true := by
  have wi' : (Jvm.Cond.instantiable y.cls n).before args s = true := mv hZ wi
  obtain ⟨c, k, h1, h2, -, h4, -⟩ := Cond.instantiable_spec wi'
  exact Stand.selects_self_of_private h1 h2 (by simp only [Bool.or_eq_false_iff] at h4; exact h4.1) (Cond.privateMethod_at (args := args) (mvP hZ wp)) (mvT hZ wn) hy
theorem own_eqI {t : Term} {n : Int32} {args : Array Value} {s : State} (h : (Jvm.Cond.eq t (.int n)).value args s none s [] = some true) : t.eval args s none [] s = some (.int n) := by
  have hn : (Term.int n).eval args s none [] s = some (.int n) := rfl
  cases ht : t.eval args s none [] s with
  | none => simp [Cond.value, ht] at h
  | some v => cases v <;> simp [Cond.value, ht, hn] at h ⊢; exact h
theorem own_eqJ {t : Term} {n : Int64} {args : Array Value} {s : State} (h : (Jvm.Cond.eq t (.long n)).value args s none s [] = some true) : t.eval args s none [] s = some (.long n) := by
  have hn : (Term.long n).eval args s none [] s = some (.long n) := rfl
  cases ht : t.eval args s none [] s with
  | none => simp [Cond.value, ht] at h
  | some v => cases v <;> simp [Cond.value, ht, hn] at h ⊢; exact h
def own_Cache (Z : State) (wc : Addr) (cl : Cell) : Prop := Arr Z Z.heap wc cl (.object "java/lang/Integer") ∧ ∀ w : Int32, ¬ (w < (-128 : Int32)) → ¬ ((127 : Int32) < w) →
    ¬ ((w + (128 : Int32)) < 0 ∨ cl.slots.size ≤ (w + (128 : Int32)).toNatClampNeg) ∧ ∃ box : Addr, cl.slots[(w + (128 : Int32)).toNatClampNeg]? = some (.ref box) ∧ Exa Z Z.heap box "java/lang/Integer" ∧ Fld Z Z.heap box "java/lang/Integer" "value" "I" (.int w)
theorem own_size256 {n : Nat} (h : n < 2 ^ 31) (e : n.toInt32 = 256) : n = 256 := by
  have h1 := len_toInt h
  rw [e] at h1
  have h2 : (256 : Int32).toInt = 256 := by decide
  omega
theorem own_lenb {t : Term} {n : Int32} {x : Addr} {cl : Cell} {args : Array Value} {s : State} (ht : t.eval args s none [] s = some (.ref x)) (ha : s.arrayAt? x = some cl) (h : (Jvm.Cond.eq (Term.length t) (.int n)).value args s none s [] = some true) : cl.slots.size < 2 ^ 31 ∧ cl.slots.size.toInt32 = n := by
  have e := own_eqI h
  by_cases hl : cl.slots.size < 2 ^ 31
  · rw [len_f ht ha hl] at e; exact ⟨hl, Value.int.inj (Option.some.inj e)⟩
  · simp [Term.eval, ht, ha, hl] at e
theorem own_cache {args : Array Value} {s : State} {wc : Addr} (ev : (Term.static "java/lang/Integer$IntegerCache" "cache" "[Ljava/lang/Integer;").eval args s none [] s = some (.ref wc))
    (hA : (Jvm.Cond.arrayOf (Term.static "java/lang/Integer$IntegerCache" "cache" "[Ljava/lang/Integer;") (.object "java/lang/Integer")).before args s = true)
    (hL : (Jvm.Cond.eq (Term.length (Term.static "java/lang/Integer$IntegerCache" "cache" "[Ljava/lang/Integer;")) (Term.int 256)).before args s = true)
    (hE : (Jvm.Cond.all (Term.static "java/lang/Integer$IntegerCache" "cache" "[Ljava/lang/Integer;") (Jvm.Cond.and (Jvm.Cond.exactly (Term.elem (Term.static "java/lang/Integer$IntegerCache" "cache" "[Ljava/lang/Integer;") (Term.index 0)) "java/lang/Integer") (Jvm.Cond.eq (Term.field (Term.elem (Term.static "java/lang/Integer$IntegerCache" "cache" "[Ljava/lang/Integer;") (Term.index 0)) "java/lang/Integer" "value" "I") (Term.sub (Term.index 0) (Term.int 128))))).before args s = true) :
    ∃ cl, own_Cache s wc cl := by
  obtain ⟨cl, AR⟩ := Arr.start ev (Cond.before_iff.mp hA)
  have hat : s.arrayAt? wc = some cl := AR.fin (Vm.Alike.refl _)
  have hlen := own_lenb ev hat (Cond.before_iff.mp hL)
  have hsz : cl.slots.size = 256 := own_size256 hlen.1 hlen.2
  have hall := Cond.all_elim ev hat (Cond.before_iff.mp hE)
  refine ⟨cl, AR, fun w h1 h2 => ?_⟩
  obtain ⟨hb, hlt⟩ := Jvm.Free.IntBox.place_ok w h1 h2
  obtain ⟨hnn, hback⟩ := Jvm.Free.IntBox.place_nonneg _ hlt
  have evi : (Term.static "java/lang/Integer$IntegerCache" "cache" "[Ljava/lang/Integer;").eval args s none [(w + 128).toNatClampNeg] s = some (.ref wc) := ev
  have hix : (Term.index 0).eval args s none [(w + 128).toNatClampNeg] s = some (.int ((w + 128).toNatClampNeg.toInt32)) := rfl
  obtain ⟨g1, g2⟩ := and_e (hall _ (by rw [hsz]; exact hlt))
  have hel := elem_f evi hix hat hnn
  rw [hback] at hel
  obtain ⟨box, ebox⟩ := exa_v g1
  have hslot : cl.slots[(w + 128).toNatClampNeg]? = some (.ref box) := hel.symm.trans ebox
  obtain ⟨a', c', cell, k, f1, f2, f3, f4, f5, rfl, f7⟩ := Cond.exactly_spec (beq_iff_eq.mpr g1 : Jvm.Cond.holds args s none s [(w + 128).toNatClampNeg] _ = true)
  cases ebox.symm.trans f1
  refine ⟨by rw [hsz]; exact hb, box, hslot, ⟨cell, k, f3, f2, f4, f5, f7⟩, Fld.start ?_⟩
  have hv := Jvm.Free.IntBox.place_val w h1 h2
  have hsub : (Term.sub (Term.index 0) (Term.int 128)).eval args s none [(w + 128).toNatClampNeg] s = some (.int w) := by
    conv => rhs; rw [← hv]
    rfl
  rw [← fld_at ebox]
  cases hF : (Term.field (Term.elem (Term.static "java/lang/Integer$IntegerCache" "cache" "[Ljava/lang/Integer;") (Term.index 0)) "java/lang/Integer" "value" "I").eval args s none [(w + 128).toNatClampNeg] s with
  | none => simp [Cond.value, hF] at g2
  | some v => cases v <;> simp [Cond.value, hF, hsub] at g2 ⊢; exact g2
theorem pn_java_lang_Number : plainName "java/lang/Number" = true := by first | (simp [plainName, overriddenIn]; done) | decide +kernel
theorem d5_0 : decode jdk_18_method_1_code 0 = .ok (.aload_n 0, 1) := by decide +kernel
theorem d5_1 : decode jdk_18_method_1_code 1 = .ok (.invokespecial 1, 3) := by decide +kernel
theorem d5_4 : decode jdk_18_method_1_code 4 = .ok (.return_, 1) := by decide +kernel
theorem ef_rmNum (m : MethodId) (a : Addr) : entryFrame m #[(.ref a)] 1 = mkF m 0 #[.val (.ref a)] [] := by first | (simp [entryFrame, mkF, argsToLocals, Value.category]; done) | rfl
abbrev rm_rmNum : Room := ({ frames := 1, cells := 0, slots := 0, locals := 12 } : Room)
def Q_rmNum (Z : State) (a : Addr) (h0 : Heap) (n0 : Nat) (v : Option Value) (h : Heap) (L : List Loc) : Prop := (v = none) ∧ (Fr n0 L) ∧ (h = h0)
set_option maxRecDepth 65536 in
set_option maxHeartbeats 40000000 in
theorem rmNum (l : Launch) (Z : State) (a0 : Array Value) (hw : ∀ d ∈ tables_1, d.before a0 Z = true) (ws : List Jvm.Cond) (a : Addr) (h0 : Heap) (n0 : Nat) (O : Old Z n0 h0) :
    MetFree l (⟨"java/lang/Number", "<init>", "()V"⟩ : MethodName) (head1 (Jvm.Cond.code (⟨"java/lang/Number", "<init>", "()V"⟩ : MethodName) jdk_18_method_1_code 1 none :: ws) rm_rmNum) (fun A_ U => A_ = #[(.ref a)] ∧ Z.Warmed39 U.vm ∧ U.heap = h0) (fun _ _ _ _ _ => True) (fun _ U o U' => ∃ v L, o = .returned v ∧ Q_rmNum Z a h0 n0 v U'.heap L ∧ FrameEnd U o U' L rm_rmNum.cells rm_rmNum.slots) := by
  refine MetFree.of_bodySF (plainFor_of_name pn_java_lang_Number) hisR ?_
  intro p e s m args below meth c s₁ Bd hml0 hP hK
  obtain ⟨rfl, hZ, hh⟩ := hP
  have hx := Bd.exec
  have hby := Bd.bytes
  have hml : c.maxLocals = 1 := hml0
  have hown : s.vm.findClass "java/lang/Number" = some m.cls := findClass_of_methodNamed Bd.named
  have hnm := (name_of_methodNamed Bd.named Bd.method).1
  have X0 : Stand p l e rm_rmNum s m #[(.ref a)] below meth c s₁ [] 0 0 := Stand.of_body Bd
  have e0 : s₁.heap = h0 := by rw [← hh, Bd.state]; rfl
  have N0 := Fr.nil n0
  refine Go.step (p := p) (e := e) (below := below) (G := fun o U' => ∃ v L, o = .returned v ∧ Q_rmNum Z a h0 n0 v U'.heap L ∧ FrameEnd s o U' L rm_rmNum.cells rm_rmNum.slots) (S' := s₁.setTop (mkF m 0 #[rv a] [])) (fun t k => castTop (ef_rmNum m a) k) ?_
  refine Go.step (S' := s₁.setTop (mkF m 1 #[rv a] [(.ref a)])) (fun t k => ?_) ?_
  · show Steps p.tables e below (s₁.setTop (mkF m 0 #[rv a] [])) _
    refine XS.aloadN X0.here hx rfl (hb hby d5_0) rfl rfl ?_
    exact k
  obtain ⟨T1, X1, e1, st1⟩ := initO X0 hx hZ hown (own_w hw 33 rfl) (own_w hw 34 rfl) (own_w hw 35 rfl) e0 (g := (mkF m 1 #[rv a] [(.ref a)])) rfl (by rw [hml]; rfl) rfl (hb hby d5_1) (by decide) (W := 0) (by show 2 * 0 + _ ≤ _; exact Nat.le_of_eq rfl) (by decide)
  refine Go.step st1 ?_
  show Go p e below _ (T1.setTop (mkF m 4 #[rv a] []))
  obtain ⟨fs, hr, hrun, hended, hW, hsame⟩ := X1.leave (v := none) (fun _ => rfl)
  refine Go.fin (S' := T1.setFrames fs) ?_ hrun hended ⟨_, _, rfl, ?_, ⟨_, rfl⟩, hW, hsame.mono (by decide) (by decide)⟩
  · exact X1.returnOut hx Bd.returns (hb hby d5_4) hr
  · show Q_rmNum Z a h0 n0 (none) T1.heap _
    rw [e1]
    exact ⟨rfl, N0, rfl⟩
theorem pn_java_lang_Integer : plainName "java/lang/Integer" = true := by first | (simp [plainName, overriddenIn]; done) | decide +kernel
theorem d4_0 : decode jdk_33_method_23_code 0 = .ok (.aload_n 0, 1) := by decide +kernel
theorem d4_1 : decode jdk_33_method_23_code 1 = .ok (.invokespecial 202, 3) := by decide +kernel
theorem pd__28_29V : parseMethodDescriptor "()V" = some ⟨[], none⟩ := by decide +kernel
theorem d4_4 : decode jdk_33_method_23_code 4 = .ok (.aload_n 0, 1) := by decide +kernel
theorem d4_5 : decode jdk_33_method_23_code 5 = .ok (.iload_n 1, 1) := by decide +kernel
theorem d4_6 : decode jdk_33_method_23_code 6 = .ok (.putfield 205, 3) := by decide +kernel
theorem d4_9 : decode jdk_33_method_23_code 9 = .ok (.return_, 1) := by decide +kernel
theorem ef_rmIIn (m : MethodId) (a : Addr) (pv : Int32) : entryFrame m #[(.ref a), (.int pv)] 2 = mkF m 0 #[.val (.ref a), .val (.int pv)] [] := by first | (simp [entryFrame, mkF, argsToLocals, Value.category]; done) | rfl
abbrev rm_rmIIn : Room := ({ frames := 2, cells := 0, slots := 0, locals := 24 } : Room)
def Q_rmIIn (Z : State) (a : Addr) (pv : Int32) (h0 : Heap) (n0 : Nat) (v : Option Value) (h : Heap) (L : List Loc) : Prop := (v = none) ∧ (Fr n0 L) ∧ (Keep h0 h [a]) ∧ (Exa Z h a "java/lang/Integer") ∧ (Fld Z h a "java/lang/Integer" "value" "I" (.int pv))
set_option maxRecDepth 65536 in
set_option maxHeartbeats 40000000 in
theorem rmIIn (l : Launch) (Z : State) (a0 : Array Value) (hw : ∀ d ∈ tables_1, d.before a0 Z = true) (ws : List Jvm.Cond) (a : Addr) (pv : Int32) (h0 : Heap) (n0 : Nat) (O : Old Z n0 h0) (E_a : Exa Z h0 a "java/lang/Integer") (F_value_a : Fld Z h0 a "java/lang/Integer" "value" "I" (.int (0 : Int32))) (g_a : n0 ≤ a) :
    MetFree l (⟨"java/lang/Integer", "<init>", "(I)V"⟩ : MethodName) (head1 (Jvm.Cond.code (⟨"java/lang/Integer", "<init>", "(I)V"⟩ : MethodName) jdk_33_method_23_code 2 none :: ws) rm_rmIIn) (fun A_ U => A_ = #[(.ref a), (.int pv)] ∧ Z.Warmed39 U.vm ∧ U.heap = h0) (fun _ _ _ _ _ => True) (fun _ U o U' => ∃ v L, o = .returned v ∧ Q_rmIIn Z a pv h0 n0 v U'.heap L ∧ FrameEnd U o U' L rm_rmIIn.cells rm_rmIIn.slots) := by
  refine MetFree.of_bodySF (plainFor_of_name pn_java_lang_Integer) hisR ?_
  intro p e s m args below meth c s₁ Bd hml0 hP hK
  obtain ⟨rfl, hZ, hh⟩ := hP
  have hx := Bd.exec
  have hby := Bd.bytes
  have hml : c.maxLocals = 2 := hml0
  have hown : s.vm.findClass "java/lang/Integer" = some m.cls := findClass_of_methodNamed Bd.named
  have hnm := (name_of_methodNamed Bd.named Bd.method).1
  have X0 : Stand p l e rm_rmIIn s m #[(.ref a), (.int pv)] below meth c s₁ [] 0 0 := Stand.of_body Bd
  have e0 : s₁.heap = h0 := by rw [← hh, Bd.state]; rfl
  have N0 := Fr.nil n0
  have K := Keep.refl h0 [a]
  refine Go.step (p := p) (e := e) (below := below) (G := fun o U' => ∃ v L, o = .returned v ∧ Q_rmIIn Z a pv h0 n0 v U'.heap L ∧ FrameEnd s o U' L rm_rmIIn.cells rm_rmIIn.slots) (S' := s₁.setTop (mkF m 0 #[rv a, iv pv] [])) (fun t k => castTop (ef_rmIIn m a pv) k) ?_
  refine Go.step (S' := s₁.setTop (mkF m 1 #[rv a, iv pv] [(.ref a)])) (fun t k => ?_) ?_
  · show Steps p.tables e below (s₁.setTop (mkF m 0 #[rv a, iv pv] [])) _
    refine XS.aloadN X0.here hx rfl (hb hby d4_0) rfl rfl ?_
    exact k
  obtain ⟨_, _, ⟨T1, L1, k1, n1⟩, -, X1, ⟨Lc1, hQ1, l1, y1, z1⟩, st1⟩ := X0.specialBack hx (y := (⟨"java/lang/Number", "<init>", "()V"⟩ : MethodName)) rfl hown (mvT hZ (own_w hw 27 rfl)) (mvT hZ (own_w hw 28 rfl)) (mvT hZ (own_w hw 32 rfl)) (by decide) (backOf (W := 0) (rmNum l Z a0 hw [] a h0 n0 O ) hZ (own_w hw 32 rfl) (own_w hw 31 rfl) (by decide) (by decide)) (g := (mkF m 1 #[rv a, iv pv] [(.ref a)])) rfl (by rw [hml]; rfl) (Steps.refl _) (a := a) (argsL := []) (rest := []) (lenOf pd__28_29V rfl) rfl (by show 2 * 0 + _ ≤ _; exact Nat.le_of_eq rfl) (hb hby d4_1) (fun _ _ => ⟨rfl, e0, (by decide : 0 + 0 ≤ _), (by decide : 0 + 0 ≤ _)⟩)
  dsimp only [Pt.U, Pt.locs, Pt.cells, Pt.slots] at X1 l1 y1 z1 st1 hQ1
  subst l1 y1 z1
  obtain ⟨rfl, Nq1, e1⟩ := hQ1
  have N1 := Fr.app N0 Nq1
  refine Go.step (fun t k => st1.trans k) ?_
  show Go p e below _ (T1.setTop (mkF m 4 #[rv a, iv pv] []))
  refine Go.step (S' := T1.setTop (mkF m 6 #[rv a, iv pv] [(.int pv), (.ref a)])) (fun t k => ?_) ?_
  · show Steps p.tables e below (T1.setTop (mkF m 4 #[rv a, iv pv] [])) _
    refine XS.aloadN X1.here hx rfl (hb hby d4_4) rfl rfl ?_
    show Steps p.tables e below (T1.setTop (mkF m 5 #[rv a, iv pv] [(.ref a)])) _
    refine XS.iloadN X1.here hx rfl (hb hby d4_5) rfl ?_
    exact k
  obtain ⟨T2, h2, X2, e2, W2, st2⟩ := putF X1 hx hZ hown (host := "") (Or.inl (own_w hw 16 rfl)) Via.refl e1 F_value_a E_a (Or.inr ⟨(own_w hw 17 rfl), rfl, hnm⟩) (own_w hw 22 rfl) (ty := .int) (by decide) rfl rfl (g := (mkF m 6 #[rv a, iv pv] [(.int pv), (.ref a)])) rfl rfl (hb hby d4_6)
  have O := O.wr W2 g_a
  have E_a := E_a.wr W2
  have F_value_a := F_value_a.same W2
  have K := K.wr W2 (Or.inl (List.mem_of_getElem? (i := 0) rfl))
  have N2 := Fr.snoc X2 N1 g_a
  refine Go.step st2 ?_
  show Go p e below _ (T2.setTop (mkF m 9 #[rv a, iv pv] []))
  obtain ⟨fs, hr, hrun, hended, hW, hsame⟩ := X2.leave (v := none) (fun _ => rfl)
  refine Go.fin (S' := T2.setFrames fs) ?_ hrun hended ⟨_, _, rfl, ?_, ⟨_, rfl⟩, hW, hsame.mono (by decide) (by decide)⟩
  · exact X2.returnOut hx Bd.returns (hb hby d4_9) hr
  · show Q_rmIIn Z a pv h0 n0 (none) T2.heap _
    rw [e2]
    exact ⟨rfl, N2, K, E_a, F_value_a⟩
theorem d1_0 : decode jdk_33_method_22_code 0 = .ok (.iload_n 0, 1) := by decide +kernel
theorem d1_1 : decode jdk_33_method_22_code 1 = .ok (.bipush (-128), 2) := by decide +kernel
theorem d1_3 : decode jdk_33_method_22_code 3 = .ok (.if_icmp .lt 20, 3) := by decide +kernel
theorem d1_23 : decode jdk_33_method_22_code 23 = .ok (.new 1, 3) := by decide +kernel
theorem d1_26 : decode jdk_33_method_22_code 26 = .ok (.dup, 1) := by decide +kernel
theorem d1_27 : decode jdk_33_method_22_code 27 = .ok (.iload_n 0, 1) := by decide +kernel
theorem d1_28 : decode jdk_33_method_22_code 28 = .ok (.invokespecial 199, 3) := by decide +kernel
theorem pd__28I_29V : parseMethodDescriptor "(I)V" = some ⟨[.int], none⟩ := by decide +kernel
theorem d1_31 : decode jdk_33_method_22_code 31 = .ok (.areturn, 1) := by decide +kernel
theorem d1_6 : decode jdk_33_method_22_code 6 = .ok (.iload_n 0, 1) := by decide +kernel
theorem d1_7 : decode jdk_33_method_22_code 7 = .ok (.getstatic 191, 3) := by decide +kernel
theorem d1_10 : decode jdk_33_method_22_code 10 = .ok (.if_icmp .gt 13, 3) := by decide +kernel
theorem d1_13 : decode jdk_33_method_22_code 13 = .ok (.getstatic 195, 3) := by decide +kernel
theorem d1_16 : decode jdk_33_method_22_code 16 = .ok (.iload_n 0, 1) := by decide +kernel
theorem d1_17 : decode jdk_33_method_22_code 17 = .ok (.sipush 128, 3) := by decide +kernel
theorem d1_20 : decode jdk_33_method_22_code 20 = .ok (.iadd, 1) := by decide +kernel
theorem d1_21 : decode jdk_33_method_22_code 21 = .ok (.aaload, 1) := by decide +kernel
theorem d1_22 : decode jdk_33_method_22_code 22 = .ok (.areturn, 1) := by decide +kernel
theorem ef_rmVO (m : MethodId) (pv : Int32) : entryFrame m #[(.int pv)] 1 = mkF m 0 #[.val (.int pv)] [] := by first | (simp [entryFrame, mkF, argsToLocals, Value.category]; done) | rfl
abbrev rm_rmVO : Room := ({ frames := 3, cells := 1, slots := 1, locals := 38 } : Room)
def Q_rmVO (Z : State) (pv : Int32) (w_cache : Addr) (cl : Cell) (h0 : Heap) (n0 : Nat) (v : Option Value) (h : Heap) (L : List Loc) : Prop := ∃ b : Addr, (v = some (.ref b)) ∧ (Fr n0 L) ∧ (Keep h0 h []) ∧ (Exa Z h b "java/lang/Integer") ∧ (Fld Z h b "java/lang/Integer" "value" "I" (.int pv))
set_option maxRecDepth 65536 in
set_option maxHeartbeats 40000000 in
theorem rmVO (l : Launch) (Z : State) (a0 : Array Value) (hw : ∀ d ∈ tables_1, d.before a0 Z = true) (ws : List Jvm.Cond) (pv : Int32) (w_cache : Addr) (cl : Cell) (h0 : Heap) (n0 : Nat) (O : Old Z n0 h0) (S_high : Sta Z Z.heap "java/lang/Integer$IntegerCache" "high" "I" (.int (127 : Int32))) (S_cache : Sta Z Z.heap "java/lang/Integer$IntegerCache" "cache" "[Ljava/lang/Integer;" (.ref w_cache)) (CA : own_Cache Z w_cache cl) :
    MetFree l (⟨"java/lang/Integer", "valueOf", "(I)Ljava/lang/Integer;"⟩ : MethodName) (head1 (Jvm.Cond.code (⟨"java/lang/Integer", "valueOf", "(I)Ljava/lang/Integer;"⟩ : MethodName) jdk_33_method_22_code 1 (some (.object "java/lang/Integer")) :: ws) rm_rmVO) (fun A_ U => A_ = #[(.int pv)] ∧ Z.Warmed39 U.vm ∧ U.heap = h0) (fun _ _ _ _ _ => True) (fun _ U o U' => ∃ v L, o = .returned v ∧ Q_rmVO Z pv w_cache cl h0 n0 v U'.heap L ∧ FrameEnd U o U' L rm_rmVO.cells rm_rmVO.slots) := by
  refine MetFree.of_bodySF (plainFor_of_name pn_java_lang_Integer) hisR ?_
  intro p e s m args below meth c s₁ Bd hml0 hP hK
  obtain ⟨rfl, hZ, hh⟩ := hP
  have hx := Bd.exec
  have hby := Bd.bytes
  have hml : c.maxLocals = 1 := hml0
  have hown : s.vm.findClass "java/lang/Integer" = some m.cls := findClass_of_methodNamed Bd.named
  have hnm := (name_of_methodNamed Bd.named Bd.method).1
  have X0 : Stand p l e rm_rmVO s m #[(.int pv)] below meth c s₁ [] 0 0 := Stand.of_body Bd
  have e0 : s₁.heap = h0 := by rw [← hh, Bd.state]; rfl
  have N0 := Fr.nil n0
  have K := Keep.refl h0 []
  refine Go.step (p := p) (e := e) (below := below) (G := fun o U' => ∃ v L, o = .returned v ∧ Q_rmVO Z pv w_cache cl h0 n0 v U'.heap L ∧ FrameEnd s o U' L rm_rmVO.cells rm_rmVO.slots) (S' := s₁.setTop (mkF m 0 #[iv pv] [])) (fun t k => castTop (ef_rmVO m pv) k) ?_
  refine Go.step (S' := s₁.setTop (mkF m 3 #[iv pv] [(.int (-128 : Int32)), (.int pv)])) (fun t k => ?_) ?_
  · show Steps p.tables e below (s₁.setTop (mkF m 0 #[iv pv] [])) _
    refine XS.iloadN X0.here hx rfl (hb hby d1_0) rfl ?_
    show Steps p.tables e below (s₁.setTop (mkF m 1 #[iv pv] [(.int pv)])) _
    refine XS.bipush X0.here hx rfl (hb hby d1_1) ?_
    exact k
  by_cases hc3 : pv < (-128 : Int32)
  · skip
    refine Go.step (S' := s₁.setTop (mkF m 23 #[iv pv] [])) (fun t k => ?_) ?_
    · show Steps p.tables e below (s₁.setTop (mkF m 3 #[iv pv] [(.int (-128 : Int32)), (.int pv)])) _
      refine XS.icmpYes X0.here hx rfl (pc0 := 3) (pc' := 23) rfl (hb hby d1_3) rfl (tlt (hc3 : pv < (-128 : Int32))).1 (by decide) (by decide) ?_
      exact k
    obtain ⟨T1, h1, X1, e1, E1, A1, D1, -, st1⟩ := newO X0 hx hZ hown (own_w hw 21 rfl) (own_w hw 22 rfl) (own_w hw 2 rfl) e0 (g := (mkF m 23 #[iv pv] [])) rfl (hb hby d1_23) (by decide) (by decide)
    obtain ⟨b1, g1⟩ : ∃ z, z = Array.size h0 := ⟨_, rfl⟩
    have g_b1 : n0 ≤ b1 := Nat.le_trans (old_le O) (Nat.le_of_eq g1.symm)
    have sz_b1 : h0.size ≤ b1 := Nat.le_trans K.1 (Nat.le_of_eq g1.symm)
    rw [← g1] at A1 D1 st1
    have O := O.ext E1
    have K := K.ext E1
    have E_b1 := A1
    have F_value_b1 : Fld Z h1 b1 "java/lang/Integer" "value" "I" (.int (0 : Int32)) := D1 (Or.inr (own_w hw 17 rfl)) (ty := .int) (by decide)
    refine Go.step st1 ?_
    show Go p e below _ (T1.setTop (mkF m 26 #[iv pv] [(.ref b1)]))
    refine Go.step (S' := T1.setTop (mkF m 28 #[iv pv] [(.int pv), (.ref b1), (.ref b1)])) (fun t k => ?_) ?_
    · show Steps p.tables e below (T1.setTop (mkF m 26 #[iv pv] [(.ref b1)])) _
      refine XS.dup X1.here hx rfl (hb hby d1_26) rfl rfl ?_
      show Steps p.tables e below (T1.setTop (mkF m 27 #[iv pv] [(.ref b1), (.ref b1)])) _
      refine XS.iloadN X1.here hx rfl (hb hby d1_27) rfl ?_
      exact k
    obtain ⟨_, _, ⟨T2, L2, k2, n2⟩, -, X2, ⟨Lc2, hQ2, l2, y2, z2⟩, st2⟩ := X1.specialBack hx (y := (⟨"java/lang/Integer", "<init>", "(I)V"⟩ : MethodName)) rfl hown (mvT hZ (own_w hw 23 rfl)) (mvT hZ (own_w hw 24 rfl)) (mvT hZ (own_w hw 26 rfl)) (by decide) (backOf (W := 1) (rmIIn l Z a0 hw [] b1 pv h1 n0 O E_b1 F_value_b1 (by assumption)) hZ (own_w hw 26 rfl) (own_w hw 2 rfl) (by decide) (by decide)) (g := (mkF m 28 #[iv pv] [(.int pv), (.ref b1), (.ref b1)])) rfl (by rw [hml]; rfl) (Steps.refl _) (a := b1) (argsL := [(.int pv)]) (rest := [(.ref b1)]) (lenOf pd__28I_29V rfl) rfl (by show 2 * 0 + _ ≤ _; exact Nat.le_of_eq rfl) (hb hby d1_28) (fun _ _ => ⟨rfl, e1, (by decide : 1 + 0 ≤ _), (by decide : 1 + 0 ≤ _)⟩)
    dsimp only [Pt.U, Pt.locs, Pt.cells, Pt.slots] at X2 l2 y2 z2 st2 hQ2
    subst l2 y2 z2
    obtain ⟨rfl, Nq2, K2, P2_E, P2_F⟩ := hQ2
    have N2 := Fr.app N0 Nq2
    have O := O.keep K2 (allS g_b1 all0)
    have K := K.trans K2 (allS (Or.inr sz_b1) all0)
    have E_b1 := E_b1.keep K2
    have E_2 := P2_E
    have F_2 := P2_F
    refine Go.step (fun t k => st2.trans k) ?_
    show Go p e below _ (T2.setTop (mkF m 31 #[iv pv] [(.ref b1)]))
    obtain ⟨fs, hr, hrun, hended, hW, hsame⟩ := X2.leave (v := some (.ref b1)) (fun h => by rw [Bd.returns] at h; cases h)
    refine Go.fin (S' := T2.setFrames fs) ?_ hrun hended ⟨_, _, rfl, ?_, ⟨_, rfl⟩, hW, hsame.mono (by decide) (by decide)⟩
    · exact retOut X2 hx Bd.returns rfl (Or.inr (Or.inr (Or.inr (Or.inr ⟨rfl, rfl, rfl⟩)))) (hb hby d1_31) hr
    · show Q_rmVO Z pv w_cache cl h0 n0 (some (.ref b1)) T2.heap _
      exact ⟨b1, rfl, N2, K, E_b1, F_2⟩
  · skip
    refine Go.step (S' := s₁.setTop (mkF m 7 #[iv pv] [(.int pv)])) (fun t k => ?_) ?_
    · show Steps p.tables e below (s₁.setTop (mkF m 3 #[iv pv] [(.int (-128 : Int32)), (.int pv)])) _
      refine XS.icmpNo X0.here hx rfl (hb hby d1_3) rfl (flt (hc3 : ¬ (pv < (-128 : Int32)))).1 ?_
      show Steps p.tables e below (s₁.setTop (mkF m 6 #[iv pv] [])) _
      refine XS.iloadN X0.here hx rfl (hb hby d1_6) rfl ?_
      exact k
    obtain ⟨T3, X3, e3, st3⟩ := getS2 X0 hx hZ hown (host := "") (Or.inl (own_w hw 4 rfl)) Via.refl e0 (S_high.ext O.2) (g := (mkF m 7 #[iv pv] [(.int pv)])) rfl (hb hby d1_7)
    refine Go.step st3 ?_
    show Go p e below _ (T3.setTop (mkF m 10 #[iv pv] [(.int (127 : Int32)), (.int pv)]))
    by_cases hc10 : (127 : Int32) < pv
    · skip
      refine Go.step (S' := T3.setTop (mkF m 23 #[iv pv] [])) (fun t k => ?_) ?_
      · show Steps p.tables e below (T3.setTop (mkF m 10 #[iv pv] [(.int (127 : Int32)), (.int pv)])) _
        refine XS.icmpYes X3.here hx rfl (pc0 := 10) (pc' := 23) rfl (hb hby d1_10) rfl (tlt (hc10 : (127 : Int32) < pv)).2.2.1 (by decide) (by decide) ?_
        exact k
      obtain ⟨T4, h4, X4, e4, E4, A4, D4, -, st4⟩ := newO X3 hx hZ hown (own_w hw 21 rfl) (own_w hw 22 rfl) (own_w hw 2 rfl) e3 (g := (mkF m 23 #[iv pv] [])) rfl (hb hby d1_23) (by decide) (by decide)
      obtain ⟨b4, g4⟩ : ∃ z, z = Array.size h0 := ⟨_, rfl⟩
      have g_b4 : n0 ≤ b4 := Nat.le_trans (old_le O) (Nat.le_of_eq g4.symm)
      have sz_b4 : h0.size ≤ b4 := Nat.le_trans K.1 (Nat.le_of_eq g4.symm)
      rw [← g4] at A4 D4 st4
      have O := O.ext E4
      have K := K.ext E4
      have E_b4 := A4
      have F_value_b4 : Fld Z h4 b4 "java/lang/Integer" "value" "I" (.int (0 : Int32)) := D4 (Or.inr (own_w hw 17 rfl)) (ty := .int) (by decide)
      refine Go.step st4 ?_
      show Go p e below _ (T4.setTop (mkF m 26 #[iv pv] [(.ref b4)]))
      refine Go.step (S' := T4.setTop (mkF m 28 #[iv pv] [(.int pv), (.ref b4), (.ref b4)])) (fun t k => ?_) ?_
      · show Steps p.tables e below (T4.setTop (mkF m 26 #[iv pv] [(.ref b4)])) _
        refine XS.dup X4.here hx rfl (hb hby d1_26) rfl rfl ?_
        show Steps p.tables e below (T4.setTop (mkF m 27 #[iv pv] [(.ref b4), (.ref b4)])) _
        refine XS.iloadN X4.here hx rfl (hb hby d1_27) rfl ?_
        exact k
      obtain ⟨_, _, ⟨T5, L5, k5, n5⟩, -, X5, ⟨Lc5, hQ5, l5, y5, z5⟩, st5⟩ := X4.specialBack hx (y := (⟨"java/lang/Integer", "<init>", "(I)V"⟩ : MethodName)) rfl hown (mvT hZ (own_w hw 23 rfl)) (mvT hZ (own_w hw 24 rfl)) (mvT hZ (own_w hw 26 rfl)) (by decide) (backOf (W := 1) (rmIIn l Z a0 hw [] b4 pv h4 n0 O E_b4 F_value_b4 (by assumption)) hZ (own_w hw 26 rfl) (own_w hw 2 rfl) (by decide) (by decide)) (g := (mkF m 28 #[iv pv] [(.int pv), (.ref b4), (.ref b4)])) rfl (by rw [hml]; rfl) (Steps.refl _) (a := b4) (argsL := [(.int pv)]) (rest := [(.ref b4)]) (lenOf pd__28I_29V rfl) rfl (by show 2 * 0 + _ ≤ _; exact Nat.le_of_eq rfl) (hb hby d1_28) (fun _ _ => ⟨rfl, e4, (by decide : 1 + 0 ≤ _), (by decide : 1 + 0 ≤ _)⟩)
      dsimp only [Pt.U, Pt.locs, Pt.cells, Pt.slots] at X5 l5 y5 z5 st5 hQ5
      subst l5 y5 z5
      obtain ⟨rfl, Nq5, K5, P5_E, P5_F⟩ := hQ5
      have N5 := Fr.app N0 Nq5
      have O := O.keep K5 (allS g_b4 all0)
      have K := K.trans K5 (allS (Or.inr sz_b4) all0)
      have E_b4 := E_b4.keep K5
      have E_5 := P5_E
      have F_5 := P5_F
      refine Go.step (fun t k => st5.trans k) ?_
      show Go p e below _ (T5.setTop (mkF m 31 #[iv pv] [(.ref b4)]))
      obtain ⟨fs, hr, hrun, hended, hW, hsame⟩ := X5.leave (v := some (.ref b4)) (fun h => by rw [Bd.returns] at h; cases h)
      refine Go.fin (S' := T5.setFrames fs) ?_ hrun hended ⟨_, _, rfl, ?_, ⟨_, rfl⟩, hW, hsame.mono (by decide) (by decide)⟩
      · exact retOut X5 hx Bd.returns rfl (Or.inr (Or.inr (Or.inr (Or.inr ⟨rfl, rfl, rfl⟩)))) (hb hby d1_31) hr
      · show Q_rmVO Z pv w_cache cl h0 n0 (some (.ref b4)) T5.heap _
        exact ⟨b4, rfl, N5, K, E_b4, F_5⟩
    · skip
      refine Go.step (S' := T3.setTop (mkF m 13 #[iv pv] [])) (fun t k => ?_) ?_
      · show Steps p.tables e below (T3.setTop (mkF m 10 #[iv pv] [(.int (127 : Int32)), (.int pv)])) _
        refine XS.icmpNo X3.here hx rfl (hb hby d1_10) rfl (flt (hc10 : ¬ ((127 : Int32) < pv))).2.2.1 ?_
        exact k
      obtain ⟨T6, X6, e6, st6⟩ := getS2 X3 hx hZ hown (host := "") (Or.inl (own_w hw 6 rfl)) Via.refl e3 (S_cache.ext O.2) (g := (mkF m 13 #[iv pv] [])) rfl (hb hby d1_13)
      refine Go.step st6 ?_
      show Go p e below _ (T6.setTop (mkF m 16 #[iv pv] [(.ref w_cache)]))
      refine Go.step (S' := T6.setTop (mkF m 21 #[iv pv] [(.int (pv + (128 : Int32))), (.ref w_cache)])) (fun t k => ?_) ?_
      · show Steps p.tables e below (T6.setTop (mkF m 16 #[iv pv] [(.ref w_cache)])) _
        refine XS.iloadN X6.here hx rfl (hb hby d1_16) rfl ?_
        show Steps p.tables e below (T6.setTop (mkF m 17 #[iv pv] [(.int pv), (.ref w_cache)])) _
        refine XS.sipush X6.here hx rfl (hb hby d1_17) ?_
        show Steps p.tables e below (T6.setTop (mkF m 20 #[iv pv] [(.int (128 : Int32)), (.int pv), (.ref w_cache)])) _
        refine XS.iadd X6.here hx rfl (hb hby d1_20) rfl ?_
        exact k
      obtain ⟨hin, box, hat, E_box, F_box⟩ := CA.2 pv hc3 hc10
      have ArC := CA.1.ext O.2
      refine Go.step (S' := T6.setTop (mkF m 22 #[iv pv] [(.ref box)])) (fun t k => X6.aaload hx (j := (pv + (128 : Int32))) (v := (.ref box)) (by rw [e6]; exact ArC.1) (State.isArrayOf_alike hZ.alike ArC.2.1) rfl ArC.2.2 hin hat (g := (mkF m 21 #[iv pv] [(.int (pv + (128 : Int32))), (.ref w_cache)])) rfl rfl (hb hby d1_21) _ k) ?_
      obtain ⟨fs, hr, hrun, hended, hW, hsame⟩ := X6.leave (v := some (.ref box)) (fun h => by rw [Bd.returns] at h; cases h)
      refine Go.fin (S' := T6.setFrames fs) ?_ hrun hended ⟨_, _, rfl, ?_, ⟨_, rfl⟩, hW, hsame.mono (by decide) (by decide)⟩
      · exact retOut X6 hx Bd.returns rfl (Or.inr (Or.inr (Or.inr (Or.inr ⟨rfl, rfl, rfl⟩)))) (hb hby d1_22) hr
      · show Q_rmVO Z pv w_cache cl h0 n0 (some (.ref box)) T6.heap _
        rw [e6]
        exact ⟨box, rfl, N0, K, (E_box.ext O.2), (F_box.ext O.2)⟩
theorem d3_0 : decode jdk_33_method_27_code 0 = .ok (.aload_n 0, 1) := by decide +kernel
theorem d3_1 : decode jdk_33_method_27_code 1 = .ok (.getfield 205, 3) := by decide +kernel
theorem d3_4 : decode jdk_33_method_27_code 4 = .ok (.ireturn, 1) := by decide +kernel
theorem ef_rmIV (m : MethodId) (a : Addr) : entryFrame m #[(.ref a)] 1 = mkF m 0 #[.val (.ref a)] [] := by first | (simp [entryFrame, mkF, argsToLocals, Value.category]; done) | rfl
abbrev rm_rmIV : Room := ({ frames := 0, cells := 0, slots := 0, locals := 0 } : Room)
def Q_rmIV (Z : State) (a : Addr) (pv : Int32) (h0 : Heap) (n0 : Nat) (v : Option Value) (h : Heap) (L : List Loc) : Prop := (v = some (.int pv)) ∧ (Fr n0 L) ∧ (h = h0)
set_option maxRecDepth 65536 in
set_option maxHeartbeats 40000000 in
theorem rmIV (l : Launch) (Z : State) (a0 : Array Value) (hw : ∀ d ∈ tables_1, d.before a0 Z = true) (ws : List Jvm.Cond) (a : Addr) (pv : Int32) (h0 : Heap) (n0 : Nat) (O : Old Z n0 h0) (F_value_a : Fld Z h0 a "java/lang/Integer" "value" "I" (.int pv)) :
    MetFree l (⟨"java/lang/Integer", "intValue", "()I"⟩ : MethodName) (head1 (Jvm.Cond.code (⟨"java/lang/Integer", "intValue", "()I"⟩ : MethodName) jdk_33_method_27_code 1 (some .int) :: ws) rm_rmIV) (fun A_ U => A_ = #[(.ref a)] ∧ Z.Warmed39 U.vm ∧ U.heap = h0) (fun _ _ _ _ _ => True) (fun _ U o U' => ∃ v L, o = .returned v ∧ Q_rmIV Z a pv h0 n0 v U'.heap L ∧ FrameEnd U o U' L rm_rmIV.cells rm_rmIV.slots) := by
  refine MetFree.of_bodySF (plainFor_of_name pn_java_lang_Integer) hisR ?_
  intro p e s m args below meth c s₁ Bd hml0 hP hK
  obtain ⟨rfl, hZ, hh⟩ := hP
  have hx := Bd.exec
  have hby := Bd.bytes
  have hml : c.maxLocals = 1 := hml0
  have hown : s.vm.findClass "java/lang/Integer" = some m.cls := findClass_of_methodNamed Bd.named
  have hnm := (name_of_methodNamed Bd.named Bd.method).1
  have X0 : Stand p l e rm_rmIV s m #[(.ref a)] below meth c s₁ [] 0 0 := Stand.of_body Bd
  have e0 : s₁.heap = h0 := by rw [← hh, Bd.state]; rfl
  have N0 := Fr.nil n0
  refine Go.step (p := p) (e := e) (below := below) (G := fun o U' => ∃ v L, o = .returned v ∧ Q_rmIV Z a pv h0 n0 v U'.heap L ∧ FrameEnd s o U' L rm_rmIV.cells rm_rmIV.slots) (S' := s₁.setTop (mkF m 0 #[rv a] [])) (fun t k => castTop (ef_rmIV m a) k) ?_
  refine Go.step (S' := s₁.setTop (mkF m 1 #[rv a] [(.ref a)])) (fun t k => ?_) ?_
  · show Steps p.tables e below (s₁.setTop (mkF m 0 #[rv a] [])) _
    refine XS.aloadN X0.here hx rfl (hb hby d3_0) rfl rfl ?_
    exact k
  obtain ⟨T1, X1, e1, st1⟩ := getF X0 hx hZ hown (host := "") (Or.inl (own_w hw 16 rfl)) Via.refl e0 F_value_a (g := (mkF m 1 #[rv a] [(.ref a)])) rfl rfl (hb hby d3_1)
  refine Go.step st1 ?_
  show Go p e below _ (T1.setTop (mkF m 4 #[rv a] [(.int pv)]))
  obtain ⟨fs, hr, hrun, hended, hW, hsame⟩ := X1.leave (v := some (.int pv)) (fun h => by rw [Bd.returns] at h; cases h)
  refine Go.fin (S' := T1.setFrames fs) ?_ hrun hended ⟨_, _, rfl, ?_, ⟨_, rfl⟩, hW, hsame.mono (by decide) (by decide)⟩
  · exact retOut X1 hx Bd.returns rfl (Or.inl ⟨rfl, Or.inl rfl, _, rfl⟩) (hb hby d3_4) hr
  · show Q_rmIV Z a pv h0 n0 (some (.int pv)) T1.heap _
    rw [e1]
    exact ⟨rfl, N0, rfl⟩
theorem own_rng (p : Int32) : (p < (200 : Int32) ∧ ¬ ((299 : Int32) < p) ∧ p < (400 : Int32) ∧ ¬ ((499 : Int32) < p)) ∨ (¬ (p < (200 : Int32)) ∧ ¬ ((299 : Int32) < p) ∧ p < (400 : Int32) ∧ ¬ ((499 : Int32) < p)) ∨
    (¬ (p < (200 : Int32)) ∧ (299 : Int32) < p ∧ p < (400 : Int32) ∧ ¬ ((499 : Int32) < p)) ∨ (¬ (p < (200 : Int32)) ∧ (299 : Int32) < p ∧ ¬ (p < (400 : Int32)) ∧ ¬ ((499 : Int32) < p)) ∨ (¬ (p < (200 : Int32)) ∧ (299 : Int32) < p ∧ ¬ (p < (400 : Int32)) ∧ (499 : Int32) < p) := by
  simp only [Int32.lt_iff_toInt_lt, show (200 : Int32).toInt = 200 from rfl, show (299 : Int32).toInt = 299 from rfl, show (400 : Int32).toInt = 400 from rfl, show (499 : Int32).toInt = 499 from rfl]
  omega
theorem own_quo (p : Int32) : (0 ≤ p.toInt → (p / (100 : Int32)).toInt = p.toInt / 100) ∧ (p.toInt < 0 → (p / (100 : Int32)).toInt = -((-p.toInt) / 100)) := c_idiv p 100 100 rfl (by decide)
theorem own_q2 {p : Int32} (h1 : ¬ (p < (200 : Int32))) (h2 : ¬ ((299 : Int32) < p)) : p / (100 : Int32) = (2 : Int32) := by
  simp only [Int32.lt_iff_toInt_lt, show (200 : Int32).toInt = 200 from rfl, show (299 : Int32).toInt = 299 from rfl] at h1 h2
  rw [← Int32.toInt_inj, (own_quo p).1 (by omega), show (2 : Int32).toInt = 2 from rfl]; omega
theorem own_q4 {p : Int32} (h1 : ¬ (p < (400 : Int32))) (h2 : ¬ ((499 : Int32) < p)) : p / (100 : Int32) = (4 : Int32) := by
  simp only [Int32.lt_iff_toInt_lt, show (400 : Int32).toInt = 400 from rfl, show (499 : Int32).toInt = 499 from rfl] at h1 h2
  rw [← Int32.toInt_inj, (own_quo p).1 (by omega), show (4 : Int32).toInt = 4 from rfl]; omega
theorem own_qn {p : Int32} (h : p < (200 : Int32) ∨ ((299 : Int32) < p ∧ p < (400 : Int32)) ∨ (499 : Int32) < p) : (p / (100 : Int32)).toInt ≠ 2 ∧ (p / (100 : Int32)).toInt ≠ 4 := by
  simp only [Int32.lt_iff_toInt_lt, show (200 : Int32).toInt = 200 from rfl, show (299 : Int32).toInt = 299 from rfl, show (400 : Int32).toInt = 400 from rfl, show (499 : Int32).toInt = 499 from rfl] at h
  have := own_quo p
  by_cases h0 : 0 ≤ p.toInt
  · rw [this.1 h0]; omega
  · rw [this.2 (by omega)]; omega
theorem pn_com_example_reconcile_reconcile_simulator_WebhookAnswer : plainName "com/example/reconcile/reconcile/simulator/WebhookAnswer" = true := by first | (simp [plainName, overriddenIn]; done) | decide +kernel
theorem d2_0 : decode prog_9_method_4_code 0 = .ok (.aload_n 0, 1) := by decide +kernel
theorem d2_1 : decode prog_9_method_4_code 1 = .ok (.ifnonnull 7, 3) := by decide +kernel
theorem d2_4 : decode prog_9_method_4_code 4 = .ok (.getstatic 10, 3) := by decide +kernel
theorem d2_7 : decode prog_9_method_4_code 7 = .ok (.areturn, 1) := by decide +kernel
theorem ef_rmOfN (m : MethodId)  : entryFrame m #[.null] 1 = mkF m 0 #[.val .null] [] := by first | (simp [entryFrame, mkF, argsToLocals, Value.category]; done) | rfl
abbrev rm_rmOfN : Room := ({ frames := 0, cells := 0, slots := 0, locals := 0 } : Room)
def Q_rmOfN (Z : State) (w_NONE : Addr) (h0 : Heap) (n0 : Nat) (v : Option Value) (h : Heap) (L : List Loc) : Prop := (v = some (.ref w_NONE)) ∧ (Fr n0 L) ∧ (h = h0)
set_option maxRecDepth 65536 in
set_option maxHeartbeats 40000000 in
theorem rmOfN (l : Launch) (Z : State) (a0 : Array Value) (hw : ∀ d ∈ tables_1, d.before a0 Z = true) (ws : List Jvm.Cond) (w_NONE : Addr) (h0 : Heap) (n0 : Nat) (O : Old Z n0 h0) (S_NONE : Sta Z Z.heap "com/example/reconcile/reconcile/simulator/WebhookAnswer" "NONE" "Lcom/example/reconcile/reconcile/simulator/WebhookAnswer;" (.ref w_NONE)) :
    MetFree l (⟨"com/example/reconcile/reconcile/simulator/WebhookAnswer", "of", "(Ljava/lang/Integer;)Lcom/example/reconcile/reconcile/simulator/WebhookAnswer;"⟩ : MethodName) (head1 (Jvm.Cond.code (⟨"com/example/reconcile/reconcile/simulator/WebhookAnswer", "of", "(Ljava/lang/Integer;)Lcom/example/reconcile/reconcile/simulator/WebhookAnswer;"⟩ : MethodName) prog_9_method_4_code 1 (some (.object "com/example/reconcile/reconcile/simulator/WebhookAnswer")) :: ws) rm_rmOfN) (fun A_ U => A_ = #[.null] ∧ Z.Warmed39 U.vm ∧ U.heap = h0) (fun _ _ _ _ _ => True) (fun _ U o U' => ∃ v L, o = .returned v ∧ Q_rmOfN Z w_NONE h0 n0 v U'.heap L ∧ FrameEnd U o U' L rm_rmOfN.cells rm_rmOfN.slots) := by
  refine MetFree.of_bodySF (plainFor_of_name pn_com_example_reconcile_reconcile_simulator_WebhookAnswer) hisR ?_
  intro p e s m args below meth c s₁ Bd hml0 hP hK
  obtain ⟨rfl, hZ, hh⟩ := hP
  have hx := Bd.exec
  have hby := Bd.bytes
  have hml : c.maxLocals = 1 := hml0
  have hown : s.vm.findClass "com/example/reconcile/reconcile/simulator/WebhookAnswer" = some m.cls := findClass_of_methodNamed Bd.named
  have hnm := (name_of_methodNamed Bd.named Bd.method).1
  have X0 : Stand p l e rm_rmOfN s m #[.null] below meth c s₁ [] 0 0 := Stand.of_body Bd
  have e0 : s₁.heap = h0 := by rw [← hh, Bd.state]; rfl
  have N0 := Fr.nil n0
  refine Go.step (p := p) (e := e) (below := below) (G := fun o U' => ∃ v L, o = .returned v ∧ Q_rmOfN Z w_NONE h0 n0 v U'.heap L ∧ FrameEnd s o U' L rm_rmOfN.cells rm_rmOfN.slots) (S' := s₁.setTop (mkF m 0 #[.val .null] [])) (fun t k => castTop (ef_rmOfN m ) k) ?_
  refine Go.step (S' := s₁.setTop (mkF m 4 #[.val .null] [])) (fun t k => ?_) ?_
  · show Steps p.tables e below (s₁.setTop (mkF m 0 #[.val .null] [])) _
    refine XS.aloadN X0.here hx rfl (hb hby d2_0) rfl rfl ?_
    show Steps p.tables e below (s₁.setTop (mkF m 1 #[.val .null] [.null])) _
    refine XS.ifnonnullNo X0.here hx rfl (hb hby d2_1) rfl ?_
    exact k
  obtain ⟨T1, X1, e1, st1⟩ := getS2 X0 hx hZ hown (host := "") (Or.inl (own_w hw 18 rfl)) Via.refl e0 (S_NONE.ext O.2) (g := (mkF m 4 #[.val .null] [])) rfl (hb hby d2_4)
  refine Go.step st1 ?_
  show Go p e below _ (T1.setTop (mkF m 7 #[.val .null] [(.ref w_NONE)]))
  obtain ⟨fs, hr, hrun, hended, hW, hsame⟩ := X1.leave (v := some (.ref w_NONE)) (fun h => by rw [Bd.returns] at h; cases h)
  refine Go.fin (S' := T1.setFrames fs) ?_ hrun hended ⟨_, _, rfl, ?_, ⟨_, rfl⟩, hW, hsame.mono (by decide) (by decide)⟩
  · exact retOut X1 hx Bd.returns rfl (Or.inr (Or.inr (Or.inr (Or.inr ⟨rfl, rfl, rfl⟩)))) (hb hby d2_7) hr
  · show Q_rmOfN Z w_NONE h0 n0 (some (.ref w_NONE)) T1.heap _
    rw [e1]
    exact ⟨rfl, N0, rfl⟩
theorem d2_8 : decode prog_9_method_4_code 8 = .ok (.aload_n 0, 1) := by decide +kernel
theorem d2_9 : decode prog_9_method_4_code 9 = .ok (.invokevirtual 32, 3) := by decide +kernel
theorem pd__28_29I : parseMethodDescriptor "()I" = some ⟨[], some .int⟩ := by decide +kernel
theorem d2_12 : decode prog_9_method_4_code 12 = .ok (.bipush 100, 2) := by decide +kernel
theorem d2_14 : decode prog_9_method_4_code 14 = .ok (.idiv, 1) := by decide +kernel
theorem d2_15 : decode prog_9_method_4_code 15 = .ok (.lookupswitch 37 #[(2, 25), (4, 31)], 25) := by decide +kernel
theorem d2_52 : decode prog_9_method_4_code 52 = .ok (.getstatic 10, 3) := by decide +kernel
theorem d2_55 : decode prog_9_method_4_code 55 = .ok (.areturn, 1) := by decide +kernel
theorem ef_rmOf0 (m : MethodId) (b : Addr) : entryFrame m #[(.ref b)] 1 = mkF m 0 #[.val (.ref b)] [] := by first | (simp [entryFrame, mkF, argsToLocals, Value.category]; done) | rfl
abbrev rm_rmOf0 : Room := ({ frames := 1, cells := 0, slots := 0, locals := 12 } : Room)
def Q_rmOf0 (Z : State) (b : Addr) (pv : Int32) (w_NONE : Addr) (w_RECEIVED : Addr) (w_REFUSED : Addr) (h0 : Heap) (n0 : Nat) (v : Option Value) (h : Heap) (L : List Loc) : Prop := (v = some (.ref w_NONE)) ∧ (Fr n0 L) ∧ (h = h0)
set_option maxRecDepth 65536 in
set_option maxHeartbeats 40000000 in
theorem rmOf0 (l : Launch) (Z : State) (a0 : Array Value) (hw : ∀ d ∈ tables_1, d.before a0 Z = true) (ws : List Jvm.Cond) (b : Addr) (pv : Int32) (w_NONE : Addr) (w_RECEIVED : Addr) (w_REFUSED : Addr) (h0 : Heap) (n0 : Nat) (O : Old Z n0 h0) (S_NONE : Sta Z Z.heap "com/example/reconcile/reconcile/simulator/WebhookAnswer" "NONE" "Lcom/example/reconcile/reconcile/simulator/WebhookAnswer;" (.ref w_NONE)) (S_RECEIVED : Sta Z Z.heap "com/example/reconcile/reconcile/simulator/WebhookAnswer" "RECEIVED" "Lcom/example/reconcile/reconcile/simulator/WebhookAnswer;" (.ref w_RECEIVED)) (S_REFUSED : Sta Z Z.heap "com/example/reconcile/reconcile/simulator/WebhookAnswer" "REFUSED" "Lcom/example/reconcile/reconcile/simulator/WebhookAnswer;" (.ref w_REFUSED)) (E_b : Exa Z h0 b "java/lang/Integer") (F_value_b : Fld Z h0 b "java/lang/Integer" "value" "I" (.int pv)) (hr0 : pv < (200 : Int32)) (hr1 : ¬ ((299 : Int32) < pv)) (hr2 : pv < (400 : Int32)) (hr3 : ¬ ((499 : Int32) < pv)) :
    MetFree l (⟨"com/example/reconcile/reconcile/simulator/WebhookAnswer", "of", "(Ljava/lang/Integer;)Lcom/example/reconcile/reconcile/simulator/WebhookAnswer;"⟩ : MethodName) (head1 (Jvm.Cond.code (⟨"com/example/reconcile/reconcile/simulator/WebhookAnswer", "of", "(Ljava/lang/Integer;)Lcom/example/reconcile/reconcile/simulator/WebhookAnswer;"⟩ : MethodName) prog_9_method_4_code 1 (some (.object "com/example/reconcile/reconcile/simulator/WebhookAnswer")) :: ws) rm_rmOf0) (fun A_ U => A_ = #[(.ref b)] ∧ Z.Warmed39 U.vm ∧ U.heap = h0) (fun _ _ _ _ _ => True) (fun _ U o U' => ∃ v L, o = .returned v ∧ Q_rmOf0 Z b pv w_NONE w_RECEIVED w_REFUSED h0 n0 v U'.heap L ∧ FrameEnd U o U' L rm_rmOf0.cells rm_rmOf0.slots) := by
  refine MetFree.of_bodySF (plainFor_of_name pn_com_example_reconcile_reconcile_simulator_WebhookAnswer) hisR ?_
  intro p e s m args below meth c s₁ Bd hml0 hP hK
  obtain ⟨rfl, hZ, hh⟩ := hP
  have hx := Bd.exec
  have hby := Bd.bytes
  have hml : c.maxLocals = 1 := hml0
  have hown : s.vm.findClass "com/example/reconcile/reconcile/simulator/WebhookAnswer" = some m.cls := findClass_of_methodNamed Bd.named
  have hnm := (name_of_methodNamed Bd.named Bd.method).1
  have X0 : Stand p l e rm_rmOf0 s m #[(.ref b)] below meth c s₁ [] 0 0 := Stand.of_body Bd
  have e0 : s₁.heap = h0 := by rw [← hh, Bd.state]; rfl
  have N0 := Fr.nil n0
  refine Go.step (p := p) (e := e) (below := below) (G := fun o U' => ∃ v L, o = .returned v ∧ Q_rmOf0 Z b pv w_NONE w_RECEIVED w_REFUSED h0 n0 v U'.heap L ∧ FrameEnd s o U' L rm_rmOf0.cells rm_rmOf0.slots) (S' := s₁.setTop (mkF m 0 #[rv b] [])) (fun t k => castTop (ef_rmOf0 m b) k) ?_
  refine Go.step (S' := s₁.setTop (mkF m 9 #[rv b] [(.ref b)])) (fun t k => ?_) ?_
  · show Steps p.tables e below (s₁.setTop (mkF m 0 #[rv b] [])) _
    refine XS.aloadN X0.here hx rfl (hb hby d2_0) rfl rfl ?_
    show Steps p.tables e below (s₁.setTop (mkF m 1 #[rv b] [(.ref b)])) _
    refine XS.ifnonnullYes X0.here hx rfl (pc0 := 1) (pc' := 8) rfl (hb hby d2_1) rfl (by decide) (by decide) ?_
    show Steps p.tables e below (s₁.setTop (mkF m 8 #[rv b] [])) _
    refine XS.aloadN X0.here hx rfl (hb hby d2_8) rfl rfl ?_
    exact k
  obtain ⟨cq1, kq1, q1a, q1b, q1c⟩ := isOf hZ e0 E_b
  obtain ⟨_, _, ⟨T1, L1, k1, n1⟩, -, X1, ⟨Lc1, hQ1, l1, y1, z1⟩, st1⟩ := X0.virtualBack hx (y := (⟨"java/lang/Integer", "intValue", "()I"⟩ : MethodName)) (z := (⟨"java/lang/Integer", "intValue", "()I"⟩ : MethodName)) hown (mvT hZ (own_w hw 11 rfl)) (mvT hZ (own_w hw 12 rfl)) (notFace_of_selects (args := #[]) (mvT hZ (own_w hw 14 rfl))) (mvT hZ (own_w hw 14 rfl)) (mvT hZ (own_w hw 13 rfl)) (by decide) (backOf (W := 0) (rmIV l Z a0 hw [] b pv h0 n0 O F_value_b) hZ (own_w hw 15 rfl) (own_w hw 2 rfl) (by decide) (by decide)) q1a q1c (g := (mkF m 9 #[rv b] [(.ref b)])) rfl (by rw [hml]; rfl) (Steps.refl _) (argsL := []) (rest := []) (lenOf pd__28_29I rfl) rfl (by show 2 * 0 + _ ≤ _; exact Nat.le_of_eq rfl) (hb hby d2_9) (fun _ _ => ⟨rfl, e0, (by decide : 0 + 0 ≤ _), (by decide : 0 + 0 ≤ _)⟩)
  dsimp only [Pt.U, Pt.locs, Pt.cells, Pt.slots] at X1 l1 y1 z1 st1 hQ1
  subst l1 y1 z1
  obtain ⟨rfl, Nq1, e1⟩ := hQ1
  have N1 := Fr.app N0 Nq1
  refine Go.step (fun t k => st1.trans k) ?_
  show Go p e below _ (T1.setTop (mkF m 12 #[rv b] [(.int pv)]))
  refine Go.step (S' := T1.setTop (mkF m 15 #[rv b] [(.int (pv / (100 : Int32)))])) (fun t k => ?_) ?_
  · show Steps p.tables e below (T1.setTop (mkF m 12 #[rv b] [(.int pv)])) _
    refine XS.bipush X1.here hx rfl (hb hby d2_12) ?_
    show Steps p.tables e below (T1.setTop (mkF m 14 #[rv b] [(.int (100 : Int32)), (.int pv)])) _
    refine XS.idiv X1.here hx rfl (hb hby d2_14) rfl (by decide) ?_
    exact k
  have hq := own_qn (p := pv) (Or.inl hr0)
  refine Go.step (S' := T1.setTop (mkF m 52 #[rv b] [])) (fun t k => X1.lookupswitchMiss hx (g := (mkF m 15 #[rv b] [(.int (pv / (100 : Int32)))])) rfl rfl (hb hby d2_15) (by decide) (find_miss (by intro q hq'; simp at hq'; rcases hq' with rfl | rfl; exact Ne.symm hq.1; exact Ne.symm hq.2)) (show (0 : Int) ≤ ((15 : Nat) : Int) + 37 from by decide) t k) ?_
  obtain ⟨T2, X2, e2, st2⟩ := getS2 X1 hx hZ hown (host := "") (Or.inl (own_w hw 18 rfl)) Via.refl e1 (S_NONE.ext O.2) (g := (mkF m 52 #[rv b] [])) rfl (hb hby d2_52)
  refine Go.step st2 ?_
  show Go p e below _ (T2.setTop (mkF m 55 #[rv b] [(.ref w_NONE)]))
  obtain ⟨fs, hr, hrun, hended, hW, hsame⟩ := X2.leave (v := some (.ref w_NONE)) (fun h => by rw [Bd.returns] at h; cases h)
  refine Go.fin (S' := T2.setFrames fs) ?_ hrun hended ⟨_, _, rfl, ?_, ⟨_, rfl⟩, hW, hsame.mono (by decide) (by decide)⟩
  · exact retOut X2 hx Bd.returns rfl (Or.inr (Or.inr (Or.inr (Or.inr ⟨rfl, rfl, rfl⟩)))) (hb hby d2_55) hr
  · show Q_rmOf0 Z b pv w_NONE w_RECEIVED w_REFUSED h0 n0 (some (.ref w_NONE)) T2.heap _
    rw [e2]
    exact ⟨rfl, N1, rfl⟩
theorem d2_40 : decode prog_9_method_4_code 40 = .ok (.getstatic 3, 3) := by decide +kernel
theorem d2_43 : decode prog_9_method_4_code 43 = .ok (.goto 12, 3) := by decide +kernel
theorem ef_rmOf1 (m : MethodId) (b : Addr) : entryFrame m #[(.ref b)] 1 = mkF m 0 #[.val (.ref b)] [] := by first | (simp [entryFrame, mkF, argsToLocals, Value.category]; done) | rfl
abbrev rm_rmOf1 : Room := ({ frames := 1, cells := 0, slots := 0, locals := 12 } : Room)
def Q_rmOf1 (Z : State) (b : Addr) (pv : Int32) (w_NONE : Addr) (w_RECEIVED : Addr) (w_REFUSED : Addr) (h0 : Heap) (n0 : Nat) (v : Option Value) (h : Heap) (L : List Loc) : Prop := (v = some (.ref w_RECEIVED)) ∧ (Fr n0 L) ∧ (h = h0)
set_option maxRecDepth 65536 in
set_option maxHeartbeats 40000000 in
theorem rmOf1 (l : Launch) (Z : State) (a0 : Array Value) (hw : ∀ d ∈ tables_1, d.before a0 Z = true) (ws : List Jvm.Cond) (b : Addr) (pv : Int32) (w_NONE : Addr) (w_RECEIVED : Addr) (w_REFUSED : Addr) (h0 : Heap) (n0 : Nat) (O : Old Z n0 h0) (S_NONE : Sta Z Z.heap "com/example/reconcile/reconcile/simulator/WebhookAnswer" "NONE" "Lcom/example/reconcile/reconcile/simulator/WebhookAnswer;" (.ref w_NONE)) (S_RECEIVED : Sta Z Z.heap "com/example/reconcile/reconcile/simulator/WebhookAnswer" "RECEIVED" "Lcom/example/reconcile/reconcile/simulator/WebhookAnswer;" (.ref w_RECEIVED)) (S_REFUSED : Sta Z Z.heap "com/example/reconcile/reconcile/simulator/WebhookAnswer" "REFUSED" "Lcom/example/reconcile/reconcile/simulator/WebhookAnswer;" (.ref w_REFUSED)) (E_b : Exa Z h0 b "java/lang/Integer") (F_value_b : Fld Z h0 b "java/lang/Integer" "value" "I" (.int pv)) (hr0 : ¬ (pv < (200 : Int32))) (hr1 : ¬ ((299 : Int32) < pv)) (hr2 : pv < (400 : Int32)) (hr3 : ¬ ((499 : Int32) < pv)) :
    MetFree l (⟨"com/example/reconcile/reconcile/simulator/WebhookAnswer", "of", "(Ljava/lang/Integer;)Lcom/example/reconcile/reconcile/simulator/WebhookAnswer;"⟩ : MethodName) (head1 (Jvm.Cond.code (⟨"com/example/reconcile/reconcile/simulator/WebhookAnswer", "of", "(Ljava/lang/Integer;)Lcom/example/reconcile/reconcile/simulator/WebhookAnswer;"⟩ : MethodName) prog_9_method_4_code 1 (some (.object "com/example/reconcile/reconcile/simulator/WebhookAnswer")) :: ws) rm_rmOf1) (fun A_ U => A_ = #[(.ref b)] ∧ Z.Warmed39 U.vm ∧ U.heap = h0) (fun _ _ _ _ _ => True) (fun _ U o U' => ∃ v L, o = .returned v ∧ Q_rmOf1 Z b pv w_NONE w_RECEIVED w_REFUSED h0 n0 v U'.heap L ∧ FrameEnd U o U' L rm_rmOf1.cells rm_rmOf1.slots) := by
  refine MetFree.of_bodySF (plainFor_of_name pn_com_example_reconcile_reconcile_simulator_WebhookAnswer) hisR ?_
  intro p e s m args below meth c s₁ Bd hml0 hP hK
  obtain ⟨rfl, hZ, hh⟩ := hP
  have hx := Bd.exec
  have hby := Bd.bytes
  have hml : c.maxLocals = 1 := hml0
  have hown : s.vm.findClass "com/example/reconcile/reconcile/simulator/WebhookAnswer" = some m.cls := findClass_of_methodNamed Bd.named
  have hnm := (name_of_methodNamed Bd.named Bd.method).1
  have X0 : Stand p l e rm_rmOf1 s m #[(.ref b)] below meth c s₁ [] 0 0 := Stand.of_body Bd
  have e0 : s₁.heap = h0 := by rw [← hh, Bd.state]; rfl
  have N0 := Fr.nil n0
  refine Go.step (p := p) (e := e) (below := below) (G := fun o U' => ∃ v L, o = .returned v ∧ Q_rmOf1 Z b pv w_NONE w_RECEIVED w_REFUSED h0 n0 v U'.heap L ∧ FrameEnd s o U' L rm_rmOf1.cells rm_rmOf1.slots) (S' := s₁.setTop (mkF m 0 #[rv b] [])) (fun t k => castTop (ef_rmOf1 m b) k) ?_
  refine Go.step (S' := s₁.setTop (mkF m 9 #[rv b] [(.ref b)])) (fun t k => ?_) ?_
  · show Steps p.tables e below (s₁.setTop (mkF m 0 #[rv b] [])) _
    refine XS.aloadN X0.here hx rfl (hb hby d2_0) rfl rfl ?_
    show Steps p.tables e below (s₁.setTop (mkF m 1 #[rv b] [(.ref b)])) _
    refine XS.ifnonnullYes X0.here hx rfl (pc0 := 1) (pc' := 8) rfl (hb hby d2_1) rfl (by decide) (by decide) ?_
    show Steps p.tables e below (s₁.setTop (mkF m 8 #[rv b] [])) _
    refine XS.aloadN X0.here hx rfl (hb hby d2_8) rfl rfl ?_
    exact k
  obtain ⟨cq1, kq1, q1a, q1b, q1c⟩ := isOf hZ e0 E_b
  obtain ⟨_, _, ⟨T1, L1, k1, n1⟩, -, X1, ⟨Lc1, hQ1, l1, y1, z1⟩, st1⟩ := X0.virtualBack hx (y := (⟨"java/lang/Integer", "intValue", "()I"⟩ : MethodName)) (z := (⟨"java/lang/Integer", "intValue", "()I"⟩ : MethodName)) hown (mvT hZ (own_w hw 11 rfl)) (mvT hZ (own_w hw 12 rfl)) (notFace_of_selects (args := #[]) (mvT hZ (own_w hw 14 rfl))) (mvT hZ (own_w hw 14 rfl)) (mvT hZ (own_w hw 13 rfl)) (by decide) (backOf (W := 0) (rmIV l Z a0 hw [] b pv h0 n0 O F_value_b) hZ (own_w hw 15 rfl) (own_w hw 2 rfl) (by decide) (by decide)) q1a q1c (g := (mkF m 9 #[rv b] [(.ref b)])) rfl (by rw [hml]; rfl) (Steps.refl _) (argsL := []) (rest := []) (lenOf pd__28_29I rfl) rfl (by show 2 * 0 + _ ≤ _; exact Nat.le_of_eq rfl) (hb hby d2_9) (fun _ _ => ⟨rfl, e0, (by decide : 0 + 0 ≤ _), (by decide : 0 + 0 ≤ _)⟩)
  dsimp only [Pt.U, Pt.locs, Pt.cells, Pt.slots] at X1 l1 y1 z1 st1 hQ1
  subst l1 y1 z1
  obtain ⟨rfl, Nq1, e1⟩ := hQ1
  have N1 := Fr.app N0 Nq1
  refine Go.step (fun t k => st1.trans k) ?_
  show Go p e below _ (T1.setTop (mkF m 12 #[rv b] [(.int pv)]))
  refine Go.step (S' := T1.setTop (mkF m 15 #[rv b] [(.int (pv / (100 : Int32)))])) (fun t k => ?_) ?_
  · show Steps p.tables e below (T1.setTop (mkF m 12 #[rv b] [(.int pv)])) _
    refine XS.bipush X1.here hx rfl (hb hby d2_12) ?_
    show Steps p.tables e below (T1.setTop (mkF m 14 #[rv b] [(.int (100 : Int32)), (.int pv)])) _
    refine XS.idiv X1.here hx rfl (hb hby d2_14) rfl (by decide) ?_
    exact k
  rw [own_q2 hr0 hr1]
  refine Go.step (S' := T1.setTop (mkF m 40 #[rv b] [])) (fun t k => X1.lookupswitchHit hx (g := (mkF m 15 #[rv b] [(.int (2 : Int32))])) rfl rfl (hb hby d2_15) (by decide) (a := 2) (off := 25) (by decide) (show (0 : Int) ≤ ((15 : Nat) : Int) + 25 from by decide) t k) ?_
  obtain ⟨T2, X2, e2, st2⟩ := getS2 X1 hx hZ hown (host := "") (Or.inl (own_w hw 36 rfl)) Via.refl e1 (S_RECEIVED.ext O.2) (g := (mkF m 40 #[rv b] [])) rfl (hb hby d2_40)
  refine Go.step st2 ?_
  show Go p e below _ (T2.setTop (mkF m 43 #[rv b] [(.ref w_RECEIVED)]))
  refine Go.step (S' := T2.setTop (mkF m 55 #[rv b] [(.ref w_RECEIVED)])) (fun t k => ?_) ?_
  · show Steps p.tables e below (T2.setTop (mkF m 43 #[rv b] [(.ref w_RECEIVED)])) _
    refine XS.goto X2.here hx rfl (pc0 := 43) (pc' := 55) rfl (hb hby d2_43) (by decide) (by decide) ?_
    exact k
  obtain ⟨fs, hr, hrun, hended, hW, hsame⟩ := X2.leave (v := some (.ref w_RECEIVED)) (fun h => by rw [Bd.returns] at h; cases h)
  refine Go.fin (S' := T2.setFrames fs) ?_ hrun hended ⟨_, _, rfl, ?_, ⟨_, rfl⟩, hW, hsame.mono (by decide) (by decide)⟩
  · exact retOut X2 hx Bd.returns rfl (Or.inr (Or.inr (Or.inr (Or.inr ⟨rfl, rfl, rfl⟩)))) (hb hby d2_55) hr
  · show Q_rmOf1 Z b pv w_NONE w_RECEIVED w_REFUSED h0 n0 (some (.ref w_RECEIVED)) T2.heap _
    rw [e2]
    exact ⟨rfl, N1, rfl⟩
theorem ef_rmOf2 (m : MethodId) (b : Addr) : entryFrame m #[(.ref b)] 1 = mkF m 0 #[.val (.ref b)] [] := by first | (simp [entryFrame, mkF, argsToLocals, Value.category]; done) | rfl
abbrev rm_rmOf2 : Room := ({ frames := 1, cells := 0, slots := 0, locals := 12 } : Room)
def Q_rmOf2 (Z : State) (b : Addr) (pv : Int32) (w_NONE : Addr) (w_RECEIVED : Addr) (w_REFUSED : Addr) (h0 : Heap) (n0 : Nat) (v : Option Value) (h : Heap) (L : List Loc) : Prop := (v = some (.ref w_NONE)) ∧ (Fr n0 L) ∧ (h = h0)
set_option maxRecDepth 65536 in
set_option maxHeartbeats 40000000 in
theorem rmOf2 (l : Launch) (Z : State) (a0 : Array Value) (hw : ∀ d ∈ tables_1, d.before a0 Z = true) (ws : List Jvm.Cond) (b : Addr) (pv : Int32) (w_NONE : Addr) (w_RECEIVED : Addr) (w_REFUSED : Addr) (h0 : Heap) (n0 : Nat) (O : Old Z n0 h0) (S_NONE : Sta Z Z.heap "com/example/reconcile/reconcile/simulator/WebhookAnswer" "NONE" "Lcom/example/reconcile/reconcile/simulator/WebhookAnswer;" (.ref w_NONE)) (S_RECEIVED : Sta Z Z.heap "com/example/reconcile/reconcile/simulator/WebhookAnswer" "RECEIVED" "Lcom/example/reconcile/reconcile/simulator/WebhookAnswer;" (.ref w_RECEIVED)) (S_REFUSED : Sta Z Z.heap "com/example/reconcile/reconcile/simulator/WebhookAnswer" "REFUSED" "Lcom/example/reconcile/reconcile/simulator/WebhookAnswer;" (.ref w_REFUSED)) (E_b : Exa Z h0 b "java/lang/Integer") (F_value_b : Fld Z h0 b "java/lang/Integer" "value" "I" (.int pv)) (hr0 : ¬ (pv < (200 : Int32))) (hr1 : (299 : Int32) < pv) (hr2 : pv < (400 : Int32)) (hr3 : ¬ ((499 : Int32) < pv)) :
    MetFree l (⟨"com/example/reconcile/reconcile/simulator/WebhookAnswer", "of", "(Ljava/lang/Integer;)Lcom/example/reconcile/reconcile/simulator/WebhookAnswer;"⟩ : MethodName) (head1 (Jvm.Cond.code (⟨"com/example/reconcile/reconcile/simulator/WebhookAnswer", "of", "(Ljava/lang/Integer;)Lcom/example/reconcile/reconcile/simulator/WebhookAnswer;"⟩ : MethodName) prog_9_method_4_code 1 (some (.object "com/example/reconcile/reconcile/simulator/WebhookAnswer")) :: ws) rm_rmOf2) (fun A_ U => A_ = #[(.ref b)] ∧ Z.Warmed39 U.vm ∧ U.heap = h0) (fun _ _ _ _ _ => True) (fun _ U o U' => ∃ v L, o = .returned v ∧ Q_rmOf2 Z b pv w_NONE w_RECEIVED w_REFUSED h0 n0 v U'.heap L ∧ FrameEnd U o U' L rm_rmOf2.cells rm_rmOf2.slots) := by
  refine MetFree.of_bodySF (plainFor_of_name pn_com_example_reconcile_reconcile_simulator_WebhookAnswer) hisR ?_
  intro p e s m args below meth c s₁ Bd hml0 hP hK
  obtain ⟨rfl, hZ, hh⟩ := hP
  have hx := Bd.exec
  have hby := Bd.bytes
  have hml : c.maxLocals = 1 := hml0
  have hown : s.vm.findClass "com/example/reconcile/reconcile/simulator/WebhookAnswer" = some m.cls := findClass_of_methodNamed Bd.named
  have hnm := (name_of_methodNamed Bd.named Bd.method).1
  have X0 : Stand p l e rm_rmOf2 s m #[(.ref b)] below meth c s₁ [] 0 0 := Stand.of_body Bd
  have e0 : s₁.heap = h0 := by rw [← hh, Bd.state]; rfl
  have N0 := Fr.nil n0
  refine Go.step (p := p) (e := e) (below := below) (G := fun o U' => ∃ v L, o = .returned v ∧ Q_rmOf2 Z b pv w_NONE w_RECEIVED w_REFUSED h0 n0 v U'.heap L ∧ FrameEnd s o U' L rm_rmOf2.cells rm_rmOf2.slots) (S' := s₁.setTop (mkF m 0 #[rv b] [])) (fun t k => castTop (ef_rmOf2 m b) k) ?_
  refine Go.step (S' := s₁.setTop (mkF m 9 #[rv b] [(.ref b)])) (fun t k => ?_) ?_
  · show Steps p.tables e below (s₁.setTop (mkF m 0 #[rv b] [])) _
    refine XS.aloadN X0.here hx rfl (hb hby d2_0) rfl rfl ?_
    show Steps p.tables e below (s₁.setTop (mkF m 1 #[rv b] [(.ref b)])) _
    refine XS.ifnonnullYes X0.here hx rfl (pc0 := 1) (pc' := 8) rfl (hb hby d2_1) rfl (by decide) (by decide) ?_
    show Steps p.tables e below (s₁.setTop (mkF m 8 #[rv b] [])) _
    refine XS.aloadN X0.here hx rfl (hb hby d2_8) rfl rfl ?_
    exact k
  obtain ⟨cq1, kq1, q1a, q1b, q1c⟩ := isOf hZ e0 E_b
  obtain ⟨_, _, ⟨T1, L1, k1, n1⟩, -, X1, ⟨Lc1, hQ1, l1, y1, z1⟩, st1⟩ := X0.virtualBack hx (y := (⟨"java/lang/Integer", "intValue", "()I"⟩ : MethodName)) (z := (⟨"java/lang/Integer", "intValue", "()I"⟩ : MethodName)) hown (mvT hZ (own_w hw 11 rfl)) (mvT hZ (own_w hw 12 rfl)) (notFace_of_selects (args := #[]) (mvT hZ (own_w hw 14 rfl))) (mvT hZ (own_w hw 14 rfl)) (mvT hZ (own_w hw 13 rfl)) (by decide) (backOf (W := 0) (rmIV l Z a0 hw [] b pv h0 n0 O F_value_b) hZ (own_w hw 15 rfl) (own_w hw 2 rfl) (by decide) (by decide)) q1a q1c (g := (mkF m 9 #[rv b] [(.ref b)])) rfl (by rw [hml]; rfl) (Steps.refl _) (argsL := []) (rest := []) (lenOf pd__28_29I rfl) rfl (by show 2 * 0 + _ ≤ _; exact Nat.le_of_eq rfl) (hb hby d2_9) (fun _ _ => ⟨rfl, e0, (by decide : 0 + 0 ≤ _), (by decide : 0 + 0 ≤ _)⟩)
  dsimp only [Pt.U, Pt.locs, Pt.cells, Pt.slots] at X1 l1 y1 z1 st1 hQ1
  subst l1 y1 z1
  obtain ⟨rfl, Nq1, e1⟩ := hQ1
  have N1 := Fr.app N0 Nq1
  refine Go.step (fun t k => st1.trans k) ?_
  show Go p e below _ (T1.setTop (mkF m 12 #[rv b] [(.int pv)]))
  refine Go.step (S' := T1.setTop (mkF m 15 #[rv b] [(.int (pv / (100 : Int32)))])) (fun t k => ?_) ?_
  · show Steps p.tables e below (T1.setTop (mkF m 12 #[rv b] [(.int pv)])) _
    refine XS.bipush X1.here hx rfl (hb hby d2_12) ?_
    show Steps p.tables e below (T1.setTop (mkF m 14 #[rv b] [(.int (100 : Int32)), (.int pv)])) _
    refine XS.idiv X1.here hx rfl (hb hby d2_14) rfl (by decide) ?_
    exact k
  have hq := own_qn (p := pv) (Or.inr (Or.inl ⟨hr1, hr2⟩))
  refine Go.step (S' := T1.setTop (mkF m 52 #[rv b] [])) (fun t k => X1.lookupswitchMiss hx (g := (mkF m 15 #[rv b] [(.int (pv / (100 : Int32)))])) rfl rfl (hb hby d2_15) (by decide) (find_miss (by intro q hq'; simp at hq'; rcases hq' with rfl | rfl; exact Ne.symm hq.1; exact Ne.symm hq.2)) (show (0 : Int) ≤ ((15 : Nat) : Int) + 37 from by decide) t k) ?_
  obtain ⟨T2, X2, e2, st2⟩ := getS2 X1 hx hZ hown (host := "") (Or.inl (own_w hw 18 rfl)) Via.refl e1 (S_NONE.ext O.2) (g := (mkF m 52 #[rv b] [])) rfl (hb hby d2_52)
  refine Go.step st2 ?_
  show Go p e below _ (T2.setTop (mkF m 55 #[rv b] [(.ref w_NONE)]))
  obtain ⟨fs, hr, hrun, hended, hW, hsame⟩ := X2.leave (v := some (.ref w_NONE)) (fun h => by rw [Bd.returns] at h; cases h)
  refine Go.fin (S' := T2.setFrames fs) ?_ hrun hended ⟨_, _, rfl, ?_, ⟨_, rfl⟩, hW, hsame.mono (by decide) (by decide)⟩
  · exact retOut X2 hx Bd.returns rfl (Or.inr (Or.inr (Or.inr (Or.inr ⟨rfl, rfl, rfl⟩)))) (hb hby d2_55) hr
  · show Q_rmOf2 Z b pv w_NONE w_RECEIVED w_REFUSED h0 n0 (some (.ref w_NONE)) T2.heap _
    rw [e2]
    exact ⟨rfl, N1, rfl⟩
theorem d2_46 : decode prog_9_method_4_code 46 = .ok (.getstatic 7, 3) := by decide +kernel
theorem d2_49 : decode prog_9_method_4_code 49 = .ok (.goto 6, 3) := by decide +kernel
theorem ef_rmOf3 (m : MethodId) (b : Addr) : entryFrame m #[(.ref b)] 1 = mkF m 0 #[.val (.ref b)] [] := by first | (simp [entryFrame, mkF, argsToLocals, Value.category]; done) | rfl
abbrev rm_rmOf3 : Room := ({ frames := 1, cells := 0, slots := 0, locals := 12 } : Room)
def Q_rmOf3 (Z : State) (b : Addr) (pv : Int32) (w_NONE : Addr) (w_RECEIVED : Addr) (w_REFUSED : Addr) (h0 : Heap) (n0 : Nat) (v : Option Value) (h : Heap) (L : List Loc) : Prop := (v = some (.ref w_REFUSED)) ∧ (Fr n0 L) ∧ (h = h0)
set_option maxRecDepth 65536 in
set_option maxHeartbeats 40000000 in
theorem rmOf3 (l : Launch) (Z : State) (a0 : Array Value) (hw : ∀ d ∈ tables_1, d.before a0 Z = true) (ws : List Jvm.Cond) (b : Addr) (pv : Int32) (w_NONE : Addr) (w_RECEIVED : Addr) (w_REFUSED : Addr) (h0 : Heap) (n0 : Nat) (O : Old Z n0 h0) (S_NONE : Sta Z Z.heap "com/example/reconcile/reconcile/simulator/WebhookAnswer" "NONE" "Lcom/example/reconcile/reconcile/simulator/WebhookAnswer;" (.ref w_NONE)) (S_RECEIVED : Sta Z Z.heap "com/example/reconcile/reconcile/simulator/WebhookAnswer" "RECEIVED" "Lcom/example/reconcile/reconcile/simulator/WebhookAnswer;" (.ref w_RECEIVED)) (S_REFUSED : Sta Z Z.heap "com/example/reconcile/reconcile/simulator/WebhookAnswer" "REFUSED" "Lcom/example/reconcile/reconcile/simulator/WebhookAnswer;" (.ref w_REFUSED)) (E_b : Exa Z h0 b "java/lang/Integer") (F_value_b : Fld Z h0 b "java/lang/Integer" "value" "I" (.int pv)) (hr0 : ¬ (pv < (200 : Int32))) (hr1 : (299 : Int32) < pv) (hr2 : ¬ (pv < (400 : Int32))) (hr3 : ¬ ((499 : Int32) < pv)) :
    MetFree l (⟨"com/example/reconcile/reconcile/simulator/WebhookAnswer", "of", "(Ljava/lang/Integer;)Lcom/example/reconcile/reconcile/simulator/WebhookAnswer;"⟩ : MethodName) (head1 (Jvm.Cond.code (⟨"com/example/reconcile/reconcile/simulator/WebhookAnswer", "of", "(Ljava/lang/Integer;)Lcom/example/reconcile/reconcile/simulator/WebhookAnswer;"⟩ : MethodName) prog_9_method_4_code 1 (some (.object "com/example/reconcile/reconcile/simulator/WebhookAnswer")) :: ws) rm_rmOf3) (fun A_ U => A_ = #[(.ref b)] ∧ Z.Warmed39 U.vm ∧ U.heap = h0) (fun _ _ _ _ _ => True) (fun _ U o U' => ∃ v L, o = .returned v ∧ Q_rmOf3 Z b pv w_NONE w_RECEIVED w_REFUSED h0 n0 v U'.heap L ∧ FrameEnd U o U' L rm_rmOf3.cells rm_rmOf3.slots) := by
  refine MetFree.of_bodySF (plainFor_of_name pn_com_example_reconcile_reconcile_simulator_WebhookAnswer) hisR ?_
  intro p e s m args below meth c s₁ Bd hml0 hP hK
  obtain ⟨rfl, hZ, hh⟩ := hP
  have hx := Bd.exec
  have hby := Bd.bytes
  have hml : c.maxLocals = 1 := hml0
  have hown : s.vm.findClass "com/example/reconcile/reconcile/simulator/WebhookAnswer" = some m.cls := findClass_of_methodNamed Bd.named
  have hnm := (name_of_methodNamed Bd.named Bd.method).1
  have X0 : Stand p l e rm_rmOf3 s m #[(.ref b)] below meth c s₁ [] 0 0 := Stand.of_body Bd
  have e0 : s₁.heap = h0 := by rw [← hh, Bd.state]; rfl
  have N0 := Fr.nil n0
  refine Go.step (p := p) (e := e) (below := below) (G := fun o U' => ∃ v L, o = .returned v ∧ Q_rmOf3 Z b pv w_NONE w_RECEIVED w_REFUSED h0 n0 v U'.heap L ∧ FrameEnd s o U' L rm_rmOf3.cells rm_rmOf3.slots) (S' := s₁.setTop (mkF m 0 #[rv b] [])) (fun t k => castTop (ef_rmOf3 m b) k) ?_
  refine Go.step (S' := s₁.setTop (mkF m 9 #[rv b] [(.ref b)])) (fun t k => ?_) ?_
  · show Steps p.tables e below (s₁.setTop (mkF m 0 #[rv b] [])) _
    refine XS.aloadN X0.here hx rfl (hb hby d2_0) rfl rfl ?_
    show Steps p.tables e below (s₁.setTop (mkF m 1 #[rv b] [(.ref b)])) _
    refine XS.ifnonnullYes X0.here hx rfl (pc0 := 1) (pc' := 8) rfl (hb hby d2_1) rfl (by decide) (by decide) ?_
    show Steps p.tables e below (s₁.setTop (mkF m 8 #[rv b] [])) _
    refine XS.aloadN X0.here hx rfl (hb hby d2_8) rfl rfl ?_
    exact k
  obtain ⟨cq1, kq1, q1a, q1b, q1c⟩ := isOf hZ e0 E_b
  obtain ⟨_, _, ⟨T1, L1, k1, n1⟩, -, X1, ⟨Lc1, hQ1, l1, y1, z1⟩, st1⟩ := X0.virtualBack hx (y := (⟨"java/lang/Integer", "intValue", "()I"⟩ : MethodName)) (z := (⟨"java/lang/Integer", "intValue", "()I"⟩ : MethodName)) hown (mvT hZ (own_w hw 11 rfl)) (mvT hZ (own_w hw 12 rfl)) (notFace_of_selects (args := #[]) (mvT hZ (own_w hw 14 rfl))) (mvT hZ (own_w hw 14 rfl)) (mvT hZ (own_w hw 13 rfl)) (by decide) (backOf (W := 0) (rmIV l Z a0 hw [] b pv h0 n0 O F_value_b) hZ (own_w hw 15 rfl) (own_w hw 2 rfl) (by decide) (by decide)) q1a q1c (g := (mkF m 9 #[rv b] [(.ref b)])) rfl (by rw [hml]; rfl) (Steps.refl _) (argsL := []) (rest := []) (lenOf pd__28_29I rfl) rfl (by show 2 * 0 + _ ≤ _; exact Nat.le_of_eq rfl) (hb hby d2_9) (fun _ _ => ⟨rfl, e0, (by decide : 0 + 0 ≤ _), (by decide : 0 + 0 ≤ _)⟩)
  dsimp only [Pt.U, Pt.locs, Pt.cells, Pt.slots] at X1 l1 y1 z1 st1 hQ1
  subst l1 y1 z1
  obtain ⟨rfl, Nq1, e1⟩ := hQ1
  have N1 := Fr.app N0 Nq1
  refine Go.step (fun t k => st1.trans k) ?_
  show Go p e below _ (T1.setTop (mkF m 12 #[rv b] [(.int pv)]))
  refine Go.step (S' := T1.setTop (mkF m 15 #[rv b] [(.int (pv / (100 : Int32)))])) (fun t k => ?_) ?_
  · show Steps p.tables e below (T1.setTop (mkF m 12 #[rv b] [(.int pv)])) _
    refine XS.bipush X1.here hx rfl (hb hby d2_12) ?_
    show Steps p.tables e below (T1.setTop (mkF m 14 #[rv b] [(.int (100 : Int32)), (.int pv)])) _
    refine XS.idiv X1.here hx rfl (hb hby d2_14) rfl (by decide) ?_
    exact k
  rw [own_q4 hr2 hr3]
  refine Go.step (S' := T1.setTop (mkF m 46 #[rv b] [])) (fun t k => X1.lookupswitchHit hx (g := (mkF m 15 #[rv b] [(.int (4 : Int32))])) rfl rfl (hb hby d2_15) (by decide) (a := 4) (off := 31) (by decide) (show (0 : Int) ≤ ((15 : Nat) : Int) + 31 from by decide) t k) ?_
  obtain ⟨T2, X2, e2, st2⟩ := getS2 X1 hx hZ hown (host := "") (Or.inl (own_w hw 39 rfl)) Via.refl e1 (S_REFUSED.ext O.2) (g := (mkF m 46 #[rv b] [])) rfl (hb hby d2_46)
  refine Go.step st2 ?_
  show Go p e below _ (T2.setTop (mkF m 49 #[rv b] [(.ref w_REFUSED)]))
  refine Go.step (S' := T2.setTop (mkF m 55 #[rv b] [(.ref w_REFUSED)])) (fun t k => ?_) ?_
  · show Steps p.tables e below (T2.setTop (mkF m 49 #[rv b] [(.ref w_REFUSED)])) _
    refine XS.goto X2.here hx rfl (pc0 := 49) (pc' := 55) rfl (hb hby d2_49) (by decide) (by decide) ?_
    exact k
  obtain ⟨fs, hr, hrun, hended, hW, hsame⟩ := X2.leave (v := some (.ref w_REFUSED)) (fun h => by rw [Bd.returns] at h; cases h)
  refine Go.fin (S' := T2.setFrames fs) ?_ hrun hended ⟨_, _, rfl, ?_, ⟨_, rfl⟩, hW, hsame.mono (by decide) (by decide)⟩
  · exact retOut X2 hx Bd.returns rfl (Or.inr (Or.inr (Or.inr (Or.inr ⟨rfl, rfl, rfl⟩)))) (hb hby d2_55) hr
  · show Q_rmOf3 Z b pv w_NONE w_RECEIVED w_REFUSED h0 n0 (some (.ref w_REFUSED)) T2.heap _
    rw [e2]
    exact ⟨rfl, N1, rfl⟩
theorem ef_rmOf4 (m : MethodId) (b : Addr) : entryFrame m #[(.ref b)] 1 = mkF m 0 #[.val (.ref b)] [] := by first | (simp [entryFrame, mkF, argsToLocals, Value.category]; done) | rfl
abbrev rm_rmOf4 : Room := ({ frames := 1, cells := 0, slots := 0, locals := 12 } : Room)
def Q_rmOf4 (Z : State) (b : Addr) (pv : Int32) (w_NONE : Addr) (w_RECEIVED : Addr) (w_REFUSED : Addr) (h0 : Heap) (n0 : Nat) (v : Option Value) (h : Heap) (L : List Loc) : Prop := (v = some (.ref w_NONE)) ∧ (Fr n0 L) ∧ (h = h0)
set_option maxRecDepth 65536 in
set_option maxHeartbeats 40000000 in
theorem rmOf4 (l : Launch) (Z : State) (a0 : Array Value) (hw : ∀ d ∈ tables_1, d.before a0 Z = true) (ws : List Jvm.Cond) (b : Addr) (pv : Int32) (w_NONE : Addr) (w_RECEIVED : Addr) (w_REFUSED : Addr) (h0 : Heap) (n0 : Nat) (O : Old Z n0 h0) (S_NONE : Sta Z Z.heap "com/example/reconcile/reconcile/simulator/WebhookAnswer" "NONE" "Lcom/example/reconcile/reconcile/simulator/WebhookAnswer;" (.ref w_NONE)) (S_RECEIVED : Sta Z Z.heap "com/example/reconcile/reconcile/simulator/WebhookAnswer" "RECEIVED" "Lcom/example/reconcile/reconcile/simulator/WebhookAnswer;" (.ref w_RECEIVED)) (S_REFUSED : Sta Z Z.heap "com/example/reconcile/reconcile/simulator/WebhookAnswer" "REFUSED" "Lcom/example/reconcile/reconcile/simulator/WebhookAnswer;" (.ref w_REFUSED)) (E_b : Exa Z h0 b "java/lang/Integer") (F_value_b : Fld Z h0 b "java/lang/Integer" "value" "I" (.int pv)) (hr0 : ¬ (pv < (200 : Int32))) (hr1 : (299 : Int32) < pv) (hr2 : ¬ (pv < (400 : Int32))) (hr3 : (499 : Int32) < pv) :
    MetFree l (⟨"com/example/reconcile/reconcile/simulator/WebhookAnswer", "of", "(Ljava/lang/Integer;)Lcom/example/reconcile/reconcile/simulator/WebhookAnswer;"⟩ : MethodName) (head1 (Jvm.Cond.code (⟨"com/example/reconcile/reconcile/simulator/WebhookAnswer", "of", "(Ljava/lang/Integer;)Lcom/example/reconcile/reconcile/simulator/WebhookAnswer;"⟩ : MethodName) prog_9_method_4_code 1 (some (.object "com/example/reconcile/reconcile/simulator/WebhookAnswer")) :: ws) rm_rmOf4) (fun A_ U => A_ = #[(.ref b)] ∧ Z.Warmed39 U.vm ∧ U.heap = h0) (fun _ _ _ _ _ => True) (fun _ U o U' => ∃ v L, o = .returned v ∧ Q_rmOf4 Z b pv w_NONE w_RECEIVED w_REFUSED h0 n0 v U'.heap L ∧ FrameEnd U o U' L rm_rmOf4.cells rm_rmOf4.slots) := by
  refine MetFree.of_bodySF (plainFor_of_name pn_com_example_reconcile_reconcile_simulator_WebhookAnswer) hisR ?_
  intro p e s m args below meth c s₁ Bd hml0 hP hK
  obtain ⟨rfl, hZ, hh⟩ := hP
  have hx := Bd.exec
  have hby := Bd.bytes
  have hml : c.maxLocals = 1 := hml0
  have hown : s.vm.findClass "com/example/reconcile/reconcile/simulator/WebhookAnswer" = some m.cls := findClass_of_methodNamed Bd.named
  have hnm := (name_of_methodNamed Bd.named Bd.method).1
  have X0 : Stand p l e rm_rmOf4 s m #[(.ref b)] below meth c s₁ [] 0 0 := Stand.of_body Bd
  have e0 : s₁.heap = h0 := by rw [← hh, Bd.state]; rfl
  have N0 := Fr.nil n0
  refine Go.step (p := p) (e := e) (below := below) (G := fun o U' => ∃ v L, o = .returned v ∧ Q_rmOf4 Z b pv w_NONE w_RECEIVED w_REFUSED h0 n0 v U'.heap L ∧ FrameEnd s o U' L rm_rmOf4.cells rm_rmOf4.slots) (S' := s₁.setTop (mkF m 0 #[rv b] [])) (fun t k => castTop (ef_rmOf4 m b) k) ?_
  refine Go.step (S' := s₁.setTop (mkF m 9 #[rv b] [(.ref b)])) (fun t k => ?_) ?_
  · show Steps p.tables e below (s₁.setTop (mkF m 0 #[rv b] [])) _
    refine XS.aloadN X0.here hx rfl (hb hby d2_0) rfl rfl ?_
    show Steps p.tables e below (s₁.setTop (mkF m 1 #[rv b] [(.ref b)])) _
    refine XS.ifnonnullYes X0.here hx rfl (pc0 := 1) (pc' := 8) rfl (hb hby d2_1) rfl (by decide) (by decide) ?_
    show Steps p.tables e below (s₁.setTop (mkF m 8 #[rv b] [])) _
    refine XS.aloadN X0.here hx rfl (hb hby d2_8) rfl rfl ?_
    exact k
  obtain ⟨cq1, kq1, q1a, q1b, q1c⟩ := isOf hZ e0 E_b
  obtain ⟨_, _, ⟨T1, L1, k1, n1⟩, -, X1, ⟨Lc1, hQ1, l1, y1, z1⟩, st1⟩ := X0.virtualBack hx (y := (⟨"java/lang/Integer", "intValue", "()I"⟩ : MethodName)) (z := (⟨"java/lang/Integer", "intValue", "()I"⟩ : MethodName)) hown (mvT hZ (own_w hw 11 rfl)) (mvT hZ (own_w hw 12 rfl)) (notFace_of_selects (args := #[]) (mvT hZ (own_w hw 14 rfl))) (mvT hZ (own_w hw 14 rfl)) (mvT hZ (own_w hw 13 rfl)) (by decide) (backOf (W := 0) (rmIV l Z a0 hw [] b pv h0 n0 O F_value_b) hZ (own_w hw 15 rfl) (own_w hw 2 rfl) (by decide) (by decide)) q1a q1c (g := (mkF m 9 #[rv b] [(.ref b)])) rfl (by rw [hml]; rfl) (Steps.refl _) (argsL := []) (rest := []) (lenOf pd__28_29I rfl) rfl (by show 2 * 0 + _ ≤ _; exact Nat.le_of_eq rfl) (hb hby d2_9) (fun _ _ => ⟨rfl, e0, (by decide : 0 + 0 ≤ _), (by decide : 0 + 0 ≤ _)⟩)
  dsimp only [Pt.U, Pt.locs, Pt.cells, Pt.slots] at X1 l1 y1 z1 st1 hQ1
  subst l1 y1 z1
  obtain ⟨rfl, Nq1, e1⟩ := hQ1
  have N1 := Fr.app N0 Nq1
  refine Go.step (fun t k => st1.trans k) ?_
  show Go p e below _ (T1.setTop (mkF m 12 #[rv b] [(.int pv)]))
  refine Go.step (S' := T1.setTop (mkF m 15 #[rv b] [(.int (pv / (100 : Int32)))])) (fun t k => ?_) ?_
  · show Steps p.tables e below (T1.setTop (mkF m 12 #[rv b] [(.int pv)])) _
    refine XS.bipush X1.here hx rfl (hb hby d2_12) ?_
    show Steps p.tables e below (T1.setTop (mkF m 14 #[rv b] [(.int (100 : Int32)), (.int pv)])) _
    refine XS.idiv X1.here hx rfl (hb hby d2_14) rfl (by decide) ?_
    exact k
  have hq := own_qn (p := pv) (Or.inr (Or.inr hr3))
  refine Go.step (S' := T1.setTop (mkF m 52 #[rv b] [])) (fun t k => X1.lookupswitchMiss hx (g := (mkF m 15 #[rv b] [(.int (pv / (100 : Int32)))])) rfl rfl (hb hby d2_15) (by decide) (find_miss (by intro q hq'; simp at hq'; rcases hq' with rfl | rfl; exact Ne.symm hq.1; exact Ne.symm hq.2)) (show (0 : Int) ≤ ((15 : Nat) : Int) + 37 from by decide) t k) ?_
  obtain ⟨T2, X2, e2, st2⟩ := getS2 X1 hx hZ hown (host := "") (Or.inl (own_w hw 18 rfl)) Via.refl e1 (S_NONE.ext O.2) (g := (mkF m 52 #[rv b] [])) rfl (hb hby d2_52)
  refine Go.step st2 ?_
  show Go p e below _ (T2.setTop (mkF m 55 #[rv b] [(.ref w_NONE)]))
  obtain ⟨fs, hr, hrun, hended, hW, hsame⟩ := X2.leave (v := some (.ref w_NONE)) (fun h => by rw [Bd.returns] at h; cases h)
  refine Go.fin (S' := T2.setFrames fs) ?_ hrun hended ⟨_, _, rfl, ?_, ⟨_, rfl⟩, hW, hsame.mono (by decide) (by decide)⟩
  · exact retOut X2 hx Bd.returns rfl (Or.inr (Or.inr (Or.inr (Or.inr ⟨rfl, rfl, rfl⟩)))) (hb hby d2_55) hr
  · show Q_rmOf4 Z b pv w_NONE w_RECEIVED w_REFUSED h0 n0 (some (.ref w_NONE)) T2.heap _
    rw [e2]
    exact ⟨rfl, N1, rfl⟩
theorem pn_com_example_reconcile_reconcile_simulator_WebhookAnswerOfPinLaw : plainName "com/example/reconcile/reconcile/simulator/WebhookAnswerOfPinLaw" = true := by first | (simp [plainName, overriddenIn]; done) | decide +kernel
theorem pd__28Ljava_2flang_2fInteger_3b_29Lcom_2fexample_2freconcile_2freconcile_2fsimulator_2fWebhookAnswer_3b : parseMethodDescriptor "(Ljava/lang/Integer;)Lcom/example/reconcile/reconcile/simulator/WebhookAnswer;" = some ⟨[(.object "java/lang/Integer")], some (.object "com/example/reconcile/reconcile/simulator/WebhookAnswer")⟩ := by decide +kernel
theorem pd__28I_29Ljava_2flang_2fInteger_3b : parseMethodDescriptor "(I)Ljava/lang/Integer;" = some ⟨[.int], some (.object "java/lang/Integer")⟩ := by decide +kernel
theorem ef_rm0 (m : MethodId) (p0 : Int32) (p1 : Int32) : entryFrame m #[(.int p0), (.int p1)] maxLocals = mkF m 0 #[.val (.int p0), .val (.int p1), .unset, .unset, .unset, .unset, .unset] [] := by first | (simp [entryFrame, mkF, argsToLocals, Value.category, maxLocals]; done) | rfl
def Q_rm0 (Z : State) (p0 : Int32) (p1 : Int32) (w_NONE : Addr) (w_RECEIVED : Addr) (w_REFUSED : Addr) (w_cache : Addr) (cl : Cell) (h0 : Heap) (n0 : Nat) (v : Option Value) (h : Heap) (L : List Loc) : Prop := (v = some (.int (1 : Int32))) ∧ (Fr n0 L) ∧ (Keep h0 h [])
set_option maxRecDepth 65536 in
set_option maxHeartbeats 40000000 in
theorem rm0 (l : Launch) (Z : State) (a0 : Array Value) (hw : ∀ d ∈ tables_1, d.before a0 Z = true) (ws : List Jvm.Cond) (p0 : Int32) (p1 : Int32) (w_NONE : Addr) (w_RECEIVED : Addr) (w_REFUSED : Addr) (w_cache : Addr) (cl : Cell) (h0 : Heap) (n0 : Nat) (O : Old Z n0 h0) (S_NONE : Sta Z Z.heap "com/example/reconcile/reconcile/simulator/WebhookAnswer" "NONE" "Lcom/example/reconcile/reconcile/simulator/WebhookAnswer;" (.ref w_NONE)) (S_RECEIVED : Sta Z Z.heap "com/example/reconcile/reconcile/simulator/WebhookAnswer" "RECEIVED" "Lcom/example/reconcile/reconcile/simulator/WebhookAnswer;" (.ref w_RECEIVED)) (S_REFUSED : Sta Z Z.heap "com/example/reconcile/reconcile/simulator/WebhookAnswer" "REFUSED" "Lcom/example/reconcile/reconcile/simulator/WebhookAnswer;" (.ref w_REFUSED)) (S_high : Sta Z Z.heap "java/lang/Integer$IntegerCache" "high" "I" (.int (127 : Int32))) (S_cache : Sta Z Z.heap "java/lang/Integer$IntegerCache" "cache" "[Ljava/lang/Integer;" (.ref w_cache)) (CA : own_Cache Z w_cache cl) :
    MetFree l x (head1 (Jvm.Cond.code x code maxLocals ret :: ws) room_1) (fun A_ U => A_ = #[(.int p0), (.int p1)] ∧ Z.Warmed39 U.vm ∧ U.heap = h0) (fun _ _ _ _ _ => True) (fun _ U o U' => ∃ v L, o = .returned v ∧ Q_rm0 Z p0 p1 w_NONE w_RECEIVED w_REFUSED w_cache cl h0 n0 v U'.heap L ∧ FrameEnd U o U' L room_1.cells room_1.slots) := by
  refine MetFree.of_bodySF (plainFor_of_name pn_com_example_reconcile_reconcile_simulator_WebhookAnswerOfPinLaw) hisR ?_
  intro p e s m args below meth c s₁ Bd hml0 hP hK
  obtain ⟨rfl, hZ, hh⟩ := hP
  have hx := Bd.exec
  have hby := Bd.bytes
  have hml : c.maxLocals = 7 := hml0
  have hown : s.vm.findClass "com/example/reconcile/reconcile/simulator/WebhookAnswerOfPinLaw" = some m.cls := findClass_of_methodNamed Bd.named
  have hnm := (name_of_methodNamed Bd.named Bd.method).1
  have X0 : Stand p l e room_1 s m #[(.int p0), (.int p1)] below meth c s₁ [] 0 0 := Stand.of_body Bd
  have e0 : s₁.heap = h0 := by rw [← hh, Bd.state]; rfl
  have N0 := Fr.nil n0
  have K := Keep.refl h0 []
  refine Go.step (p := p) (e := e) (below := below) (G := fun o U' => ∃ v L, o = .returned v ∧ Q_rm0 Z p0 p1 w_NONE w_RECEIVED w_REFUSED w_cache cl h0 n0 v U'.heap L ∧ FrameEnd s o U' L room_1.cells room_1.slots) (S' := s₁.setTop (mkF m 0 #[iv p0, iv p1, u_, u_, u_, u_, u_] [])) (fun t k => castTop (ef_rm0 m p0 p1) k) ?_
  refine Go.step (S' := s₁.setTop (mkF m 5 #[iv p0, iv p1, iv (p1 &&& (3 : Int32)), u_, u_, u_, u_] [(.int (p1 &&& (3 : Int32)))])) (fun t k => ?_) ?_
  · show Steps p.tables e below (s₁.setTop (mkF m 0 #[iv p0, iv p1, u_, u_, u_, u_, u_] [])) _
    refine XS.iloadN X0.here hx rfl (hb hby at_0) rfl ?_
    show Steps p.tables e below (s₁.setTop (mkF m 1 #[iv p0, iv p1, u_, u_, u_, u_, u_] [(.int p1)])) _
    refine XS.iconst X0.here hx rfl (hb hby at_1) ?_
    show Steps p.tables e below (s₁.setTop (mkF m 2 #[iv p0, iv p1, u_, u_, u_, u_, u_] [(.int (3 : Int32)), (.int p1)])) _
    refine XS.iand X0.here hx rfl (hb hby at_2) rfl ?_
    show Steps p.tables e below (s₁.setTop (mkF m 3 #[iv p0, iv p1, u_, u_, u_, u_, u_] [(.int (p1 &&& (3 : Int32)))])) _
    refine XS.istoreN X0.here hx rfl (hb hby at_3) rfl (l' := #[iv p0, iv p1, iv (p1 &&& (3 : Int32)), u_, u_, u_, u_]) rfl ?_
    show Steps p.tables e below (s₁.setTop (mkF m 4 #[iv p0, iv p1, iv (p1 &&& (3 : Int32)), u_, u_, u_, u_] [])) _
    refine XS.iloadN X0.here hx rfl (hb hby at_4) rfl ?_
    exact k
  by_cases hc5 : (p1 &&& (3 : Int32)) = (0 : Int32)
  · skip
    refine Go.step (S' := s₁.setTop (mkF m 47 #[iv p0, iv p1, iv (p1 &&& (3 : Int32)), .val .null, iv (0 : Int32), u_, u_] [.null])) (fun t k => ?_) ?_
    · show Steps p.tables e below (s₁.setTop (mkF m 5 #[iv p0, iv p1, iv (p1 &&& (3 : Int32)), u_, u_, u_, u_] [(.int (p1 &&& (3 : Int32)))])) _
      refine XS.ifNo X0.here hx rfl (hb hby at_5) rfl ((if0 _ _).trans (teq (hc5 : (p1 &&& (3 : Int32)) = (0 : Int32))).2) ?_
      show Steps p.tables e below (s₁.setTop (mkF m 8 #[iv p0, iv p1, iv (p1 &&& (3 : Int32)), u_, u_, u_, u_] [])) _
      refine XS.aconstNull X0.here hx rfl (hb hby at_8) ?_
      show Steps p.tables e below (s₁.setTop (mkF m 9 #[iv p0, iv p1, iv (p1 &&& (3 : Int32)), u_, u_, u_, u_] [.null])) _
      refine XS.astoreN X0.here hx rfl (hb hby at_9) rfl rfl (l' := #[iv p0, iv p1, iv (p1 &&& (3 : Int32)), .val .null, u_, u_, u_]) rfl ?_
      show Steps p.tables e below (s₁.setTop (mkF m 10 #[iv p0, iv p1, iv (p1 &&& (3 : Int32)), .val .null, u_, u_, u_] [])) _
      refine XS.iconst X0.here hx rfl (hb hby at_10) ?_
      show Steps p.tables e below (s₁.setTop (mkF m 11 #[iv p0, iv p1, iv (p1 &&& (3 : Int32)), .val .null, u_, u_, u_] [(.int (0 : Int32))])) _
      refine XS.istore X0.here hx rfl (hb hby at_11) rfl (l' := #[iv p0, iv p1, iv (p1 &&& (3 : Int32)), .val .null, iv (0 : Int32), u_, u_]) rfl ?_
      show Steps p.tables e below (s₁.setTop (mkF m 13 #[iv p0, iv p1, iv (p1 &&& (3 : Int32)), .val .null, iv (0 : Int32), u_, u_] [])) _
      refine XS.goto X0.here hx rfl (pc0 := 13) (pc' := 46) rfl (hb hby at_13) (by decide) (by decide) ?_
      show Steps p.tables e below (s₁.setTop (mkF m 46 #[iv p0, iv p1, iv (p1 &&& (3 : Int32)), .val .null, iv (0 : Int32), u_, u_] [])) _
      refine XS.aloadN X0.here hx rfl (hb hby at_46) rfl rfl ?_
      exact k
    obtain ⟨_, _, ⟨T1, L1, k1, n1⟩, -, X1, ⟨Lc1, hQ1, l1, y1, z1⟩, st1⟩ := Jvm.LawKit.callS X0 hx (y := (⟨"com/example/reconcile/reconcile/simulator/WebhookAnswer", "of", "(Ljava/lang/Integer;)Lcom/example/reconcile/reconcile/simulator/WebhookAnswer;"⟩ : MethodName)) hown (mvT hZ (own_w hw 7 rfl)) (mvT hZ (own_w hw 8 rfl)) (mvT hZ (own_w hw 9 rfl)) (mvT hZ (own_w hw 10 rfl)) (by decide) (backOf (W := 0) (rmOfN l Z a0 hw [] w_NONE h0 n0 O S_NONE) hZ (own_w hw 10 rfl) (own_w hw 9 rfl) (by decide) (by decide)) (g := (mkF m 47 #[iv p0, iv p1, iv (p1 &&& (3 : Int32)), .val .null, iv (0 : Int32), u_, u_] [.null])) rfl (by rw [hml]; rfl) (argsL := [.null]) (rest := []) (lenOf pd__28Ljava_2flang_2fInteger_3b_29Lcom_2fexample_2freconcile_2freconcile_2fsimulator_2fWebhookAnswer_3b rfl) rfl (by show 2 * 0 + _ ≤ _; exact Nat.le_of_eq rfl) (hb hby at_47) (fun _ _ => ⟨rfl, e0, (by decide : 0 + 0 ≤ _), (by decide : 0 + 0 ≤ _)⟩)
    dsimp only [Pt.U, Pt.locs, Pt.cells, Pt.slots] at X1 l1 y1 z1 st1 hQ1
    subst l1 y1 z1
    obtain ⟨rfl, Nq1, e1⟩ := hQ1
    have N1 := Fr.app N0 Nq1
    refine Go.step st1 ?_
    show Go p e below _ (T1.setTop (mkF m 50 #[iv p0, iv p1, iv (p1 &&& (3 : Int32)), .val .null, iv (0 : Int32), u_, u_] [(.ref w_NONE)]))
    refine Go.step (S' := T1.setTop (mkF m 56 #[iv p0, iv p1, iv (p1 &&& (3 : Int32)), .val .null, iv (0 : Int32), rv w_NONE, u_] [])) (fun t k => ?_) ?_
    · show Steps p.tables e below (T1.setTop (mkF m 50 #[iv p0, iv p1, iv (p1 &&& (3 : Int32)), .val .null, iv (0 : Int32), u_, u_] [(.ref w_NONE)])) _
      refine XS.astore X1.here hx rfl (hb hby at_50) rfl rfl (l' := #[iv p0, iv p1, iv (p1 &&& (3 : Int32)), .val .null, iv (0 : Int32), rv w_NONE, u_]) rfl ?_
      show Steps p.tables e below (T1.setTop (mkF m 52 #[iv p0, iv p1, iv (p1 &&& (3 : Int32)), .val .null, iv (0 : Int32), rv w_NONE, u_] [])) _
      refine XS.aloadN X1.here hx rfl (hb hby at_52) rfl rfl ?_
      show Steps p.tables e below (T1.setTop (mkF m 53 #[iv p0, iv p1, iv (p1 &&& (3 : Int32)), .val .null, iv (0 : Int32), rv w_NONE, u_] [.null])) _
      refine XS.ifnonnullNo X1.here hx rfl (hb hby at_53) rfl ?_
      exact k
    obtain ⟨T2, X2, e2, st2⟩ := getS2 X1 hx hZ hown (host := "") (Or.inl (own_w hw 20 rfl)) Via.refl e1 (S_NONE.ext O.2) (g := (mkF m 56 #[iv p0, iv p1, iv (p1 &&& (3 : Int32)), .val .null, iv (0 : Int32), rv w_NONE, u_] [])) rfl (hb hby at_56)
    refine Go.step st2 ?_
    show Go p e below _ (T2.setTop (mkF m 59 #[iv p0, iv p1, iv (p1 &&& (3 : Int32)), .val .null, iv (0 : Int32), rv w_NONE, u_] [(.ref w_NONE)]))
    refine Go.step (S' := T2.setTop (mkF m 129 #[iv p0, iv p1, iv (p1 &&& (3 : Int32)), .val .null, iv (0 : Int32), rv w_NONE, rv w_NONE] [(.int (1 : Int32))])) (fun t k => ?_) ?_
    · show Steps p.tables e below (T2.setTop (mkF m 59 #[iv p0, iv p1, iv (p1 &&& (3 : Int32)), .val .null, iv (0 : Int32), rv w_NONE, u_] [(.ref w_NONE)])) _
      refine XS.astore X2.here hx rfl (hb hby at_59) rfl rfl (l' := #[iv p0, iv p1, iv (p1 &&& (3 : Int32)), .val .null, iv (0 : Int32), rv w_NONE, rv w_NONE]) rfl ?_
      show Steps p.tables e below (T2.setTop (mkF m 61 #[iv p0, iv p1, iv (p1 &&& (3 : Int32)), .val .null, iv (0 : Int32), rv w_NONE, rv w_NONE] [])) _
      refine XS.goto X2.here hx rfl (pc0 := 61) (pc' := 117) rfl (hb hby at_61) (by decide) (by decide) ?_
      show Steps p.tables e below (T2.setTop (mkF m 117 #[iv p0, iv p1, iv (p1 &&& (3 : Int32)), .val .null, iv (0 : Int32), rv w_NONE, rv w_NONE] [])) _
      refine XS.aload X2.here hx rfl (hb hby at_117) rfl rfl ?_
      show Steps p.tables e below (T2.setTop (mkF m 119 #[iv p0, iv p1, iv (p1 &&& (3 : Int32)), .val .null, iv (0 : Int32), rv w_NONE, rv w_NONE] [(.ref w_NONE)])) _
      refine XS.aload X2.here hx rfl (hb hby at_119) rfl rfl ?_
      show Steps p.tables e below (T2.setTop (mkF m 121 #[iv p0, iv p1, iv (p1 &&& (3 : Int32)), .val .null, iv (0 : Int32), rv w_NONE, rv w_NONE] [(.ref w_NONE), (.ref w_NONE)])) _
      refine Jvm.RoadKit.acmp (g := (mkF m 121 #[iv p0, iv p1, iv (p1 &&& (3 : Int32)), .val .null, iv (0 : Int32), rv w_NONE, rv w_NONE] [(.ref w_NONE), (.ref w_NONE)])) X2 hx rfl rfl rfl (pc0 := 121) (pc' := 124) (same := true) rfl (hb hby at_121) rfl (decide_eq_true rfl) (by decide) (by decide) ?_
      show Steps p.tables e below (T2.setTop (mkF m 124 #[iv p0, iv p1, iv (p1 &&& (3 : Int32)), .val .null, iv (0 : Int32), rv w_NONE, rv w_NONE] [])) _
      refine XS.iconst X2.here hx rfl (hb hby at_124) ?_
      show Steps p.tables e below (T2.setTop (mkF m 125 #[iv p0, iv p1, iv (p1 &&& (3 : Int32)), .val .null, iv (0 : Int32), rv w_NONE, rv w_NONE] [(.int (1 : Int32))])) _
      refine XS.goto X2.here hx rfl (pc0 := 125) (pc' := 129) rfl (hb hby at_125) (by decide) (by decide) ?_
      exact k
    obtain ⟨fs, hr, hrun, hended, hW, hsame⟩ := X2.leave (v := some (.int (1 : Int32))) (fun h => by rw [Bd.returns] at h; cases h)
    refine Go.fin (S' := T2.setFrames fs) ?_ hrun hended ⟨_, _, rfl, ?_, ⟨_, rfl⟩, hW, hsame.mono (by decide) (by decide)⟩
    · exact retOut X2 hx Bd.returns (by decide) (Or.inl ⟨rfl, Or.inr (Or.inl rfl), _, rfl⟩) (hb hby at_129) hr
    · show Q_rm0 Z p0 p1 w_NONE w_RECEIVED w_REFUSED w_cache cl h0 n0 (some (.int (1 : Int32))) T2.heap _
      rw [e2]
      exact ⟨rfl, N1, K⟩
  · skip
    refine Go.step (S' := s₁.setTop (mkF m 18 #[iv p0, iv p1, iv (p1 &&& (3 : Int32)), u_, u_, u_, u_] [(.int (1 : Int32)), (.int (p1 &&& (3 : Int32)))])) (fun t k => ?_) ?_
    · show Steps p.tables e below (s₁.setTop (mkF m 5 #[iv p0, iv p1, iv (p1 &&& (3 : Int32)), u_, u_, u_, u_] [(.int (p1 &&& (3 : Int32)))])) _
      refine XS.ifYes X0.here hx rfl (pc0 := 5) (pc' := 16) rfl (hb hby at_5) rfl ((if0 _ _).trans (feq (hc5 : ¬ ((p1 &&& (3 : Int32)) = (0 : Int32)))).2) (by decide) (by decide) ?_
      show Steps p.tables e below (s₁.setTop (mkF m 16 #[iv p0, iv p1, iv (p1 &&& (3 : Int32)), u_, u_, u_, u_] [])) _
      refine XS.iloadN X0.here hx rfl (hb hby at_16) rfl ?_
      show Steps p.tables e below (s₁.setTop (mkF m 17 #[iv p0, iv p1, iv (p1 &&& (3 : Int32)), u_, u_, u_, u_] [(.int (p1 &&& (3 : Int32)))])) _
      refine XS.iconst X0.here hx rfl (hb hby at_17) ?_
      exact k
    by_cases hc18 : (p1 &&& (3 : Int32)) = (1 : Int32)
    · skip
      refine Go.step (S' := s₁.setTop (mkF m 26 #[iv p0, iv p1, iv (p1 &&& (3 : Int32)), u_, iv p0, u_, u_] [(.int p0)])) (fun t k => ?_) ?_
      · show Steps p.tables e below (s₁.setTop (mkF m 18 #[iv p0, iv p1, iv (p1 &&& (3 : Int32)), u_, u_, u_, u_] [(.int (1 : Int32)), (.int (p1 &&& (3 : Int32)))])) _
        refine XS.icmpNo X0.here hx rfl (hb hby at_18) rfl (teq (hc18 : (p1 &&& (3 : Int32)) = (1 : Int32))).2 ?_
        show Steps p.tables e below (s₁.setTop (mkF m 21 #[iv p0, iv p1, iv (p1 &&& (3 : Int32)), u_, u_, u_, u_] [])) _
        refine XS.iloadN X0.here hx rfl (hb hby at_21) rfl ?_
        show Steps p.tables e below (s₁.setTop (mkF m 22 #[iv p0, iv p1, iv (p1 &&& (3 : Int32)), u_, u_, u_, u_] [(.int p0)])) _
        refine XS.istore X0.here hx rfl (hb hby at_22) rfl (l' := #[iv p0, iv p1, iv (p1 &&& (3 : Int32)), u_, iv p0, u_, u_]) rfl ?_
        show Steps p.tables e below (s₁.setTop (mkF m 24 #[iv p0, iv p1, iv (p1 &&& (3 : Int32)), u_, iv p0, u_, u_] [])) _
        refine XS.iload X0.here hx rfl (hb hby at_24) rfl ?_
        exact k
      obtain ⟨_, _, ⟨T3, L3, k3, n3⟩, -, X3, ⟨Lc3, hQ3, l3, y3, z3⟩, st3⟩ := Jvm.LawKit.callS X0 hx (y := (⟨"java/lang/Integer", "valueOf", "(I)Ljava/lang/Integer;"⟩ : MethodName)) hown (mvT hZ (own_w hw 0 rfl)) (mvT hZ (own_w hw 1 rfl)) (mvT hZ (own_w hw 2 rfl)) (mvT hZ (own_w hw 3 rfl)) (by decide) (backOf (W := 0) (rmVO l Z a0 hw [] p0 w_cache cl h0 n0 O S_high S_cache (by assumption)) hZ (own_w hw 3 rfl) (own_w hw 2 rfl) (by decide) (by decide)) (g := (mkF m 26 #[iv p0, iv p1, iv (p1 &&& (3 : Int32)), u_, iv p0, u_, u_] [(.int p0)])) rfl (by rw [hml]; rfl) (argsL := [(.int p0)]) (rest := []) (lenOf pd__28I_29Ljava_2flang_2fInteger_3b rfl) rfl (by show 2 * 0 + _ ≤ _; exact Nat.le_of_eq rfl) (hb hby at_26) (fun _ _ => ⟨rfl, e0, (by decide : 0 + 1 ≤ _), (by decide : 0 + 1 ≤ _)⟩)
      dsimp only [Pt.U, Pt.locs, Pt.cells, Pt.slots] at X3 l3 y3 z3 st3 hQ3
      subst l3 y3 z3
      obtain ⟨b_3, rfl, Nq3, K3, P3_E, P3_F⟩ := hQ3
      have N3 := Fr.app N0 Nq3
      have O := O.keep K3 all0
      have K := K.trans K3 all0
      have E_3 := P3_E
      have F_3 := P3_F
      refine Go.step st3 ?_
      show Go p e below _ (T3.setTop (mkF m 29 #[iv p0, iv p1, iv (p1 &&& (3 : Int32)), u_, iv p0, u_, u_] [(.ref b_3)]))
      refine Go.step (S' := T3.setTop (mkF m 47 #[iv p0, iv p1, iv (p1 &&& (3 : Int32)), rv b_3, iv p0, u_, u_] [(.ref b_3)])) (fun t k => ?_) ?_
      · show Steps p.tables e below (T3.setTop (mkF m 29 #[iv p0, iv p1, iv (p1 &&& (3 : Int32)), u_, iv p0, u_, u_] [(.ref b_3)])) _
        refine XS.astoreN X3.here hx rfl (hb hby at_29) rfl rfl (l' := #[iv p0, iv p1, iv (p1 &&& (3 : Int32)), rv b_3, iv p0, u_, u_]) rfl ?_
        show Steps p.tables e below (T3.setTop (mkF m 30 #[iv p0, iv p1, iv (p1 &&& (3 : Int32)), rv b_3, iv p0, u_, u_] [])) _
        refine XS.goto X3.here hx rfl (pc0 := 30) (pc' := 46) rfl (hb hby at_30) (by decide) (by decide) ?_
        show Steps p.tables e below (T3.setTop (mkF m 46 #[iv p0, iv p1, iv (p1 &&& (3 : Int32)), rv b_3, iv p0, u_, u_] [])) _
        refine XS.aloadN X3.here hx rfl (hb hby at_46) rfl rfl ?_
        exact k
      rcases own_rng p0 with ⟨hr0_4, hr1_4, hr2_4, hr3_4⟩ | ⟨hr0_4, hr1_4, hr2_4, hr3_4⟩ | ⟨hr0_4, hr1_4, hr2_4, hr3_4⟩ | ⟨hr0_4, hr1_4, hr2_4, hr3_4⟩ | ⟨hr0_4, hr1_4, hr2_4, hr3_4⟩
      · skip
        obtain ⟨_, _, ⟨T5, L5, k5, n5⟩, -, X5, ⟨Lc5, hQ5, l5, y5, z5⟩, st5⟩ := Jvm.LawKit.callS X3 hx (y := (⟨"com/example/reconcile/reconcile/simulator/WebhookAnswer", "of", "(Ljava/lang/Integer;)Lcom/example/reconcile/reconcile/simulator/WebhookAnswer;"⟩ : MethodName)) hown (mvT hZ (own_w hw 7 rfl)) (mvT hZ (own_w hw 8 rfl)) (mvT hZ (own_w hw 9 rfl)) (mvT hZ (own_w hw 10 rfl)) (by decide) (backOf (W := 0) (rmOf0 l Z a0 hw [] b_3 p0 w_NONE w_RECEIVED w_REFUSED T3.heap n0 O S_NONE S_RECEIVED S_REFUSED E_3 F_3 hr0_4 hr1_4 hr2_4 hr3_4) hZ (own_w hw 10 rfl) (own_w hw 9 rfl) (by decide) (by decide)) (g := (mkF m 47 #[iv p0, iv p1, iv (p1 &&& (3 : Int32)), rv b_3, iv p0, u_, u_] [(.ref b_3)])) rfl (by rw [hml]; rfl) (argsL := [(.ref b_3)]) (rest := []) (lenOf pd__28Ljava_2flang_2fInteger_3b_29Lcom_2fexample_2freconcile_2freconcile_2fsimulator_2fWebhookAnswer_3b rfl) rfl (by show 2 * 0 + _ ≤ _; exact Nat.le_of_eq rfl) (hb hby at_47) (fun _ _ => ⟨rfl, (Eq.refl T3.heap), (by decide : 1 + 0 ≤ _), (by decide : 1 + 0 ≤ _)⟩)
        dsimp only [Pt.U, Pt.locs, Pt.cells, Pt.slots] at X5 l5 y5 z5 st5 hQ5
        subst l5 y5 z5
        obtain ⟨rfl, Nq5, e5⟩ := hQ5
        have N5 := Fr.app N3 Nq5
        refine Go.step st5 ?_
        show Go p e below _ (T5.setTop (mkF m 50 #[iv p0, iv p1, iv (p1 &&& (3 : Int32)), rv b_3, iv p0, u_, u_] [(.ref w_NONE)]))
        refine Go.step (S' := T5.setTop (mkF m 112 #[iv p0, iv p1, iv (p1 &&& (3 : Int32)), rv b_3, iv p0, rv w_NONE, u_] [])) (fun t k => ?_) ?_
        · show Steps p.tables e below (T5.setTop (mkF m 50 #[iv p0, iv p1, iv (p1 &&& (3 : Int32)), rv b_3, iv p0, u_, u_] [(.ref w_NONE)])) _
          refine XS.astore X5.here hx rfl (hb hby at_50) rfl rfl (l' := #[iv p0, iv p1, iv (p1 &&& (3 : Int32)), rv b_3, iv p0, rv w_NONE, u_]) rfl ?_
          show Steps p.tables e below (T5.setTop (mkF m 52 #[iv p0, iv p1, iv (p1 &&& (3 : Int32)), rv b_3, iv p0, rv w_NONE, u_] [])) _
          refine XS.aloadN X5.here hx rfl (hb hby at_52) rfl rfl ?_
          show Steps p.tables e below (T5.setTop (mkF m 53 #[iv p0, iv p1, iv (p1 &&& (3 : Int32)), rv b_3, iv p0, rv w_NONE, u_] [(.ref b_3)])) _
          refine XS.ifnonnullYes X5.here hx rfl (pc0 := 53) (pc' := 64) rfl (hb hby at_53) rfl (by decide) (by decide) ?_
          show Steps p.tables e below (T5.setTop (mkF m 64 #[iv p0, iv p1, iv (p1 &&& (3 : Int32)), rv b_3, iv p0, rv w_NONE, u_] [])) _
          refine XS.sipush X5.here hx rfl (hb hby at_64) ?_
          show Steps p.tables e below (T5.setTop (mkF m 67 #[iv p0, iv p1, iv (p1 &&& (3 : Int32)), rv b_3, iv p0, rv w_NONE, u_] [(.int (200 : Int32))])) _
          refine XS.iload X5.here hx rfl (hb hby at_67) rfl ?_
          show Steps p.tables e below (T5.setTop (mkF m 69 #[iv p0, iv p1, iv (p1 &&& (3 : Int32)), rv b_3, iv p0, rv w_NONE, u_] [(.int p0), (.int (200 : Int32))])) _
          refine XS.icmpYes X5.here hx rfl (pc0 := 69) (pc' := 88) rfl (hb hby at_69) rfl (tlt (hr0_4 : p0 < (200 : Int32))).2.2.1 (by decide) (by decide) ?_
          show Steps p.tables e below (T5.setTop (mkF m 88 #[iv p0, iv p1, iv (p1 &&& (3 : Int32)), rv b_3, iv p0, rv w_NONE, u_] [])) _
          refine XS.sipush X5.here hx rfl (hb hby at_88) ?_
          show Steps p.tables e below (T5.setTop (mkF m 91 #[iv p0, iv p1, iv (p1 &&& (3 : Int32)), rv b_3, iv p0, rv w_NONE, u_] [(.int (400 : Int32))])) _
          refine XS.iload X5.here hx rfl (hb hby at_91) rfl ?_
          show Steps p.tables e below (T5.setTop (mkF m 93 #[iv p0, iv p1, iv (p1 &&& (3 : Int32)), rv b_3, iv p0, rv w_NONE, u_] [(.int p0), (.int (400 : Int32))])) _
          refine XS.icmpYes X5.here hx rfl (pc0 := 93) (pc' := 112) rfl (hb hby at_93) rfl (tlt (hr2_4 : p0 < (400 : Int32))).2.2.1 (by decide) (by decide) ?_
          exact k
        obtain ⟨T6, X6, e6, st6⟩ := getS2 X5 hx hZ hown (host := "") (Or.inl (own_w hw 20 rfl)) Via.refl e5 (S_NONE.ext O.2) (g := (mkF m 112 #[iv p0, iv p1, iv (p1 &&& (3 : Int32)), rv b_3, iv p0, rv w_NONE, u_] [])) rfl (hb hby at_112)
        refine Go.step st6 ?_
        show Go p e below _ (T6.setTop (mkF m 115 #[iv p0, iv p1, iv (p1 &&& (3 : Int32)), rv b_3, iv p0, rv w_NONE, u_] [(.ref w_NONE)]))
        refine Go.step (S' := T6.setTop (mkF m 129 #[iv p0, iv p1, iv (p1 &&& (3 : Int32)), rv b_3, iv p0, rv w_NONE, rv w_NONE] [(.int (1 : Int32))])) (fun t k => ?_) ?_
        · show Steps p.tables e below (T6.setTop (mkF m 115 #[iv p0, iv p1, iv (p1 &&& (3 : Int32)), rv b_3, iv p0, rv w_NONE, u_] [(.ref w_NONE)])) _
          refine XS.astore X6.here hx rfl (hb hby at_115) rfl rfl (l' := #[iv p0, iv p1, iv (p1 &&& (3 : Int32)), rv b_3, iv p0, rv w_NONE, rv w_NONE]) rfl ?_
          show Steps p.tables e below (T6.setTop (mkF m 117 #[iv p0, iv p1, iv (p1 &&& (3 : Int32)), rv b_3, iv p0, rv w_NONE, rv w_NONE] [])) _
          refine XS.aload X6.here hx rfl (hb hby at_117) rfl rfl ?_
          show Steps p.tables e below (T6.setTop (mkF m 119 #[iv p0, iv p1, iv (p1 &&& (3 : Int32)), rv b_3, iv p0, rv w_NONE, rv w_NONE] [(.ref w_NONE)])) _
          refine XS.aload X6.here hx rfl (hb hby at_119) rfl rfl ?_
          show Steps p.tables e below (T6.setTop (mkF m 121 #[iv p0, iv p1, iv (p1 &&& (3 : Int32)), rv b_3, iv p0, rv w_NONE, rv w_NONE] [(.ref w_NONE), (.ref w_NONE)])) _
          refine Jvm.RoadKit.acmp (g := (mkF m 121 #[iv p0, iv p1, iv (p1 &&& (3 : Int32)), rv b_3, iv p0, rv w_NONE, rv w_NONE] [(.ref w_NONE), (.ref w_NONE)])) X6 hx rfl rfl rfl (pc0 := 121) (pc' := 124) (same := true) rfl (hb hby at_121) rfl (decide_eq_true rfl) (by decide) (by decide) ?_
          show Steps p.tables e below (T6.setTop (mkF m 124 #[iv p0, iv p1, iv (p1 &&& (3 : Int32)), rv b_3, iv p0, rv w_NONE, rv w_NONE] [])) _
          refine XS.iconst X6.here hx rfl (hb hby at_124) ?_
          show Steps p.tables e below (T6.setTop (mkF m 125 #[iv p0, iv p1, iv (p1 &&& (3 : Int32)), rv b_3, iv p0, rv w_NONE, rv w_NONE] [(.int (1 : Int32))])) _
          refine XS.goto X6.here hx rfl (pc0 := 125) (pc' := 129) rfl (hb hby at_125) (by decide) (by decide) ?_
          exact k
        obtain ⟨fs, hr, hrun, hended, hW, hsame⟩ := X6.leave (v := some (.int (1 : Int32))) (fun h => by rw [Bd.returns] at h; cases h)
        refine Go.fin (S' := T6.setFrames fs) ?_ hrun hended ⟨_, _, rfl, ?_, ⟨_, rfl⟩, hW, hsame.mono (by decide) (by decide)⟩
        · exact retOut X6 hx Bd.returns (by decide) (Or.inl ⟨rfl, Or.inr (Or.inl rfl), _, rfl⟩) (hb hby at_129) hr
        · show Q_rm0 Z p0 p1 w_NONE w_RECEIVED w_REFUSED w_cache cl h0 n0 (some (.int (1 : Int32))) T6.heap _
          rw [e6]
          exact ⟨rfl, N5, K⟩
      · skip
        obtain ⟨_, _, ⟨T7, L7, k7, n7⟩, -, X7, ⟨Lc7, hQ7, l7, y7, z7⟩, st7⟩ := Jvm.LawKit.callS X3 hx (y := (⟨"com/example/reconcile/reconcile/simulator/WebhookAnswer", "of", "(Ljava/lang/Integer;)Lcom/example/reconcile/reconcile/simulator/WebhookAnswer;"⟩ : MethodName)) hown (mvT hZ (own_w hw 7 rfl)) (mvT hZ (own_w hw 8 rfl)) (mvT hZ (own_w hw 9 rfl)) (mvT hZ (own_w hw 10 rfl)) (by decide) (backOf (W := 0) (rmOf1 l Z a0 hw [] b_3 p0 w_NONE w_RECEIVED w_REFUSED T3.heap n0 O S_NONE S_RECEIVED S_REFUSED E_3 F_3 hr0_4 hr1_4 hr2_4 hr3_4) hZ (own_w hw 10 rfl) (own_w hw 9 rfl) (by decide) (by decide)) (g := (mkF m 47 #[iv p0, iv p1, iv (p1 &&& (3 : Int32)), rv b_3, iv p0, u_, u_] [(.ref b_3)])) rfl (by rw [hml]; rfl) (argsL := [(.ref b_3)]) (rest := []) (lenOf pd__28Ljava_2flang_2fInteger_3b_29Lcom_2fexample_2freconcile_2freconcile_2fsimulator_2fWebhookAnswer_3b rfl) rfl (by show 2 * 0 + _ ≤ _; exact Nat.le_of_eq rfl) (hb hby at_47) (fun _ _ => ⟨rfl, (Eq.refl T3.heap), (by decide : 1 + 0 ≤ _), (by decide : 1 + 0 ≤ _)⟩)
        dsimp only [Pt.U, Pt.locs, Pt.cells, Pt.slots] at X7 l7 y7 z7 st7 hQ7
        subst l7 y7 z7
        obtain ⟨rfl, Nq7, e7⟩ := hQ7
        have N7 := Fr.app N3 Nq7
        refine Go.step st7 ?_
        show Go p e below _ (T7.setTop (mkF m 50 #[iv p0, iv p1, iv (p1 &&& (3 : Int32)), rv b_3, iv p0, u_, u_] [(.ref w_RECEIVED)]))
        refine Go.step (S' := T7.setTop (mkF m 80 #[iv p0, iv p1, iv (p1 &&& (3 : Int32)), rv b_3, iv p0, rv w_RECEIVED, u_] [])) (fun t k => ?_) ?_
        · show Steps p.tables e below (T7.setTop (mkF m 50 #[iv p0, iv p1, iv (p1 &&& (3 : Int32)), rv b_3, iv p0, u_, u_] [(.ref w_RECEIVED)])) _
          refine XS.astore X7.here hx rfl (hb hby at_50) rfl rfl (l' := #[iv p0, iv p1, iv (p1 &&& (3 : Int32)), rv b_3, iv p0, rv w_RECEIVED, u_]) rfl ?_
          show Steps p.tables e below (T7.setTop (mkF m 52 #[iv p0, iv p1, iv (p1 &&& (3 : Int32)), rv b_3, iv p0, rv w_RECEIVED, u_] [])) _
          refine XS.aloadN X7.here hx rfl (hb hby at_52) rfl rfl ?_
          show Steps p.tables e below (T7.setTop (mkF m 53 #[iv p0, iv p1, iv (p1 &&& (3 : Int32)), rv b_3, iv p0, rv w_RECEIVED, u_] [(.ref b_3)])) _
          refine XS.ifnonnullYes X7.here hx rfl (pc0 := 53) (pc' := 64) rfl (hb hby at_53) rfl (by decide) (by decide) ?_
          show Steps p.tables e below (T7.setTop (mkF m 64 #[iv p0, iv p1, iv (p1 &&& (3 : Int32)), rv b_3, iv p0, rv w_RECEIVED, u_] [])) _
          refine XS.sipush X7.here hx rfl (hb hby at_64) ?_
          show Steps p.tables e below (T7.setTop (mkF m 67 #[iv p0, iv p1, iv (p1 &&& (3 : Int32)), rv b_3, iv p0, rv w_RECEIVED, u_] [(.int (200 : Int32))])) _
          refine XS.iload X7.here hx rfl (hb hby at_67) rfl ?_
          show Steps p.tables e below (T7.setTop (mkF m 69 #[iv p0, iv p1, iv (p1 &&& (3 : Int32)), rv b_3, iv p0, rv w_RECEIVED, u_] [(.int p0), (.int (200 : Int32))])) _
          refine XS.icmpNo X7.here hx rfl (hb hby at_69) rfl (flt (hr0_4 : ¬ (p0 < (200 : Int32)))).2.2.1 ?_
          show Steps p.tables e below (T7.setTop (mkF m 72 #[iv p0, iv p1, iv (p1 &&& (3 : Int32)), rv b_3, iv p0, rv w_RECEIVED, u_] [])) _
          refine XS.iload X7.here hx rfl (hb hby at_72) rfl ?_
          show Steps p.tables e below (T7.setTop (mkF m 74 #[iv p0, iv p1, iv (p1 &&& (3 : Int32)), rv b_3, iv p0, rv w_RECEIVED, u_] [(.int p0)])) _
          refine XS.sipush X7.here hx rfl (hb hby at_74) ?_
          show Steps p.tables e below (T7.setTop (mkF m 77 #[iv p0, iv p1, iv (p1 &&& (3 : Int32)), rv b_3, iv p0, rv w_RECEIVED, u_] [(.int (299 : Int32)), (.int p0)])) _
          refine XS.icmpNo X7.here hx rfl (hb hby at_77) rfl (flt (hr1_4 : ¬ ((299 : Int32) < p0))).2.2.1 ?_
          exact k
        obtain ⟨T8, X8, e8, st8⟩ := getS2 X7 hx hZ hown (host := "") (Or.inl (own_w hw 38 rfl)) Via.refl e7 (S_RECEIVED.ext O.2) (g := (mkF m 80 #[iv p0, iv p1, iv (p1 &&& (3 : Int32)), rv b_3, iv p0, rv w_RECEIVED, u_] [])) rfl (hb hby at_80)
        refine Go.step st8 ?_
        show Go p e below _ (T8.setTop (mkF m 83 #[iv p0, iv p1, iv (p1 &&& (3 : Int32)), rv b_3, iv p0, rv w_RECEIVED, u_] [(.ref w_RECEIVED)]))
        refine Go.step (S' := T8.setTop (mkF m 129 #[iv p0, iv p1, iv (p1 &&& (3 : Int32)), rv b_3, iv p0, rv w_RECEIVED, rv w_RECEIVED] [(.int (1 : Int32))])) (fun t k => ?_) ?_
        · show Steps p.tables e below (T8.setTop (mkF m 83 #[iv p0, iv p1, iv (p1 &&& (3 : Int32)), rv b_3, iv p0, rv w_RECEIVED, u_] [(.ref w_RECEIVED)])) _
          refine XS.astore X8.here hx rfl (hb hby at_83) rfl rfl (l' := #[iv p0, iv p1, iv (p1 &&& (3 : Int32)), rv b_3, iv p0, rv w_RECEIVED, rv w_RECEIVED]) rfl ?_
          show Steps p.tables e below (T8.setTop (mkF m 85 #[iv p0, iv p1, iv (p1 &&& (3 : Int32)), rv b_3, iv p0, rv w_RECEIVED, rv w_RECEIVED] [])) _
          refine XS.goto X8.here hx rfl (pc0 := 85) (pc' := 117) rfl (hb hby at_85) (by decide) (by decide) ?_
          show Steps p.tables e below (T8.setTop (mkF m 117 #[iv p0, iv p1, iv (p1 &&& (3 : Int32)), rv b_3, iv p0, rv w_RECEIVED, rv w_RECEIVED] [])) _
          refine XS.aload X8.here hx rfl (hb hby at_117) rfl rfl ?_
          show Steps p.tables e below (T8.setTop (mkF m 119 #[iv p0, iv p1, iv (p1 &&& (3 : Int32)), rv b_3, iv p0, rv w_RECEIVED, rv w_RECEIVED] [(.ref w_RECEIVED)])) _
          refine XS.aload X8.here hx rfl (hb hby at_119) rfl rfl ?_
          show Steps p.tables e below (T8.setTop (mkF m 121 #[iv p0, iv p1, iv (p1 &&& (3 : Int32)), rv b_3, iv p0, rv w_RECEIVED, rv w_RECEIVED] [(.ref w_RECEIVED), (.ref w_RECEIVED)])) _
          refine Jvm.RoadKit.acmp (g := (mkF m 121 #[iv p0, iv p1, iv (p1 &&& (3 : Int32)), rv b_3, iv p0, rv w_RECEIVED, rv w_RECEIVED] [(.ref w_RECEIVED), (.ref w_RECEIVED)])) X8 hx rfl rfl rfl (pc0 := 121) (pc' := 124) (same := true) rfl (hb hby at_121) rfl (decide_eq_true rfl) (by decide) (by decide) ?_
          show Steps p.tables e below (T8.setTop (mkF m 124 #[iv p0, iv p1, iv (p1 &&& (3 : Int32)), rv b_3, iv p0, rv w_RECEIVED, rv w_RECEIVED] [])) _
          refine XS.iconst X8.here hx rfl (hb hby at_124) ?_
          show Steps p.tables e below (T8.setTop (mkF m 125 #[iv p0, iv p1, iv (p1 &&& (3 : Int32)), rv b_3, iv p0, rv w_RECEIVED, rv w_RECEIVED] [(.int (1 : Int32))])) _
          refine XS.goto X8.here hx rfl (pc0 := 125) (pc' := 129) rfl (hb hby at_125) (by decide) (by decide) ?_
          exact k
        obtain ⟨fs, hr, hrun, hended, hW, hsame⟩ := X8.leave (v := some (.int (1 : Int32))) (fun h => by rw [Bd.returns] at h; cases h)
        refine Go.fin (S' := T8.setFrames fs) ?_ hrun hended ⟨_, _, rfl, ?_, ⟨_, rfl⟩, hW, hsame.mono (by decide) (by decide)⟩
        · exact retOut X8 hx Bd.returns (by decide) (Or.inl ⟨rfl, Or.inr (Or.inl rfl), _, rfl⟩) (hb hby at_129) hr
        · show Q_rm0 Z p0 p1 w_NONE w_RECEIVED w_REFUSED w_cache cl h0 n0 (some (.int (1 : Int32))) T8.heap _
          rw [e8]
          exact ⟨rfl, N7, K⟩
      · skip
        obtain ⟨_, _, ⟨T9, L9, k9, n9⟩, -, X9, ⟨Lc9, hQ9, l9, y9, z9⟩, st9⟩ := Jvm.LawKit.callS X3 hx (y := (⟨"com/example/reconcile/reconcile/simulator/WebhookAnswer", "of", "(Ljava/lang/Integer;)Lcom/example/reconcile/reconcile/simulator/WebhookAnswer;"⟩ : MethodName)) hown (mvT hZ (own_w hw 7 rfl)) (mvT hZ (own_w hw 8 rfl)) (mvT hZ (own_w hw 9 rfl)) (mvT hZ (own_w hw 10 rfl)) (by decide) (backOf (W := 0) (rmOf2 l Z a0 hw [] b_3 p0 w_NONE w_RECEIVED w_REFUSED T3.heap n0 O S_NONE S_RECEIVED S_REFUSED E_3 F_3 hr0_4 hr1_4 hr2_4 hr3_4) hZ (own_w hw 10 rfl) (own_w hw 9 rfl) (by decide) (by decide)) (g := (mkF m 47 #[iv p0, iv p1, iv (p1 &&& (3 : Int32)), rv b_3, iv p0, u_, u_] [(.ref b_3)])) rfl (by rw [hml]; rfl) (argsL := [(.ref b_3)]) (rest := []) (lenOf pd__28Ljava_2flang_2fInteger_3b_29Lcom_2fexample_2freconcile_2freconcile_2fsimulator_2fWebhookAnswer_3b rfl) rfl (by show 2 * 0 + _ ≤ _; exact Nat.le_of_eq rfl) (hb hby at_47) (fun _ _ => ⟨rfl, (Eq.refl T3.heap), (by decide : 1 + 0 ≤ _), (by decide : 1 + 0 ≤ _)⟩)
        dsimp only [Pt.U, Pt.locs, Pt.cells, Pt.slots] at X9 l9 y9 z9 st9 hQ9
        subst l9 y9 z9
        obtain ⟨rfl, Nq9, e9⟩ := hQ9
        have N9 := Fr.app N3 Nq9
        refine Go.step st9 ?_
        show Go p e below _ (T9.setTop (mkF m 50 #[iv p0, iv p1, iv (p1 &&& (3 : Int32)), rv b_3, iv p0, u_, u_] [(.ref w_NONE)]))
        refine Go.step (S' := T9.setTop (mkF m 112 #[iv p0, iv p1, iv (p1 &&& (3 : Int32)), rv b_3, iv p0, rv w_NONE, u_] [])) (fun t k => ?_) ?_
        · show Steps p.tables e below (T9.setTop (mkF m 50 #[iv p0, iv p1, iv (p1 &&& (3 : Int32)), rv b_3, iv p0, u_, u_] [(.ref w_NONE)])) _
          refine XS.astore X9.here hx rfl (hb hby at_50) rfl rfl (l' := #[iv p0, iv p1, iv (p1 &&& (3 : Int32)), rv b_3, iv p0, rv w_NONE, u_]) rfl ?_
          show Steps p.tables e below (T9.setTop (mkF m 52 #[iv p0, iv p1, iv (p1 &&& (3 : Int32)), rv b_3, iv p0, rv w_NONE, u_] [])) _
          refine XS.aloadN X9.here hx rfl (hb hby at_52) rfl rfl ?_
          show Steps p.tables e below (T9.setTop (mkF m 53 #[iv p0, iv p1, iv (p1 &&& (3 : Int32)), rv b_3, iv p0, rv w_NONE, u_] [(.ref b_3)])) _
          refine XS.ifnonnullYes X9.here hx rfl (pc0 := 53) (pc' := 64) rfl (hb hby at_53) rfl (by decide) (by decide) ?_
          show Steps p.tables e below (T9.setTop (mkF m 64 #[iv p0, iv p1, iv (p1 &&& (3 : Int32)), rv b_3, iv p0, rv w_NONE, u_] [])) _
          refine XS.sipush X9.here hx rfl (hb hby at_64) ?_
          show Steps p.tables e below (T9.setTop (mkF m 67 #[iv p0, iv p1, iv (p1 &&& (3 : Int32)), rv b_3, iv p0, rv w_NONE, u_] [(.int (200 : Int32))])) _
          refine XS.iload X9.here hx rfl (hb hby at_67) rfl ?_
          show Steps p.tables e below (T9.setTop (mkF m 69 #[iv p0, iv p1, iv (p1 &&& (3 : Int32)), rv b_3, iv p0, rv w_NONE, u_] [(.int p0), (.int (200 : Int32))])) _
          refine XS.icmpNo X9.here hx rfl (hb hby at_69) rfl (flt (hr0_4 : ¬ (p0 < (200 : Int32)))).2.2.1 ?_
          show Steps p.tables e below (T9.setTop (mkF m 72 #[iv p0, iv p1, iv (p1 &&& (3 : Int32)), rv b_3, iv p0, rv w_NONE, u_] [])) _
          refine XS.iload X9.here hx rfl (hb hby at_72) rfl ?_
          show Steps p.tables e below (T9.setTop (mkF m 74 #[iv p0, iv p1, iv (p1 &&& (3 : Int32)), rv b_3, iv p0, rv w_NONE, u_] [(.int p0)])) _
          refine XS.sipush X9.here hx rfl (hb hby at_74) ?_
          show Steps p.tables e below (T9.setTop (mkF m 77 #[iv p0, iv p1, iv (p1 &&& (3 : Int32)), rv b_3, iv p0, rv w_NONE, u_] [(.int (299 : Int32)), (.int p0)])) _
          refine XS.icmpYes X9.here hx rfl (pc0 := 77) (pc' := 88) rfl (hb hby at_77) rfl (tlt (hr1_4 : (299 : Int32) < p0)).2.2.1 (by decide) (by decide) ?_
          show Steps p.tables e below (T9.setTop (mkF m 88 #[iv p0, iv p1, iv (p1 &&& (3 : Int32)), rv b_3, iv p0, rv w_NONE, u_] [])) _
          refine XS.sipush X9.here hx rfl (hb hby at_88) ?_
          show Steps p.tables e below (T9.setTop (mkF m 91 #[iv p0, iv p1, iv (p1 &&& (3 : Int32)), rv b_3, iv p0, rv w_NONE, u_] [(.int (400 : Int32))])) _
          refine XS.iload X9.here hx rfl (hb hby at_91) rfl ?_
          show Steps p.tables e below (T9.setTop (mkF m 93 #[iv p0, iv p1, iv (p1 &&& (3 : Int32)), rv b_3, iv p0, rv w_NONE, u_] [(.int p0), (.int (400 : Int32))])) _
          refine XS.icmpYes X9.here hx rfl (pc0 := 93) (pc' := 112) rfl (hb hby at_93) rfl (tlt (hr2_4 : p0 < (400 : Int32))).2.2.1 (by decide) (by decide) ?_
          exact k
        obtain ⟨T10, X10, e10, st10⟩ := getS2 X9 hx hZ hown (host := "") (Or.inl (own_w hw 20 rfl)) Via.refl e9 (S_NONE.ext O.2) (g := (mkF m 112 #[iv p0, iv p1, iv (p1 &&& (3 : Int32)), rv b_3, iv p0, rv w_NONE, u_] [])) rfl (hb hby at_112)
        refine Go.step st10 ?_
        show Go p e below _ (T10.setTop (mkF m 115 #[iv p0, iv p1, iv (p1 &&& (3 : Int32)), rv b_3, iv p0, rv w_NONE, u_] [(.ref w_NONE)]))
        refine Go.step (S' := T10.setTop (mkF m 129 #[iv p0, iv p1, iv (p1 &&& (3 : Int32)), rv b_3, iv p0, rv w_NONE, rv w_NONE] [(.int (1 : Int32))])) (fun t k => ?_) ?_
        · show Steps p.tables e below (T10.setTop (mkF m 115 #[iv p0, iv p1, iv (p1 &&& (3 : Int32)), rv b_3, iv p0, rv w_NONE, u_] [(.ref w_NONE)])) _
          refine XS.astore X10.here hx rfl (hb hby at_115) rfl rfl (l' := #[iv p0, iv p1, iv (p1 &&& (3 : Int32)), rv b_3, iv p0, rv w_NONE, rv w_NONE]) rfl ?_
          show Steps p.tables e below (T10.setTop (mkF m 117 #[iv p0, iv p1, iv (p1 &&& (3 : Int32)), rv b_3, iv p0, rv w_NONE, rv w_NONE] [])) _
          refine XS.aload X10.here hx rfl (hb hby at_117) rfl rfl ?_
          show Steps p.tables e below (T10.setTop (mkF m 119 #[iv p0, iv p1, iv (p1 &&& (3 : Int32)), rv b_3, iv p0, rv w_NONE, rv w_NONE] [(.ref w_NONE)])) _
          refine XS.aload X10.here hx rfl (hb hby at_119) rfl rfl ?_
          show Steps p.tables e below (T10.setTop (mkF m 121 #[iv p0, iv p1, iv (p1 &&& (3 : Int32)), rv b_3, iv p0, rv w_NONE, rv w_NONE] [(.ref w_NONE), (.ref w_NONE)])) _
          refine Jvm.RoadKit.acmp (g := (mkF m 121 #[iv p0, iv p1, iv (p1 &&& (3 : Int32)), rv b_3, iv p0, rv w_NONE, rv w_NONE] [(.ref w_NONE), (.ref w_NONE)])) X10 hx rfl rfl rfl (pc0 := 121) (pc' := 124) (same := true) rfl (hb hby at_121) rfl (decide_eq_true rfl) (by decide) (by decide) ?_
          show Steps p.tables e below (T10.setTop (mkF m 124 #[iv p0, iv p1, iv (p1 &&& (3 : Int32)), rv b_3, iv p0, rv w_NONE, rv w_NONE] [])) _
          refine XS.iconst X10.here hx rfl (hb hby at_124) ?_
          show Steps p.tables e below (T10.setTop (mkF m 125 #[iv p0, iv p1, iv (p1 &&& (3 : Int32)), rv b_3, iv p0, rv w_NONE, rv w_NONE] [(.int (1 : Int32))])) _
          refine XS.goto X10.here hx rfl (pc0 := 125) (pc' := 129) rfl (hb hby at_125) (by decide) (by decide) ?_
          exact k
        obtain ⟨fs, hr, hrun, hended, hW, hsame⟩ := X10.leave (v := some (.int (1 : Int32))) (fun h => by rw [Bd.returns] at h; cases h)
        refine Go.fin (S' := T10.setFrames fs) ?_ hrun hended ⟨_, _, rfl, ?_, ⟨_, rfl⟩, hW, hsame.mono (by decide) (by decide)⟩
        · exact retOut X10 hx Bd.returns (by decide) (Or.inl ⟨rfl, Or.inr (Or.inl rfl), _, rfl⟩) (hb hby at_129) hr
        · show Q_rm0 Z p0 p1 w_NONE w_RECEIVED w_REFUSED w_cache cl h0 n0 (some (.int (1 : Int32))) T10.heap _
          rw [e10]
          exact ⟨rfl, N9, K⟩
      · skip
        obtain ⟨_, _, ⟨T11, L11, k11, n11⟩, -, X11, ⟨Lc11, hQ11, l11, y11, z11⟩, st11⟩ := Jvm.LawKit.callS X3 hx (y := (⟨"com/example/reconcile/reconcile/simulator/WebhookAnswer", "of", "(Ljava/lang/Integer;)Lcom/example/reconcile/reconcile/simulator/WebhookAnswer;"⟩ : MethodName)) hown (mvT hZ (own_w hw 7 rfl)) (mvT hZ (own_w hw 8 rfl)) (mvT hZ (own_w hw 9 rfl)) (mvT hZ (own_w hw 10 rfl)) (by decide) (backOf (W := 0) (rmOf3 l Z a0 hw [] b_3 p0 w_NONE w_RECEIVED w_REFUSED T3.heap n0 O S_NONE S_RECEIVED S_REFUSED E_3 F_3 hr0_4 hr1_4 hr2_4 hr3_4) hZ (own_w hw 10 rfl) (own_w hw 9 rfl) (by decide) (by decide)) (g := (mkF m 47 #[iv p0, iv p1, iv (p1 &&& (3 : Int32)), rv b_3, iv p0, u_, u_] [(.ref b_3)])) rfl (by rw [hml]; rfl) (argsL := [(.ref b_3)]) (rest := []) (lenOf pd__28Ljava_2flang_2fInteger_3b_29Lcom_2fexample_2freconcile_2freconcile_2fsimulator_2fWebhookAnswer_3b rfl) rfl (by show 2 * 0 + _ ≤ _; exact Nat.le_of_eq rfl) (hb hby at_47) (fun _ _ => ⟨rfl, (Eq.refl T3.heap), (by decide : 1 + 0 ≤ _), (by decide : 1 + 0 ≤ _)⟩)
        dsimp only [Pt.U, Pt.locs, Pt.cells, Pt.slots] at X11 l11 y11 z11 st11 hQ11
        subst l11 y11 z11
        obtain ⟨rfl, Nq11, e11⟩ := hQ11
        have N11 := Fr.app N3 Nq11
        refine Go.step st11 ?_
        show Go p e below _ (T11.setTop (mkF m 50 #[iv p0, iv p1, iv (p1 &&& (3 : Int32)), rv b_3, iv p0, u_, u_] [(.ref w_REFUSED)]))
        refine Go.step (S' := T11.setTop (mkF m 104 #[iv p0, iv p1, iv (p1 &&& (3 : Int32)), rv b_3, iv p0, rv w_REFUSED, u_] [])) (fun t k => ?_) ?_
        · show Steps p.tables e below (T11.setTop (mkF m 50 #[iv p0, iv p1, iv (p1 &&& (3 : Int32)), rv b_3, iv p0, u_, u_] [(.ref w_REFUSED)])) _
          refine XS.astore X11.here hx rfl (hb hby at_50) rfl rfl (l' := #[iv p0, iv p1, iv (p1 &&& (3 : Int32)), rv b_3, iv p0, rv w_REFUSED, u_]) rfl ?_
          show Steps p.tables e below (T11.setTop (mkF m 52 #[iv p0, iv p1, iv (p1 &&& (3 : Int32)), rv b_3, iv p0, rv w_REFUSED, u_] [])) _
          refine XS.aloadN X11.here hx rfl (hb hby at_52) rfl rfl ?_
          show Steps p.tables e below (T11.setTop (mkF m 53 #[iv p0, iv p1, iv (p1 &&& (3 : Int32)), rv b_3, iv p0, rv w_REFUSED, u_] [(.ref b_3)])) _
          refine XS.ifnonnullYes X11.here hx rfl (pc0 := 53) (pc' := 64) rfl (hb hby at_53) rfl (by decide) (by decide) ?_
          show Steps p.tables e below (T11.setTop (mkF m 64 #[iv p0, iv p1, iv (p1 &&& (3 : Int32)), rv b_3, iv p0, rv w_REFUSED, u_] [])) _
          refine XS.sipush X11.here hx rfl (hb hby at_64) ?_
          show Steps p.tables e below (T11.setTop (mkF m 67 #[iv p0, iv p1, iv (p1 &&& (3 : Int32)), rv b_3, iv p0, rv w_REFUSED, u_] [(.int (200 : Int32))])) _
          refine XS.iload X11.here hx rfl (hb hby at_67) rfl ?_
          show Steps p.tables e below (T11.setTop (mkF m 69 #[iv p0, iv p1, iv (p1 &&& (3 : Int32)), rv b_3, iv p0, rv w_REFUSED, u_] [(.int p0), (.int (200 : Int32))])) _
          refine XS.icmpNo X11.here hx rfl (hb hby at_69) rfl (flt (hr0_4 : ¬ (p0 < (200 : Int32)))).2.2.1 ?_
          show Steps p.tables e below (T11.setTop (mkF m 72 #[iv p0, iv p1, iv (p1 &&& (3 : Int32)), rv b_3, iv p0, rv w_REFUSED, u_] [])) _
          refine XS.iload X11.here hx rfl (hb hby at_72) rfl ?_
          show Steps p.tables e below (T11.setTop (mkF m 74 #[iv p0, iv p1, iv (p1 &&& (3 : Int32)), rv b_3, iv p0, rv w_REFUSED, u_] [(.int p0)])) _
          refine XS.sipush X11.here hx rfl (hb hby at_74) ?_
          show Steps p.tables e below (T11.setTop (mkF m 77 #[iv p0, iv p1, iv (p1 &&& (3 : Int32)), rv b_3, iv p0, rv w_REFUSED, u_] [(.int (299 : Int32)), (.int p0)])) _
          refine XS.icmpYes X11.here hx rfl (pc0 := 77) (pc' := 88) rfl (hb hby at_77) rfl (tlt (hr1_4 : (299 : Int32) < p0)).2.2.1 (by decide) (by decide) ?_
          show Steps p.tables e below (T11.setTop (mkF m 88 #[iv p0, iv p1, iv (p1 &&& (3 : Int32)), rv b_3, iv p0, rv w_REFUSED, u_] [])) _
          refine XS.sipush X11.here hx rfl (hb hby at_88) ?_
          show Steps p.tables e below (T11.setTop (mkF m 91 #[iv p0, iv p1, iv (p1 &&& (3 : Int32)), rv b_3, iv p0, rv w_REFUSED, u_] [(.int (400 : Int32))])) _
          refine XS.iload X11.here hx rfl (hb hby at_91) rfl ?_
          show Steps p.tables e below (T11.setTop (mkF m 93 #[iv p0, iv p1, iv (p1 &&& (3 : Int32)), rv b_3, iv p0, rv w_REFUSED, u_] [(.int p0), (.int (400 : Int32))])) _
          refine XS.icmpNo X11.here hx rfl (hb hby at_93) rfl (flt (hr2_4 : ¬ (p0 < (400 : Int32)))).2.2.1 ?_
          show Steps p.tables e below (T11.setTop (mkF m 96 #[iv p0, iv p1, iv (p1 &&& (3 : Int32)), rv b_3, iv p0, rv w_REFUSED, u_] [])) _
          refine XS.iload X11.here hx rfl (hb hby at_96) rfl ?_
          show Steps p.tables e below (T11.setTop (mkF m 98 #[iv p0, iv p1, iv (p1 &&& (3 : Int32)), rv b_3, iv p0, rv w_REFUSED, u_] [(.int p0)])) _
          refine XS.sipush X11.here hx rfl (hb hby at_98) ?_
          show Steps p.tables e below (T11.setTop (mkF m 101 #[iv p0, iv p1, iv (p1 &&& (3 : Int32)), rv b_3, iv p0, rv w_REFUSED, u_] [(.int (499 : Int32)), (.int p0)])) _
          refine XS.icmpNo X11.here hx rfl (hb hby at_101) rfl (flt (hr3_4 : ¬ ((499 : Int32) < p0))).2.2.1 ?_
          exact k
        obtain ⟨T12, X12, e12, st12⟩ := getS2 X11 hx hZ hown (host := "") (Or.inl (own_w hw 41 rfl)) Via.refl e11 (S_REFUSED.ext O.2) (g := (mkF m 104 #[iv p0, iv p1, iv (p1 &&& (3 : Int32)), rv b_3, iv p0, rv w_REFUSED, u_] [])) rfl (hb hby at_104)
        refine Go.step st12 ?_
        show Go p e below _ (T12.setTop (mkF m 107 #[iv p0, iv p1, iv (p1 &&& (3 : Int32)), rv b_3, iv p0, rv w_REFUSED, u_] [(.ref w_REFUSED)]))
        refine Go.step (S' := T12.setTop (mkF m 129 #[iv p0, iv p1, iv (p1 &&& (3 : Int32)), rv b_3, iv p0, rv w_REFUSED, rv w_REFUSED] [(.int (1 : Int32))])) (fun t k => ?_) ?_
        · show Steps p.tables e below (T12.setTop (mkF m 107 #[iv p0, iv p1, iv (p1 &&& (3 : Int32)), rv b_3, iv p0, rv w_REFUSED, u_] [(.ref w_REFUSED)])) _
          refine XS.astore X12.here hx rfl (hb hby at_107) rfl rfl (l' := #[iv p0, iv p1, iv (p1 &&& (3 : Int32)), rv b_3, iv p0, rv w_REFUSED, rv w_REFUSED]) rfl ?_
          show Steps p.tables e below (T12.setTop (mkF m 109 #[iv p0, iv p1, iv (p1 &&& (3 : Int32)), rv b_3, iv p0, rv w_REFUSED, rv w_REFUSED] [])) _
          refine XS.goto X12.here hx rfl (pc0 := 109) (pc' := 117) rfl (hb hby at_109) (by decide) (by decide) ?_
          show Steps p.tables e below (T12.setTop (mkF m 117 #[iv p0, iv p1, iv (p1 &&& (3 : Int32)), rv b_3, iv p0, rv w_REFUSED, rv w_REFUSED] [])) _
          refine XS.aload X12.here hx rfl (hb hby at_117) rfl rfl ?_
          show Steps p.tables e below (T12.setTop (mkF m 119 #[iv p0, iv p1, iv (p1 &&& (3 : Int32)), rv b_3, iv p0, rv w_REFUSED, rv w_REFUSED] [(.ref w_REFUSED)])) _
          refine XS.aload X12.here hx rfl (hb hby at_119) rfl rfl ?_
          show Steps p.tables e below (T12.setTop (mkF m 121 #[iv p0, iv p1, iv (p1 &&& (3 : Int32)), rv b_3, iv p0, rv w_REFUSED, rv w_REFUSED] [(.ref w_REFUSED), (.ref w_REFUSED)])) _
          refine Jvm.RoadKit.acmp (g := (mkF m 121 #[iv p0, iv p1, iv (p1 &&& (3 : Int32)), rv b_3, iv p0, rv w_REFUSED, rv w_REFUSED] [(.ref w_REFUSED), (.ref w_REFUSED)])) X12 hx rfl rfl rfl (pc0 := 121) (pc' := 124) (same := true) rfl (hb hby at_121) rfl (decide_eq_true rfl) (by decide) (by decide) ?_
          show Steps p.tables e below (T12.setTop (mkF m 124 #[iv p0, iv p1, iv (p1 &&& (3 : Int32)), rv b_3, iv p0, rv w_REFUSED, rv w_REFUSED] [])) _
          refine XS.iconst X12.here hx rfl (hb hby at_124) ?_
          show Steps p.tables e below (T12.setTop (mkF m 125 #[iv p0, iv p1, iv (p1 &&& (3 : Int32)), rv b_3, iv p0, rv w_REFUSED, rv w_REFUSED] [(.int (1 : Int32))])) _
          refine XS.goto X12.here hx rfl (pc0 := 125) (pc' := 129) rfl (hb hby at_125) (by decide) (by decide) ?_
          exact k
        obtain ⟨fs, hr, hrun, hended, hW, hsame⟩ := X12.leave (v := some (.int (1 : Int32))) (fun h => by rw [Bd.returns] at h; cases h)
        refine Go.fin (S' := T12.setFrames fs) ?_ hrun hended ⟨_, _, rfl, ?_, ⟨_, rfl⟩, hW, hsame.mono (by decide) (by decide)⟩
        · exact retOut X12 hx Bd.returns (by decide) (Or.inl ⟨rfl, Or.inr (Or.inl rfl), _, rfl⟩) (hb hby at_129) hr
        · show Q_rm0 Z p0 p1 w_NONE w_RECEIVED w_REFUSED w_cache cl h0 n0 (some (.int (1 : Int32))) T12.heap _
          rw [e12]
          exact ⟨rfl, N11, K⟩
      · skip
        obtain ⟨_, _, ⟨T13, L13, k13, n13⟩, -, X13, ⟨Lc13, hQ13, l13, y13, z13⟩, st13⟩ := Jvm.LawKit.callS X3 hx (y := (⟨"com/example/reconcile/reconcile/simulator/WebhookAnswer", "of", "(Ljava/lang/Integer;)Lcom/example/reconcile/reconcile/simulator/WebhookAnswer;"⟩ : MethodName)) hown (mvT hZ (own_w hw 7 rfl)) (mvT hZ (own_w hw 8 rfl)) (mvT hZ (own_w hw 9 rfl)) (mvT hZ (own_w hw 10 rfl)) (by decide) (backOf (W := 0) (rmOf4 l Z a0 hw [] b_3 p0 w_NONE w_RECEIVED w_REFUSED T3.heap n0 O S_NONE S_RECEIVED S_REFUSED E_3 F_3 hr0_4 hr1_4 hr2_4 hr3_4) hZ (own_w hw 10 rfl) (own_w hw 9 rfl) (by decide) (by decide)) (g := (mkF m 47 #[iv p0, iv p1, iv (p1 &&& (3 : Int32)), rv b_3, iv p0, u_, u_] [(.ref b_3)])) rfl (by rw [hml]; rfl) (argsL := [(.ref b_3)]) (rest := []) (lenOf pd__28Ljava_2flang_2fInteger_3b_29Lcom_2fexample_2freconcile_2freconcile_2fsimulator_2fWebhookAnswer_3b rfl) rfl (by show 2 * 0 + _ ≤ _; exact Nat.le_of_eq rfl) (hb hby at_47) (fun _ _ => ⟨rfl, (Eq.refl T3.heap), (by decide : 1 + 0 ≤ _), (by decide : 1 + 0 ≤ _)⟩)
        dsimp only [Pt.U, Pt.locs, Pt.cells, Pt.slots] at X13 l13 y13 z13 st13 hQ13
        subst l13 y13 z13
        obtain ⟨rfl, Nq13, e13⟩ := hQ13
        have N13 := Fr.app N3 Nq13
        refine Go.step st13 ?_
        show Go p e below _ (T13.setTop (mkF m 50 #[iv p0, iv p1, iv (p1 &&& (3 : Int32)), rv b_3, iv p0, u_, u_] [(.ref w_NONE)]))
        refine Go.step (S' := T13.setTop (mkF m 112 #[iv p0, iv p1, iv (p1 &&& (3 : Int32)), rv b_3, iv p0, rv w_NONE, u_] [])) (fun t k => ?_) ?_
        · show Steps p.tables e below (T13.setTop (mkF m 50 #[iv p0, iv p1, iv (p1 &&& (3 : Int32)), rv b_3, iv p0, u_, u_] [(.ref w_NONE)])) _
          refine XS.astore X13.here hx rfl (hb hby at_50) rfl rfl (l' := #[iv p0, iv p1, iv (p1 &&& (3 : Int32)), rv b_3, iv p0, rv w_NONE, u_]) rfl ?_
          show Steps p.tables e below (T13.setTop (mkF m 52 #[iv p0, iv p1, iv (p1 &&& (3 : Int32)), rv b_3, iv p0, rv w_NONE, u_] [])) _
          refine XS.aloadN X13.here hx rfl (hb hby at_52) rfl rfl ?_
          show Steps p.tables e below (T13.setTop (mkF m 53 #[iv p0, iv p1, iv (p1 &&& (3 : Int32)), rv b_3, iv p0, rv w_NONE, u_] [(.ref b_3)])) _
          refine XS.ifnonnullYes X13.here hx rfl (pc0 := 53) (pc' := 64) rfl (hb hby at_53) rfl (by decide) (by decide) ?_
          show Steps p.tables e below (T13.setTop (mkF m 64 #[iv p0, iv p1, iv (p1 &&& (3 : Int32)), rv b_3, iv p0, rv w_NONE, u_] [])) _
          refine XS.sipush X13.here hx rfl (hb hby at_64) ?_
          show Steps p.tables e below (T13.setTop (mkF m 67 #[iv p0, iv p1, iv (p1 &&& (3 : Int32)), rv b_3, iv p0, rv w_NONE, u_] [(.int (200 : Int32))])) _
          refine XS.iload X13.here hx rfl (hb hby at_67) rfl ?_
          show Steps p.tables e below (T13.setTop (mkF m 69 #[iv p0, iv p1, iv (p1 &&& (3 : Int32)), rv b_3, iv p0, rv w_NONE, u_] [(.int p0), (.int (200 : Int32))])) _
          refine XS.icmpNo X13.here hx rfl (hb hby at_69) rfl (flt (hr0_4 : ¬ (p0 < (200 : Int32)))).2.2.1 ?_
          show Steps p.tables e below (T13.setTop (mkF m 72 #[iv p0, iv p1, iv (p1 &&& (3 : Int32)), rv b_3, iv p0, rv w_NONE, u_] [])) _
          refine XS.iload X13.here hx rfl (hb hby at_72) rfl ?_
          show Steps p.tables e below (T13.setTop (mkF m 74 #[iv p0, iv p1, iv (p1 &&& (3 : Int32)), rv b_3, iv p0, rv w_NONE, u_] [(.int p0)])) _
          refine XS.sipush X13.here hx rfl (hb hby at_74) ?_
          show Steps p.tables e below (T13.setTop (mkF m 77 #[iv p0, iv p1, iv (p1 &&& (3 : Int32)), rv b_3, iv p0, rv w_NONE, u_] [(.int (299 : Int32)), (.int p0)])) _
          refine XS.icmpYes X13.here hx rfl (pc0 := 77) (pc' := 88) rfl (hb hby at_77) rfl (tlt (hr1_4 : (299 : Int32) < p0)).2.2.1 (by decide) (by decide) ?_
          show Steps p.tables e below (T13.setTop (mkF m 88 #[iv p0, iv p1, iv (p1 &&& (3 : Int32)), rv b_3, iv p0, rv w_NONE, u_] [])) _
          refine XS.sipush X13.here hx rfl (hb hby at_88) ?_
          show Steps p.tables e below (T13.setTop (mkF m 91 #[iv p0, iv p1, iv (p1 &&& (3 : Int32)), rv b_3, iv p0, rv w_NONE, u_] [(.int (400 : Int32))])) _
          refine XS.iload X13.here hx rfl (hb hby at_91) rfl ?_
          show Steps p.tables e below (T13.setTop (mkF m 93 #[iv p0, iv p1, iv (p1 &&& (3 : Int32)), rv b_3, iv p0, rv w_NONE, u_] [(.int p0), (.int (400 : Int32))])) _
          refine XS.icmpNo X13.here hx rfl (hb hby at_93) rfl (flt (hr2_4 : ¬ (p0 < (400 : Int32)))).2.2.1 ?_
          show Steps p.tables e below (T13.setTop (mkF m 96 #[iv p0, iv p1, iv (p1 &&& (3 : Int32)), rv b_3, iv p0, rv w_NONE, u_] [])) _
          refine XS.iload X13.here hx rfl (hb hby at_96) rfl ?_
          show Steps p.tables e below (T13.setTop (mkF m 98 #[iv p0, iv p1, iv (p1 &&& (3 : Int32)), rv b_3, iv p0, rv w_NONE, u_] [(.int p0)])) _
          refine XS.sipush X13.here hx rfl (hb hby at_98) ?_
          show Steps p.tables e below (T13.setTop (mkF m 101 #[iv p0, iv p1, iv (p1 &&& (3 : Int32)), rv b_3, iv p0, rv w_NONE, u_] [(.int (499 : Int32)), (.int p0)])) _
          refine XS.icmpYes X13.here hx rfl (pc0 := 101) (pc' := 112) rfl (hb hby at_101) rfl (tlt (hr3_4 : (499 : Int32) < p0)).2.2.1 (by decide) (by decide) ?_
          exact k
        obtain ⟨T14, X14, e14, st14⟩ := getS2 X13 hx hZ hown (host := "") (Or.inl (own_w hw 20 rfl)) Via.refl e13 (S_NONE.ext O.2) (g := (mkF m 112 #[iv p0, iv p1, iv (p1 &&& (3 : Int32)), rv b_3, iv p0, rv w_NONE, u_] [])) rfl (hb hby at_112)
        refine Go.step st14 ?_
        show Go p e below _ (T14.setTop (mkF m 115 #[iv p0, iv p1, iv (p1 &&& (3 : Int32)), rv b_3, iv p0, rv w_NONE, u_] [(.ref w_NONE)]))
        refine Go.step (S' := T14.setTop (mkF m 129 #[iv p0, iv p1, iv (p1 &&& (3 : Int32)), rv b_3, iv p0, rv w_NONE, rv w_NONE] [(.int (1 : Int32))])) (fun t k => ?_) ?_
        · show Steps p.tables e below (T14.setTop (mkF m 115 #[iv p0, iv p1, iv (p1 &&& (3 : Int32)), rv b_3, iv p0, rv w_NONE, u_] [(.ref w_NONE)])) _
          refine XS.astore X14.here hx rfl (hb hby at_115) rfl rfl (l' := #[iv p0, iv p1, iv (p1 &&& (3 : Int32)), rv b_3, iv p0, rv w_NONE, rv w_NONE]) rfl ?_
          show Steps p.tables e below (T14.setTop (mkF m 117 #[iv p0, iv p1, iv (p1 &&& (3 : Int32)), rv b_3, iv p0, rv w_NONE, rv w_NONE] [])) _
          refine XS.aload X14.here hx rfl (hb hby at_117) rfl rfl ?_
          show Steps p.tables e below (T14.setTop (mkF m 119 #[iv p0, iv p1, iv (p1 &&& (3 : Int32)), rv b_3, iv p0, rv w_NONE, rv w_NONE] [(.ref w_NONE)])) _
          refine XS.aload X14.here hx rfl (hb hby at_119) rfl rfl ?_
          show Steps p.tables e below (T14.setTop (mkF m 121 #[iv p0, iv p1, iv (p1 &&& (3 : Int32)), rv b_3, iv p0, rv w_NONE, rv w_NONE] [(.ref w_NONE), (.ref w_NONE)])) _
          refine Jvm.RoadKit.acmp (g := (mkF m 121 #[iv p0, iv p1, iv (p1 &&& (3 : Int32)), rv b_3, iv p0, rv w_NONE, rv w_NONE] [(.ref w_NONE), (.ref w_NONE)])) X14 hx rfl rfl rfl (pc0 := 121) (pc' := 124) (same := true) rfl (hb hby at_121) rfl (decide_eq_true rfl) (by decide) (by decide) ?_
          show Steps p.tables e below (T14.setTop (mkF m 124 #[iv p0, iv p1, iv (p1 &&& (3 : Int32)), rv b_3, iv p0, rv w_NONE, rv w_NONE] [])) _
          refine XS.iconst X14.here hx rfl (hb hby at_124) ?_
          show Steps p.tables e below (T14.setTop (mkF m 125 #[iv p0, iv p1, iv (p1 &&& (3 : Int32)), rv b_3, iv p0, rv w_NONE, rv w_NONE] [(.int (1 : Int32))])) _
          refine XS.goto X14.here hx rfl (pc0 := 125) (pc' := 129) rfl (hb hby at_125) (by decide) (by decide) ?_
          exact k
        obtain ⟨fs, hr, hrun, hended, hW, hsame⟩ := X14.leave (v := some (.int (1 : Int32))) (fun h => by rw [Bd.returns] at h; cases h)
        refine Go.fin (S' := T14.setFrames fs) ?_ hrun hended ⟨_, _, rfl, ?_, ⟨_, rfl⟩, hW, hsame.mono (by decide) (by decide)⟩
        · exact retOut X14 hx Bd.returns (by decide) (Or.inl ⟨rfl, Or.inr (Or.inl rfl), _, rfl⟩) (hb hby at_129) hr
        · show Q_rm0 Z p0 p1 w_NONE w_RECEIVED w_REFUSED w_cache cl h0 n0 (some (.int (1 : Int32))) T14.heap _
          rw [e14]
          exact ⟨rfl, N13, K⟩
    · skip
      refine Go.step (S' := s₁.setTop (mkF m 42 #[iv p0, iv p1, iv (p1 &&& (3 : Int32)), u_, iv (p0 % (1000 : Int32)), u_, u_] [(.int (p0 % (1000 : Int32)))])) (fun t k => ?_) ?_
      · show Steps p.tables e below (s₁.setTop (mkF m 18 #[iv p0, iv p1, iv (p1 &&& (3 : Int32)), u_, u_, u_, u_] [(.int (1 : Int32)), (.int (p1 &&& (3 : Int32)))])) _
        refine XS.icmpYes X0.here hx rfl (pc0 := 18) (pc' := 33) rfl (hb hby at_18) rfl (feq (hc18 : ¬ ((p1 &&& (3 : Int32)) = (1 : Int32)))).2 (by decide) (by decide) ?_
        show Steps p.tables e below (s₁.setTop (mkF m 33 #[iv p0, iv p1, iv (p1 &&& (3 : Int32)), u_, u_, u_, u_] [])) _
        refine XS.iloadN X0.here hx rfl (hb hby at_33) rfl ?_
        show Steps p.tables e below (s₁.setTop (mkF m 34 #[iv p0, iv p1, iv (p1 &&& (3 : Int32)), u_, u_, u_, u_] [(.int p0)])) _
        refine XS.sipush X0.here hx rfl (hb hby at_34) ?_
        show Steps p.tables e below (s₁.setTop (mkF m 37 #[iv p0, iv p1, iv (p1 &&& (3 : Int32)), u_, u_, u_, u_] [(.int (1000 : Int32)), (.int p0)])) _
        refine iremM X0 hx rfl (hb hby at_37) rfl (by decide) ?_
        show Steps p.tables e below (s₁.setTop (mkF m 38 #[iv p0, iv p1, iv (p1 &&& (3 : Int32)), u_, u_, u_, u_] [(.int (p0 % (1000 : Int32)))])) _
        refine XS.istore X0.here hx rfl (hb hby at_38) rfl (l' := #[iv p0, iv p1, iv (p1 &&& (3 : Int32)), u_, iv (p0 % (1000 : Int32)), u_, u_]) rfl ?_
        show Steps p.tables e below (s₁.setTop (mkF m 40 #[iv p0, iv p1, iv (p1 &&& (3 : Int32)), u_, iv (p0 % (1000 : Int32)), u_, u_] [])) _
        refine XS.iload X0.here hx rfl (hb hby at_40) rfl ?_
        exact k
      obtain ⟨_, _, ⟨T15, L15, k15, n15⟩, -, X15, ⟨Lc15, hQ15, l15, y15, z15⟩, st15⟩ := Jvm.LawKit.callS X0 hx (y := (⟨"java/lang/Integer", "valueOf", "(I)Ljava/lang/Integer;"⟩ : MethodName)) hown (mvT hZ (own_w hw 0 rfl)) (mvT hZ (own_w hw 1 rfl)) (mvT hZ (own_w hw 2 rfl)) (mvT hZ (own_w hw 3 rfl)) (by decide) (backOf (W := 0) (rmVO l Z a0 hw [] (p0 % (1000 : Int32)) w_cache cl h0 n0 O S_high S_cache (by assumption)) hZ (own_w hw 3 rfl) (own_w hw 2 rfl) (by decide) (by decide)) (g := (mkF m 42 #[iv p0, iv p1, iv (p1 &&& (3 : Int32)), u_, iv (p0 % (1000 : Int32)), u_, u_] [(.int (p0 % (1000 : Int32)))])) rfl (by rw [hml]; rfl) (argsL := [(.int (p0 % (1000 : Int32)))]) (rest := []) (lenOf pd__28I_29Ljava_2flang_2fInteger_3b rfl) rfl (by show 2 * 0 + _ ≤ _; exact Nat.le_of_eq rfl) (hb hby at_42) (fun _ _ => ⟨rfl, e0, (by decide : 0 + 1 ≤ _), (by decide : 0 + 1 ≤ _)⟩)
      dsimp only [Pt.U, Pt.locs, Pt.cells, Pt.slots] at X15 l15 y15 z15 st15 hQ15
      subst l15 y15 z15
      obtain ⟨b_15, rfl, Nq15, K15, P15_E, P15_F⟩ := hQ15
      have N15 := Fr.app N0 Nq15
      have O := O.keep K15 all0
      have K := K.trans K15 all0
      have E_15 := P15_E
      have F_15 := P15_F
      refine Go.step st15 ?_
      show Go p e below _ (T15.setTop (mkF m 45 #[iv p0, iv p1, iv (p1 &&& (3 : Int32)), u_, iv (p0 % (1000 : Int32)), u_, u_] [(.ref b_15)]))
      refine Go.step (S' := T15.setTop (mkF m 47 #[iv p0, iv p1, iv (p1 &&& (3 : Int32)), rv b_15, iv (p0 % (1000 : Int32)), u_, u_] [(.ref b_15)])) (fun t k => ?_) ?_
      · show Steps p.tables e below (T15.setTop (mkF m 45 #[iv p0, iv p1, iv (p1 &&& (3 : Int32)), u_, iv (p0 % (1000 : Int32)), u_, u_] [(.ref b_15)])) _
        refine XS.astoreN X15.here hx rfl (hb hby at_45) rfl rfl (l' := #[iv p0, iv p1, iv (p1 &&& (3 : Int32)), rv b_15, iv (p0 % (1000 : Int32)), u_, u_]) rfl ?_
        show Steps p.tables e below (T15.setTop (mkF m 46 #[iv p0, iv p1, iv (p1 &&& (3 : Int32)), rv b_15, iv (p0 % (1000 : Int32)), u_, u_] [])) _
        refine XS.aloadN X15.here hx rfl (hb hby at_46) rfl rfl ?_
        exact k
      rcases own_rng (p0 % (1000 : Int32)) with ⟨hr0_16, hr1_16, hr2_16, hr3_16⟩ | ⟨hr0_16, hr1_16, hr2_16, hr3_16⟩ | ⟨hr0_16, hr1_16, hr2_16, hr3_16⟩ | ⟨hr0_16, hr1_16, hr2_16, hr3_16⟩ | ⟨hr0_16, hr1_16, hr2_16, hr3_16⟩
      · skip
        obtain ⟨_, _, ⟨T17, L17, k17, n17⟩, -, X17, ⟨Lc17, hQ17, l17, y17, z17⟩, st17⟩ := Jvm.LawKit.callS X15 hx (y := (⟨"com/example/reconcile/reconcile/simulator/WebhookAnswer", "of", "(Ljava/lang/Integer;)Lcom/example/reconcile/reconcile/simulator/WebhookAnswer;"⟩ : MethodName)) hown (mvT hZ (own_w hw 7 rfl)) (mvT hZ (own_w hw 8 rfl)) (mvT hZ (own_w hw 9 rfl)) (mvT hZ (own_w hw 10 rfl)) (by decide) (backOf (W := 0) (rmOf0 l Z a0 hw [] b_15 (p0 % (1000 : Int32)) w_NONE w_RECEIVED w_REFUSED T15.heap n0 O S_NONE S_RECEIVED S_REFUSED E_15 F_15 hr0_16 hr1_16 hr2_16 hr3_16) hZ (own_w hw 10 rfl) (own_w hw 9 rfl) (by decide) (by decide)) (g := (mkF m 47 #[iv p0, iv p1, iv (p1 &&& (3 : Int32)), rv b_15, iv (p0 % (1000 : Int32)), u_, u_] [(.ref b_15)])) rfl (by rw [hml]; rfl) (argsL := [(.ref b_15)]) (rest := []) (lenOf pd__28Ljava_2flang_2fInteger_3b_29Lcom_2fexample_2freconcile_2freconcile_2fsimulator_2fWebhookAnswer_3b rfl) rfl (by show 2 * 0 + _ ≤ _; exact Nat.le_of_eq rfl) (hb hby at_47) (fun _ _ => ⟨rfl, (Eq.refl T15.heap), (by decide : 1 + 0 ≤ _), (by decide : 1 + 0 ≤ _)⟩)
        dsimp only [Pt.U, Pt.locs, Pt.cells, Pt.slots] at X17 l17 y17 z17 st17 hQ17
        subst l17 y17 z17
        obtain ⟨rfl, Nq17, e17⟩ := hQ17
        have N17 := Fr.app N15 Nq17
        refine Go.step st17 ?_
        show Go p e below _ (T17.setTop (mkF m 50 #[iv p0, iv p1, iv (p1 &&& (3 : Int32)), rv b_15, iv (p0 % (1000 : Int32)), u_, u_] [(.ref w_NONE)]))
        refine Go.step (S' := T17.setTop (mkF m 112 #[iv p0, iv p1, iv (p1 &&& (3 : Int32)), rv b_15, iv (p0 % (1000 : Int32)), rv w_NONE, u_] [])) (fun t k => ?_) ?_
        · show Steps p.tables e below (T17.setTop (mkF m 50 #[iv p0, iv p1, iv (p1 &&& (3 : Int32)), rv b_15, iv (p0 % (1000 : Int32)), u_, u_] [(.ref w_NONE)])) _
          refine XS.astore X17.here hx rfl (hb hby at_50) rfl rfl (l' := #[iv p0, iv p1, iv (p1 &&& (3 : Int32)), rv b_15, iv (p0 % (1000 : Int32)), rv w_NONE, u_]) rfl ?_
          show Steps p.tables e below (T17.setTop (mkF m 52 #[iv p0, iv p1, iv (p1 &&& (3 : Int32)), rv b_15, iv (p0 % (1000 : Int32)), rv w_NONE, u_] [])) _
          refine XS.aloadN X17.here hx rfl (hb hby at_52) rfl rfl ?_
          show Steps p.tables e below (T17.setTop (mkF m 53 #[iv p0, iv p1, iv (p1 &&& (3 : Int32)), rv b_15, iv (p0 % (1000 : Int32)), rv w_NONE, u_] [(.ref b_15)])) _
          refine XS.ifnonnullYes X17.here hx rfl (pc0 := 53) (pc' := 64) rfl (hb hby at_53) rfl (by decide) (by decide) ?_
          show Steps p.tables e below (T17.setTop (mkF m 64 #[iv p0, iv p1, iv (p1 &&& (3 : Int32)), rv b_15, iv (p0 % (1000 : Int32)), rv w_NONE, u_] [])) _
          refine XS.sipush X17.here hx rfl (hb hby at_64) ?_
          show Steps p.tables e below (T17.setTop (mkF m 67 #[iv p0, iv p1, iv (p1 &&& (3 : Int32)), rv b_15, iv (p0 % (1000 : Int32)), rv w_NONE, u_] [(.int (200 : Int32))])) _
          refine XS.iload X17.here hx rfl (hb hby at_67) rfl ?_
          show Steps p.tables e below (T17.setTop (mkF m 69 #[iv p0, iv p1, iv (p1 &&& (3 : Int32)), rv b_15, iv (p0 % (1000 : Int32)), rv w_NONE, u_] [(.int (p0 % (1000 : Int32))), (.int (200 : Int32))])) _
          refine XS.icmpYes X17.here hx rfl (pc0 := 69) (pc' := 88) rfl (hb hby at_69) rfl (tlt (hr0_16 : (p0 % (1000 : Int32)) < (200 : Int32))).2.2.1 (by decide) (by decide) ?_
          show Steps p.tables e below (T17.setTop (mkF m 88 #[iv p0, iv p1, iv (p1 &&& (3 : Int32)), rv b_15, iv (p0 % (1000 : Int32)), rv w_NONE, u_] [])) _
          refine XS.sipush X17.here hx rfl (hb hby at_88) ?_
          show Steps p.tables e below (T17.setTop (mkF m 91 #[iv p0, iv p1, iv (p1 &&& (3 : Int32)), rv b_15, iv (p0 % (1000 : Int32)), rv w_NONE, u_] [(.int (400 : Int32))])) _
          refine XS.iload X17.here hx rfl (hb hby at_91) rfl ?_
          show Steps p.tables e below (T17.setTop (mkF m 93 #[iv p0, iv p1, iv (p1 &&& (3 : Int32)), rv b_15, iv (p0 % (1000 : Int32)), rv w_NONE, u_] [(.int (p0 % (1000 : Int32))), (.int (400 : Int32))])) _
          refine XS.icmpYes X17.here hx rfl (pc0 := 93) (pc' := 112) rfl (hb hby at_93) rfl (tlt (hr2_16 : (p0 % (1000 : Int32)) < (400 : Int32))).2.2.1 (by decide) (by decide) ?_
          exact k
        obtain ⟨T18, X18, e18, st18⟩ := getS2 X17 hx hZ hown (host := "") (Or.inl (own_w hw 20 rfl)) Via.refl e17 (S_NONE.ext O.2) (g := (mkF m 112 #[iv p0, iv p1, iv (p1 &&& (3 : Int32)), rv b_15, iv (p0 % (1000 : Int32)), rv w_NONE, u_] [])) rfl (hb hby at_112)
        refine Go.step st18 ?_
        show Go p e below _ (T18.setTop (mkF m 115 #[iv p0, iv p1, iv (p1 &&& (3 : Int32)), rv b_15, iv (p0 % (1000 : Int32)), rv w_NONE, u_] [(.ref w_NONE)]))
        refine Go.step (S' := T18.setTop (mkF m 129 #[iv p0, iv p1, iv (p1 &&& (3 : Int32)), rv b_15, iv (p0 % (1000 : Int32)), rv w_NONE, rv w_NONE] [(.int (1 : Int32))])) (fun t k => ?_) ?_
        · show Steps p.tables e below (T18.setTop (mkF m 115 #[iv p0, iv p1, iv (p1 &&& (3 : Int32)), rv b_15, iv (p0 % (1000 : Int32)), rv w_NONE, u_] [(.ref w_NONE)])) _
          refine XS.astore X18.here hx rfl (hb hby at_115) rfl rfl (l' := #[iv p0, iv p1, iv (p1 &&& (3 : Int32)), rv b_15, iv (p0 % (1000 : Int32)), rv w_NONE, rv w_NONE]) rfl ?_
          show Steps p.tables e below (T18.setTop (mkF m 117 #[iv p0, iv p1, iv (p1 &&& (3 : Int32)), rv b_15, iv (p0 % (1000 : Int32)), rv w_NONE, rv w_NONE] [])) _
          refine XS.aload X18.here hx rfl (hb hby at_117) rfl rfl ?_
          show Steps p.tables e below (T18.setTop (mkF m 119 #[iv p0, iv p1, iv (p1 &&& (3 : Int32)), rv b_15, iv (p0 % (1000 : Int32)), rv w_NONE, rv w_NONE] [(.ref w_NONE)])) _
          refine XS.aload X18.here hx rfl (hb hby at_119) rfl rfl ?_
          show Steps p.tables e below (T18.setTop (mkF m 121 #[iv p0, iv p1, iv (p1 &&& (3 : Int32)), rv b_15, iv (p0 % (1000 : Int32)), rv w_NONE, rv w_NONE] [(.ref w_NONE), (.ref w_NONE)])) _
          refine Jvm.RoadKit.acmp (g := (mkF m 121 #[iv p0, iv p1, iv (p1 &&& (3 : Int32)), rv b_15, iv (p0 % (1000 : Int32)), rv w_NONE, rv w_NONE] [(.ref w_NONE), (.ref w_NONE)])) X18 hx rfl rfl rfl (pc0 := 121) (pc' := 124) (same := true) rfl (hb hby at_121) rfl (decide_eq_true rfl) (by decide) (by decide) ?_
          show Steps p.tables e below (T18.setTop (mkF m 124 #[iv p0, iv p1, iv (p1 &&& (3 : Int32)), rv b_15, iv (p0 % (1000 : Int32)), rv w_NONE, rv w_NONE] [])) _
          refine XS.iconst X18.here hx rfl (hb hby at_124) ?_
          show Steps p.tables e below (T18.setTop (mkF m 125 #[iv p0, iv p1, iv (p1 &&& (3 : Int32)), rv b_15, iv (p0 % (1000 : Int32)), rv w_NONE, rv w_NONE] [(.int (1 : Int32))])) _
          refine XS.goto X18.here hx rfl (pc0 := 125) (pc' := 129) rfl (hb hby at_125) (by decide) (by decide) ?_
          exact k
        obtain ⟨fs, hr, hrun, hended, hW, hsame⟩ := X18.leave (v := some (.int (1 : Int32))) (fun h => by rw [Bd.returns] at h; cases h)
        refine Go.fin (S' := T18.setFrames fs) ?_ hrun hended ⟨_, _, rfl, ?_, ⟨_, rfl⟩, hW, hsame.mono (by decide) (by decide)⟩
        · exact retOut X18 hx Bd.returns (by decide) (Or.inl ⟨rfl, Or.inr (Or.inl rfl), _, rfl⟩) (hb hby at_129) hr
        · show Q_rm0 Z p0 p1 w_NONE w_RECEIVED w_REFUSED w_cache cl h0 n0 (some (.int (1 : Int32))) T18.heap _
          rw [e18]
          exact ⟨rfl, N17, K⟩
      · skip
        obtain ⟨_, _, ⟨T19, L19, k19, n19⟩, -, X19, ⟨Lc19, hQ19, l19, y19, z19⟩, st19⟩ := Jvm.LawKit.callS X15 hx (y := (⟨"com/example/reconcile/reconcile/simulator/WebhookAnswer", "of", "(Ljava/lang/Integer;)Lcom/example/reconcile/reconcile/simulator/WebhookAnswer;"⟩ : MethodName)) hown (mvT hZ (own_w hw 7 rfl)) (mvT hZ (own_w hw 8 rfl)) (mvT hZ (own_w hw 9 rfl)) (mvT hZ (own_w hw 10 rfl)) (by decide) (backOf (W := 0) (rmOf1 l Z a0 hw [] b_15 (p0 % (1000 : Int32)) w_NONE w_RECEIVED w_REFUSED T15.heap n0 O S_NONE S_RECEIVED S_REFUSED E_15 F_15 hr0_16 hr1_16 hr2_16 hr3_16) hZ (own_w hw 10 rfl) (own_w hw 9 rfl) (by decide) (by decide)) (g := (mkF m 47 #[iv p0, iv p1, iv (p1 &&& (3 : Int32)), rv b_15, iv (p0 % (1000 : Int32)), u_, u_] [(.ref b_15)])) rfl (by rw [hml]; rfl) (argsL := [(.ref b_15)]) (rest := []) (lenOf pd__28Ljava_2flang_2fInteger_3b_29Lcom_2fexample_2freconcile_2freconcile_2fsimulator_2fWebhookAnswer_3b rfl) rfl (by show 2 * 0 + _ ≤ _; exact Nat.le_of_eq rfl) (hb hby at_47) (fun _ _ => ⟨rfl, (Eq.refl T15.heap), (by decide : 1 + 0 ≤ _), (by decide : 1 + 0 ≤ _)⟩)
        dsimp only [Pt.U, Pt.locs, Pt.cells, Pt.slots] at X19 l19 y19 z19 st19 hQ19
        subst l19 y19 z19
        obtain ⟨rfl, Nq19, e19⟩ := hQ19
        have N19 := Fr.app N15 Nq19
        refine Go.step st19 ?_
        show Go p e below _ (T19.setTop (mkF m 50 #[iv p0, iv p1, iv (p1 &&& (3 : Int32)), rv b_15, iv (p0 % (1000 : Int32)), u_, u_] [(.ref w_RECEIVED)]))
        refine Go.step (S' := T19.setTop (mkF m 80 #[iv p0, iv p1, iv (p1 &&& (3 : Int32)), rv b_15, iv (p0 % (1000 : Int32)), rv w_RECEIVED, u_] [])) (fun t k => ?_) ?_
        · show Steps p.tables e below (T19.setTop (mkF m 50 #[iv p0, iv p1, iv (p1 &&& (3 : Int32)), rv b_15, iv (p0 % (1000 : Int32)), u_, u_] [(.ref w_RECEIVED)])) _
          refine XS.astore X19.here hx rfl (hb hby at_50) rfl rfl (l' := #[iv p0, iv p1, iv (p1 &&& (3 : Int32)), rv b_15, iv (p0 % (1000 : Int32)), rv w_RECEIVED, u_]) rfl ?_
          show Steps p.tables e below (T19.setTop (mkF m 52 #[iv p0, iv p1, iv (p1 &&& (3 : Int32)), rv b_15, iv (p0 % (1000 : Int32)), rv w_RECEIVED, u_] [])) _
          refine XS.aloadN X19.here hx rfl (hb hby at_52) rfl rfl ?_
          show Steps p.tables e below (T19.setTop (mkF m 53 #[iv p0, iv p1, iv (p1 &&& (3 : Int32)), rv b_15, iv (p0 % (1000 : Int32)), rv w_RECEIVED, u_] [(.ref b_15)])) _
          refine XS.ifnonnullYes X19.here hx rfl (pc0 := 53) (pc' := 64) rfl (hb hby at_53) rfl (by decide) (by decide) ?_
          show Steps p.tables e below (T19.setTop (mkF m 64 #[iv p0, iv p1, iv (p1 &&& (3 : Int32)), rv b_15, iv (p0 % (1000 : Int32)), rv w_RECEIVED, u_] [])) _
          refine XS.sipush X19.here hx rfl (hb hby at_64) ?_
          show Steps p.tables e below (T19.setTop (mkF m 67 #[iv p0, iv p1, iv (p1 &&& (3 : Int32)), rv b_15, iv (p0 % (1000 : Int32)), rv w_RECEIVED, u_] [(.int (200 : Int32))])) _
          refine XS.iload X19.here hx rfl (hb hby at_67) rfl ?_
          show Steps p.tables e below (T19.setTop (mkF m 69 #[iv p0, iv p1, iv (p1 &&& (3 : Int32)), rv b_15, iv (p0 % (1000 : Int32)), rv w_RECEIVED, u_] [(.int (p0 % (1000 : Int32))), (.int (200 : Int32))])) _
          refine XS.icmpNo X19.here hx rfl (hb hby at_69) rfl (flt (hr0_16 : ¬ ((p0 % (1000 : Int32)) < (200 : Int32)))).2.2.1 ?_
          show Steps p.tables e below (T19.setTop (mkF m 72 #[iv p0, iv p1, iv (p1 &&& (3 : Int32)), rv b_15, iv (p0 % (1000 : Int32)), rv w_RECEIVED, u_] [])) _
          refine XS.iload X19.here hx rfl (hb hby at_72) rfl ?_
          show Steps p.tables e below (T19.setTop (mkF m 74 #[iv p0, iv p1, iv (p1 &&& (3 : Int32)), rv b_15, iv (p0 % (1000 : Int32)), rv w_RECEIVED, u_] [(.int (p0 % (1000 : Int32)))])) _
          refine XS.sipush X19.here hx rfl (hb hby at_74) ?_
          show Steps p.tables e below (T19.setTop (mkF m 77 #[iv p0, iv p1, iv (p1 &&& (3 : Int32)), rv b_15, iv (p0 % (1000 : Int32)), rv w_RECEIVED, u_] [(.int (299 : Int32)), (.int (p0 % (1000 : Int32)))])) _
          refine XS.icmpNo X19.here hx rfl (hb hby at_77) rfl (flt (hr1_16 : ¬ ((299 : Int32) < (p0 % (1000 : Int32))))).2.2.1 ?_
          exact k
        obtain ⟨T20, X20, e20, st20⟩ := getS2 X19 hx hZ hown (host := "") (Or.inl (own_w hw 38 rfl)) Via.refl e19 (S_RECEIVED.ext O.2) (g := (mkF m 80 #[iv p0, iv p1, iv (p1 &&& (3 : Int32)), rv b_15, iv (p0 % (1000 : Int32)), rv w_RECEIVED, u_] [])) rfl (hb hby at_80)
        refine Go.step st20 ?_
        show Go p e below _ (T20.setTop (mkF m 83 #[iv p0, iv p1, iv (p1 &&& (3 : Int32)), rv b_15, iv (p0 % (1000 : Int32)), rv w_RECEIVED, u_] [(.ref w_RECEIVED)]))
        refine Go.step (S' := T20.setTop (mkF m 129 #[iv p0, iv p1, iv (p1 &&& (3 : Int32)), rv b_15, iv (p0 % (1000 : Int32)), rv w_RECEIVED, rv w_RECEIVED] [(.int (1 : Int32))])) (fun t k => ?_) ?_
        · show Steps p.tables e below (T20.setTop (mkF m 83 #[iv p0, iv p1, iv (p1 &&& (3 : Int32)), rv b_15, iv (p0 % (1000 : Int32)), rv w_RECEIVED, u_] [(.ref w_RECEIVED)])) _
          refine XS.astore X20.here hx rfl (hb hby at_83) rfl rfl (l' := #[iv p0, iv p1, iv (p1 &&& (3 : Int32)), rv b_15, iv (p0 % (1000 : Int32)), rv w_RECEIVED, rv w_RECEIVED]) rfl ?_
          show Steps p.tables e below (T20.setTop (mkF m 85 #[iv p0, iv p1, iv (p1 &&& (3 : Int32)), rv b_15, iv (p0 % (1000 : Int32)), rv w_RECEIVED, rv w_RECEIVED] [])) _
          refine XS.goto X20.here hx rfl (pc0 := 85) (pc' := 117) rfl (hb hby at_85) (by decide) (by decide) ?_
          show Steps p.tables e below (T20.setTop (mkF m 117 #[iv p0, iv p1, iv (p1 &&& (3 : Int32)), rv b_15, iv (p0 % (1000 : Int32)), rv w_RECEIVED, rv w_RECEIVED] [])) _
          refine XS.aload X20.here hx rfl (hb hby at_117) rfl rfl ?_
          show Steps p.tables e below (T20.setTop (mkF m 119 #[iv p0, iv p1, iv (p1 &&& (3 : Int32)), rv b_15, iv (p0 % (1000 : Int32)), rv w_RECEIVED, rv w_RECEIVED] [(.ref w_RECEIVED)])) _
          refine XS.aload X20.here hx rfl (hb hby at_119) rfl rfl ?_
          show Steps p.tables e below (T20.setTop (mkF m 121 #[iv p0, iv p1, iv (p1 &&& (3 : Int32)), rv b_15, iv (p0 % (1000 : Int32)), rv w_RECEIVED, rv w_RECEIVED] [(.ref w_RECEIVED), (.ref w_RECEIVED)])) _
          refine Jvm.RoadKit.acmp (g := (mkF m 121 #[iv p0, iv p1, iv (p1 &&& (3 : Int32)), rv b_15, iv (p0 % (1000 : Int32)), rv w_RECEIVED, rv w_RECEIVED] [(.ref w_RECEIVED), (.ref w_RECEIVED)])) X20 hx rfl rfl rfl (pc0 := 121) (pc' := 124) (same := true) rfl (hb hby at_121) rfl (decide_eq_true rfl) (by decide) (by decide) ?_
          show Steps p.tables e below (T20.setTop (mkF m 124 #[iv p0, iv p1, iv (p1 &&& (3 : Int32)), rv b_15, iv (p0 % (1000 : Int32)), rv w_RECEIVED, rv w_RECEIVED] [])) _
          refine XS.iconst X20.here hx rfl (hb hby at_124) ?_
          show Steps p.tables e below (T20.setTop (mkF m 125 #[iv p0, iv p1, iv (p1 &&& (3 : Int32)), rv b_15, iv (p0 % (1000 : Int32)), rv w_RECEIVED, rv w_RECEIVED] [(.int (1 : Int32))])) _
          refine XS.goto X20.here hx rfl (pc0 := 125) (pc' := 129) rfl (hb hby at_125) (by decide) (by decide) ?_
          exact k
        obtain ⟨fs, hr, hrun, hended, hW, hsame⟩ := X20.leave (v := some (.int (1 : Int32))) (fun h => by rw [Bd.returns] at h; cases h)
        refine Go.fin (S' := T20.setFrames fs) ?_ hrun hended ⟨_, _, rfl, ?_, ⟨_, rfl⟩, hW, hsame.mono (by decide) (by decide)⟩
        · exact retOut X20 hx Bd.returns (by decide) (Or.inl ⟨rfl, Or.inr (Or.inl rfl), _, rfl⟩) (hb hby at_129) hr
        · show Q_rm0 Z p0 p1 w_NONE w_RECEIVED w_REFUSED w_cache cl h0 n0 (some (.int (1 : Int32))) T20.heap _
          rw [e20]
          exact ⟨rfl, N19, K⟩
      · skip
        obtain ⟨_, _, ⟨T21, L21, k21, n21⟩, -, X21, ⟨Lc21, hQ21, l21, y21, z21⟩, st21⟩ := Jvm.LawKit.callS X15 hx (y := (⟨"com/example/reconcile/reconcile/simulator/WebhookAnswer", "of", "(Ljava/lang/Integer;)Lcom/example/reconcile/reconcile/simulator/WebhookAnswer;"⟩ : MethodName)) hown (mvT hZ (own_w hw 7 rfl)) (mvT hZ (own_w hw 8 rfl)) (mvT hZ (own_w hw 9 rfl)) (mvT hZ (own_w hw 10 rfl)) (by decide) (backOf (W := 0) (rmOf2 l Z a0 hw [] b_15 (p0 % (1000 : Int32)) w_NONE w_RECEIVED w_REFUSED T15.heap n0 O S_NONE S_RECEIVED S_REFUSED E_15 F_15 hr0_16 hr1_16 hr2_16 hr3_16) hZ (own_w hw 10 rfl) (own_w hw 9 rfl) (by decide) (by decide)) (g := (mkF m 47 #[iv p0, iv p1, iv (p1 &&& (3 : Int32)), rv b_15, iv (p0 % (1000 : Int32)), u_, u_] [(.ref b_15)])) rfl (by rw [hml]; rfl) (argsL := [(.ref b_15)]) (rest := []) (lenOf pd__28Ljava_2flang_2fInteger_3b_29Lcom_2fexample_2freconcile_2freconcile_2fsimulator_2fWebhookAnswer_3b rfl) rfl (by show 2 * 0 + _ ≤ _; exact Nat.le_of_eq rfl) (hb hby at_47) (fun _ _ => ⟨rfl, (Eq.refl T15.heap), (by decide : 1 + 0 ≤ _), (by decide : 1 + 0 ≤ _)⟩)
        dsimp only [Pt.U, Pt.locs, Pt.cells, Pt.slots] at X21 l21 y21 z21 st21 hQ21
        subst l21 y21 z21
        obtain ⟨rfl, Nq21, e21⟩ := hQ21
        have N21 := Fr.app N15 Nq21
        refine Go.step st21 ?_
        show Go p e below _ (T21.setTop (mkF m 50 #[iv p0, iv p1, iv (p1 &&& (3 : Int32)), rv b_15, iv (p0 % (1000 : Int32)), u_, u_] [(.ref w_NONE)]))
        refine Go.step (S' := T21.setTop (mkF m 112 #[iv p0, iv p1, iv (p1 &&& (3 : Int32)), rv b_15, iv (p0 % (1000 : Int32)), rv w_NONE, u_] [])) (fun t k => ?_) ?_
        · show Steps p.tables e below (T21.setTop (mkF m 50 #[iv p0, iv p1, iv (p1 &&& (3 : Int32)), rv b_15, iv (p0 % (1000 : Int32)), u_, u_] [(.ref w_NONE)])) _
          refine XS.astore X21.here hx rfl (hb hby at_50) rfl rfl (l' := #[iv p0, iv p1, iv (p1 &&& (3 : Int32)), rv b_15, iv (p0 % (1000 : Int32)), rv w_NONE, u_]) rfl ?_
          show Steps p.tables e below (T21.setTop (mkF m 52 #[iv p0, iv p1, iv (p1 &&& (3 : Int32)), rv b_15, iv (p0 % (1000 : Int32)), rv w_NONE, u_] [])) _
          refine XS.aloadN X21.here hx rfl (hb hby at_52) rfl rfl ?_
          show Steps p.tables e below (T21.setTop (mkF m 53 #[iv p0, iv p1, iv (p1 &&& (3 : Int32)), rv b_15, iv (p0 % (1000 : Int32)), rv w_NONE, u_] [(.ref b_15)])) _
          refine XS.ifnonnullYes X21.here hx rfl (pc0 := 53) (pc' := 64) rfl (hb hby at_53) rfl (by decide) (by decide) ?_
          show Steps p.tables e below (T21.setTop (mkF m 64 #[iv p0, iv p1, iv (p1 &&& (3 : Int32)), rv b_15, iv (p0 % (1000 : Int32)), rv w_NONE, u_] [])) _
          refine XS.sipush X21.here hx rfl (hb hby at_64) ?_
          show Steps p.tables e below (T21.setTop (mkF m 67 #[iv p0, iv p1, iv (p1 &&& (3 : Int32)), rv b_15, iv (p0 % (1000 : Int32)), rv w_NONE, u_] [(.int (200 : Int32))])) _
          refine XS.iload X21.here hx rfl (hb hby at_67) rfl ?_
          show Steps p.tables e below (T21.setTop (mkF m 69 #[iv p0, iv p1, iv (p1 &&& (3 : Int32)), rv b_15, iv (p0 % (1000 : Int32)), rv w_NONE, u_] [(.int (p0 % (1000 : Int32))), (.int (200 : Int32))])) _
          refine XS.icmpNo X21.here hx rfl (hb hby at_69) rfl (flt (hr0_16 : ¬ ((p0 % (1000 : Int32)) < (200 : Int32)))).2.2.1 ?_
          show Steps p.tables e below (T21.setTop (mkF m 72 #[iv p0, iv p1, iv (p1 &&& (3 : Int32)), rv b_15, iv (p0 % (1000 : Int32)), rv w_NONE, u_] [])) _
          refine XS.iload X21.here hx rfl (hb hby at_72) rfl ?_
          show Steps p.tables e below (T21.setTop (mkF m 74 #[iv p0, iv p1, iv (p1 &&& (3 : Int32)), rv b_15, iv (p0 % (1000 : Int32)), rv w_NONE, u_] [(.int (p0 % (1000 : Int32)))])) _
          refine XS.sipush X21.here hx rfl (hb hby at_74) ?_
          show Steps p.tables e below (T21.setTop (mkF m 77 #[iv p0, iv p1, iv (p1 &&& (3 : Int32)), rv b_15, iv (p0 % (1000 : Int32)), rv w_NONE, u_] [(.int (299 : Int32)), (.int (p0 % (1000 : Int32)))])) _
          refine XS.icmpYes X21.here hx rfl (pc0 := 77) (pc' := 88) rfl (hb hby at_77) rfl (tlt (hr1_16 : (299 : Int32) < (p0 % (1000 : Int32)))).2.2.1 (by decide) (by decide) ?_
          show Steps p.tables e below (T21.setTop (mkF m 88 #[iv p0, iv p1, iv (p1 &&& (3 : Int32)), rv b_15, iv (p0 % (1000 : Int32)), rv w_NONE, u_] [])) _
          refine XS.sipush X21.here hx rfl (hb hby at_88) ?_
          show Steps p.tables e below (T21.setTop (mkF m 91 #[iv p0, iv p1, iv (p1 &&& (3 : Int32)), rv b_15, iv (p0 % (1000 : Int32)), rv w_NONE, u_] [(.int (400 : Int32))])) _
          refine XS.iload X21.here hx rfl (hb hby at_91) rfl ?_
          show Steps p.tables e below (T21.setTop (mkF m 93 #[iv p0, iv p1, iv (p1 &&& (3 : Int32)), rv b_15, iv (p0 % (1000 : Int32)), rv w_NONE, u_] [(.int (p0 % (1000 : Int32))), (.int (400 : Int32))])) _
          refine XS.icmpYes X21.here hx rfl (pc0 := 93) (pc' := 112) rfl (hb hby at_93) rfl (tlt (hr2_16 : (p0 % (1000 : Int32)) < (400 : Int32))).2.2.1 (by decide) (by decide) ?_
          exact k
        obtain ⟨T22, X22, e22, st22⟩ := getS2 X21 hx hZ hown (host := "") (Or.inl (own_w hw 20 rfl)) Via.refl e21 (S_NONE.ext O.2) (g := (mkF m 112 #[iv p0, iv p1, iv (p1 &&& (3 : Int32)), rv b_15, iv (p0 % (1000 : Int32)), rv w_NONE, u_] [])) rfl (hb hby at_112)
        refine Go.step st22 ?_
        show Go p e below _ (T22.setTop (mkF m 115 #[iv p0, iv p1, iv (p1 &&& (3 : Int32)), rv b_15, iv (p0 % (1000 : Int32)), rv w_NONE, u_] [(.ref w_NONE)]))
        refine Go.step (S' := T22.setTop (mkF m 129 #[iv p0, iv p1, iv (p1 &&& (3 : Int32)), rv b_15, iv (p0 % (1000 : Int32)), rv w_NONE, rv w_NONE] [(.int (1 : Int32))])) (fun t k => ?_) ?_
        · show Steps p.tables e below (T22.setTop (mkF m 115 #[iv p0, iv p1, iv (p1 &&& (3 : Int32)), rv b_15, iv (p0 % (1000 : Int32)), rv w_NONE, u_] [(.ref w_NONE)])) _
          refine XS.astore X22.here hx rfl (hb hby at_115) rfl rfl (l' := #[iv p0, iv p1, iv (p1 &&& (3 : Int32)), rv b_15, iv (p0 % (1000 : Int32)), rv w_NONE, rv w_NONE]) rfl ?_
          show Steps p.tables e below (T22.setTop (mkF m 117 #[iv p0, iv p1, iv (p1 &&& (3 : Int32)), rv b_15, iv (p0 % (1000 : Int32)), rv w_NONE, rv w_NONE] [])) _
          refine XS.aload X22.here hx rfl (hb hby at_117) rfl rfl ?_
          show Steps p.tables e below (T22.setTop (mkF m 119 #[iv p0, iv p1, iv (p1 &&& (3 : Int32)), rv b_15, iv (p0 % (1000 : Int32)), rv w_NONE, rv w_NONE] [(.ref w_NONE)])) _
          refine XS.aload X22.here hx rfl (hb hby at_119) rfl rfl ?_
          show Steps p.tables e below (T22.setTop (mkF m 121 #[iv p0, iv p1, iv (p1 &&& (3 : Int32)), rv b_15, iv (p0 % (1000 : Int32)), rv w_NONE, rv w_NONE] [(.ref w_NONE), (.ref w_NONE)])) _
          refine Jvm.RoadKit.acmp (g := (mkF m 121 #[iv p0, iv p1, iv (p1 &&& (3 : Int32)), rv b_15, iv (p0 % (1000 : Int32)), rv w_NONE, rv w_NONE] [(.ref w_NONE), (.ref w_NONE)])) X22 hx rfl rfl rfl (pc0 := 121) (pc' := 124) (same := true) rfl (hb hby at_121) rfl (decide_eq_true rfl) (by decide) (by decide) ?_
          show Steps p.tables e below (T22.setTop (mkF m 124 #[iv p0, iv p1, iv (p1 &&& (3 : Int32)), rv b_15, iv (p0 % (1000 : Int32)), rv w_NONE, rv w_NONE] [])) _
          refine XS.iconst X22.here hx rfl (hb hby at_124) ?_
          show Steps p.tables e below (T22.setTop (mkF m 125 #[iv p0, iv p1, iv (p1 &&& (3 : Int32)), rv b_15, iv (p0 % (1000 : Int32)), rv w_NONE, rv w_NONE] [(.int (1 : Int32))])) _
          refine XS.goto X22.here hx rfl (pc0 := 125) (pc' := 129) rfl (hb hby at_125) (by decide) (by decide) ?_
          exact k
        obtain ⟨fs, hr, hrun, hended, hW, hsame⟩ := X22.leave (v := some (.int (1 : Int32))) (fun h => by rw [Bd.returns] at h; cases h)
        refine Go.fin (S' := T22.setFrames fs) ?_ hrun hended ⟨_, _, rfl, ?_, ⟨_, rfl⟩, hW, hsame.mono (by decide) (by decide)⟩
        · exact retOut X22 hx Bd.returns (by decide) (Or.inl ⟨rfl, Or.inr (Or.inl rfl), _, rfl⟩) (hb hby at_129) hr
        · show Q_rm0 Z p0 p1 w_NONE w_RECEIVED w_REFUSED w_cache cl h0 n0 (some (.int (1 : Int32))) T22.heap _
          rw [e22]
          exact ⟨rfl, N21, K⟩
      · skip
        obtain ⟨_, _, ⟨T23, L23, k23, n23⟩, -, X23, ⟨Lc23, hQ23, l23, y23, z23⟩, st23⟩ := Jvm.LawKit.callS X15 hx (y := (⟨"com/example/reconcile/reconcile/simulator/WebhookAnswer", "of", "(Ljava/lang/Integer;)Lcom/example/reconcile/reconcile/simulator/WebhookAnswer;"⟩ : MethodName)) hown (mvT hZ (own_w hw 7 rfl)) (mvT hZ (own_w hw 8 rfl)) (mvT hZ (own_w hw 9 rfl)) (mvT hZ (own_w hw 10 rfl)) (by decide) (backOf (W := 0) (rmOf3 l Z a0 hw [] b_15 (p0 % (1000 : Int32)) w_NONE w_RECEIVED w_REFUSED T15.heap n0 O S_NONE S_RECEIVED S_REFUSED E_15 F_15 hr0_16 hr1_16 hr2_16 hr3_16) hZ (own_w hw 10 rfl) (own_w hw 9 rfl) (by decide) (by decide)) (g := (mkF m 47 #[iv p0, iv p1, iv (p1 &&& (3 : Int32)), rv b_15, iv (p0 % (1000 : Int32)), u_, u_] [(.ref b_15)])) rfl (by rw [hml]; rfl) (argsL := [(.ref b_15)]) (rest := []) (lenOf pd__28Ljava_2flang_2fInteger_3b_29Lcom_2fexample_2freconcile_2freconcile_2fsimulator_2fWebhookAnswer_3b rfl) rfl (by show 2 * 0 + _ ≤ _; exact Nat.le_of_eq rfl) (hb hby at_47) (fun _ _ => ⟨rfl, (Eq.refl T15.heap), (by decide : 1 + 0 ≤ _), (by decide : 1 + 0 ≤ _)⟩)
        dsimp only [Pt.U, Pt.locs, Pt.cells, Pt.slots] at X23 l23 y23 z23 st23 hQ23
        subst l23 y23 z23
        obtain ⟨rfl, Nq23, e23⟩ := hQ23
        have N23 := Fr.app N15 Nq23
        refine Go.step st23 ?_
        show Go p e below _ (T23.setTop (mkF m 50 #[iv p0, iv p1, iv (p1 &&& (3 : Int32)), rv b_15, iv (p0 % (1000 : Int32)), u_, u_] [(.ref w_REFUSED)]))
        refine Go.step (S' := T23.setTop (mkF m 104 #[iv p0, iv p1, iv (p1 &&& (3 : Int32)), rv b_15, iv (p0 % (1000 : Int32)), rv w_REFUSED, u_] [])) (fun t k => ?_) ?_
        · show Steps p.tables e below (T23.setTop (mkF m 50 #[iv p0, iv p1, iv (p1 &&& (3 : Int32)), rv b_15, iv (p0 % (1000 : Int32)), u_, u_] [(.ref w_REFUSED)])) _
          refine XS.astore X23.here hx rfl (hb hby at_50) rfl rfl (l' := #[iv p0, iv p1, iv (p1 &&& (3 : Int32)), rv b_15, iv (p0 % (1000 : Int32)), rv w_REFUSED, u_]) rfl ?_
          show Steps p.tables e below (T23.setTop (mkF m 52 #[iv p0, iv p1, iv (p1 &&& (3 : Int32)), rv b_15, iv (p0 % (1000 : Int32)), rv w_REFUSED, u_] [])) _
          refine XS.aloadN X23.here hx rfl (hb hby at_52) rfl rfl ?_
          show Steps p.tables e below (T23.setTop (mkF m 53 #[iv p0, iv p1, iv (p1 &&& (3 : Int32)), rv b_15, iv (p0 % (1000 : Int32)), rv w_REFUSED, u_] [(.ref b_15)])) _
          refine XS.ifnonnullYes X23.here hx rfl (pc0 := 53) (pc' := 64) rfl (hb hby at_53) rfl (by decide) (by decide) ?_
          show Steps p.tables e below (T23.setTop (mkF m 64 #[iv p0, iv p1, iv (p1 &&& (3 : Int32)), rv b_15, iv (p0 % (1000 : Int32)), rv w_REFUSED, u_] [])) _
          refine XS.sipush X23.here hx rfl (hb hby at_64) ?_
          show Steps p.tables e below (T23.setTop (mkF m 67 #[iv p0, iv p1, iv (p1 &&& (3 : Int32)), rv b_15, iv (p0 % (1000 : Int32)), rv w_REFUSED, u_] [(.int (200 : Int32))])) _
          refine XS.iload X23.here hx rfl (hb hby at_67) rfl ?_
          show Steps p.tables e below (T23.setTop (mkF m 69 #[iv p0, iv p1, iv (p1 &&& (3 : Int32)), rv b_15, iv (p0 % (1000 : Int32)), rv w_REFUSED, u_] [(.int (p0 % (1000 : Int32))), (.int (200 : Int32))])) _
          refine XS.icmpNo X23.here hx rfl (hb hby at_69) rfl (flt (hr0_16 : ¬ ((p0 % (1000 : Int32)) < (200 : Int32)))).2.2.1 ?_
          show Steps p.tables e below (T23.setTop (mkF m 72 #[iv p0, iv p1, iv (p1 &&& (3 : Int32)), rv b_15, iv (p0 % (1000 : Int32)), rv w_REFUSED, u_] [])) _
          refine XS.iload X23.here hx rfl (hb hby at_72) rfl ?_
          show Steps p.tables e below (T23.setTop (mkF m 74 #[iv p0, iv p1, iv (p1 &&& (3 : Int32)), rv b_15, iv (p0 % (1000 : Int32)), rv w_REFUSED, u_] [(.int (p0 % (1000 : Int32)))])) _
          refine XS.sipush X23.here hx rfl (hb hby at_74) ?_
          show Steps p.tables e below (T23.setTop (mkF m 77 #[iv p0, iv p1, iv (p1 &&& (3 : Int32)), rv b_15, iv (p0 % (1000 : Int32)), rv w_REFUSED, u_] [(.int (299 : Int32)), (.int (p0 % (1000 : Int32)))])) _
          refine XS.icmpYes X23.here hx rfl (pc0 := 77) (pc' := 88) rfl (hb hby at_77) rfl (tlt (hr1_16 : (299 : Int32) < (p0 % (1000 : Int32)))).2.2.1 (by decide) (by decide) ?_
          show Steps p.tables e below (T23.setTop (mkF m 88 #[iv p0, iv p1, iv (p1 &&& (3 : Int32)), rv b_15, iv (p0 % (1000 : Int32)), rv w_REFUSED, u_] [])) _
          refine XS.sipush X23.here hx rfl (hb hby at_88) ?_
          show Steps p.tables e below (T23.setTop (mkF m 91 #[iv p0, iv p1, iv (p1 &&& (3 : Int32)), rv b_15, iv (p0 % (1000 : Int32)), rv w_REFUSED, u_] [(.int (400 : Int32))])) _
          refine XS.iload X23.here hx rfl (hb hby at_91) rfl ?_
          show Steps p.tables e below (T23.setTop (mkF m 93 #[iv p0, iv p1, iv (p1 &&& (3 : Int32)), rv b_15, iv (p0 % (1000 : Int32)), rv w_REFUSED, u_] [(.int (p0 % (1000 : Int32))), (.int (400 : Int32))])) _
          refine XS.icmpNo X23.here hx rfl (hb hby at_93) rfl (flt (hr2_16 : ¬ ((p0 % (1000 : Int32)) < (400 : Int32)))).2.2.1 ?_
          show Steps p.tables e below (T23.setTop (mkF m 96 #[iv p0, iv p1, iv (p1 &&& (3 : Int32)), rv b_15, iv (p0 % (1000 : Int32)), rv w_REFUSED, u_] [])) _
          refine XS.iload X23.here hx rfl (hb hby at_96) rfl ?_
          show Steps p.tables e below (T23.setTop (mkF m 98 #[iv p0, iv p1, iv (p1 &&& (3 : Int32)), rv b_15, iv (p0 % (1000 : Int32)), rv w_REFUSED, u_] [(.int (p0 % (1000 : Int32)))])) _
          refine XS.sipush X23.here hx rfl (hb hby at_98) ?_
          show Steps p.tables e below (T23.setTop (mkF m 101 #[iv p0, iv p1, iv (p1 &&& (3 : Int32)), rv b_15, iv (p0 % (1000 : Int32)), rv w_REFUSED, u_] [(.int (499 : Int32)), (.int (p0 % (1000 : Int32)))])) _
          refine XS.icmpNo X23.here hx rfl (hb hby at_101) rfl (flt (hr3_16 : ¬ ((499 : Int32) < (p0 % (1000 : Int32))))).2.2.1 ?_
          exact k
        obtain ⟨T24, X24, e24, st24⟩ := getS2 X23 hx hZ hown (host := "") (Or.inl (own_w hw 41 rfl)) Via.refl e23 (S_REFUSED.ext O.2) (g := (mkF m 104 #[iv p0, iv p1, iv (p1 &&& (3 : Int32)), rv b_15, iv (p0 % (1000 : Int32)), rv w_REFUSED, u_] [])) rfl (hb hby at_104)
        refine Go.step st24 ?_
        show Go p e below _ (T24.setTop (mkF m 107 #[iv p0, iv p1, iv (p1 &&& (3 : Int32)), rv b_15, iv (p0 % (1000 : Int32)), rv w_REFUSED, u_] [(.ref w_REFUSED)]))
        refine Go.step (S' := T24.setTop (mkF m 129 #[iv p0, iv p1, iv (p1 &&& (3 : Int32)), rv b_15, iv (p0 % (1000 : Int32)), rv w_REFUSED, rv w_REFUSED] [(.int (1 : Int32))])) (fun t k => ?_) ?_
        · show Steps p.tables e below (T24.setTop (mkF m 107 #[iv p0, iv p1, iv (p1 &&& (3 : Int32)), rv b_15, iv (p0 % (1000 : Int32)), rv w_REFUSED, u_] [(.ref w_REFUSED)])) _
          refine XS.astore X24.here hx rfl (hb hby at_107) rfl rfl (l' := #[iv p0, iv p1, iv (p1 &&& (3 : Int32)), rv b_15, iv (p0 % (1000 : Int32)), rv w_REFUSED, rv w_REFUSED]) rfl ?_
          show Steps p.tables e below (T24.setTop (mkF m 109 #[iv p0, iv p1, iv (p1 &&& (3 : Int32)), rv b_15, iv (p0 % (1000 : Int32)), rv w_REFUSED, rv w_REFUSED] [])) _
          refine XS.goto X24.here hx rfl (pc0 := 109) (pc' := 117) rfl (hb hby at_109) (by decide) (by decide) ?_
          show Steps p.tables e below (T24.setTop (mkF m 117 #[iv p0, iv p1, iv (p1 &&& (3 : Int32)), rv b_15, iv (p0 % (1000 : Int32)), rv w_REFUSED, rv w_REFUSED] [])) _
          refine XS.aload X24.here hx rfl (hb hby at_117) rfl rfl ?_
          show Steps p.tables e below (T24.setTop (mkF m 119 #[iv p0, iv p1, iv (p1 &&& (3 : Int32)), rv b_15, iv (p0 % (1000 : Int32)), rv w_REFUSED, rv w_REFUSED] [(.ref w_REFUSED)])) _
          refine XS.aload X24.here hx rfl (hb hby at_119) rfl rfl ?_
          show Steps p.tables e below (T24.setTop (mkF m 121 #[iv p0, iv p1, iv (p1 &&& (3 : Int32)), rv b_15, iv (p0 % (1000 : Int32)), rv w_REFUSED, rv w_REFUSED] [(.ref w_REFUSED), (.ref w_REFUSED)])) _
          refine Jvm.RoadKit.acmp (g := (mkF m 121 #[iv p0, iv p1, iv (p1 &&& (3 : Int32)), rv b_15, iv (p0 % (1000 : Int32)), rv w_REFUSED, rv w_REFUSED] [(.ref w_REFUSED), (.ref w_REFUSED)])) X24 hx rfl rfl rfl (pc0 := 121) (pc' := 124) (same := true) rfl (hb hby at_121) rfl (decide_eq_true rfl) (by decide) (by decide) ?_
          show Steps p.tables e below (T24.setTop (mkF m 124 #[iv p0, iv p1, iv (p1 &&& (3 : Int32)), rv b_15, iv (p0 % (1000 : Int32)), rv w_REFUSED, rv w_REFUSED] [])) _
          refine XS.iconst X24.here hx rfl (hb hby at_124) ?_
          show Steps p.tables e below (T24.setTop (mkF m 125 #[iv p0, iv p1, iv (p1 &&& (3 : Int32)), rv b_15, iv (p0 % (1000 : Int32)), rv w_REFUSED, rv w_REFUSED] [(.int (1 : Int32))])) _
          refine XS.goto X24.here hx rfl (pc0 := 125) (pc' := 129) rfl (hb hby at_125) (by decide) (by decide) ?_
          exact k
        obtain ⟨fs, hr, hrun, hended, hW, hsame⟩ := X24.leave (v := some (.int (1 : Int32))) (fun h => by rw [Bd.returns] at h; cases h)
        refine Go.fin (S' := T24.setFrames fs) ?_ hrun hended ⟨_, _, rfl, ?_, ⟨_, rfl⟩, hW, hsame.mono (by decide) (by decide)⟩
        · exact retOut X24 hx Bd.returns (by decide) (Or.inl ⟨rfl, Or.inr (Or.inl rfl), _, rfl⟩) (hb hby at_129) hr
        · show Q_rm0 Z p0 p1 w_NONE w_RECEIVED w_REFUSED w_cache cl h0 n0 (some (.int (1 : Int32))) T24.heap _
          rw [e24]
          exact ⟨rfl, N23, K⟩
      · skip
        obtain ⟨_, _, ⟨T25, L25, k25, n25⟩, -, X25, ⟨Lc25, hQ25, l25, y25, z25⟩, st25⟩ := Jvm.LawKit.callS X15 hx (y := (⟨"com/example/reconcile/reconcile/simulator/WebhookAnswer", "of", "(Ljava/lang/Integer;)Lcom/example/reconcile/reconcile/simulator/WebhookAnswer;"⟩ : MethodName)) hown (mvT hZ (own_w hw 7 rfl)) (mvT hZ (own_w hw 8 rfl)) (mvT hZ (own_w hw 9 rfl)) (mvT hZ (own_w hw 10 rfl)) (by decide) (backOf (W := 0) (rmOf4 l Z a0 hw [] b_15 (p0 % (1000 : Int32)) w_NONE w_RECEIVED w_REFUSED T15.heap n0 O S_NONE S_RECEIVED S_REFUSED E_15 F_15 hr0_16 hr1_16 hr2_16 hr3_16) hZ (own_w hw 10 rfl) (own_w hw 9 rfl) (by decide) (by decide)) (g := (mkF m 47 #[iv p0, iv p1, iv (p1 &&& (3 : Int32)), rv b_15, iv (p0 % (1000 : Int32)), u_, u_] [(.ref b_15)])) rfl (by rw [hml]; rfl) (argsL := [(.ref b_15)]) (rest := []) (lenOf pd__28Ljava_2flang_2fInteger_3b_29Lcom_2fexample_2freconcile_2freconcile_2fsimulator_2fWebhookAnswer_3b rfl) rfl (by show 2 * 0 + _ ≤ _; exact Nat.le_of_eq rfl) (hb hby at_47) (fun _ _ => ⟨rfl, (Eq.refl T15.heap), (by decide : 1 + 0 ≤ _), (by decide : 1 + 0 ≤ _)⟩)
        dsimp only [Pt.U, Pt.locs, Pt.cells, Pt.slots] at X25 l25 y25 z25 st25 hQ25
        subst l25 y25 z25
        obtain ⟨rfl, Nq25, e25⟩ := hQ25
        have N25 := Fr.app N15 Nq25
        refine Go.step st25 ?_
        show Go p e below _ (T25.setTop (mkF m 50 #[iv p0, iv p1, iv (p1 &&& (3 : Int32)), rv b_15, iv (p0 % (1000 : Int32)), u_, u_] [(.ref w_NONE)]))
        refine Go.step (S' := T25.setTop (mkF m 112 #[iv p0, iv p1, iv (p1 &&& (3 : Int32)), rv b_15, iv (p0 % (1000 : Int32)), rv w_NONE, u_] [])) (fun t k => ?_) ?_
        · show Steps p.tables e below (T25.setTop (mkF m 50 #[iv p0, iv p1, iv (p1 &&& (3 : Int32)), rv b_15, iv (p0 % (1000 : Int32)), u_, u_] [(.ref w_NONE)])) _
          refine XS.astore X25.here hx rfl (hb hby at_50) rfl rfl (l' := #[iv p0, iv p1, iv (p1 &&& (3 : Int32)), rv b_15, iv (p0 % (1000 : Int32)), rv w_NONE, u_]) rfl ?_
          show Steps p.tables e below (T25.setTop (mkF m 52 #[iv p0, iv p1, iv (p1 &&& (3 : Int32)), rv b_15, iv (p0 % (1000 : Int32)), rv w_NONE, u_] [])) _
          refine XS.aloadN X25.here hx rfl (hb hby at_52) rfl rfl ?_
          show Steps p.tables e below (T25.setTop (mkF m 53 #[iv p0, iv p1, iv (p1 &&& (3 : Int32)), rv b_15, iv (p0 % (1000 : Int32)), rv w_NONE, u_] [(.ref b_15)])) _
          refine XS.ifnonnullYes X25.here hx rfl (pc0 := 53) (pc' := 64) rfl (hb hby at_53) rfl (by decide) (by decide) ?_
          show Steps p.tables e below (T25.setTop (mkF m 64 #[iv p0, iv p1, iv (p1 &&& (3 : Int32)), rv b_15, iv (p0 % (1000 : Int32)), rv w_NONE, u_] [])) _
          refine XS.sipush X25.here hx rfl (hb hby at_64) ?_
          show Steps p.tables e below (T25.setTop (mkF m 67 #[iv p0, iv p1, iv (p1 &&& (3 : Int32)), rv b_15, iv (p0 % (1000 : Int32)), rv w_NONE, u_] [(.int (200 : Int32))])) _
          refine XS.iload X25.here hx rfl (hb hby at_67) rfl ?_
          show Steps p.tables e below (T25.setTop (mkF m 69 #[iv p0, iv p1, iv (p1 &&& (3 : Int32)), rv b_15, iv (p0 % (1000 : Int32)), rv w_NONE, u_] [(.int (p0 % (1000 : Int32))), (.int (200 : Int32))])) _
          refine XS.icmpNo X25.here hx rfl (hb hby at_69) rfl (flt (hr0_16 : ¬ ((p0 % (1000 : Int32)) < (200 : Int32)))).2.2.1 ?_
          show Steps p.tables e below (T25.setTop (mkF m 72 #[iv p0, iv p1, iv (p1 &&& (3 : Int32)), rv b_15, iv (p0 % (1000 : Int32)), rv w_NONE, u_] [])) _
          refine XS.iload X25.here hx rfl (hb hby at_72) rfl ?_
          show Steps p.tables e below (T25.setTop (mkF m 74 #[iv p0, iv p1, iv (p1 &&& (3 : Int32)), rv b_15, iv (p0 % (1000 : Int32)), rv w_NONE, u_] [(.int (p0 % (1000 : Int32)))])) _
          refine XS.sipush X25.here hx rfl (hb hby at_74) ?_
          show Steps p.tables e below (T25.setTop (mkF m 77 #[iv p0, iv p1, iv (p1 &&& (3 : Int32)), rv b_15, iv (p0 % (1000 : Int32)), rv w_NONE, u_] [(.int (299 : Int32)), (.int (p0 % (1000 : Int32)))])) _
          refine XS.icmpYes X25.here hx rfl (pc0 := 77) (pc' := 88) rfl (hb hby at_77) rfl (tlt (hr1_16 : (299 : Int32) < (p0 % (1000 : Int32)))).2.2.1 (by decide) (by decide) ?_
          show Steps p.tables e below (T25.setTop (mkF m 88 #[iv p0, iv p1, iv (p1 &&& (3 : Int32)), rv b_15, iv (p0 % (1000 : Int32)), rv w_NONE, u_] [])) _
          refine XS.sipush X25.here hx rfl (hb hby at_88) ?_
          show Steps p.tables e below (T25.setTop (mkF m 91 #[iv p0, iv p1, iv (p1 &&& (3 : Int32)), rv b_15, iv (p0 % (1000 : Int32)), rv w_NONE, u_] [(.int (400 : Int32))])) _
          refine XS.iload X25.here hx rfl (hb hby at_91) rfl ?_
          show Steps p.tables e below (T25.setTop (mkF m 93 #[iv p0, iv p1, iv (p1 &&& (3 : Int32)), rv b_15, iv (p0 % (1000 : Int32)), rv w_NONE, u_] [(.int (p0 % (1000 : Int32))), (.int (400 : Int32))])) _
          refine XS.icmpNo X25.here hx rfl (hb hby at_93) rfl (flt (hr2_16 : ¬ ((p0 % (1000 : Int32)) < (400 : Int32)))).2.2.1 ?_
          show Steps p.tables e below (T25.setTop (mkF m 96 #[iv p0, iv p1, iv (p1 &&& (3 : Int32)), rv b_15, iv (p0 % (1000 : Int32)), rv w_NONE, u_] [])) _
          refine XS.iload X25.here hx rfl (hb hby at_96) rfl ?_
          show Steps p.tables e below (T25.setTop (mkF m 98 #[iv p0, iv p1, iv (p1 &&& (3 : Int32)), rv b_15, iv (p0 % (1000 : Int32)), rv w_NONE, u_] [(.int (p0 % (1000 : Int32)))])) _
          refine XS.sipush X25.here hx rfl (hb hby at_98) ?_
          show Steps p.tables e below (T25.setTop (mkF m 101 #[iv p0, iv p1, iv (p1 &&& (3 : Int32)), rv b_15, iv (p0 % (1000 : Int32)), rv w_NONE, u_] [(.int (499 : Int32)), (.int (p0 % (1000 : Int32)))])) _
          refine XS.icmpYes X25.here hx rfl (pc0 := 101) (pc' := 112) rfl (hb hby at_101) rfl (tlt (hr3_16 : (499 : Int32) < (p0 % (1000 : Int32)))).2.2.1 (by decide) (by decide) ?_
          exact k
        obtain ⟨T26, X26, e26, st26⟩ := getS2 X25 hx hZ hown (host := "") (Or.inl (own_w hw 20 rfl)) Via.refl e25 (S_NONE.ext O.2) (g := (mkF m 112 #[iv p0, iv p1, iv (p1 &&& (3 : Int32)), rv b_15, iv (p0 % (1000 : Int32)), rv w_NONE, u_] [])) rfl (hb hby at_112)
        refine Go.step st26 ?_
        show Go p e below _ (T26.setTop (mkF m 115 #[iv p0, iv p1, iv (p1 &&& (3 : Int32)), rv b_15, iv (p0 % (1000 : Int32)), rv w_NONE, u_] [(.ref w_NONE)]))
        refine Go.step (S' := T26.setTop (mkF m 129 #[iv p0, iv p1, iv (p1 &&& (3 : Int32)), rv b_15, iv (p0 % (1000 : Int32)), rv w_NONE, rv w_NONE] [(.int (1 : Int32))])) (fun t k => ?_) ?_
        · show Steps p.tables e below (T26.setTop (mkF m 115 #[iv p0, iv p1, iv (p1 &&& (3 : Int32)), rv b_15, iv (p0 % (1000 : Int32)), rv w_NONE, u_] [(.ref w_NONE)])) _
          refine XS.astore X26.here hx rfl (hb hby at_115) rfl rfl (l' := #[iv p0, iv p1, iv (p1 &&& (3 : Int32)), rv b_15, iv (p0 % (1000 : Int32)), rv w_NONE, rv w_NONE]) rfl ?_
          show Steps p.tables e below (T26.setTop (mkF m 117 #[iv p0, iv p1, iv (p1 &&& (3 : Int32)), rv b_15, iv (p0 % (1000 : Int32)), rv w_NONE, rv w_NONE] [])) _
          refine XS.aload X26.here hx rfl (hb hby at_117) rfl rfl ?_
          show Steps p.tables e below (T26.setTop (mkF m 119 #[iv p0, iv p1, iv (p1 &&& (3 : Int32)), rv b_15, iv (p0 % (1000 : Int32)), rv w_NONE, rv w_NONE] [(.ref w_NONE)])) _
          refine XS.aload X26.here hx rfl (hb hby at_119) rfl rfl ?_
          show Steps p.tables e below (T26.setTop (mkF m 121 #[iv p0, iv p1, iv (p1 &&& (3 : Int32)), rv b_15, iv (p0 % (1000 : Int32)), rv w_NONE, rv w_NONE] [(.ref w_NONE), (.ref w_NONE)])) _
          refine Jvm.RoadKit.acmp (g := (mkF m 121 #[iv p0, iv p1, iv (p1 &&& (3 : Int32)), rv b_15, iv (p0 % (1000 : Int32)), rv w_NONE, rv w_NONE] [(.ref w_NONE), (.ref w_NONE)])) X26 hx rfl rfl rfl (pc0 := 121) (pc' := 124) (same := true) rfl (hb hby at_121) rfl (decide_eq_true rfl) (by decide) (by decide) ?_
          show Steps p.tables e below (T26.setTop (mkF m 124 #[iv p0, iv p1, iv (p1 &&& (3 : Int32)), rv b_15, iv (p0 % (1000 : Int32)), rv w_NONE, rv w_NONE] [])) _
          refine XS.iconst X26.here hx rfl (hb hby at_124) ?_
          show Steps p.tables e below (T26.setTop (mkF m 125 #[iv p0, iv p1, iv (p1 &&& (3 : Int32)), rv b_15, iv (p0 % (1000 : Int32)), rv w_NONE, rv w_NONE] [(.int (1 : Int32))])) _
          refine XS.goto X26.here hx rfl (pc0 := 125) (pc' := 129) rfl (hb hby at_125) (by decide) (by decide) ?_
          exact k
        obtain ⟨fs, hr, hrun, hended, hW, hsame⟩ := X26.leave (v := some (.int (1 : Int32))) (fun h => by rw [Bd.returns] at h; cases h)
        refine Go.fin (S' := T26.setFrames fs) ?_ hrun hended ⟨_, _, rfl, ?_, ⟨_, rfl⟩, hW, hsame.mono (by decide) (by decide)⟩
        · exact retOut X26 hx Bd.returns (by decide) (Or.inl ⟨rfl, Or.inr (Or.inl rfl), _, rfl⟩) (hb hby at_129) hr
        · show Q_rm0 Z p0 p1 w_NONE w_RECEIVED w_REFUSED w_cache cl h0 n0 (some (.int (1 : Int32))) T26.heap _
          rw [e26]
          exact ⟨rfl, N25, K⟩
set_option maxRecDepth 65536 in
set_option maxHeartbeats 40000000 in
theorem comes_1 {Post : Tables → Env → Array Value → State → Outcome → State → Prop} (hpost : ∀ tb e args s v u, (limb_1_1.after args s (.returned v) u = true ∧ limb_1_2.after args s (.returned v) u = true ∧ True) → FrameEnd s (.returned v) u (Jvm.fieldLocs frame_1_writes args s ++ Jvm.arrayLocs frame_1_arrays args s ++ Jvm.staticLocs frame_1_statics s) 16 128 → Post tb e args s (.returned v) u) :
    ArmFor flags0 classFile x code maxLocals ret World_1 tables_1 room_1 Calls_1 rest_1 Pre_1 Post := by
  intro l hfl _ _ p e ha hc hk s m args below hf hA hF happ hP
  obtain ⟨hcalls, hrest, hpre⟩ := hP
  obtain ⟨-, -, -, hnamed, -, -, -, hat⟩ := (Spec.applies_iff hf).mp happ
  obtain ⟨hg, hn⟩ := and_e (Cond.before_iff.mp (show (Jvm.Cond.and given_1 narrow_1).before args s = true from hpre))
  obtain ⟨hgl, hgr⟩ := and_e hg
  obtain ⟨hgrl, hgrr⟩ := and_e hgr
  obtain ⟨w0, w1, rfl⟩ : ∃ w0 w1 : Value, args = #[w0, w1] := by
    have hs : args.size = 2 := by simpa [Cond.value, given_1] using hgl
    obtain ⟨L⟩ := args
    match L, hs with
    | [w0, w1], _ => exact ⟨w0, w1, rfl⟩
  have hw := fun d (hd : d ∈ tables_1) => atoms_spec (ws := Jvm.Cond.code x code maxLocals ret :: tables_1) hat d (List.mem_cons_of_mem _ hd)
  have hfit : Fit s := fun {y c} hc i hi => by
    obtain ⟨ha, rfl⟩ := Array.getElem?_eq_some_iff.mp hc
    have q := List.all_eq_true.mp ((Array.all_eq_true_iff_forall_mem.mp hF) _ (Array.getElem_mem ha)) i (List.mem_range.mpr hi)
    simpa [Array.getElem?_eq_getElem hi] using q
  obtain ⟨hsets, hown0⟩ := atoms_of _ (rest_1_c_eq ▸ (show rest_1_c.before _ s = true from hrest))
  obtain ⟨i0, ei0⟩ := is_v hgrl
  obtain rfl : w0 = (.int i0) := Option.some.inj ei0
  obtain ⟨i1, ei1⟩ := is_v hgrr
  obtain rfl : w1 = (.int i1) := Option.some.inj ei1
  obtain ⟨hna, hnb⟩ := and_e hn
  obtain ⟨w_NONE, ev_NONE⟩ := exa_v hna
  have E_NONE := Exa.start ev_NONE hna
  have S_NONE := Sta.start ev_NONE (Or.inr ⟨(own_w hw 9 rfl), (own_w hw 19 rfl)⟩)
  obtain ⟨hnba, hnbb⟩ := and_e hnb
  obtain ⟨w_RECEIVED, ev_RECEIVED⟩ := exa_v hnba
  have E_RECEIVED := Exa.start ev_RECEIVED hnba
  have S_RECEIVED := Sta.start ev_RECEIVED (Or.inr ⟨(own_w hw 9 rfl), (own_w hw 37 rfl)⟩)
  obtain ⟨w_REFUSED, ev_REFUSED⟩ := exa_v hnbb
  have E_REFUSED := Exa.start ev_REFUSED hnbb
  have S_REFUSED := Sta.start ev_REFUSED (Or.inr ⟨(own_w hw 9 rfl), (own_w hw 40 rfl)⟩)
  have evH := own_eqI (Cond.before_iff.mp (hsets _ (List.mem_of_getElem? (i := 3) rfl)))
  have S_high := Sta.start evH (Or.inr ⟨(own_w hw 5 rfl), (hsets _ (List.mem_of_getElem? (i := 0) rfl))⟩)
  obtain ⟨w_cache, evC⟩ := arr_v (Cond.before_iff.mp (hsets _ (List.mem_of_getElem? (i := 4) rfl)))
  have S_cache := Sta.start evC (Or.inr ⟨(own_w hw 5 rfl), (hsets _ (List.mem_of_getElem? (i := 2) rfl))⟩)
  obtain ⟨cl, CA⟩ := own_cache evC (hsets _ (List.mem_of_getElem? (i := 4) rfl)) (hsets _ (List.mem_of_getElem? (i := 6) rfl)) (hsets _ (List.mem_of_getElem? (i := 7) rfl))
  obtain ⟨n, o, h1, h2, h3, _, L, rfl, ⟨rfl, N, -⟩, hq⟩ := rm0 l s _ hw tables_1 i0 i1 w_NONE w_RECEIVED w_REFUSED w_cache cl s.heap s.heap.size (Old.start s) S_NONE S_RECEIVED S_REFUSED S_high S_cache CA p e ha hc hk s m _ below hf ((Spec.applies_iff_loose hf).mp happ).1 ⟨rfl, State.Warmed39.refl s, rfl⟩ trivial
  refine ⟨n, _, h1, h2, h3, hpost _ _ _ _ _ _ ⟨Cond.after_iff.mpr rfl, Cond.after_iff.mpr (eq_i res_at (Term.int_eval (1)) rfl), trivial⟩ ⟨hq.1, hq.2.1, (hq.2.2.sift fun y hy => Or.inr (N y hy)).mono (by decide) (by decide)⟩⟩
theorem main_1_1 : Claimed_1_1 := comes_1 fun _ _ _ _ _ _ h hF => ⟨h.1, hF⟩
theorem main_1_2 : Claimed_1_2 := comes_1 fun _ _ _ _ _ _ h hF => ⟨h.2.1, hF⟩
end Jvm.Pilot.@@N@@
namespace Jvm.Pilot.@@N@@
open Jvm Jvm.ClassFile Sem Op Lib Jvm.Free Jvm.Stand Jvm.Pilot.@@N@@.Jvm.D
/-! MADE BY PROGRAM (witnessworld.py) out of the Statement's table words and the real class files: 17 classes; the members and pool entries that the words name. The judged class is class 1, her method 1. -/
namespace start1
open Jvm.ClassFile
def u (s : String) : CpInfo := .utf8 (stringToUtf16 s)
/-- a pool by its gaps: so many unusable entries, then the entry; so many at the end -/
def gap : Nat → List CpInfo → List CpInfo
  | 0, r => r
  | n + 1, r => .unusable :: gap n r
def poolList (es : List (Nat × CpInfo)) (last : Nat) : List CpInfo := es.foldr (fun e r => gap e.1 (e.2 :: r)) (gap last [])
def pool (es : List (Nat × CpInfo)) (last : Nat) : Array CpInfo := ⟨poolList es last⟩
def fileOf (pool : Array CpInfo) (this : Nat) (attrs : Array Attribute := #[]) (ms : Array MethodInfo := #[]) (fl : Nat := 33) (sup : Nat := 0) (ifs : Array Nat := #[]) (fds : Array FieldInfo := #[]) : ClassFile where
  minorVersion := 0
  majorVersion := 65
  constantPool := pool
  accessFlags := fl
  thisClass := this
  superClass := sup
  interfaces := ifs
  fields := fds
  methods := ms
  attributes := attrs
def plain (name : String) (sup : Option ClassId) : Class where
  name := name
  kind := .ordinary
  loader := none
  accessFlags := 33
  super := sup
  interfaces := #[]
  cf := none
  fields := #[]
  methods := #[]
  instanceTypes := #[]
  staticTypes := #[]
  resolved := #[]
  callSites := []
  init := .initialized
  statics := none
  mirror := none

def pool0 : Array CpInfo := pool [(5, u "<init>"), (0, u "()V"), (1, .class_ 10), (1, u "java/lang/Object")] 113

def k0c0 : Code := { maxStack := 0, maxLocals := 1, code := object_method_1_code, exceptionTable := #[], attributes := #[] }
def k0m0 : Method := { name := "<init>", desc := "()V", sig := { parameters := [], returnType := none }, accessFlags := 1, code := some k0c0 }
/-- java/lang/Object -/
def k0 : Class := { plain "java/lang/Object" none with
  accessFlags := 33
  interfaces := #[]
  cf := some (fileOf pool0 8 #[] #[{ accessFlags := 1, nameIndex := 5, descriptorIndex := 6, attributes := #[] }] 33 0 #[] #[])
  fields := #[]
  methods := #[k0m0]
  instanceTypes := #[]
  staticTypes := #[]
  resolved := Array.replicate 124 none
  statics := none }

def pool1 : Array CpInfo := pool [(2, .class_ 4), (1, u "java/lang/Object"), (0, u "<init>"), (0, u "()V"), (0, .methodref 8 9), (0, .class_ 10), (0, .nameAndType 11 12), (0, u "java/lang/Integer"), (0, u "valueOf"), (0, u "(I)Ljava/lang/Integer;"), (0, .methodref 14 15), (0, .class_ 16), (0, .nameAndType 17 18), (0, u "com/example/reconcile/reconcile/simulator/WebhookAnswer"), (0, u "of"), (0, u "(Ljava/lang/Integer;)Lcom/example/reconcile/reconcile/simulator/WebhookAnswer;"), (0, .fieldref 14 20), (0, .nameAndType 21 22), (0, u "NONE"), (0, u "Lcom/example/reconcile/reconcile/simulator/WebhookAnswer;"), (0, .fieldref 14 24), (0, .nameAndType 25 22), (0, u "RECEIVED"), (0, .fieldref 14 27), (0, .nameAndType 28 22), (0, u "REFUSED"), (0, .class_ 30), (0, u "com/example/reconcile/reconcile/simulator/WebhookAnswerOfPinLaw"), (2, u "law"), (0, u "(II)Z")] 3

def k1m0 : Method := { name := "<init>", desc := "()V", sig := { parameters := [], returnType := none }, accessFlags := 1, code := none }
def k1c1 : Code := { maxStack := 2, maxLocals := 7, code := code, exceptionTable := #[], attributes := #[] }
def k1m1 : Method := { name := "law", desc := "(II)Z", sig := { parameters := [.int, .int], returnType := some .boolean }, accessFlags := 9, code := some k1c1 }
/-- com/example/reconcile/reconcile/simulator/WebhookAnswerOfPinLaw -/
def k1 : Class := { plain "com/example/reconcile/reconcile/simulator/WebhookAnswerOfPinLaw" (some 0) with
  accessFlags := 49
  interfaces := #[]
  cf := some (fileOf pool1 29 #[] #[{ accessFlags := 1, nameIndex := 5, descriptorIndex := 6, attributes := #[] }, { accessFlags := 9, nameIndex := 33, descriptorIndex := 34, attributes := #[] }] 49 2 #[] #[])
  fields := #[]
  methods := #[k1m0, k1m1]
  instanceTypes := #[]
  staticTypes := #[]
  resolved := Array.replicate 38 none
  statics := none }

def pool2 : Array CpInfo := pool [(1, .class_ 2), (0, u "java/io/Serializable"), (0, .class_ 4), (0, u "java/lang/Object")] 2

/-- java/io/Serializable -/
def k2 : Class := { plain "java/io/Serializable" (some 0) with
  accessFlags := 1537
  interfaces := #[]
  cf := some (fileOf pool2 1 #[] #[] 1537 3 #[] #[])
  fields := #[]
  methods := #[]
  instanceTypes := #[]
  staticTypes := #[]
  resolved := Array.replicate 7 none
  statics := none }

def pool3 : Array CpInfo := pool [(1, .methodref 2 3), (0, .class_ 4), (0, .nameAndType 5 6), (0, u "java/lang/Object"), (0, u "<init>"), (0, u "()V"), (1, .class_ 10), (1, u "java/lang/Number"), (2, .class_ 14), (0, u "java/io/Serializable"), (0, u "serialVersionUID"), (0, u "J")] 20

def k3c0 : Code := { maxStack := 1, maxLocals := 1, code := jdk_18_method_1_code, exceptionTable := #[], attributes := #[] }
def k3m0 : Method := { name := "<init>", desc := "()V", sig := { parameters := [], returnType := none }, accessFlags := 1, code := some k3c0 }
/-- java/lang/Number -/
def k3 : Class := { plain "java/lang/Number" (some 0) with
  accessFlags := 1057
  interfaces := #[2]
  cf := some (fileOf pool3 8 #[] #[{ accessFlags := 1, nameIndex := 5, descriptorIndex := 6, attributes := #[] }] 1057 2 #[13] #[{ accessFlags := 26, nameIndex := 15, descriptorIndex := 16, attributes := #[] }])
  fields := #[{ name := "serialVersionUID", type := .long, accessFlags := 26, slot := 0, constantValue := 0 }]
  methods := #[k3m0]
  instanceTypes := #[]
  staticTypes := #[.long]
  resolved := Array.replicate 37 none
  statics := none }

def pool4 : Array CpInfo := pool [(1, .class_ 2), (0, u "java/lang/Comparable"), (0, .class_ 4), (0, u "java/lang/Object")] 7

/-- java/lang/Comparable -/
def k4 : Class := { plain "java/lang/Comparable" (some 0) with
  accessFlags := 1537
  interfaces := #[]
  cf := some (fileOf pool4 1 #[] #[] 1537 3 #[] #[])
  fields := #[]
  methods := #[]
  instanceTypes := #[]
  staticTypes := #[]
  resolved := Array.replicate 12 none
  statics := none }

def pool5 : Array CpInfo := pool [(1, .class_ 2), (0, u "java/lang/constant/Constable"), (0, .class_ 4), (0, u "java/lang/Object")] 6

/-- java/lang/constant/Constable -/
def k5 : Class := { plain "java/lang/constant/Constable" (some 0) with
  accessFlags := 1537
  interfaces := #[]
  cf := some (fileOf pool5 1 #[] #[] 1537 3 #[] #[])
  fields := #[]
  methods := #[]
  instanceTypes := #[]
  staticTypes := #[]
  resolved := Array.replicate 11 none
  statics := none }

def pool6 : Array CpInfo := pool [(1, .class_ 2), (0, u "java/lang/constant/ConstantDesc"), (0, .class_ 4), (0, u "java/lang/Object")] 32

/-- java/lang/constant/ConstantDesc -/
def k6 : Class := { plain "java/lang/constant/ConstantDesc" (some 0) with
  accessFlags := 1537
  interfaces := #[]
  cf := some (fileOf pool6 1 #[] #[] 1537 3 #[] #[])
  fields := #[]
  methods := #[]
  instanceTypes := #[]
  staticTypes := #[]
  resolved := Array.replicate 37 none
  statics := none }

def pool7 : Array CpInfo := pool [(1, .class_ 2), (0, u "java/lang/Integer"), (16, u "digits"), (0, u "[C"), (46, u "<init>"), (17, u "DigitOnes"), (0, u "[B"), (2, u "DigitTens"), (10, .nameAndType 67 101), (0, u "()V"), (19, u "()I"), (65, u "valueOf"), (0, u "(I)Ljava/lang/Integer;"), (0, .class_ 190), (0, u "java/lang/Integer$IntegerCache"), (0, .fieldref 189 192), (0, .nameAndType 193 194), (0, u "high"), (0, u "I"), (0, .fieldref 189 196), (0, .nameAndType 197 198), (0, u "cache"), (0, u "[Ljava/lang/Integer;"), (0, .methodref 1 200), (0, .nameAndType 67 201), (0, u "(I)V"), (0, .methodref 203 100), (0, .class_ 204), (0, u "java/lang/Number"), (0, .fieldref 1 206), (0, .nameAndType 207 194), (0, u "value"), (5, u "intValue"), (88, u "TYPE"), (0, u "Ljava/lang/Class;"), (0, .class_ 305), (0, u "java/lang/Comparable"), (0, .class_ 307), (0, u "java/lang/constant/Constable"), (0, .class_ 309), (0, u "java/lang/constant/ConstantDesc"), (0, u "MIN_VALUE"), (1, u "MAX_VALUE"), (3, u "SIZE"), (1, u "BYTES"), (1, u "serialVersionUID"), (0, u "J")] 131

def k7c0 : Code := { maxStack := 3, maxLocals := 1, code := jdk_33_method_22_code, exceptionTable := #[], attributes := #[] }
def k7m0 : Method := { name := "valueOf", desc := "(I)Ljava/lang/Integer;", sig := { parameters := [.int], returnType := some (.object "java/lang/Integer") }, accessFlags := 9, code := some k7c0 }
def k7c1 : Code := { maxStack := 2, maxLocals := 2, code := jdk_33_method_23_code, exceptionTable := #[], attributes := #[] }
def k7m1 : Method := { name := "<init>", desc := "(I)V", sig := { parameters := [.int], returnType := none }, accessFlags := 1, code := some k7c1 }
def k7c2 : Code := { maxStack := 1, maxLocals := 1, code := jdk_33_method_27_code, exceptionTable := #[], attributes := #[] }
def k7m2 : Method := { name := "intValue", desc := "()I", sig := { parameters := [], returnType := some .int }, accessFlags := 1, code := some k7c2 }
/-- java/lang/Integer -/
def k7 : Class := { plain "java/lang/Integer" (some 3) with
  accessFlags := 49
  interfaces := #[4, 5, 6]
  cf := some (fileOf pool7 1 #[.nestMembers #[189]] #[{ accessFlags := 9, nameIndex := 187, descriptorIndex := 188, attributes := #[] }, { accessFlags := 1, nameIndex := 67, descriptorIndex := 201, attributes := #[] }, { accessFlags := 1, nameIndex := 213, descriptorIndex := 121, attributes := #[] }] 49 203 #[304, 306, 308] #[{ accessFlags := 25, nameIndex := 310, descriptorIndex := 194, attributes := #[] }, { accessFlags := 25, nameIndex := 312, descriptorIndex := 194, attributes := #[] }, { accessFlags := 25, nameIndex := 302, descriptorIndex := 303, attributes := #[] }, { accessFlags := 24, nameIndex := 19, descriptorIndex := 20, attributes := #[] }, { accessFlags := 24, nameIndex := 89, descriptorIndex := 86, attributes := #[] }, { accessFlags := 24, nameIndex := 85, descriptorIndex := 86, attributes := #[] }, { accessFlags := 18, nameIndex := 207, descriptorIndex := 194, attributes := #[] }, { accessFlags := 25, nameIndex := 316, descriptorIndex := 194, attributes := #[] }, { accessFlags := 25, nameIndex := 318, descriptorIndex := 194, attributes := #[] }, { accessFlags := 26, nameIndex := 320, descriptorIndex := 321, attributes := #[] }])
  fields := #[{ name := "MIN_VALUE", type := .int, accessFlags := 25, slot := 0, constantValue := 0 }, { name := "MAX_VALUE", type := .int, accessFlags := 25, slot := 1, constantValue := 0 }, { name := "TYPE", type := (.object "java/lang/Class"), accessFlags := 25, slot := 2, constantValue := 0 }, { name := "digits", type := (.array .char), accessFlags := 24, slot := 3, constantValue := 0 }, { name := "DigitTens", type := (.array .byte), accessFlags := 24, slot := 4, constantValue := 0 }, { name := "DigitOnes", type := (.array .byte), accessFlags := 24, slot := 5, constantValue := 0 }, { name := "value", type := .int, accessFlags := 18, slot := 0, constantValue := 0 }, { name := "SIZE", type := .int, accessFlags := 25, slot := 6, constantValue := 0 }, { name := "BYTES", type := .int, accessFlags := 25, slot := 7, constantValue := 0 }, { name := "serialVersionUID", type := .long, accessFlags := 26, slot := 8, constantValue := 0 }]
  methods := #[k7m0, k7m1, k7m2]
  instanceTypes := #[.int]
  staticTypes := #[.int, .int, (.object "java/lang/Class"), (.array .char), (.array .byte), (.array .byte), .int, .int, .long]
  resolved := Array.replicate 453 none
  statics := none }

def pool8 : Array CpInfo := pool [(2, .class_ 4), (1, u "java/lang/Object"), (0, u "<init>"), (0, u "()V"), (0, .class_ 8), (0, u "java/lang/Integer"), (7, .class_ 18), (1, u "java/lang/Integer$IntegerCache"), (0, u "$assertionsDisabled"), (0, u "Z"), (26, u "high"), (0, u "I"), (8, u "archivedCache"), (0, u "[Ljava/lang/Integer;"), (12, u "cache"), (0, u "low")] 27

def k8m0 : Method := { name := "<init>", desc := "()V", sig := { parameters := [], returnType := none }, accessFlags := 2, code := none }
/-- java/lang/Integer$IntegerCache -/
def k8 : Class := { plain "java/lang/Integer$IntegerCache" (some 0) with
  accessFlags := 48
  interfaces := #[]
  cf := some (fileOf pool8 16 #[.nestHost 7] #[{ accessFlags := 2, nameIndex := 5, descriptorIndex := 6, attributes := #[] }] 48 2 #[] #[{ accessFlags := 24, nameIndex := 72, descriptorIndex := 48, attributes := #[] }, { accessFlags := 24, nameIndex := 47, descriptorIndex := 48, attributes := #[] }, { accessFlags := 24, nameIndex := 71, descriptorIndex := 58, attributes := #[] }, { accessFlags := 8, nameIndex := 57, descriptorIndex := 58, attributes := #[] }, { accessFlags := 4120, nameIndex := 19, descriptorIndex := 20, attributes := #[] }])
  fields := #[{ name := "low", type := .int, accessFlags := 24, slot := 0, constantValue := 0 }, { name := "high", type := .int, accessFlags := 24, slot := 1, constantValue := 0 }, { name := "cache", type := (.array (.object "java/lang/Integer")), accessFlags := 24, slot := 2, constantValue := 0 }, { name := "archivedCache", type := (.array (.object "java/lang/Integer")), accessFlags := 8, slot := 3, constantValue := 0 }, { name := "$assertionsDisabled", type := .boolean, accessFlags := 4120, slot := 4, constantValue := 0 }]
  methods := #[k8m0]
  instanceTypes := #[]
  staticTypes := #[.int, .int, (.array (.object "java/lang/Integer")), (.array (.object "java/lang/Integer")), .boolean]
  resolved := Array.replicate 100 none
  statics := some 0 }

def pool9 : Array CpInfo := pool [(2, .class_ 4), (1, u "java/lang/Enum"), (0, u "name"), (0, u "Ljava/lang/String;"), (2, u "ordinal"), (0, u "I"), (1, .class_ 14), (1, u "java/lang/Object"), (4, u "hash"), (86, .class_ 108), (1, u "java/lang/Enum$EnumDesc"), (2, .class_ 112), (0, u "java/lang/constant/Constable"), (0, .class_ 114), (0, u "java/lang/Comparable"), (0, .class_ 116), (0, u "java/io/Serializable")] 87

/-- java/lang/Enum -/
def k9 : Class := { plain "java/lang/Enum" (some 0) with
  accessFlags := 1057
  interfaces := #[5, 4, 2]
  cf := some (fileOf pool9 2 #[.nestMembers #[106]] #[] 1057 12 #[111, 113, 115] #[{ accessFlags := 18, nameIndex := 5, descriptorIndex := 6, attributes := #[] }, { accessFlags := 18, nameIndex := 9, descriptorIndex := 10, attributes := #[] }, { accessFlags := 2, nameIndex := 19, descriptorIndex := 10, attributes := #[] }])
  fields := #[{ name := "name", type := (.object "java/lang/String"), accessFlags := 18, slot := 0, constantValue := 0 }, { name := "ordinal", type := .int, accessFlags := 18, slot := 1, constantValue := 0 }, { name := "hash", type := .int, accessFlags := 2, slot := 2, constantValue := 0 }]
  methods := #[]
  instanceTypes := #[(.object "java/lang/String"), .int, .int]
  staticTypes := #[]
  resolved := Array.replicate 204 none
  statics := none }

def pool10 : Array CpInfo := pool [(1, .class_ 2), (0, u "com/example/reconcile/reconcile/simulator/WebhookAnswer"), (0, .fieldref 1 4), (0, .nameAndType 5 6), (0, u "RECEIVED"), (0, u "Lcom/example/reconcile/reconcile/simulator/WebhookAnswer;"), (0, .fieldref 1 8), (0, .nameAndType 9 6), (0, u "REFUSED"), (0, .fieldref 1 11), (0, .nameAndType 12 6), (0, u "NONE"), (2, u "$VALUES"), (0, u "[Lcom/example/reconcile/reconcile/simulator/WebhookAnswer;"), (6, .class_ 25), (1, u "java/lang/Enum"), (6, .methodref 33 34), (0, .class_ 35), (0, .nameAndType 36 37), (0, u "java/lang/Integer"), (0, u "intValue"), (0, u "()I"), (15, u "of"), (0, u "(Ljava/lang/Integer;)Lcom/example/reconcile/reconcile/simulator/WebhookAnswer;")] 7

def k10c0 : Code := { maxStack := 2, maxLocals := 1, code := prog_9_method_4_code, exceptionTable := #[], attributes := #[] }
def k10m0 : Method := { name := "of", desc := "(Ljava/lang/Integer;)Lcom/example/reconcile/reconcile/simulator/WebhookAnswer;", sig := { parameters := [(.object "java/lang/Integer")], returnType := some (.object "com/example/reconcile/reconcile/simulator/WebhookAnswer") }, accessFlags := 8, code := some k10c0 }
/-- com/example/reconcile/reconcile/simulator/WebhookAnswer -/
def k10 : Class := { plain "com/example/reconcile/reconcile/simulator/WebhookAnswer" (some 9) with
  accessFlags := 16432
  interfaces := #[]
  cf := some (fileOf pool10 1 #[] #[{ accessFlags := 8, nameIndex := 53, descriptorIndex := 54, attributes := #[] }] 16432 23 #[] #[{ accessFlags := 16409, nameIndex := 5, descriptorIndex := 6, attributes := #[] }, { accessFlags := 16409, nameIndex := 9, descriptorIndex := 6, attributes := #[] }, { accessFlags := 16409, nameIndex := 12, descriptorIndex := 6, attributes := #[] }, { accessFlags := 4122, nameIndex := 15, descriptorIndex := 16, attributes := #[] }])
  fields := #[{ name := "RECEIVED", type := (.object "com/example/reconcile/reconcile/simulator/WebhookAnswer"), accessFlags := 16409, slot := 0, constantValue := 0 }, { name := "REFUSED", type := (.object "com/example/reconcile/reconcile/simulator/WebhookAnswer"), accessFlags := 16409, slot := 1, constantValue := 0 }, { name := "NONE", type := (.object "com/example/reconcile/reconcile/simulator/WebhookAnswer"), accessFlags := 16409, slot := 2, constantValue := 0 }, { name := "$VALUES", type := (.array (.object "com/example/reconcile/reconcile/simulator/WebhookAnswer")), accessFlags := 4122, slot := 3, constantValue := 0 }]
  methods := #[k10m0]
  instanceTypes := #[(.object "java/lang/String"), .int, .int]
  staticTypes := #[(.object "com/example/reconcile/reconcile/simulator/WebhookAnswer"), (.object "com/example/reconcile/reconcile/simulator/WebhookAnswer"), (.object "com/example/reconcile/reconcile/simulator/WebhookAnswer"), (.array (.object "com/example/reconcile/reconcile/simulator/WebhookAnswer"))]
  resolved := Array.replicate 62 none
  statics := some 1 }

def pool11 : Array CpInfo := pool [(1, u "java/lang/Cloneable"), (0, .class_ 1), (0, u "java/lang/Object"), (0, .class_ 3)] 3

/-- java/lang/Cloneable -/
def k11 : Class := { plain "java/lang/Cloneable" (some 0) with
  accessFlags := 1537
  interfaces := #[]
  cf := some (fileOf pool11 2 #[] #[] 1537 4 #[] #[])
  fields := #[]
  methods := #[]
  instanceTypes := #[]
  staticTypes := #[]
  resolved := Array.replicate 8 none
  statics := none }

/-- the primitive byte -/
def k12 : Class := { plain "byte" none with kind := .primitive 'B', accessFlags := 0x411 }
/-- [B -/
def k13 : Class := { plain "[B" (some 0) with kind := .array 12 .byte, interfaces := #[11, 2], accessFlags := 1041 }

/-- the primitive int -/
def k14 : Class := { plain "int" none with kind := .primitive 'I', accessFlags := 0x411 }
/-- [I -/
def k15 : Class := { plain "[I" (some 0) with kind := .array 14 .int, interfaces := #[11, 2], accessFlags := 1041 }

/-- [Ljava/lang/Integer; -/
def k16 : Class := { plain "[Ljava/lang/Integer;" (some 0) with kind := .array 7 (.object "java/lang/Integer"), interfaces := #[11, 2], accessFlags := 1041 }

def heap : Heap := #[{ cls := 8, slots := #[.int 0, .int 127, .ref 2, .null, .int 0], vm := .statics 8 },
  { cls := 10, slots := #[.ref 4, .ref 5, .ref 3, .null], vm := .statics 10 },
  { cls := 16, slots := #[.ref 6, .ref 7, .ref 8, .ref 9, .ref 10, .ref 11, .ref 12, .ref 13, .ref 14, .ref 15, .ref 16, .ref 17, .ref 18, .ref 19, .ref 20, .ref 21, .ref 22, .ref 23, .ref 24, .ref 25, .ref 26, .ref 27, .ref 28, .ref 29, .ref 30, .ref 31, .ref 32, .ref 33, .ref 34, .ref 35, .ref 36, .ref 37, .ref 38, .ref 39, .ref 40, .ref 41, .ref 42, .ref 43, .ref 44, .ref 45, .ref 46, .ref 47, .ref 48, .ref 49, .ref 50, .ref 51, .ref 52, .ref 53, .ref 54, .ref 55, .ref 56, .ref 57, .ref 58, .ref 59, .ref 60, .ref 61, .ref 62, .ref 63, .ref 64, .ref 65, .ref 66, .ref 67, .ref 68, .ref 69, .ref 70, .ref 71, .ref 72, .ref 73, .ref 74, .ref 75, .ref 76, .ref 77, .ref 78, .ref 79, .ref 80, .ref 81, .ref 82, .ref 83, .ref 84, .ref 85, .ref 86, .ref 87, .ref 88, .ref 89, .ref 90, .ref 91, .ref 92, .ref 93, .ref 94, .ref 95, .ref 96, .ref 97, .ref 98, .ref 99, .ref 100, .ref 101, .ref 102, .ref 103, .ref 104, .ref 105, .ref 106, .ref 107, .ref 108, .ref 109, .ref 110, .ref 111, .ref 112, .ref 113, .ref 114, .ref 115, .ref 116, .ref 117, .ref 118, .ref 119, .ref 120, .ref 121, .ref 122, .ref 123, .ref 124, .ref 125, .ref 126, .ref 127, .ref 128, .ref 129, .ref 130, .ref 131, .ref 132, .ref 133, .ref 134, .ref 135, .ref 136, .ref 137, .ref 138, .ref 139, .ref 140, .ref 141, .ref 142, .ref 143, .ref 144, .ref 145, .ref 146, .ref 147, .ref 148, .ref 149, .ref 150, .ref 151, .ref 152, .ref 153, .ref 154, .ref 155, .ref 156, .ref 157, .ref 158, .ref 159, .ref 160, .ref 161, .ref 162, .ref 163, .ref 164, .ref 165, .ref 166, .ref 167, .ref 168, .ref 169, .ref 170, .ref 171, .ref 172, .ref 173, .ref 174, .ref 175, .ref 176, .ref 177, .ref 178, .ref 179, .ref 180, .ref 181, .ref 182, .ref 183, .ref 184, .ref 185, .ref 186, .ref 187, .ref 188, .ref 189, .ref 190, .ref 191, .ref 192, .ref 193, .ref 194, .ref 195, .ref 196, .ref 197, .ref 198, .ref 199, .ref 200, .ref 201, .ref 202, .ref 203, .ref 204, .ref 205, .ref 206, .ref 207, .ref 208, .ref 209, .ref 210, .ref 211, .ref 212, .ref 213, .ref 214, .ref 215, .ref 216, .ref 217, .ref 218, .ref 219, .ref 220, .ref 221, .ref 222, .ref 223, .ref 224, .ref 225, .ref 226, .ref 227, .ref 228, .ref 229, .ref 230, .ref 231, .ref 232, .ref 233, .ref 234, .ref 235, .ref 236, .ref 237, .ref 238, .ref 239, .ref 240, .ref 241, .ref 242, .ref 243, .ref 244, .ref 245, .ref 246, .ref 247, .ref 248, .ref 249, .ref 250, .ref 251, .ref 252, .ref 253, .ref 254, .ref 255, .ref 256, .ref 257, .ref 258, .ref 259, .ref 260, .ref 261], vm := .none },
  { cls := 10, slots := #[.null, .int 0, .int 0], vm := .none },
  { cls := 10, slots := #[.null, .int 0, .int 0], vm := .none },
  { cls := 10, slots := #[.null, .int 0, .int 0], vm := .none },
  { cls := 7, slots := #[.int (-128)], vm := .none },
  { cls := 7, slots := #[.int (-127)], vm := .none },
  { cls := 7, slots := #[.int (-126)], vm := .none },
  { cls := 7, slots := #[.int (-125)], vm := .none },
  { cls := 7, slots := #[.int (-124)], vm := .none },
  { cls := 7, slots := #[.int (-123)], vm := .none },
  { cls := 7, slots := #[.int (-122)], vm := .none },
  { cls := 7, slots := #[.int (-121)], vm := .none },
  { cls := 7, slots := #[.int (-120)], vm := .none },
  { cls := 7, slots := #[.int (-119)], vm := .none },
  { cls := 7, slots := #[.int (-118)], vm := .none },
  { cls := 7, slots := #[.int (-117)], vm := .none },
  { cls := 7, slots := #[.int (-116)], vm := .none },
  { cls := 7, slots := #[.int (-115)], vm := .none },
  { cls := 7, slots := #[.int (-114)], vm := .none },
  { cls := 7, slots := #[.int (-113)], vm := .none },
  { cls := 7, slots := #[.int (-112)], vm := .none },
  { cls := 7, slots := #[.int (-111)], vm := .none },
  { cls := 7, slots := #[.int (-110)], vm := .none },
  { cls := 7, slots := #[.int (-109)], vm := .none },
  { cls := 7, slots := #[.int (-108)], vm := .none },
  { cls := 7, slots := #[.int (-107)], vm := .none },
  { cls := 7, slots := #[.int (-106)], vm := .none },
  { cls := 7, slots := #[.int (-105)], vm := .none },
  { cls := 7, slots := #[.int (-104)], vm := .none },
  { cls := 7, slots := #[.int (-103)], vm := .none },
  { cls := 7, slots := #[.int (-102)], vm := .none },
  { cls := 7, slots := #[.int (-101)], vm := .none },
  { cls := 7, slots := #[.int (-100)], vm := .none },
  { cls := 7, slots := #[.int (-99)], vm := .none },
  { cls := 7, slots := #[.int (-98)], vm := .none },
  { cls := 7, slots := #[.int (-97)], vm := .none },
  { cls := 7, slots := #[.int (-96)], vm := .none },
  { cls := 7, slots := #[.int (-95)], vm := .none },
  { cls := 7, slots := #[.int (-94)], vm := .none },
  { cls := 7, slots := #[.int (-93)], vm := .none },
  { cls := 7, slots := #[.int (-92)], vm := .none },
  { cls := 7, slots := #[.int (-91)], vm := .none },
  { cls := 7, slots := #[.int (-90)], vm := .none },
  { cls := 7, slots := #[.int (-89)], vm := .none },
  { cls := 7, slots := #[.int (-88)], vm := .none },
  { cls := 7, slots := #[.int (-87)], vm := .none },
  { cls := 7, slots := #[.int (-86)], vm := .none },
  { cls := 7, slots := #[.int (-85)], vm := .none },
  { cls := 7, slots := #[.int (-84)], vm := .none },
  { cls := 7, slots := #[.int (-83)], vm := .none },
  { cls := 7, slots := #[.int (-82)], vm := .none },
  { cls := 7, slots := #[.int (-81)], vm := .none },
  { cls := 7, slots := #[.int (-80)], vm := .none },
  { cls := 7, slots := #[.int (-79)], vm := .none },
  { cls := 7, slots := #[.int (-78)], vm := .none },
  { cls := 7, slots := #[.int (-77)], vm := .none },
  { cls := 7, slots := #[.int (-76)], vm := .none },
  { cls := 7, slots := #[.int (-75)], vm := .none },
  { cls := 7, slots := #[.int (-74)], vm := .none },
  { cls := 7, slots := #[.int (-73)], vm := .none },
  { cls := 7, slots := #[.int (-72)], vm := .none },
  { cls := 7, slots := #[.int (-71)], vm := .none },
  { cls := 7, slots := #[.int (-70)], vm := .none },
  { cls := 7, slots := #[.int (-69)], vm := .none },
  { cls := 7, slots := #[.int (-68)], vm := .none },
  { cls := 7, slots := #[.int (-67)], vm := .none },
  { cls := 7, slots := #[.int (-66)], vm := .none },
  { cls := 7, slots := #[.int (-65)], vm := .none },
  { cls := 7, slots := #[.int (-64)], vm := .none },
  { cls := 7, slots := #[.int (-63)], vm := .none },
  { cls := 7, slots := #[.int (-62)], vm := .none },
  { cls := 7, slots := #[.int (-61)], vm := .none },
  { cls := 7, slots := #[.int (-60)], vm := .none },
  { cls := 7, slots := #[.int (-59)], vm := .none },
  { cls := 7, slots := #[.int (-58)], vm := .none },
  { cls := 7, slots := #[.int (-57)], vm := .none },
  { cls := 7, slots := #[.int (-56)], vm := .none },
  { cls := 7, slots := #[.int (-55)], vm := .none },
  { cls := 7, slots := #[.int (-54)], vm := .none },
  { cls := 7, slots := #[.int (-53)], vm := .none },
  { cls := 7, slots := #[.int (-52)], vm := .none },
  { cls := 7, slots := #[.int (-51)], vm := .none },
  { cls := 7, slots := #[.int (-50)], vm := .none },
  { cls := 7, slots := #[.int (-49)], vm := .none },
  { cls := 7, slots := #[.int (-48)], vm := .none },
  { cls := 7, slots := #[.int (-47)], vm := .none },
  { cls := 7, slots := #[.int (-46)], vm := .none },
  { cls := 7, slots := #[.int (-45)], vm := .none },
  { cls := 7, slots := #[.int (-44)], vm := .none },
  { cls := 7, slots := #[.int (-43)], vm := .none },
  { cls := 7, slots := #[.int (-42)], vm := .none },
  { cls := 7, slots := #[.int (-41)], vm := .none },
  { cls := 7, slots := #[.int (-40)], vm := .none },
  { cls := 7, slots := #[.int (-39)], vm := .none },
  { cls := 7, slots := #[.int (-38)], vm := .none },
  { cls := 7, slots := #[.int (-37)], vm := .none },
  { cls := 7, slots := #[.int (-36)], vm := .none },
  { cls := 7, slots := #[.int (-35)], vm := .none },
  { cls := 7, slots := #[.int (-34)], vm := .none },
  { cls := 7, slots := #[.int (-33)], vm := .none },
  { cls := 7, slots := #[.int (-32)], vm := .none },
  { cls := 7, slots := #[.int (-31)], vm := .none },
  { cls := 7, slots := #[.int (-30)], vm := .none },
  { cls := 7, slots := #[.int (-29)], vm := .none },
  { cls := 7, slots := #[.int (-28)], vm := .none },
  { cls := 7, slots := #[.int (-27)], vm := .none },
  { cls := 7, slots := #[.int (-26)], vm := .none },
  { cls := 7, slots := #[.int (-25)], vm := .none },
  { cls := 7, slots := #[.int (-24)], vm := .none },
  { cls := 7, slots := #[.int (-23)], vm := .none },
  { cls := 7, slots := #[.int (-22)], vm := .none },
  { cls := 7, slots := #[.int (-21)], vm := .none },
  { cls := 7, slots := #[.int (-20)], vm := .none },
  { cls := 7, slots := #[.int (-19)], vm := .none },
  { cls := 7, slots := #[.int (-18)], vm := .none },
  { cls := 7, slots := #[.int (-17)], vm := .none },
  { cls := 7, slots := #[.int (-16)], vm := .none },
  { cls := 7, slots := #[.int (-15)], vm := .none },
  { cls := 7, slots := #[.int (-14)], vm := .none },
  { cls := 7, slots := #[.int (-13)], vm := .none },
  { cls := 7, slots := #[.int (-12)], vm := .none },
  { cls := 7, slots := #[.int (-11)], vm := .none },
  { cls := 7, slots := #[.int (-10)], vm := .none },
  { cls := 7, slots := #[.int (-9)], vm := .none },
  { cls := 7, slots := #[.int (-8)], vm := .none },
  { cls := 7, slots := #[.int (-7)], vm := .none },
  { cls := 7, slots := #[.int (-6)], vm := .none },
  { cls := 7, slots := #[.int (-5)], vm := .none },
  { cls := 7, slots := #[.int (-4)], vm := .none },
  { cls := 7, slots := #[.int (-3)], vm := .none },
  { cls := 7, slots := #[.int (-2)], vm := .none },
  { cls := 7, slots := #[.int (-1)], vm := .none },
  { cls := 7, slots := #[.int 0], vm := .none },
  { cls := 7, slots := #[.int 1], vm := .none },
  { cls := 7, slots := #[.int 2], vm := .none },
  { cls := 7, slots := #[.int 3], vm := .none },
  { cls := 7, slots := #[.int 4], vm := .none },
  { cls := 7, slots := #[.int 5], vm := .none },
  { cls := 7, slots := #[.int 6], vm := .none },
  { cls := 7, slots := #[.int 7], vm := .none },
  { cls := 7, slots := #[.int 8], vm := .none },
  { cls := 7, slots := #[.int 9], vm := .none },
  { cls := 7, slots := #[.int 10], vm := .none },
  { cls := 7, slots := #[.int 11], vm := .none },
  { cls := 7, slots := #[.int 12], vm := .none },
  { cls := 7, slots := #[.int 13], vm := .none },
  { cls := 7, slots := #[.int 14], vm := .none },
  { cls := 7, slots := #[.int 15], vm := .none },
  { cls := 7, slots := #[.int 16], vm := .none },
  { cls := 7, slots := #[.int 17], vm := .none },
  { cls := 7, slots := #[.int 18], vm := .none },
  { cls := 7, slots := #[.int 19], vm := .none },
  { cls := 7, slots := #[.int 20], vm := .none },
  { cls := 7, slots := #[.int 21], vm := .none },
  { cls := 7, slots := #[.int 22], vm := .none },
  { cls := 7, slots := #[.int 23], vm := .none },
  { cls := 7, slots := #[.int 24], vm := .none },
  { cls := 7, slots := #[.int 25], vm := .none },
  { cls := 7, slots := #[.int 26], vm := .none },
  { cls := 7, slots := #[.int 27], vm := .none },
  { cls := 7, slots := #[.int 28], vm := .none },
  { cls := 7, slots := #[.int 29], vm := .none },
  { cls := 7, slots := #[.int 30], vm := .none },
  { cls := 7, slots := #[.int 31], vm := .none },
  { cls := 7, slots := #[.int 32], vm := .none },
  { cls := 7, slots := #[.int 33], vm := .none },
  { cls := 7, slots := #[.int 34], vm := .none },
  { cls := 7, slots := #[.int 35], vm := .none },
  { cls := 7, slots := #[.int 36], vm := .none },
  { cls := 7, slots := #[.int 37], vm := .none },
  { cls := 7, slots := #[.int 38], vm := .none },
  { cls := 7, slots := #[.int 39], vm := .none },
  { cls := 7, slots := #[.int 40], vm := .none },
  { cls := 7, slots := #[.int 41], vm := .none },
  { cls := 7, slots := #[.int 42], vm := .none },
  { cls := 7, slots := #[.int 43], vm := .none },
  { cls := 7, slots := #[.int 44], vm := .none },
  { cls := 7, slots := #[.int 45], vm := .none },
  { cls := 7, slots := #[.int 46], vm := .none },
  { cls := 7, slots := #[.int 47], vm := .none },
  { cls := 7, slots := #[.int 48], vm := .none },
  { cls := 7, slots := #[.int 49], vm := .none },
  { cls := 7, slots := #[.int 50], vm := .none },
  { cls := 7, slots := #[.int 51], vm := .none },
  { cls := 7, slots := #[.int 52], vm := .none },
  { cls := 7, slots := #[.int 53], vm := .none },
  { cls := 7, slots := #[.int 54], vm := .none },
  { cls := 7, slots := #[.int 55], vm := .none },
  { cls := 7, slots := #[.int 56], vm := .none },
  { cls := 7, slots := #[.int 57], vm := .none },
  { cls := 7, slots := #[.int 58], vm := .none },
  { cls := 7, slots := #[.int 59], vm := .none },
  { cls := 7, slots := #[.int 60], vm := .none },
  { cls := 7, slots := #[.int 61], vm := .none },
  { cls := 7, slots := #[.int 62], vm := .none },
  { cls := 7, slots := #[.int 63], vm := .none },
  { cls := 7, slots := #[.int 64], vm := .none },
  { cls := 7, slots := #[.int 65], vm := .none },
  { cls := 7, slots := #[.int 66], vm := .none },
  { cls := 7, slots := #[.int 67], vm := .none },
  { cls := 7, slots := #[.int 68], vm := .none },
  { cls := 7, slots := #[.int 69], vm := .none },
  { cls := 7, slots := #[.int 70], vm := .none },
  { cls := 7, slots := #[.int 71], vm := .none },
  { cls := 7, slots := #[.int 72], vm := .none },
  { cls := 7, slots := #[.int 73], vm := .none },
  { cls := 7, slots := #[.int 74], vm := .none },
  { cls := 7, slots := #[.int 75], vm := .none },
  { cls := 7, slots := #[.int 76], vm := .none },
  { cls := 7, slots := #[.int 77], vm := .none },
  { cls := 7, slots := #[.int 78], vm := .none },
  { cls := 7, slots := #[.int 79], vm := .none },
  { cls := 7, slots := #[.int 80], vm := .none },
  { cls := 7, slots := #[.int 81], vm := .none },
  { cls := 7, slots := #[.int 82], vm := .none },
  { cls := 7, slots := #[.int 83], vm := .none },
  { cls := 7, slots := #[.int 84], vm := .none },
  { cls := 7, slots := #[.int 85], vm := .none },
  { cls := 7, slots := #[.int 86], vm := .none },
  { cls := 7, slots := #[.int 87], vm := .none },
  { cls := 7, slots := #[.int 88], vm := .none },
  { cls := 7, slots := #[.int 89], vm := .none },
  { cls := 7, slots := #[.int 90], vm := .none },
  { cls := 7, slots := #[.int 91], vm := .none },
  { cls := 7, slots := #[.int 92], vm := .none },
  { cls := 7, slots := #[.int 93], vm := .none },
  { cls := 7, slots := #[.int 94], vm := .none },
  { cls := 7, slots := #[.int 95], vm := .none },
  { cls := 7, slots := #[.int 96], vm := .none },
  { cls := 7, slots := #[.int 97], vm := .none },
  { cls := 7, slots := #[.int 98], vm := .none },
  { cls := 7, slots := #[.int 99], vm := .none },
  { cls := 7, slots := #[.int 100], vm := .none },
  { cls := 7, slots := #[.int 101], vm := .none },
  { cls := 7, slots := #[.int 102], vm := .none },
  { cls := 7, slots := #[.int 103], vm := .none },
  { cls := 7, slots := #[.int 104], vm := .none },
  { cls := 7, slots := #[.int 105], vm := .none },
  { cls := 7, slots := #[.int 106], vm := .none },
  { cls := 7, slots := #[.int 107], vm := .none },
  { cls := 7, slots := #[.int 108], vm := .none },
  { cls := 7, slots := #[.int 109], vm := .none },
  { cls := 7, slots := #[.int 110], vm := .none },
  { cls := 7, slots := #[.int 111], vm := .none },
  { cls := 7, slots := #[.int 112], vm := .none },
  { cls := 7, slots := #[.int 113], vm := .none },
  { cls := 7, slots := #[.int 114], vm := .none },
  { cls := 7, slots := #[.int 115], vm := .none },
  { cls := 7, slots := #[.int 116], vm := .none },
  { cls := 7, slots := #[.int 117], vm := .none },
  { cls := 7, slots := #[.int 118], vm := .none },
  { cls := 7, slots := #[.int 119], vm := .none },
  { cls := 7, slots := #[.int 120], vm := .none },
  { cls := 7, slots := #[.int 121], vm := .none },
  { cls := 7, slots := #[.int 122], vm := .none },
  { cls := 7, slots := #[.int 123], vm := .none },
  { cls := 7, slots := #[.int 124], vm := .none },
  { cls := 7, slots := #[.int 125], vm := .none },
  { cls := 7, slots := #[.int 126], vm := .none },
  { cls := 7, slots := #[.int 127], vm := .none }]
def classes : Array Class := #[k0, k1, k2, k3, k4, k5, k6, k7, k8, k9, k10, k11, k12, k13, k14, k15, k16]
def interned : List (Array UInt16 × Addr) := []
def slotsUsed : Nat := 530
def theMethod : MethodId := ⟨1, 1⟩
def args0 : Array Value := #[.int 250, .int 1]
def aboutOver (below : List Frame) : State where
  vm := { classes := classes, interned := interned.toArray }
  heap := heap
  slotsUsed := slotsUsed
  threads := #[{ frames := .invoking theMethod args0 :: below }]
def below0 : List Frame := [.native { method := ⟨0, 0⟩, args := #[] }]
def about1 : State := aboutOver below0
def p0 : Program := .bare "" "" ""
def e0 : Env := launch0.env 0 0 0
theorem w_frames : about1.frames = Frame.invoking theMethod args0 :: below0 := rfl
set_option maxRecDepth 65536 in
theorem w_args : argsFit about1.vm theMethod args0 = true := by decide +kernel
set_option maxRecDepth 65536 in
theorem w_heap : heapFits about1 = true := by decide +kernel
set_option maxRecDepth 65536 in
theorem w_runnable : about1.curStatus? = some .runnable := by decide +kernel
set_option maxRecDepth 65536 in
theorem w_alone : about1.alone = true := by decide +kernel
set_option maxRecDepth 65536 in
theorem w_named : about1.methodNamed? x = some theMethod := by decide +kernel
set_option maxRecDepth 65536 in
theorem w_hears : about1.hears theMethod below0 = true := by decide +kernel
set_option maxRecDepth 65536 in
theorem w_ripe : about1.ripe theMethod args0 below0 = true := by decide +kernel
theorem w_running : about1.status = .running := rfl
set_option maxRecDepth 65536 in
theorem w_room : about1.hasRoom e0.platform room_1 = true :=
  launch0.hasRoom_least _ room_1 (by decide +kernel) (by decide +kernel) (by decide +kernel) (by decide +kernel) (by decide +kernel) (by decide +kernel)
theorem allAtoms_all (ts : List Jvm.Cond) (a : Array Jvm.Value) (st : Jvm.State) : (allAtoms ts).before a st = ts.all (fun c => c.before a st) := by
  induction ts with
  | nil => rfl
  | cons c t ih =>
    show (Jvm.Cond.and c (allAtoms t)).before a st = _
    rw [Jvm.Cond.before_and, ih, List.all_cons]
def words1 : List Jvm.Cond := Jvm.Cond.code x code maxLocals ret :: tables_1
/-- a 'code' word, met by the world's own term for the bytes: nothing is compared byte by byte -/
theorem code_word {y : MethodName} {bytes : ByteArray} {mx : Nat} {rt : Option FieldType} {a : Array Value} {s : State} {m : MethodId} {meth : Method} {c : Code} (h1 : s.methodNamed? y = some m) (h2 : s.vm.method? m = some meth) (h3 : meth.code = some c) (h4 : c.code = bytes)
    (h5 : (c.maxLocals == mx && c.exceptionTable.isEmpty && decide (c.maxStack ≤ mostOperands) && decide (meth.sig.returnType = rt) && !meth.locks && decide (parseMethodDescriptor y.desc = some meth.sig)) = true) : (Jvm.Cond.code y bytes mx rt).before a s = true := by
  simp only [Bool.and_eq_true, beq_iff_eq, Bool.not_eq_true', decide_eq_true_eq] at h5
  obtain ⟨⟨⟨⟨⟨g1, g2⟩, g3⟩, g4⟩, g5⟩, g6⟩ := h5
  simp [Cond.before, Cond.holds, Cond.value, h1, h2, h3, h4, g1, g2, g3, g4, g5, g6]
def isCode : Jvm.Cond → Bool
  | .code _ _ _ _ => true
  | _ => false
theorem all_split {L : List Jvm.Cond} {P : Jvm.Cond → Bool} (h1 : L.all (fun c => isCode c || P c) = true) (h2 : ∀ c ∈ L.filter isCode, P c = true) : L.all P = true := by
  refine List.all_eq_true.mpr fun c hc => ?_
  have h := List.all_eq_true.mp h1 c hc
  rcases Bool.eq_false_or_eq_true (isCode c) with hi | hi
  · exact h2 c (List.mem_filter.mpr ⟨hc, hi⟩)
  · simpa [hi] using h
set_option maxRecDepth 65536 in
theorem w_c0 : (Jvm.Cond.code x code maxLocals ret).before args0 about1 = true := code_word (m := ⟨1, 1⟩) (meth := k1m1) (c := k1c1) (by decide +kernel) rfl rfl rfl (by decide +kernel)
set_option maxRecDepth 65536 in
theorem w_c1 : (Jvm.Cond.code ({ cls := "java/lang/Integer", name := "valueOf", desc := "(I)Ljava/lang/Integer;" } : Jvm.MethodName) jdk_33_method_22_code (1 : Nat) (Option.some (Jvm.ClassFile.FieldType.object "java/lang/Integer"))).before args0 about1 = true := code_word (m := ⟨7, 0⟩) (meth := k7m0) (c := k7c0) (by decide +kernel) rfl rfl rfl (by decide +kernel)
set_option maxRecDepth 65536 in
theorem w_c2 : (Jvm.Cond.code ({ cls := "com/example/reconcile/reconcile/simulator/WebhookAnswer", name := "of", desc := "(Ljava/lang/Integer;)Lcom/example/reconcile/reconcile/simulator/WebhookAnswer;" } : Jvm.MethodName) prog_9_method_4_code (1 : Nat) (Option.some (Jvm.ClassFile.FieldType.object "com/example/reconcile/reconcile/simulator/WebhookAnswer"))).before args0 about1 = true := code_word (m := ⟨10, 0⟩) (meth := k10m0) (c := k10c0) (by decide +kernel) rfl rfl rfl (by decide +kernel)
set_option maxRecDepth 65536 in
theorem w_c3 : (Jvm.Cond.code ({ cls := "java/lang/Integer", name := "intValue", desc := "()I" } : Jvm.MethodName) jdk_33_method_27_code (1 : Nat) (Option.some Jvm.ClassFile.FieldType.int)).before args0 about1 = true := code_word (m := ⟨7, 2⟩) (meth := k7m2) (c := k7c2) (by decide +kernel) rfl rfl rfl (by decide +kernel)
set_option maxRecDepth 65536 in
theorem w_c4 : (Jvm.Cond.code ({ cls := "java/lang/Integer", name := "<init>", desc := "(I)V" } : Jvm.MethodName) jdk_33_method_23_code (2 : Nat) (Option.none : Option Jvm.ClassFile.FieldType)).before args0 about1 = true := code_word (m := ⟨7, 1⟩) (meth := k7m1) (c := k7c1) (by decide +kernel) rfl rfl rfl (by decide +kernel)
set_option maxRecDepth 65536 in
theorem w_c5 : (Jvm.Cond.code ({ cls := "java/lang/Number", name := "<init>", desc := "()V" } : Jvm.MethodName) jdk_18_method_1_code (1 : Nat) (Option.none : Option Jvm.ClassFile.FieldType)).before args0 about1 = true := code_word (m := ⟨3, 0⟩) (meth := k3m0) (c := k3c0) (by decide +kernel) rfl rfl rfl (by decide +kernel)
set_option maxRecDepth 65536 in
theorem w_c6 : (Jvm.Cond.code ({ cls := "java/lang/Object", name := "<init>", desc := "()V" } : Jvm.MethodName) object_method_1_code (1 : Nat) (Option.none : Option Jvm.ClassFile.FieldType)).before args0 about1 = true := code_word (m := ⟨0, 0⟩) (meth := k0m0) (c := k0c0) (by decide +kernel) rfl rfl rfl (by decide +kernel)
def codes1 : List Jvm.Cond := [Jvm.Cond.code x code maxLocals ret, Jvm.Cond.code ({ cls := "java/lang/Integer", name := "valueOf", desc := "(I)Ljava/lang/Integer;" } : Jvm.MethodName) jdk_33_method_22_code (1 : Nat) (Option.some (Jvm.ClassFile.FieldType.object "java/lang/Integer")), Jvm.Cond.code ({ cls := "com/example/reconcile/reconcile/simulator/WebhookAnswer", name := "of", desc := "(Ljava/lang/Integer;)Lcom/example/reconcile/reconcile/simulator/WebhookAnswer;" } : Jvm.MethodName) prog_9_method_4_code (1 : Nat) (Option.some (Jvm.ClassFile.FieldType.object "com/example/reconcile/reconcile/simulator/WebhookAnswer")), Jvm.Cond.code ({ cls := "java/lang/Integer", name := "intValue", desc := "()I" } : Jvm.MethodName) jdk_33_method_27_code (1 : Nat) (Option.some Jvm.ClassFile.FieldType.int), Jvm.Cond.code ({ cls := "java/lang/Integer", name := "<init>", desc := "(I)V" } : Jvm.MethodName) jdk_33_method_23_code (2 : Nat) (Option.none : Option Jvm.ClassFile.FieldType), Jvm.Cond.code ({ cls := "java/lang/Number", name := "<init>", desc := "()V" } : Jvm.MethodName) jdk_18_method_1_code (1 : Nat) (Option.none : Option Jvm.ClassFile.FieldType), Jvm.Cond.code ({ cls := "java/lang/Object", name := "<init>", desc := "()V" } : Jvm.MethodName) object_method_1_code (1 : Nat) (Option.none : Option Jvm.ClassFile.FieldType)]
set_option maxRecDepth 65536 in
theorem codes_eq : words1.filter isCode = codes1 := rfl
theorem w_codes : ∀ c ∈ words1.filter isCode, c.before args0 about1 = true := by
  rw [codes_eq]
  intro c hc
  simp only [codes1, List.mem_cons, List.not_mem_nil, or_false] at hc
  rcases hc with rfl | rfl | rfl | rfl | rfl | rfl | rfl
  · exact w_c0
  · exact w_c1
  · exact w_c2
  · exact w_c3
  · exact w_c4
  · exact w_c5
  · exact w_c6
set_option maxRecDepth 65536 in
theorem w_t1 : (words1.take 24).all (fun c => isCode c || c.before args0 about1) = true := by decide +kernel
set_option maxRecDepth 65536 in
theorem w_t2 : (words1.drop 24).all (fun c => isCode c || c.before args0 about1) = true := by decide +kernel
theorem w_tables : (allAtoms (Jvm.Cond.code x code maxLocals ret :: tables_1)).before args0 about1 = true := by
  rw [allAtoms_all]
  show words1.all (fun c => c.before args0 about1) = true
  refine all_split ?_ w_codes
  rw [← List.take_append_drop 24 words1, List.all_append, w_t1, w_t2]
  rfl
set_option maxRecDepth 65536 in
theorem w_rest : rest_1_c.before args0 about1 = true := by decide +kernel
set_option maxRecDepth 65536 in
theorem w_case : (Jvm.Cond.and given_1 narrow_1).before args0 about1 = true := by decide +kernel
theorem w_applies : (headSpec (Jvm.Cond.code x code maxLocals ret :: tables_1) room_1).applies x e0.platform about1 = true :=
  (Spec.applies_iff w_frames).mpr ⟨w_running, w_runnable, w_alone, w_named, w_hears, w_ripe, w_room, w_tables⟩
theorem atStart : AtStart classFile x code maxLocals ret World_1 tables_1 room_1 Calls_1 rest_1 Pre_1 launch0 p0 e0 about1 theMethod args0 below0 :=
  ⟨lists_1, trivial, launch0.admits_env _ _ _, launch0.least_env, fairChoices_fair.cas, fairChoices_fair.clock, w_frames, w_args, w_heap, w_applies, trivial, w_rest, w_case⟩
end start1
theorem witness_1 : WitnessClaimed_1 := ⟨start1.p0, start1.e0, start1.about1, start1.theMethod, start1.args0, start1.below0, start1.atStart⟩
end Jvm.Pilot.@@N@@
