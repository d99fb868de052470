import JvmDerived
import JvmDerived.Pilot.@@N@@Statement
import JvmDerived.Pilot.@@N@@Code
set_option linter.unusedVariables false
set_option linter.unusedSimpArgs false
namespace Jvm.Pilot.@@N@@
open Jvm Jvm.ClassFile Sem Op Lib Jvm.Free Jvm.Stand Jvm.LawKit Jvm.RoadKit Bundle Jvm.Pilot.@@N@@.Jvm.D
/-- from the state S the body comes to its end, and there G holds -/
def Go (p : Program) (e : Env) (below : List Frame) (G : Outcome → State → Prop) (S : State) : Prop := ∃ s₂ o, Steps p.tables e below S s₂ ∧ s₂.status = .running ∧ Ended s₂ below o ∧ G o s₂
theorem Go.step {p : Program} {e : Env} {below : List Frame} {G : Outcome → State → Prop} {S S' : State} (k : ∀ t, Steps p.tables e below S' t → Steps p.tables e below S t) (g : Go p e below G S') : Go p e below G S := by
  obtain ⟨s₂, o, h, r⟩ := g
  exact ⟨s₂, o, k _ h, r⟩
theorem Go.fin {p : Program} {e : Env} {below : List Frame} {G : Outcome → State → Prop} {S S' : State} {o : Outcome} (h : Steps p.tables e below S S') (h1 : S'.status = .running) (h2 : Ended S' below o) (h3 : G o S') : Go p e below G S := ⟨_, _, h, h1, h2, h3⟩
abbrev lv (x : Int64) : Slot := .val (.long x)
abbrev u_ : Slot := .unset
theorem own_w {Z : State} {a0 : Array Value} (hw : ∀ d ∈ tables_1, d.before a0 Z = true) (k : Nat) {d : Jvm.Cond} (h : tables_1[k]? = some d) : d.before a0 Z = true := hw d (List.mem_of_getElem? h)
theorem old_le {Z : State} {n0 : Nat} {h : Heap} (O : Old Z n0 h) : n0 ≤ h.size := O.1 ▸ O.2.1
theorem own_getR {p : Program} {l : Launch} {e : Env} {R : Room} {s : State} {m : MethodId} {args : Array Value} {below : List Frame} {meth : Method} {c : Code} {T : State} {locs : List Loc} {cells slots : Nat} {Z : State} {a0 : Array Value} {h : Heap}
    (X : Stand p l e R s m args below meth c T locs cells slots) (hx : p.tables.exec = Jvm.exec) (hZ : Z.Warmed39 s.vm) {own R0 n d : String} {index : Nat} (hown : s.vm.findClass own = some m.cls) (w : (Jvm.Cond.fieldRef own index R0 n d).before a0 Z = true)
    (eT : T.heap = h) {a : Addr} {v : Value} (F : Fld Z h a R0 n d v) {g : JFrame} (hg : g.method = m) {rest : List Value} (hs : g.stack = .ref a :: rest) (hd : decode c.code g.pc = .ok (.getfield index, 3)) : ∀ target, Steps p.tables e below (T.setTop { g with pc := g.pc + 3, stack := v :: rest }) target → Steps p.tables e below (T.setTop g) target := by
  obtain ⟨cell, cf, k, i, f, h1, h2, h3, h4, -, -, h7⟩ := F
  have hT : Z.Warmed39 T.vm := wtrans hZ X.warmed
  have w' := Cond.fieldRef_warmed39 hT w
  have ho : (Z.setVm T.vm).vm.findClass own = some m.cls := by show T.vm.findClass own = _; rw [X.warmed.alike.findClass]; exact hown
  obtain ⟨c1, k1, i1, f1, e1, hr⟩ := Cond.fieldRef_spec ho w'
  obtain ⟨k', hi, -⟩ := State.fieldFound?_setVm (s := Z) hT.alike h2
  cases e1.symm.trans hi
  intro target kk
  exact (X.getfieldR hx hg hr h3 hs (by rw [eT]; exact h1) h4 h7 hd (Steps.refl _)).trans kk
theorem own_selP {Z s : State} {a0 args : Array Value} {y : MethodName} {n : Nat} (hZ : Z.Warmed39 s.vm) (wi : (Jvm.Cond.instantiable y.cls n).before a0 Z = true) (wn : (Jvm.Cond.instanceMethod y).before a0 Z = true) (wp : (Jvm.Cond.privateMethod y).before a0 Z = true)
    (hy : y.cls ≠ "java/lang/invoke/MethodHandle" ∧ y.cls ≠ "java/lang/invoke/VarHandle") : (Jvm.Cond.selects y.cls y y).before args s = true := by
  have wi' : (Jvm.Cond.instantiable y.cls n).before args s = true := mv hZ wi
  obtain ⟨c, k, h1, h2, -, h4, -⟩ := Cond.instantiable_spec wi'
  exact Stand.selects_self_of_private h1 h2 (by simp only [Bool.or_eq_false_iff] at h4; exact h4.1) (Cond.privateMethod_at (args := args) (mvP hZ wp)) (mvT hZ wn) hy
theorem own_eqI {t : Term} {n : Int32} {args : Array Value} {s : State} (h : (Jvm.Cond.eq t (.int n)).value args s none s [] = some true) : t.eval args s none [] s = some (.int n) := by
  have hn : (Term.int n).eval args s none [] s = some (.int n) := rfl
  cases ht : t.eval args s none [] s with
  | none => simp [Cond.value, ht] at h
  | some v => cases v <;> simp [Cond.value, ht, hn] at h ⊢; exact h
theorem own_eqJ {t : Term} {n : Int64} {args : Array Value} {s : State} (h : (Jvm.Cond.eq t (.long n)).value args s none s [] = some true) : t.eval args s none [] s = some (.long n) := by
  have hn : (Term.long n).eval args s none [] s = some (.long n) := rfl
  cases ht : t.eval args s none [] s with
  | none => simp [Cond.value, ht] at h
  | some v => cases v <;> simp [Cond.value, ht, hn] at h ⊢; exact h
theorem own_wS {Z : State} {a0 : Array Value} (hw : ∀ d ∈ tables_1, d.before a0 Z = true) : ∀ a ∈ Bundle.stringAtoms, a.before a0 Z = true := by
  intro a ha
  simp only [Bundle.stringAtoms, List.mem_cons, List.not_mem_nil, or_false] at ha
  rcases ha with rfl | rfl | rfl | rfl | rfl | rfl | rfl
  · exact (own_w hw 13 rfl)
  · exact (own_w hw 21 rfl)
  · exact (own_w hw 25 rfl)
  · exact (own_w hw 34 rfl)
  · exact (own_w hw 36 rfl)
  · exact (own_w hw 47 rfl)
  · exact (own_w hw 48 rfl)
theorem own_nc {x : Int32} (h0 : ¬ (x < (0 : Int32))) (h1 : ¬ ((255 : Int32) < x)) : narrow .char (.int x) = .int x := by
  show Value.int x.toUInt32.toUInt16.toUInt32.toInt32 = _
  refine congrArg Value.int ?_
  rw [← Int32.toInt_inj]
  have := c_i2c x
  simp only [Int32.lt_iff_toInt_lt, show (0 : Int32).toInt = 0 from rfl, show (255 : Int32).toInt = 255 from rfl] at h0 h1
  omega
theorem own_char {x : Int32} (h0 : ¬ (x < (0 : Int32))) (h1 : ¬ ((255 : Int32) < x)) : ((x.toInt8.toInt32) &&& (255 : Int32)).toUInt32.toUInt16.toUInt32.toInt32 = x := by
  rw [i2c_mask, ← Int32.toInt_inj, c_mask _ 255 8 (by decide) (by decide)]
  have := (c_i2b x).1
  simp only [Int32.lt_iff_toInt_lt, show (0 : Int32).toInt = 0 from rfl, show (255 : Int32).toInt = 255 from rfl] at h0 h1
  omega
theorem pn_java_lang_String : plainName "java/lang/String" = true := by first | (simp [plainName, overriddenIn]; done) | decide +kernel
theorem d12_0 : decode jdk_42_method_152_code 0 = .ok (.getstatic 38, 3) := by decide +kernel
theorem d12_3 : decode jdk_42_method_152_code 3 = .ok (.ifCond .eq 10, 3) := by decide +kernel
theorem d12_6 : decode jdk_42_method_152_code 6 = .ok (.aload_n 0, 1) := by decide +kernel
theorem d12_7 : decode jdk_42_method_152_code 7 = .ok (.getfield 15, 3) := by decide +kernel
theorem d12_10 : decode jdk_42_method_152_code 10 = .ok (.goto 4, 3) := by decide +kernel
theorem d12_14 : decode jdk_42_method_152_code 14 = .ok (.ireturn, 1) := by decide +kernel
theorem ef_rmCod (m : MethodId) (so : Addr) : entryFrame m #[(.ref so)] 1 = mkF m 0 #[.val (.ref so)] [] := by first | (simp [entryFrame, mkF, argsToLocals, Value.category]; done) | rfl
abbrev rm_rmCod : Room := ({ frames := 0, cells := 0, slots := 0, locals := 0 } : Room)
def Q_rmCod (Z : State) (so : Addr) (cs : Int32) (h0 : Heap) (n0 : Nat) (v : Option Value) (h : Heap) (L : List Loc) : Prop := (v = some (.int (0 : Int32))) ∧ (Fr n0 L) ∧ (h = h0)
set_option maxRecDepth 65536 in
set_option maxHeartbeats 40000000 in
theorem rmCod (l : Launch) (Z : State) (a0 : Array Value) (hw : ∀ d ∈ tables_1, d.before a0 Z = true) (ws : List Jvm.Cond) (so : Addr) (cs : Int32) (h0 : Heap) (n0 : Nat) (O : Old Z n0 h0) (S_CS : Sta Z Z.heap "java/lang/String" "COMPACT_STRINGS" "Z" (.int cs)) (F_c : Fld Z h0 so "java/lang/String" "coder" "B" (.int (0 : Int32))) (hcs : ¬ (cs = (0 : Int32))) :
    MetFree l (⟨"java/lang/String", "coder", "()B"⟩ : MethodName) (head1 (Jvm.Cond.code (⟨"java/lang/String", "coder", "()B"⟩ : MethodName) jdk_42_method_152_code 1 (some .byte) :: ws) rm_rmCod) (fun A_ U => A_ = #[(.ref so)] ∧ Z.Warmed39 U.vm ∧ U.heap = h0) (fun _ _ _ _ _ => True) (fun _ U o U' => ∃ v L, o = .returned v ∧ Q_rmCod Z so cs h0 n0 v U'.heap L ∧ FrameEnd U o U' L rm_rmCod.cells rm_rmCod.slots) := by
  refine MetFree.of_bodySF (plainFor_of_name pn_java_lang_String) hisR ?_
  intro p e s m args below meth c s₁ Bd hml0 hP hK
  obtain ⟨rfl, hZ, hh⟩ := hP
  have hx := Bd.exec
  have hby := Bd.bytes
  have hml : c.maxLocals = 1 := hml0
  have hown : s.vm.findClass "java/lang/String" = some m.cls := findClass_of_methodNamed Bd.named
  have hnm := (name_of_methodNamed Bd.named Bd.method).1
  have X0 : Stand p l e rm_rmCod s m #[(.ref so)] below meth c s₁ [] 0 0 := Stand.of_body Bd
  have e0 : s₁.heap = h0 := by rw [← hh, Bd.state]; rfl
  have N0 := Fr.nil n0
  refine Go.step (p := p) (e := e) (below := below) (G := fun o U' => ∃ v L, o = .returned v ∧ Q_rmCod Z so cs h0 n0 v U'.heap L ∧ FrameEnd s o U' L rm_rmCod.cells rm_rmCod.slots) (S' := s₁.setTop (mkF m 0 #[rv so] [])) (fun t k => castTop (ef_rmCod m so) k) ?_
  obtain ⟨T1, X1, e1, st1⟩ := getS2 X0 hx hZ hown (host := "") (Or.inl (own_w hw 15 rfl)) Via.refl e0 (S_CS.ext O.2) (g := (mkF m 0 #[rv so] [])) rfl (hb hby d12_0)
  refine Go.step st1 ?_
  show Go p e below _ (T1.setTop (mkF m 3 #[rv so] [(.int cs)]))
  refine Go.step (S' := T1.setTop (mkF m 7 #[rv so] [(.ref so)])) (fun t k => ?_) ?_
  · show Steps p.tables e below (T1.setTop (mkF m 3 #[rv so] [(.int cs)])) _
    refine XS.ifNo X1.here hx rfl (hb hby d12_3) rfl ((if0 _ _).trans (feq (hcs : ¬ (cs = (0 : Int32)))).1) ?_
    show Steps p.tables e below (T1.setTop (mkF m 6 #[rv so] [])) _
    refine XS.aloadN X1.here hx rfl (hb hby d12_6) rfl rfl ?_
    exact k
  obtain ⟨T2, X2, e2, st2⟩ := getF X1 hx hZ hown (host := "") (Or.inl (own_w hw 35 rfl)) Via.refl e1 F_c (g := (mkF m 7 #[rv so] [(.ref so)])) rfl rfl (hb hby d12_7)
  refine Go.step st2 ?_
  show Go p e below _ (T2.setTop (mkF m 10 #[rv so] [(.int (0 : Int32))]))
  refine Go.step (S' := T2.setTop (mkF m 14 #[rv so] [(.int (0 : Int32))])) (fun t k => ?_) ?_
  · show Steps p.tables e below (T2.setTop (mkF m 10 #[rv so] [(.int (0 : Int32))])) _
    refine XS.goto X2.here hx rfl (pc0 := 10) (pc' := 14) rfl (hb hby d12_10) (by decide) (by decide) ?_
    exact k
  obtain ⟨fs, hr, hrun, hended, hW, hsame⟩ := X2.leave (v := some (.int (0 : Int32))) (fun h => by rw [Bd.returns] at h; cases h)
  refine Go.fin (S' := T2.setFrames fs) ?_ hrun hended ⟨_, _, rfl, ?_, ⟨_, rfl⟩, hW, hsame.mono (by decide) (by decide)⟩
  · exact retOut X2 hx Bd.returns (by decide) (Or.inl ⟨rfl, Or.inr (Or.inr (Or.inl rfl)), _, rfl⟩) (hb hby d12_14) hr
  · show Q_rmCod Z so cs h0 n0 (some (.int (0 : Int32))) T2.heap _
    rw [e2]
    exact ⟨rfl, N0, rfl⟩
theorem d14_0 : decode jdk_42_method_154_code 0 = .ok (.getstatic 38, 3) := by decide +kernel
theorem d14_3 : decode jdk_42_method_154_code 3 = .ok (.ifCond .eq 14, 3) := by decide +kernel
theorem d14_6 : decode jdk_42_method_154_code 6 = .ok (.aload_n 0, 1) := by decide +kernel
theorem d14_7 : decode jdk_42_method_154_code 7 = .ok (.getfield 15, 3) := by decide +kernel
theorem d14_10 : decode jdk_42_method_154_code 10 = .ok (.ifCond .ne 7, 3) := by decide +kernel
theorem d14_13 : decode jdk_42_method_154_code 13 = .ok (.iconst 1, 1) := by decide +kernel
theorem d14_14 : decode jdk_42_method_154_code 14 = .ok (.goto 4, 3) := by decide +kernel
theorem d14_18 : decode jdk_42_method_154_code 18 = .ok (.ireturn, 1) := by decide +kernel
theorem ef_rmLat (m : MethodId) (so : Addr) : entryFrame m #[(.ref so)] 1 = mkF m 0 #[.val (.ref so)] [] := by first | (simp [entryFrame, mkF, argsToLocals, Value.category]; done) | rfl
abbrev rm_rmLat : Room := ({ frames := 0, cells := 0, slots := 0, locals := 0 } : Room)
def Q_rmLat (Z : State) (so : Addr) (cs : Int32) (h0 : Heap) (n0 : Nat) (v : Option Value) (h : Heap) (L : List Loc) : Prop := (v = some (.int (1 : Int32))) ∧ (Fr n0 L) ∧ (h = h0)
set_option maxRecDepth 65536 in
set_option maxHeartbeats 40000000 in
theorem rmLat (l : Launch) (Z : State) (a0 : Array Value) (hw : ∀ d ∈ tables_1, d.before a0 Z = true) (ws : List Jvm.Cond) (so : Addr) (cs : Int32) (h0 : Heap) (n0 : Nat) (O : Old Z n0 h0) (S_CS : Sta Z Z.heap "java/lang/String" "COMPACT_STRINGS" "Z" (.int cs)) (F_c : Fld Z h0 so "java/lang/String" "coder" "B" (.int (0 : Int32))) (hcs : ¬ (cs = (0 : Int32))) :
    MetFree l (⟨"java/lang/String", "isLatin1", "()Z"⟩ : MethodName) (head1 (Jvm.Cond.code (⟨"java/lang/String", "isLatin1", "()Z"⟩ : MethodName) jdk_42_method_154_code 1 (some .boolean) :: ws) rm_rmLat) (fun A_ U => A_ = #[(.ref so)] ∧ Z.Warmed39 U.vm ∧ U.heap = h0) (fun _ _ _ _ _ => True) (fun _ U o U' => ∃ v L, o = .returned v ∧ Q_rmLat Z so cs h0 n0 v U'.heap L ∧ FrameEnd U o U' L rm_rmLat.cells rm_rmLat.slots) := by
  refine MetFree.of_bodySF (plainFor_of_name pn_java_lang_String) hisR ?_
  intro p e s m args below meth c s₁ Bd hml0 hP hK
  obtain ⟨rfl, hZ, hh⟩ := hP
  have hx := Bd.exec
  have hby := Bd.bytes
  have hml : c.maxLocals = 1 := hml0
  have hown : s.vm.findClass "java/lang/String" = some m.cls := findClass_of_methodNamed Bd.named
  have hnm := (name_of_methodNamed Bd.named Bd.method).1
  have X0 : Stand p l e rm_rmLat s m #[(.ref so)] below meth c s₁ [] 0 0 := Stand.of_body Bd
  have e0 : s₁.heap = h0 := by rw [← hh, Bd.state]; rfl
  have N0 := Fr.nil n0
  refine Go.step (p := p) (e := e) (below := below) (G := fun o U' => ∃ v L, o = .returned v ∧ Q_rmLat Z so cs h0 n0 v U'.heap L ∧ FrameEnd s o U' L rm_rmLat.cells rm_rmLat.slots) (S' := s₁.setTop (mkF m 0 #[rv so] [])) (fun t k => castTop (ef_rmLat m so) k) ?_
  obtain ⟨T1, X1, e1, st1⟩ := getS2 X0 hx hZ hown (host := "") (Or.inl (own_w hw 15 rfl)) Via.refl e0 (S_CS.ext O.2) (g := (mkF m 0 #[rv so] [])) rfl (hb hby d14_0)
  refine Go.step st1 ?_
  show Go p e below _ (T1.setTop (mkF m 3 #[rv so] [(.int cs)]))
  refine Go.step (S' := T1.setTop (mkF m 7 #[rv so] [(.ref so)])) (fun t k => ?_) ?_
  · show Steps p.tables e below (T1.setTop (mkF m 3 #[rv so] [(.int cs)])) _
    refine XS.ifNo X1.here hx rfl (hb hby d14_3) rfl ((if0 _ _).trans (feq (hcs : ¬ (cs = (0 : Int32)))).1) ?_
    show Steps p.tables e below (T1.setTop (mkF m 6 #[rv so] [])) _
    refine XS.aloadN X1.here hx rfl (hb hby d14_6) rfl rfl ?_
    exact k
  obtain ⟨T2, X2, e2, st2⟩ := getF X1 hx hZ hown (host := "") (Or.inl (own_w hw 35 rfl)) Via.refl e1 F_c (g := (mkF m 7 #[rv so] [(.ref so)])) rfl rfl (hb hby d14_7)
  refine Go.step st2 ?_
  show Go p e below _ (T2.setTop (mkF m 10 #[rv so] [(.int (0 : Int32))]))
  refine Go.step (S' := T2.setTop (mkF m 18 #[rv so] [(.int (1 : Int32))])) (fun t k => ?_) ?_
  · show Steps p.tables e below (T2.setTop (mkF m 10 #[rv so] [(.int (0 : Int32))])) _
    refine XS.ifNo X2.here hx rfl (hb hby d14_10) rfl ((if0 _ _).trans (teq ((by decide) : (0 : Int32) = (0 : Int32))).2) ?_
    show Steps p.tables e below (T2.setTop (mkF m 13 #[rv so] [])) _
    refine XS.iconst X2.here hx rfl (hb hby d14_13) ?_
    show Steps p.tables e below (T2.setTop (mkF m 14 #[rv so] [(.int (1 : Int32))])) _
    refine XS.goto X2.here hx rfl (pc0 := 14) (pc' := 18) rfl (hb hby d14_14) (by decide) (by decide) ?_
    exact k
  obtain ⟨fs, hr, hrun, hended, hW, hsame⟩ := X2.leave (v := some (.int (1 : Int32))) (fun h => by rw [Bd.returns] at h; cases h)
  refine Go.fin (S' := T2.setFrames fs) ?_ hrun hended ⟨_, _, rfl, ?_, ⟨_, rfl⟩, hW, hsame.mono (by decide) (by decide)⟩
  · exact retOut X2 hx Bd.returns (by decide) (Or.inl ⟨rfl, Or.inr (Or.inl rfl), _, rfl⟩) (hb hby d14_18) hr
  · show Q_rmLat Z so cs h0 n0 (some (.int (1 : Int32))) T2.heap _
    rw [e2]
    exact ⟨rfl, N0, rfl⟩
theorem pn_jdk_internal_util_Preconditions : plainName "jdk/internal/util/Preconditions" = true := by first | (simp [plainName, overriddenIn]; done) | decide +kernel
theorem d17_0 : decode jdk_41_method_11_code 0 = .ok (.iload_n 0, 1) := by decide +kernel
theorem d17_1 : decode jdk_41_method_11_code 1 = .ok (.ifCond .lt 8, 3) := by decide +kernel
theorem d17_4 : decode jdk_41_method_11_code 4 = .ok (.iload_n 0, 1) := by decide +kernel
theorem d17_5 : decode jdk_41_method_11_code 5 = .ok (.iload_n 1, 1) := by decide +kernel
theorem d17_6 : decode jdk_41_method_11_code 6 = .ok (.if_icmp .lt 10, 3) := by decide +kernel
theorem d17_16 : decode jdk_41_method_11_code 16 = .ok (.iload_n 0, 1) := by decide +kernel
theorem d17_17 : decode jdk_41_method_11_code 17 = .ok (.ireturn, 1) := by decide +kernel
theorem ef_rmCIn (m : MethodId) (i : Int32) (z : Int32) : entryFrame m #[(.int i), (.int z), .null] 3 = mkF m 0 #[.val (.int i), .val (.int z), .val .null] [] := by first | (simp [entryFrame, mkF, argsToLocals, Value.category]; done) | rfl
abbrev rm_rmCIn : Room := ({ frames := 0, cells := 0, slots := 0, locals := 0 } : Room)
def Q_rmCIn (Z : State) (i : Int32) (z : Int32) (h0 : Heap) (n0 : Nat) (v : Option Value) (h : Heap) (L : List Loc) : Prop := (v = some (.int i)) ∧ (Fr n0 L) ∧ (h = h0)
set_option maxRecDepth 65536 in
set_option maxHeartbeats 40000000 in
theorem rmCIn (l : Launch) (Z : State) (a0 : Array Value) (hw : ∀ d ∈ tables_1, d.before a0 Z = true) (ws : List Jvm.Cond) (i : Int32) (z : Int32) (h0 : Heap) (n0 : Nat) (O : Old Z n0 h0) (hp1 : ¬ (i < (0 : Int32))) (hp2 : i < z) :
    MetFree l (⟨"jdk/internal/util/Preconditions", "checkIndex", "(IILjava/util/function/BiFunction;)I"⟩ : MethodName) (head1 (Jvm.Cond.code (⟨"jdk/internal/util/Preconditions", "checkIndex", "(IILjava/util/function/BiFunction;)I"⟩ : MethodName) jdk_41_method_11_code 3 (some .int) :: ws) rm_rmCIn) (fun A_ U => A_ = #[(.int i), (.int z), .null] ∧ Z.Warmed39 U.vm ∧ U.heap = h0) (fun _ _ _ _ _ => True) (fun _ U o U' => ∃ v L, o = .returned v ∧ Q_rmCIn Z i z h0 n0 v U'.heap L ∧ FrameEnd U o U' L rm_rmCIn.cells rm_rmCIn.slots) := by
  refine MetFree.of_bodySF (plainFor_of_name pn_jdk_internal_util_Preconditions) hisR ?_
  intro p e s m args below meth c s₁ Bd hml0 hP hK
  obtain ⟨rfl, hZ, hh⟩ := hP
  have hx := Bd.exec
  have hby := Bd.bytes
  have hml : c.maxLocals = 3 := hml0
  have hown : s.vm.findClass "jdk/internal/util/Preconditions" = some m.cls := findClass_of_methodNamed Bd.named
  have hnm := (name_of_methodNamed Bd.named Bd.method).1
  have X0 : Stand p l e rm_rmCIn s m #[(.int i), (.int z), .null] below meth c s₁ [] 0 0 := Stand.of_body Bd
  have e0 : s₁.heap = h0 := by rw [← hh, Bd.state]; rfl
  have N0 := Fr.nil n0
  refine Go.step (p := p) (e := e) (below := below) (G := fun o U' => ∃ v L, o = .returned v ∧ Q_rmCIn Z i z h0 n0 v U'.heap L ∧ FrameEnd s o U' L rm_rmCIn.cells rm_rmCIn.slots) (S' := s₁.setTop (mkF m 0 #[iv i, iv z, .val .null] [])) (fun t k => castTop (ef_rmCIn m i z) k) ?_
  refine Go.step (S' := s₁.setTop (mkF m 17 #[iv i, iv z, .val .null] [(.int i)])) (fun t k => ?_) ?_
  · show Steps p.tables e below (s₁.setTop (mkF m 0 #[iv i, iv z, .val .null] [])) _
    refine XS.iloadN X0.here hx rfl (hb hby d17_0) rfl ?_
    show Steps p.tables e below (s₁.setTop (mkF m 1 #[iv i, iv z, .val .null] [(.int i)])) _
    refine XS.ifNo X0.here hx rfl (hb hby d17_1) rfl ((if0 _ _).trans (flt (hp1 : ¬ (i < (0 : Int32)))).1) ?_
    show Steps p.tables e below (s₁.setTop (mkF m 4 #[iv i, iv z, .val .null] [])) _
    refine XS.iloadN X0.here hx rfl (hb hby d17_4) rfl ?_
    show Steps p.tables e below (s₁.setTop (mkF m 5 #[iv i, iv z, .val .null] [(.int i)])) _
    refine XS.iloadN X0.here hx rfl (hb hby d17_5) rfl ?_
    show Steps p.tables e below (s₁.setTop (mkF m 6 #[iv i, iv z, .val .null] [(.int z), (.int i)])) _
    refine XS.icmpYes X0.here hx rfl (pc0 := 6) (pc' := 16) rfl (hb hby d17_6) rfl (tlt (hp2 : i < z)).1 (by decide) (by decide) ?_
    show Steps p.tables e below (s₁.setTop (mkF m 16 #[iv i, iv z, .val .null] [])) _
    refine XS.iloadN X0.here hx rfl (hb hby d17_16) rfl ?_
    exact k
  obtain ⟨fs, hr, hrun, hended, hW, hsame⟩ := X0.leave (v := some (.int i)) (fun h => by rw [Bd.returns] at h; cases h)
  refine Go.fin (S' := s₁.setFrames fs) ?_ hrun hended ⟨_, _, rfl, ?_, ⟨_, rfl⟩, hW, hsame.mono (by decide) (by decide)⟩
  · exact retOut X0 hx Bd.returns rfl (Or.inl ⟨rfl, Or.inl rfl, _, rfl⟩) (hb hby d17_17) hr
  · show Q_rmCIn Z i z h0 n0 (some (.int i)) s₁.heap _
    rw [e0]
    exact ⟨rfl, N0, rfl⟩
theorem ef_rmCIr (m : MethodId) (i : Int32) (z : Int32) (f : Addr) : entryFrame m #[(.int i), (.int z), (.ref f)] 3 = mkF m 0 #[.val (.int i), .val (.int z), .val (.ref f)] [] := by first | (simp [entryFrame, mkF, argsToLocals, Value.category]; done) | rfl
abbrev rm_rmCIr : Room := ({ frames := 0, cells := 0, slots := 0, locals := 0 } : Room)
def Q_rmCIr (Z : State) (i : Int32) (z : Int32) (f : Addr) (h0 : Heap) (n0 : Nat) (v : Option Value) (h : Heap) (L : List Loc) : Prop := (v = some (.int i)) ∧ (Fr n0 L) ∧ (h = h0)
set_option maxRecDepth 65536 in
set_option maxHeartbeats 40000000 in
theorem rmCIr (l : Launch) (Z : State) (a0 : Array Value) (hw : ∀ d ∈ tables_1, d.before a0 Z = true) (ws : List Jvm.Cond) (i : Int32) (z : Int32) (f : Addr) (h0 : Heap) (n0 : Nat) (O : Old Z n0 h0) (hp1 : ¬ (i < (0 : Int32))) (hp2 : i < z) :
    MetFree l (⟨"jdk/internal/util/Preconditions", "checkIndex", "(IILjava/util/function/BiFunction;)I"⟩ : MethodName) (head1 (Jvm.Cond.code (⟨"jdk/internal/util/Preconditions", "checkIndex", "(IILjava/util/function/BiFunction;)I"⟩ : MethodName) jdk_41_method_11_code 3 (some .int) :: ws) rm_rmCIr) (fun A_ U => A_ = #[(.int i), (.int z), (.ref f)] ∧ Z.Warmed39 U.vm ∧ U.heap = h0) (fun _ _ _ _ _ => True) (fun _ U o U' => ∃ v L, o = .returned v ∧ Q_rmCIr Z i z f h0 n0 v U'.heap L ∧ FrameEnd U o U' L rm_rmCIr.cells rm_rmCIr.slots) := by
  refine MetFree.of_bodySF (plainFor_of_name pn_jdk_internal_util_Preconditions) hisR ?_
  intro p e s m args below meth c s₁ Bd hml0 hP hK
  obtain ⟨rfl, hZ, hh⟩ := hP
  have hx := Bd.exec
  have hby := Bd.bytes
  have hml : c.maxLocals = 3 := hml0
  have hown : s.vm.findClass "jdk/internal/util/Preconditions" = some m.cls := findClass_of_methodNamed Bd.named
  have hnm := (name_of_methodNamed Bd.named Bd.method).1
  have X0 : Stand p l e rm_rmCIr s m #[(.int i), (.int z), (.ref f)] below meth c s₁ [] 0 0 := Stand.of_body Bd
  have e0 : s₁.heap = h0 := by rw [← hh, Bd.state]; rfl
  have N0 := Fr.nil n0
  refine Go.step (p := p) (e := e) (below := below) (G := fun o U' => ∃ v L, o = .returned v ∧ Q_rmCIr Z i z f h0 n0 v U'.heap L ∧ FrameEnd s o U' L rm_rmCIr.cells rm_rmCIr.slots) (S' := s₁.setTop (mkF m 0 #[iv i, iv z, rv f] [])) (fun t k => castTop (ef_rmCIr m i z f) k) ?_
  refine Go.step (S' := s₁.setTop (mkF m 17 #[iv i, iv z, rv f] [(.int i)])) (fun t k => ?_) ?_
  · show Steps p.tables e below (s₁.setTop (mkF m 0 #[iv i, iv z, rv f] [])) _
    refine XS.iloadN X0.here hx rfl (hb hby d17_0) rfl ?_
    show Steps p.tables e below (s₁.setTop (mkF m 1 #[iv i, iv z, rv f] [(.int i)])) _
    refine XS.ifNo X0.here hx rfl (hb hby d17_1) rfl ((if0 _ _).trans (flt (hp1 : ¬ (i < (0 : Int32)))).1) ?_
    show Steps p.tables e below (s₁.setTop (mkF m 4 #[iv i, iv z, rv f] [])) _
    refine XS.iloadN X0.here hx rfl (hb hby d17_4) rfl ?_
    show Steps p.tables e below (s₁.setTop (mkF m 5 #[iv i, iv z, rv f] [(.int i)])) _
    refine XS.iloadN X0.here hx rfl (hb hby d17_5) rfl ?_
    show Steps p.tables e below (s₁.setTop (mkF m 6 #[iv i, iv z, rv f] [(.int z), (.int i)])) _
    refine XS.icmpYes X0.here hx rfl (pc0 := 6) (pc' := 16) rfl (hb hby d17_6) rfl (tlt (hp2 : i < z)).1 (by decide) (by decide) ?_
    show Steps p.tables e below (s₁.setTop (mkF m 16 #[iv i, iv z, rv f] [])) _
    refine XS.iloadN X0.here hx rfl (hb hby d17_16) rfl ?_
    exact k
  obtain ⟨fs, hr, hrun, hended, hW, hsame⟩ := X0.leave (v := some (.int i)) (fun h => by rw [Bd.returns] at h; cases h)
  refine Go.fin (S' := s₁.setFrames fs) ?_ hrun hended ⟨_, _, rfl, ?_, ⟨_, rfl⟩, hW, hsame.mono (by decide) (by decide)⟩
  · exact retOut X0 hx Bd.returns rfl (Or.inl ⟨rfl, Or.inl rfl, _, rfl⟩) (hb hby d17_17) hr
  · show Q_rmCIr Z i z f h0 n0 (some (.int i)) s₁.heap _
    rw [e0]
    exact ⟨rfl, N0, rfl⟩
theorem d16_0 : decode jdk_42_method_155_code 0 = .ok (.iload_n 0, 1) := by decide +kernel
theorem d16_1 : decode jdk_42_method_155_code 1 = .ok (.iload_n 1, 1) := by decide +kernel
theorem d16_2 : decode jdk_42_method_155_code 2 = .ok (.getstatic 1053, 3) := by decide +kernel
theorem d16_5 : decode jdk_42_method_155_code 5 = .ok (.invokestatic 1059, 3) := by decide +kernel
theorem pd__28IILjava_2futil_2ffunction_2fBiFunction_3b_29I : parseMethodDescriptor "(IILjava/util/function/BiFunction;)I" = some ⟨[.int, .int, (.object "java/util/function/BiFunction")], some .int⟩ := by decide +kernel
theorem d16_8 : decode jdk_42_method_155_code 8 = .ok (.pop, 1) := by decide +kernel
theorem d16_9 : decode jdk_42_method_155_code 9 = .ok (.return_, 1) := by decide +kernel
theorem ef_rmCk (m : MethodId) (i : Int32) (z : Int32) : entryFrame m #[(.int i), (.int z)] 2 = mkF m 0 #[.val (.int i), .val (.int z)] [] := by first | (simp [entryFrame, mkF, argsToLocals, Value.category]; done) | rfl
abbrev rm_rmCk : Room := ({ frames := 1, cells := 0, slots := 0, locals := 14 } : Room)
def Q_rmCk (Z : State) (i : Int32) (z : Int32) (sf : Value) (h0 : Heap) (n0 : Nat) (v : Option Value) (h : Heap) (L : List Loc) : Prop := (v = none) ∧ (Fr n0 L) ∧ (h = h0)
set_option maxRecDepth 65536 in
set_option maxHeartbeats 40000000 in
theorem rmCk (l : Launch) (Z : State) (a0 : Array Value) (hw : ∀ d ∈ tables_1, d.before a0 Z = true) (ws : List Jvm.Cond) (i : Int32) (z : Int32) (sf : Value) (h0 : Heap) (n0 : Nat) (O : Old Z n0 h0) (hp1 : ¬ (i < (0 : Int32))) (hp2 : i < z) (S_FM : Sta Z Z.heap "jdk/internal/util/Preconditions" "SIOOBE_FORMATTER" "Ljava/util/function/BiFunction;" sf) (hsf : sf.isRef = true) :
    MetFree l (⟨"java/lang/String", "checkIndex", "(II)V"⟩ : MethodName) (head1 (Jvm.Cond.code (⟨"java/lang/String", "checkIndex", "(II)V"⟩ : MethodName) jdk_42_method_155_code 2 none :: ws) rm_rmCk) (fun A_ U => A_ = #[(.int i), (.int z)] ∧ Z.Warmed39 U.vm ∧ U.heap = h0) (fun _ _ _ _ _ => True) (fun _ U o U' => ∃ v L, o = .returned v ∧ Q_rmCk Z i z sf h0 n0 v U'.heap L ∧ FrameEnd U o U' L rm_rmCk.cells rm_rmCk.slots) := by
  refine MetFree.of_bodySF (plainFor_of_name pn_java_lang_String) hisR ?_
  intro p e s m args below meth c s₁ Bd hml0 hP hK
  obtain ⟨rfl, hZ, hh⟩ := hP
  have hx := Bd.exec
  have hby := Bd.bytes
  have hml : c.maxLocals = 2 := hml0
  have hown : s.vm.findClass "java/lang/String" = some m.cls := findClass_of_methodNamed Bd.named
  have hnm := (name_of_methodNamed Bd.named Bd.method).1
  have X0 : Stand p l e rm_rmCk s m #[(.int i), (.int z)] below meth c s₁ [] 0 0 := Stand.of_body Bd
  have e0 : s₁.heap = h0 := by rw [← hh, Bd.state]; rfl
  have N0 := Fr.nil n0
  refine Go.step (p := p) (e := e) (below := below) (G := fun o U' => ∃ v L, o = .returned v ∧ Q_rmCk Z i z sf h0 n0 v U'.heap L ∧ FrameEnd s o U' L rm_rmCk.cells rm_rmCk.slots) (S' := s₁.setTop (mkF m 0 #[iv i, iv z] [])) (fun t k => castTop (ef_rmCk m i z) k) ?_
  rcases ref_cases hsf with hsn | ⟨wf, hsn⟩
  · skip
    rw [hsn] at S_FM
    refine Go.step (S' := s₁.setTop (mkF m 2 #[iv i, iv z] [(.int z), (.int i)])) (fun t k => ?_) ?_
    · show Steps p.tables e below (s₁.setTop (mkF m 0 #[iv i, iv z] [])) _
      refine XS.iloadN X0.here hx rfl (hb hby d16_0) rfl ?_
      show Steps p.tables e below (s₁.setTop (mkF m 1 #[iv i, iv z] [(.int i)])) _
      refine XS.iloadN X0.here hx rfl (hb hby d16_1) rfl ?_
      exact k
    obtain ⟨T1, X1, e1, st1⟩ := getS2 X0 hx hZ hown (host := "") (Or.inl (own_w hw 84 rfl)) Via.refl e0 (S_FM.ext O.2) (g := (mkF m 2 #[iv i, iv z] [(.int z), (.int i)])) rfl (hb hby d16_2)
    refine Go.step st1 ?_
    show Go p e below _ (T1.setTop (mkF m 5 #[iv i, iv z] [.null, (.int z), (.int i)]))
    obtain ⟨_, _, ⟨T2, L2, k2, n2⟩, -, X2, ⟨Lc2, hQ2, l2, y2, z2⟩, st2⟩ := Jvm.LawKit.callS X1 hx (y := (⟨"jdk/internal/util/Preconditions", "checkIndex", "(IILjava/util/function/BiFunction;)I"⟩ : MethodName)) hown (mvT hZ (own_w hw 86 rfl)) (mvT hZ (own_w hw 87 rfl)) (mvT hZ (own_w hw 85 rfl)) (mvT hZ (own_w hw 88 rfl)) (by decide) (backOf (W := 0) (rmCIn l Z a0 hw [] i z h0 n0 O hp1 hp2) hZ (own_w hw 88 rfl) (own_w hw 85 rfl) (by decide) (by decide)) (g := (mkF m 5 #[iv i, iv z] [.null, (.int z), (.int i)])) rfl (by rw [hml]; rfl) (argsL := [(.int i), (.int z), .null]) (rest := []) (lenOf pd__28IILjava_2futil_2ffunction_2fBiFunction_3b_29I rfl) rfl (by show 2 * 0 + _ ≤ _; exact Nat.le_of_eq rfl) (hb hby d16_5) (fun _ _ => ⟨rfl, e1, (by decide : 0 + 0 ≤ _), (by decide : 0 + 0 ≤ _)⟩)
    dsimp only [Pt.U, Pt.locs, Pt.cells, Pt.slots] at X2 l2 y2 z2 st2 hQ2
    subst l2 y2 z2
    obtain ⟨rfl, Nq2, e2⟩ := hQ2
    have N2 := Fr.app N0 Nq2
    refine Go.step st2 ?_
    show Go p e below _ (T2.setTop (mkF m 8 #[iv i, iv z] [(.int i)]))
    refine Go.step (S' := T2.setTop (mkF m 9 #[iv i, iv z] [])) (fun t k => ?_) ?_
    · show Steps p.tables e below (T2.setTop (mkF m 8 #[iv i, iv z] [(.int i)])) _
      refine XS.pop X2.here hx rfl (hb hby d16_8) rfl rfl ?_
      exact k
    obtain ⟨fs, hr, hrun, hended, hW, hsame⟩ := X2.leave (v := none) (fun _ => rfl)
    refine Go.fin (S' := T2.setFrames fs) ?_ hrun hended ⟨_, _, rfl, ?_, ⟨_, rfl⟩, hW, hsame.mono (by decide) (by decide)⟩
    · exact X2.returnOut hx Bd.returns (hb hby d16_9) hr
    · show Q_rmCk Z i z sf h0 n0 (none) T2.heap _
      rw [e2]
      exact ⟨rfl, N2, rfl⟩
  · skip
    rw [hsn] at S_FM
    refine Go.step (S' := s₁.setTop (mkF m 2 #[iv i, iv z] [(.int z), (.int i)])) (fun t k => ?_) ?_
    · show Steps p.tables e below (s₁.setTop (mkF m 0 #[iv i, iv z] [])) _
      refine XS.iloadN X0.here hx rfl (hb hby d16_0) rfl ?_
      show Steps p.tables e below (s₁.setTop (mkF m 1 #[iv i, iv z] [(.int i)])) _
      refine XS.iloadN X0.here hx rfl (hb hby d16_1) rfl ?_
      exact k
    obtain ⟨T3, X3, e3, st3⟩ := getS2 X0 hx hZ hown (host := "") (Or.inl (own_w hw 84 rfl)) Via.refl e0 (S_FM.ext O.2) (g := (mkF m 2 #[iv i, iv z] [(.int z), (.int i)])) rfl (hb hby d16_2)
    refine Go.step st3 ?_
    show Go p e below _ (T3.setTop (mkF m 5 #[iv i, iv z] [(.ref wf), (.int z), (.int i)]))
    obtain ⟨_, _, ⟨T4, L4, k4, n4⟩, -, X4, ⟨Lc4, hQ4, l4, y4, z4⟩, st4⟩ := Jvm.LawKit.callS X3 hx (y := (⟨"jdk/internal/util/Preconditions", "checkIndex", "(IILjava/util/function/BiFunction;)I"⟩ : MethodName)) hown (mvT hZ (own_w hw 86 rfl)) (mvT hZ (own_w hw 87 rfl)) (mvT hZ (own_w hw 85 rfl)) (mvT hZ (own_w hw 88 rfl)) (by decide) (backOf (W := 0) (rmCIr l Z a0 hw [] i z wf h0 n0 O hp1 hp2) hZ (own_w hw 88 rfl) (own_w hw 85 rfl) (by decide) (by decide)) (g := (mkF m 5 #[iv i, iv z] [(.ref wf), (.int z), (.int i)])) rfl (by rw [hml]; rfl) (argsL := [(.int i), (.int z), (.ref wf)]) (rest := []) (lenOf pd__28IILjava_2futil_2ffunction_2fBiFunction_3b_29I rfl) rfl (by show 2 * 0 + _ ≤ _; exact Nat.le_of_eq rfl) (hb hby d16_5) (fun _ _ => ⟨rfl, e3, (by decide : 0 + 0 ≤ _), (by decide : 0 + 0 ≤ _)⟩)
    dsimp only [Pt.U, Pt.locs, Pt.cells, Pt.slots] at X4 l4 y4 z4 st4 hQ4
    subst l4 y4 z4
    obtain ⟨rfl, Nq4, e4⟩ := hQ4
    have N4 := Fr.app N0 Nq4
    refine Go.step st4 ?_
    show Go p e below _ (T4.setTop (mkF m 8 #[iv i, iv z] [(.int i)]))
    refine Go.step (S' := T4.setTop (mkF m 9 #[iv i, iv z] [])) (fun t k => ?_) ?_
    · show Steps p.tables e below (T4.setTop (mkF m 8 #[iv i, iv z] [(.int i)])) _
      refine XS.pop X4.here hx rfl (hb hby d16_8) rfl rfl ?_
      exact k
    obtain ⟨fs, hr, hrun, hended, hW, hsame⟩ := X4.leave (v := none) (fun _ => rfl)
    refine Go.fin (S' := T4.setFrames fs) ?_ hrun hended ⟨_, _, rfl, ?_, ⟨_, rfl⟩, hW, hsame.mono (by decide) (by decide)⟩
    · exact X4.returnOut hx Bd.returns (hb hby d16_9) hr
    · show Q_rmCk Z i z sf h0 n0 (none) T4.heap _
      rw [e4]
      exact ⟨rfl, N4, rfl⟩
theorem d10_0 : decode jdk_42_method_55_code 0 = .ok (.aload_n 0, 1) := by decide +kernel
theorem d10_1 : decode jdk_42_method_55_code 1 = .ok (.getfield 9, 3) := by decide +kernel
theorem d10_4 : decode jdk_42_method_55_code 4 = .ok (.arraylength, 1) := by decide +kernel
theorem d10_5 : decode jdk_42_method_55_code 5 = .ok (.ifCond .ne 7, 3) := by decide +kernel
theorem d10_12 : decode jdk_42_method_55_code 12 = .ok (.iconst 0, 1) := by decide +kernel
theorem d10_13 : decode jdk_42_method_55_code 13 = .ok (.ireturn, 1) := by decide +kernel
theorem ef_rmEmp1 (m : MethodId) (so : Addr) : entryFrame m #[(.ref so)] 1 = mkF m 0 #[.val (.ref so)] [] := by first | (simp [entryFrame, mkF, argsToLocals, Value.category]; done) | rfl
abbrev rm_rmEmp1 : Room := ({ frames := 0, cells := 0, slots := 0, locals := 0 } : Room)
def Q_rmEmp1 (Z : State) (so : Addr) (tb : Addr) (kb : ClassId) (x0 : Int32) (h0 : Heap) (n0 : Nat) (v : Option Value) (h : Heap) (L : List Loc) : Prop := (v = some (.int (0 : Int32))) ∧ (Fr n0 L) ∧ (h = h0)
set_option maxRecDepth 65536 in
set_option maxHeartbeats 40000000 in
theorem rmEmp1 (l : Launch) (Z : State) (a0 : Array Value) (hw : ∀ d ∈ tables_1, d.before a0 Z = true) (ws : List Jvm.Cond) (so : Addr) (tb : Addr) (kb : ClassId) (x0 : Int32) (h0 : Heap) (n0 : Nat) (O : Old Z n0 h0) (F_value_so : Fld Z h0 so "java/lang/String" "value" "[B" (.ref tb)) (V_tb : Arv Z h0 tb kb .byte (1 : Int32) [(.int (x0.toInt8.toInt32))] (.int (0 : Int32))) :
    MetFree l (⟨"java/lang/String", "isEmpty", "()Z"⟩ : MethodName) (head1 (Jvm.Cond.code (⟨"java/lang/String", "isEmpty", "()Z"⟩ : MethodName) jdk_42_method_55_code 1 (some .boolean) :: ws) rm_rmEmp1) (fun A_ U => A_ = #[(.ref so)] ∧ Z.Warmed39 U.vm ∧ U.heap = h0) (fun _ _ _ _ _ => True) (fun _ U o U' => ∃ v L, o = .returned v ∧ Q_rmEmp1 Z so tb kb x0 h0 n0 v U'.heap L ∧ FrameEnd U o U' L rm_rmEmp1.cells rm_rmEmp1.slots) := by
  refine MetFree.of_bodySF (plainFor_of_name pn_java_lang_String) hisR ?_
  intro p e s m args below meth c s₁ Bd hml0 hP hK
  obtain ⟨rfl, hZ, hh⟩ := hP
  have hx := Bd.exec
  have hby := Bd.bytes
  have hml : c.maxLocals = 1 := hml0
  have hown : s.vm.findClass "java/lang/String" = some m.cls := findClass_of_methodNamed Bd.named
  have hnm := (name_of_methodNamed Bd.named Bd.method).1
  have X0 : Stand p l e rm_rmEmp1 s m #[(.ref so)] below meth c s₁ [] 0 0 := Stand.of_body Bd
  have e0 : s₁.heap = h0 := by rw [← hh, Bd.state]; rfl
  have N0 := Fr.nil n0
  refine Go.step (p := p) (e := e) (below := below) (G := fun o U' => ∃ v L, o = .returned v ∧ Q_rmEmp1 Z so tb kb x0 h0 n0 v U'.heap L ∧ FrameEnd s o U' L rm_rmEmp1.cells rm_rmEmp1.slots) (S' := s₁.setTop (mkF m 0 #[rv so] [])) (fun t k => castTop (ef_rmEmp1 m so) k) ?_
  refine Go.step (S' := s₁.setTop (mkF m 1 #[rv so] [(.ref so)])) (fun t k => ?_) ?_
  · show Steps p.tables e below (s₁.setTop (mkF m 0 #[rv so] [])) _
    refine XS.aloadN X0.here hx rfl (hb hby d10_0) rfl rfl ?_
    exact k
  obtain ⟨T1, X1, e1, st1⟩ := getF X0 hx hZ hown (host := "") (Or.inl (own_w hw 33 rfl)) Via.refl e0 F_value_so (g := (mkF m 1 #[rv so] [(.ref so)])) rfl rfl (hb hby d10_1)
  refine Go.step st1 ?_
  show Go p e below _ (T1.setTop (mkF m 4 #[rv so] [(.ref tb)]))
  obtain ⟨cl2, Ar2, -, S2, N2_, -, -⟩ := id V_tb
  refine Go.step (S' := T1.setTop (mkF m 5 #[rv so] [(.int cl2.slots.size.toInt32)])) (fun t k => X1.arraylength hx (by rw [e1]; exact Ar2.1) (State.isArrayOf_alike hZ.alike Ar2.2.1) (g := (mkF m 4 #[rv so] [(.ref tb)])) rfl rfl (hb hby d10_4) _ k) ?_
  rw [len_of S2 N2_]
  show Go p e below _ (T1.setTop (mkF m 5 #[rv so] [(.int (1 : Int32))]))
  refine Go.step (S' := T1.setTop (mkF m 13 #[rv so] [(.int (0 : Int32))])) (fun t k => ?_) ?_
  · show Steps p.tables e below (T1.setTop (mkF m 5 #[rv so] [(.int (1 : Int32))])) _
    refine XS.ifYes X1.here hx rfl (pc0 := 5) (pc' := 12) rfl (hb hby d10_5) rfl ((if0 _ _).trans (feq ((by decide) : ¬ ((1 : Int32) = (0 : Int32)))).2) (by decide) (by decide) ?_
    show Steps p.tables e below (T1.setTop (mkF m 12 #[rv so] [])) _
    refine XS.iconst X1.here hx rfl (hb hby d10_12) ?_
    exact k
  obtain ⟨fs, hr, hrun, hended, hW, hsame⟩ := X1.leave (v := some (.int (0 : Int32))) (fun h => by rw [Bd.returns] at h; cases h)
  refine Go.fin (S' := T1.setFrames fs) ?_ hrun hended ⟨_, _, rfl, ?_, ⟨_, rfl⟩, hW, hsame.mono (by decide) (by decide)⟩
  · exact retOut X1 hx Bd.returns (by decide) (Or.inl ⟨rfl, Or.inr (Or.inl rfl), _, rfl⟩) (hb hby d10_13) hr
  · show Q_rmEmp1 Z so tb kb x0 h0 n0 (some (.int (0 : Int32))) T1.heap _
    rw [e1]
    exact ⟨rfl, N0, rfl⟩
theorem d11_0 : decode jdk_42_method_54_code 0 = .ok (.aload_n 0, 1) := by decide +kernel
theorem d11_1 : decode jdk_42_method_54_code 1 = .ok (.getfield 9, 3) := by decide +kernel
theorem d11_4 : decode jdk_42_method_54_code 4 = .ok (.arraylength, 1) := by decide +kernel
theorem d11_5 : decode jdk_42_method_54_code 5 = .ok (.aload_n 0, 1) := by decide +kernel
theorem d11_6 : decode jdk_42_method_54_code 6 = .ok (.invokevirtual 335, 3) := by decide +kernel
theorem pd__28_29B : parseMethodDescriptor "()B" = some ⟨[], some .byte⟩ := by decide +kernel
theorem d11_9 : decode jdk_42_method_54_code 9 = .ok (.ishr, 1) := by decide +kernel
theorem d11_10 : decode jdk_42_method_54_code 10 = .ok (.ireturn, 1) := by decide +kernel
theorem ef_rmLen1 (m : MethodId) (so : Addr) : entryFrame m #[(.ref so)] 1 = mkF m 0 #[.val (.ref so)] [] := by first | (simp [entryFrame, mkF, argsToLocals, Value.category]; done) | rfl
abbrev rm_rmLen1 : Room := ({ frames := 1, cells := 0, slots := 0, locals := 13 } : Room)
def Q_rmLen1 (Z : State) (so : Addr) (tb : Addr) (kb : ClassId) (x0 : Int32) (cs : Int32) (h0 : Heap) (n0 : Nat) (v : Option Value) (h : Heap) (L : List Loc) : Prop := (v = some (.int (1 : Int32))) ∧ (Fr n0 L) ∧ (h = h0)
set_option maxRecDepth 65536 in
set_option maxHeartbeats 40000000 in
theorem rmLen1 (l : Launch) (Z : State) (a0 : Array Value) (hw : ∀ d ∈ tables_1, d.before a0 Z = true) (ws : List Jvm.Cond) (so : Addr) (tb : Addr) (kb : ClassId) (x0 : Int32) (cs : Int32) (h0 : Heap) (n0 : Nat) (O : Old Z n0 h0) (S_CS : Sta Z Z.heap "java/lang/String" "COMPACT_STRINGS" "Z" (.int cs)) (E_so : Exa Z h0 so "java/lang/String") (F_value_so : Fld Z h0 so "java/lang/String" "value" "[B" (.ref tb)) (F_coder_so : Fld Z h0 so "java/lang/String" "coder" "B" (.int (0 : Int32))) (V_tb : Arv Z h0 tb kb .byte (1 : Int32) [(.int (x0.toInt8.toInt32))] (.int (0 : Int32))) (hcs : ¬ (cs = (0 : Int32))) :
    MetFree l (⟨"java/lang/String", "length", "()I"⟩ : MethodName) (head1 (Jvm.Cond.code (⟨"java/lang/String", "length", "()I"⟩ : MethodName) jdk_42_method_54_code 1 (some .int) :: ws) rm_rmLen1) (fun A_ U => A_ = #[(.ref so)] ∧ Z.Warmed39 U.vm ∧ U.heap = h0) (fun _ _ _ _ _ => True) (fun _ U o U' => ∃ v L, o = .returned v ∧ Q_rmLen1 Z so tb kb x0 cs h0 n0 v U'.heap L ∧ FrameEnd U o U' L rm_rmLen1.cells rm_rmLen1.slots) := by
  refine MetFree.of_bodySF (plainFor_of_name pn_java_lang_String) hisR ?_
  intro p e s m args below meth c s₁ Bd hml0 hP hK
  obtain ⟨rfl, hZ, hh⟩ := hP
  have hx := Bd.exec
  have hby := Bd.bytes
  have hml : c.maxLocals = 1 := hml0
  have hown : s.vm.findClass "java/lang/String" = some m.cls := findClass_of_methodNamed Bd.named
  have hnm := (name_of_methodNamed Bd.named Bd.method).1
  have X0 : Stand p l e rm_rmLen1 s m #[(.ref so)] below meth c s₁ [] 0 0 := Stand.of_body Bd
  have e0 : s₁.heap = h0 := by rw [← hh, Bd.state]; rfl
  have N0 := Fr.nil n0
  refine Go.step (p := p) (e := e) (below := below) (G := fun o U' => ∃ v L, o = .returned v ∧ Q_rmLen1 Z so tb kb x0 cs h0 n0 v U'.heap L ∧ FrameEnd s o U' L rm_rmLen1.cells rm_rmLen1.slots) (S' := s₁.setTop (mkF m 0 #[rv so] [])) (fun t k => castTop (ef_rmLen1 m so) k) ?_
  refine Go.step (S' := s₁.setTop (mkF m 1 #[rv so] [(.ref so)])) (fun t k => ?_) ?_
  · show Steps p.tables e below (s₁.setTop (mkF m 0 #[rv so] [])) _
    refine XS.aloadN X0.here hx rfl (hb hby d11_0) rfl rfl ?_
    exact k
  obtain ⟨T1, X1, e1, st1⟩ := getF X0 hx hZ hown (host := "") (Or.inl (own_w hw 33 rfl)) Via.refl e0 F_value_so (g := (mkF m 1 #[rv so] [(.ref so)])) rfl rfl (hb hby d11_1)
  refine Go.step st1 ?_
  show Go p e below _ (T1.setTop (mkF m 4 #[rv so] [(.ref tb)]))
  obtain ⟨cl2, Ar2, -, S2, N2_, -, -⟩ := id V_tb
  refine Go.step (S' := T1.setTop (mkF m 5 #[rv so] [(.int cl2.slots.size.toInt32)])) (fun t k => X1.arraylength hx (by rw [e1]; exact Ar2.1) (State.isArrayOf_alike hZ.alike Ar2.2.1) (g := (mkF m 4 #[rv so] [(.ref tb)])) rfl rfl (hb hby d11_4) _ k) ?_
  rw [len_of S2 N2_]
  show Go p e below _ (T1.setTop (mkF m 5 #[rv so] [(.int (1 : Int32))]))
  refine Go.step (S' := T1.setTop (mkF m 6 #[rv so] [(.ref so), (.int (1 : Int32))])) (fun t k => ?_) ?_
  · show Steps p.tables e below (T1.setTop (mkF m 5 #[rv so] [(.int (1 : Int32))])) _
    refine XS.aloadN X1.here hx rfl (hb hby d11_5) rfl rfl ?_
    exact k
  obtain ⟨cq3, kq3, q3a, q3b, q3c⟩ := isOf hZ e1 E_so
  obtain ⟨_, _, ⟨T3, L3, k3, n3⟩, -, X3, ⟨Lc3, hQ3, l3, y3, z3⟩, st3⟩ := X1.virtualBack hx (y := (⟨"java/lang/String", "coder", "()B"⟩ : MethodName)) (z := (⟨"java/lang/String", "coder", "()B"⟩ : MethodName)) hown (mvT hZ (own_w hw 63 rfl)) (mvT hZ (own_w hw 64 rfl)) (notFace_of_selects (args := #[]) (mvT hZ (own_w hw 66 rfl))) (mvT hZ (own_w hw 66 rfl)) (mvT hZ (own_w hw 65 rfl)) (by decide) (backOf (W := 1) (rmCod l Z a0 hw [] so cs h0 n0 O S_CS F_coder_so hcs) hZ (own_w hw 67 rfl) (own_w hw 13 rfl) (by decide) (by decide)) q3a q3c (g := (mkF m 6 #[rv so] [(.ref so), (.int (1 : Int32))])) rfl (by rw [hml]; rfl) (Steps.refl _) (argsL := []) (rest := [(.int (1 : Int32))]) (lenOf pd__28_29B rfl) rfl (by show 2 * 0 + _ ≤ _; exact Nat.le_of_eq rfl) (hb hby d11_6) (fun _ _ => ⟨rfl, e1, (by decide : 0 + 0 ≤ _), (by decide : 0 + 0 ≤ _)⟩)
  dsimp only [Pt.U, Pt.locs, Pt.cells, Pt.slots] at X3 l3 y3 z3 st3 hQ3
  subst l3 y3 z3
  obtain ⟨rfl, Nq3, e3⟩ := hQ3
  have N3 := Fr.app N0 Nq3
  refine Go.step (fun t k => st3.trans k) ?_
  show Go p e below _ (T3.setTop (mkF m 9 #[rv so] [(.int (0 : Int32)), (.int (1 : Int32))]))
  refine Go.step (S' := T3.setTop (mkF m 10 #[rv so] [(.int ((1 : Int32) >>> ((0 : Int32) &&& 31)))])) (fun t k => ?_) ?_
  · show Steps p.tables e below (T3.setTop (mkF m 9 #[rv so] [(.int (0 : Int32)), (.int (1 : Int32))])) _
    refine XS.ishr X3.here hx rfl (hb hby d11_9) rfl ?_
    exact k
  rw [show ((1 : Int32) >>> ((0 : Int32) &&& 31)) = (1 : Int32) from by decide]
  show Go p e below _ (T3.setTop (mkF m 10 #[rv so] [(.int (1 : Int32))]))
  obtain ⟨fs, hr, hrun, hended, hW, hsame⟩ := X3.leave (v := some (.int (1 : Int32))) (fun h => by rw [Bd.returns] at h; cases h)
  refine Go.fin (S' := T3.setFrames fs) ?_ hrun hended ⟨_, _, rfl, ?_, ⟨_, rfl⟩, hW, hsame.mono (by decide) (by decide)⟩
  · exact retOut X3 hx Bd.returns rfl (Or.inl ⟨rfl, Or.inl rfl, _, rfl⟩) (hb hby d11_10) hr
  · show Q_rmLen1 Z so tb kb x0 cs h0 n0 (some (.int (1 : Int32))) T3.heap _
    rw [e3]
    exact ⟨rfl, N3, rfl⟩
theorem pn_java_lang_StringLatin1 : plainName "java/lang/StringLatin1" = true := by first | (simp [plainName, overriddenIn]; done) | decide +kernel
theorem d15_0 : decode jdk_43_method_2_code 0 = .ok (.iload_n 1, 1) := by decide +kernel
theorem d15_1 : decode jdk_43_method_2_code 1 = .ok (.aload_n 0, 1) := by decide +kernel
theorem d15_2 : decode jdk_43_method_2_code 2 = .ok (.arraylength, 1) := by decide +kernel
theorem d15_3 : decode jdk_43_method_2_code 3 = .ok (.invokestatic 9, 3) := by decide +kernel
theorem pd__28II_29V : parseMethodDescriptor "(II)V" = some ⟨[.int, .int], none⟩ := by decide +kernel
theorem d15_6 : decode jdk_43_method_2_code 6 = .ok (.aload_n 0, 1) := by decide +kernel
theorem d15_7 : decode jdk_43_method_2_code 7 = .ok (.iload_n 1, 1) := by decide +kernel
theorem d15_8 : decode jdk_43_method_2_code 8 = .ok (.baload, 1) := by decide +kernel
theorem d15_9 : decode jdk_43_method_2_code 9 = .ok (.sipush 255, 3) := by decide +kernel
theorem d15_12 : decode jdk_43_method_2_code 12 = .ok (.iand, 1) := by decide +kernel
theorem d15_13 : decode jdk_43_method_2_code 13 = .ok (.i2c, 1) := by decide +kernel
theorem d15_14 : decode jdk_43_method_2_code 14 = .ok (.ireturn, 1) := by decide +kernel
theorem ef_rmLC1_0 (m : MethodId) (tb : Addr) : entryFrame m #[(.ref tb), (.int (0 : Int32))] 2 = mkF m 0 #[.val (.ref tb), .val (.int (0 : Int32))] [] := by first | (simp [entryFrame, mkF, argsToLocals, Value.category]; done) | rfl
abbrev rm_rmLC1_0 : Room := ({ frames := 2, cells := 0, slots := 0, locals := 27 } : Room)
def Q_rmLC1_0 (Z : State) (tb : Addr) (kb : ClassId) (x0 : Int32) (sf : Value) (h0 : Heap) (n0 : Nat) (v : Option Value) (h : Heap) (L : List Loc) : Prop := (v = some (.int x0)) ∧ (Fr n0 L) ∧ (h = h0)
set_option maxRecDepth 65536 in
set_option maxHeartbeats 40000000 in
theorem rmLC1_0 (l : Launch) (Z : State) (a0 : Array Value) (hw : ∀ d ∈ tables_1, d.before a0 Z = true) (ws : List Jvm.Cond) (tb : Addr) (kb : ClassId) (x0 : Int32) (sf : Value) (h0 : Heap) (n0 : Nat) (O : Old Z n0 h0) (V_tb : Arv Z h0 tb kb .byte (1 : Int32) [(.int (x0.toInt8.toInt32))] (.int (0 : Int32))) (S_FM : Sta Z Z.heap "jdk/internal/util/Preconditions" "SIOOBE_FORMATTER" "Ljava/util/function/BiFunction;" sf) (hsf : sf.isRef = true) (hl0 : ¬ (x0 < (0 : Int32))) (hl1 : ¬ ((255 : Int32) < x0)) :
    MetFree l (⟨"java/lang/StringLatin1", "charAt", "([BI)C"⟩ : MethodName) (head1 (Jvm.Cond.code (⟨"java/lang/StringLatin1", "charAt", "([BI)C"⟩ : MethodName) jdk_43_method_2_code 2 (some .char) :: ws) rm_rmLC1_0) (fun A_ U => A_ = #[(.ref tb), (.int (0 : Int32))] ∧ Z.Warmed39 U.vm ∧ U.heap = h0) (fun _ _ _ _ _ => True) (fun _ U o U' => ∃ v L, o = .returned v ∧ Q_rmLC1_0 Z tb kb x0 sf h0 n0 v U'.heap L ∧ FrameEnd U o U' L rm_rmLC1_0.cells rm_rmLC1_0.slots) := by
  refine MetFree.of_bodySF (plainFor_of_name pn_java_lang_StringLatin1) hisR ?_
  intro p e s m args below meth c s₁ Bd hml0 hP hK
  obtain ⟨rfl, hZ, hh⟩ := hP
  have hx := Bd.exec
  have hby := Bd.bytes
  have hml : c.maxLocals = 2 := hml0
  have hown : s.vm.findClass "java/lang/StringLatin1" = some m.cls := findClass_of_methodNamed Bd.named
  have hnm := (name_of_methodNamed Bd.named Bd.method).1
  have X0 : Stand p l e rm_rmLC1_0 s m #[(.ref tb), (.int (0 : Int32))] below meth c s₁ [] 0 0 := Stand.of_body Bd
  have e0 : s₁.heap = h0 := by rw [← hh, Bd.state]; rfl
  have N0 := Fr.nil n0
  refine Go.step (p := p) (e := e) (below := below) (G := fun o U' => ∃ v L, o = .returned v ∧ Q_rmLC1_0 Z tb kb x0 sf h0 n0 v U'.heap L ∧ FrameEnd s o U' L rm_rmLC1_0.cells rm_rmLC1_0.slots) (S' := s₁.setTop (mkF m 0 #[rv tb, iv (0 : Int32)] [])) (fun t k => castTop (ef_rmLC1_0 m tb) k) ?_
  refine Go.step (S' := s₁.setTop (mkF m 2 #[rv tb, iv (0 : Int32)] [(.ref tb), (.int (0 : Int32))])) (fun t k => ?_) ?_
  · show Steps p.tables e below (s₁.setTop (mkF m 0 #[rv tb, iv (0 : Int32)] [])) _
    refine XS.iloadN X0.here hx rfl (hb hby d15_0) rfl ?_
    show Steps p.tables e below (s₁.setTop (mkF m 1 #[rv tb, iv (0 : Int32)] [(.int (0 : Int32))])) _
    refine XS.aloadN X0.here hx rfl (hb hby d15_1) rfl rfl ?_
    exact k
  obtain ⟨cl1, Ar1, -, S1, N1_, -, -⟩ := id V_tb
  refine Go.step (S' := s₁.setTop (mkF m 3 #[rv tb, iv (0 : Int32)] [(.int cl1.slots.size.toInt32), (.int (0 : Int32))])) (fun t k => X0.arraylength hx (by rw [e0]; exact Ar1.1) (State.isArrayOf_alike hZ.alike Ar1.2.1) (g := (mkF m 2 #[rv tb, iv (0 : Int32)] [(.ref tb), (.int (0 : Int32))])) rfl rfl (hb hby d15_2) _ k) ?_
  rw [len_of S1 N1_]
  show Go p e below _ (s₁.setTop (mkF m 3 #[rv tb, iv (0 : Int32)] [(.int (1 : Int32)), (.int (0 : Int32))]))
  obtain ⟨_, _, ⟨T2, L2, k2, n2⟩, -, X2, ⟨Lc2, hQ2, l2, y2, z2⟩, st2⟩ := Jvm.LawKit.callS X0 hx (y := (⟨"java/lang/String", "checkIndex", "(II)V"⟩ : MethodName)) hown (mvT hZ (own_w hw 81 rfl)) (mvT hZ (own_w hw 82 rfl)) (mvT hZ (own_w hw 13 rfl)) (mvT hZ (own_w hw 83 rfl)) (by decide) (backOf (W := 0) (rmCk l Z a0 hw [] (0 : Int32) (1 : Int32) sf h0 n0 O (by decide) (by decide) S_FM hsf) hZ (own_w hw 83 rfl) (own_w hw 13 rfl) (by decide) (by decide)) (g := (mkF m 3 #[rv tb, iv (0 : Int32)] [(.int (1 : Int32)), (.int (0 : Int32))])) rfl (by rw [hml]; rfl) (argsL := [(.int (0 : Int32)), (.int (1 : Int32))]) (rest := []) (lenOf pd__28II_29V rfl) rfl (by show 2 * 0 + _ ≤ _; exact Nat.le_of_eq rfl) (hb hby d15_3) (fun _ _ => ⟨rfl, e0, (by decide : 0 + 0 ≤ _), (by decide : 0 + 0 ≤ _)⟩)
  dsimp only [Pt.U, Pt.locs, Pt.cells, Pt.slots] at X2 l2 y2 z2 st2 hQ2
  subst l2 y2 z2
  obtain ⟨rfl, Nq2, e2⟩ := hQ2
  have N2 := Fr.app N0 Nq2
  refine Go.step st2 ?_
  show Go p e below _ (T2.setTop (mkF m 6 #[rv tb, iv (0 : Int32)] []))
  refine Go.step (S' := T2.setTop (mkF m 8 #[rv tb, iv (0 : Int32)] [(.int (0 : Int32)), (.ref tb)])) (fun t k => ?_) ?_
  · show Steps p.tables e below (T2.setTop (mkF m 6 #[rv tb, iv (0 : Int32)] [])) _
    refine XS.aloadN X2.here hx rfl (hb hby d15_6) rfl rfl ?_
    show Steps p.tables e below (T2.setTop (mkF m 7 #[rv tb, iv (0 : Int32)] [(.ref tb)])) _
    refine XS.iloadN X2.here hx rfl (hb hby d15_7) rfl ?_
    exact k
  obtain ⟨cl3, Ar3, -, S3, -, H3, -⟩ := id V_tb
  have hin3 : ¬ ((0 : Int32) < 0 ∨ cl3.slots.size ≤ ((0 : Int32)).toNatClampNeg) := inb_of S3 ⟨by decide, by decide⟩
  refine Go.step (S' := T2.setTop (mkF m 9 #[rv tb, iv (0 : Int32)] [(.int (x0.toInt8.toInt32))])) (fun t k => X2.baloadBytes hx (j := (0 : Int32)) (v := (.int (x0.toInt8.toInt32))) (by rw [e2]; exact Ar3.1) (State.isArrayOf_alike hZ.alike Ar3.2.1) Ar3.2.2 hin3 (H3.at hin3 rfl) (g := (mkF m 8 #[rv tb, iv (0 : Int32)] [(.int (0 : Int32)), (.ref tb)])) rfl rfl (hb hby d15_8) _ k) ?_
  refine Go.step (S' := T2.setTop (mkF m 14 #[rv tb, iv (0 : Int32)] [(.int (((x0.toInt8.toInt32) &&& (255 : Int32)).toUInt32.toUInt16.toUInt32.toInt32))])) (fun t k => ?_) ?_
  · show Steps p.tables e below (T2.setTop (mkF m 9 #[rv tb, iv (0 : Int32)] [(.int (x0.toInt8.toInt32))])) _
    refine XS.sipush X2.here hx rfl (hb hby d15_9) ?_
    show Steps p.tables e below (T2.setTop (mkF m 12 #[rv tb, iv (0 : Int32)] [(.int (255 : Int32)), (.int (x0.toInt8.toInt32))])) _
    refine XS.iand X2.here hx rfl (hb hby d15_12) rfl ?_
    show Steps p.tables e below (T2.setTop (mkF m 13 #[rv tb, iv (0 : Int32)] [(.int ((x0.toInt8.toInt32) &&& (255 : Int32)))])) _
    refine XS.i2c X2.here hx rfl (hb hby d15_13) rfl ?_
    exact k
  obtain ⟨fs, hr, hrun, hended, hW, hsame⟩ := X2.leave (v := some (.int (((x0.toInt8.toInt32) &&& (255 : Int32)).toUInt32.toUInt16.toUInt32.toInt32))) (fun h => by rw [Bd.returns] at h; cases h)
  refine Go.fin (S' := T2.setFrames fs) ?_ hrun hended ⟨_, _, rfl, ?_, ⟨_, rfl⟩, hW, hsame.mono (by decide) (by decide)⟩
  · exact retOut X2 hx Bd.returns (Jvm.Free.XT.narrow_c _) (Or.inl ⟨rfl, Or.inr (Or.inr (Or.inr (Or.inl rfl))), _, rfl⟩) (hb hby d15_14) hr
  · show Q_rmLC1_0 Z tb kb x0 sf h0 n0 (some (.int (((x0.toInt8.toInt32) &&& (255 : Int32)).toUInt32.toUInt16.toUInt32.toInt32))) T2.heap _
    rw [e2]
    exact ⟨(congrArg (fun z => some (Value.int z)) (own_char hl0 hl1)), N2, rfl⟩
theorem d13_0 : decode jdk_42_method_56_code 0 = .ok (.aload_n 0, 1) := by decide +kernel
theorem d13_1 : decode jdk_42_method_56_code 1 = .ok (.invokevirtual 492, 3) := by decide +kernel
theorem pd__28_29Z : parseMethodDescriptor "()Z" = some ⟨[], some .boolean⟩ := by decide +kernel
theorem d13_4 : decode jdk_42_method_56_code 4 = .ok (.ifCond .eq 12, 3) := by decide +kernel
theorem d13_7 : decode jdk_42_method_56_code 7 = .ok (.aload_n 0, 1) := by decide +kernel
theorem d13_8 : decode jdk_42_method_56_code 8 = .ok (.getfield 9, 3) := by decide +kernel
theorem d13_11 : decode jdk_42_method_56_code 11 = .ok (.iload_n 1, 1) := by decide +kernel
theorem d13_12 : decode jdk_42_method_56_code 12 = .ok (.invokestatic 495, 3) := by decide +kernel
theorem pd__28_5bBI_29C : parseMethodDescriptor "([BI)C" = some ⟨[(.array .byte), .int], some .char⟩ := by decide +kernel
theorem d13_15 : decode jdk_42_method_56_code 15 = .ok (.ireturn, 1) := by decide +kernel
theorem ef_rmCh1_0 (m : MethodId) (so : Addr) : entryFrame m #[(.ref so), (.int (0 : Int32))] 2 = mkF m 0 #[.val (.ref so), .val (.int (0 : Int32))] [] := by first | (simp [entryFrame, mkF, argsToLocals, Value.category]; done) | rfl
abbrev rm_rmCh1_0 : Room := ({ frames := 3, cells := 0, slots := 0, locals := 40 } : Room)
def Q_rmCh1_0 (Z : State) (so : Addr) (tb : Addr) (kb : ClassId) (x0 : Int32) (cs : Int32) (sf : Value) (h0 : Heap) (n0 : Nat) (v : Option Value) (h : Heap) (L : List Loc) : Prop := (v = some (.int x0)) ∧ (Fr n0 L) ∧ (h = h0)
set_option maxRecDepth 65536 in
set_option maxHeartbeats 40000000 in
theorem rmCh1_0 (l : Launch) (Z : State) (a0 : Array Value) (hw : ∀ d ∈ tables_1, d.before a0 Z = true) (ws : List Jvm.Cond) (so : Addr) (tb : Addr) (kb : ClassId) (x0 : Int32) (cs : Int32) (sf : Value) (h0 : Heap) (n0 : Nat) (O : Old Z n0 h0) (S_CS : Sta Z Z.heap "java/lang/String" "COMPACT_STRINGS" "Z" (.int cs)) (S_FM : Sta Z Z.heap "jdk/internal/util/Preconditions" "SIOOBE_FORMATTER" "Ljava/util/function/BiFunction;" sf) (E_so : Exa Z h0 so "java/lang/String") (F_value_so : Fld Z h0 so "java/lang/String" "value" "[B" (.ref tb)) (F_coder_so : Fld Z h0 so "java/lang/String" "coder" "B" (.int (0 : Int32))) (V_tb : Arv Z h0 tb kb .byte (1 : Int32) [(.int (x0.toInt8.toInt32))] (.int (0 : Int32))) (hcs : ¬ (cs = (0 : Int32))) (hsf : sf.isRef = true) (hl0 : ¬ (x0 < (0 : Int32))) (hl1 : ¬ ((255 : Int32) < x0)) :
    MetFree l (⟨"java/lang/String", "charAt", "(I)C"⟩ : MethodName) (head1 (Jvm.Cond.code (⟨"java/lang/String", "charAt", "(I)C"⟩ : MethodName) jdk_42_method_56_code 2 (some .char) :: ws) rm_rmCh1_0) (fun A_ U => A_ = #[(.ref so), (.int (0 : Int32))] ∧ Z.Warmed39 U.vm ∧ U.heap = h0) (fun _ _ _ _ _ => True) (fun _ U o U' => ∃ v L, o = .returned v ∧ Q_rmCh1_0 Z so tb kb x0 cs sf h0 n0 v U'.heap L ∧ FrameEnd U o U' L rm_rmCh1_0.cells rm_rmCh1_0.slots) := by
  refine MetFree.of_bodySF (plainFor_of_name pn_java_lang_String) hisR ?_
  intro p e s m args below meth c s₁ Bd hml0 hP hK
  obtain ⟨rfl, hZ, hh⟩ := hP
  have hx := Bd.exec
  have hby := Bd.bytes
  have hml : c.maxLocals = 2 := hml0
  have hown : s.vm.findClass "java/lang/String" = some m.cls := findClass_of_methodNamed Bd.named
  have hnm := (name_of_methodNamed Bd.named Bd.method).1
  have X0 : Stand p l e rm_rmCh1_0 s m #[(.ref so), (.int (0 : Int32))] below meth c s₁ [] 0 0 := Stand.of_body Bd
  have e0 : s₁.heap = h0 := by rw [← hh, Bd.state]; rfl
  have N0 := Fr.nil n0
  refine Go.step (p := p) (e := e) (below := below) (G := fun o U' => ∃ v L, o = .returned v ∧ Q_rmCh1_0 Z so tb kb x0 cs sf h0 n0 v U'.heap L ∧ FrameEnd s o U' L rm_rmCh1_0.cells rm_rmCh1_0.slots) (S' := s₁.setTop (mkF m 0 #[rv so, iv (0 : Int32)] [])) (fun t k => castTop (ef_rmCh1_0 m so) k) ?_
  refine Go.step (S' := s₁.setTop (mkF m 1 #[rv so, iv (0 : Int32)] [(.ref so)])) (fun t k => ?_) ?_
  · show Steps p.tables e below (s₁.setTop (mkF m 0 #[rv so, iv (0 : Int32)] [])) _
    refine XS.aloadN X0.here hx rfl (hb hby d13_0) rfl rfl ?_
    exact k
  obtain ⟨cq1, kq1, q1a, q1b, q1c⟩ := isOf hZ e0 E_so
  obtain ⟨_, _, ⟨T1, L1, k1, n1⟩, -, X1, ⟨Lc1, hQ1, l1, y1, z1⟩, st1⟩ := X0.virtualBack hx (y := (⟨"java/lang/String", "isLatin1", "()Z"⟩ : MethodName)) (z := (⟨"java/lang/String", "isLatin1", "()Z"⟩ : MethodName)) hown (mvT hZ (own_w hw 73 rfl)) (mvT hZ (own_w hw 74 rfl)) (notFace_of_selects (args := #[]) (mvT hZ (own_w hw 76 rfl))) (mvT hZ (own_w hw 76 rfl)) (mvT hZ (own_w hw 75 rfl)) (by decide) (backOf (W := 0) (rmLat l Z a0 hw [] so cs h0 n0 O S_CS F_coder_so hcs) hZ (own_w hw 77 rfl) (own_w hw 13 rfl) (by decide) (by decide)) q1a q1c (g := (mkF m 1 #[rv so, iv (0 : Int32)] [(.ref so)])) rfl (by rw [hml]; rfl) (Steps.refl _) (argsL := []) (rest := []) (lenOf pd__28_29Z rfl) rfl (by show 2 * 0 + _ ≤ _; exact Nat.le_of_eq rfl) (hb hby d13_1) (fun _ _ => ⟨rfl, e0, (by decide : 0 + 0 ≤ _), (by decide : 0 + 0 ≤ _)⟩)
  dsimp only [Pt.U, Pt.locs, Pt.cells, Pt.slots] at X1 l1 y1 z1 st1 hQ1
  subst l1 y1 z1
  obtain ⟨rfl, Nq1, e1⟩ := hQ1
  have N1 := Fr.app N0 Nq1
  refine Go.step (fun t k => st1.trans k) ?_
  show Go p e below _ (T1.setTop (mkF m 4 #[rv so, iv (0 : Int32)] [(.int (1 : Int32))]))
  refine Go.step (S' := T1.setTop (mkF m 8 #[rv so, iv (0 : Int32)] [(.ref so)])) (fun t k => ?_) ?_
  · show Steps p.tables e below (T1.setTop (mkF m 4 #[rv so, iv (0 : Int32)] [(.int (1 : Int32))])) _
    refine XS.ifNo X1.here hx rfl (hb hby d13_4) rfl ((if0 _ _).trans (feq ((by decide) : ¬ ((1 : Int32) = (0 : Int32)))).1) ?_
    show Steps p.tables e below (T1.setTop (mkF m 7 #[rv so, iv (0 : Int32)] [])) _
    refine XS.aloadN X1.here hx rfl (hb hby d13_7) rfl rfl ?_
    exact k
  obtain ⟨T2, X2, e2, st2⟩ := getF X1 hx hZ hown (host := "") (Or.inl (own_w hw 33 rfl)) Via.refl e1 F_value_so (g := (mkF m 8 #[rv so, iv (0 : Int32)] [(.ref so)])) rfl rfl (hb hby d13_8)
  refine Go.step st2 ?_
  show Go p e below _ (T2.setTop (mkF m 11 #[rv so, iv (0 : Int32)] [(.ref tb)]))
  refine Go.step (S' := T2.setTop (mkF m 12 #[rv so, iv (0 : Int32)] [(.int (0 : Int32)), (.ref tb)])) (fun t k => ?_) ?_
  · show Steps p.tables e below (T2.setTop (mkF m 11 #[rv so, iv (0 : Int32)] [(.ref tb)])) _
    refine XS.iloadN X2.here hx rfl (hb hby d13_11) rfl ?_
    exact k
  obtain ⟨_, _, ⟨T3, L3, k3, n3⟩, -, X3, ⟨Lc3, hQ3, l3, y3, z3⟩, st3⟩ := Jvm.LawKit.callS X2 hx (y := (⟨"java/lang/StringLatin1", "charAt", "([BI)C"⟩ : MethodName)) hown (mvT hZ (own_w hw 78 rfl)) (mvT hZ (own_w hw 79 rfl)) (mvT hZ (own_w hw 18 rfl)) (mvT hZ (own_w hw 80 rfl)) (by decide) (backOf (W := 0) (rmLC1_0 l Z a0 hw [] tb kb x0 sf h0 n0 O V_tb S_FM hsf hl0 hl1) hZ (own_w hw 80 rfl) (own_w hw 18 rfl) (by decide) (by decide)) (g := (mkF m 12 #[rv so, iv (0 : Int32)] [(.int (0 : Int32)), (.ref tb)])) rfl (by rw [hml]; rfl) (argsL := [(.ref tb), (.int (0 : Int32))]) (rest := []) (lenOf pd__28_5bBI_29C rfl) rfl (by show 2 * 0 + _ ≤ _; exact Nat.le_of_eq rfl) (hb hby d13_12) (fun _ _ => ⟨rfl, e2, (by decide : 0 + 0 ≤ _), (by decide : 0 + 0 ≤ _)⟩)
  dsimp only [Pt.U, Pt.locs, Pt.cells, Pt.slots] at X3 l3 y3 z3 st3 hQ3
  subst l3 y3 z3
  obtain ⟨rfl, Nq3, e3⟩ := hQ3
  have N3 := Fr.app N1 Nq3
  refine Go.step st3 ?_
  show Go p e below _ (T3.setTop (mkF m 15 #[rv so, iv (0 : Int32)] [(.int x0)]))
  obtain ⟨fs, hr, hrun, hended, hW, hsame⟩ := X3.leave (v := some (.int x0)) (fun h => by rw [Bd.returns] at h; cases h)
  refine Go.fin (S' := T3.setFrames fs) ?_ hrun hended ⟨_, _, rfl, ?_, ⟨_, rfl⟩, hW, hsame.mono (by decide) (by decide)⟩
  · exact retOut X3 hx Bd.returns (own_nc hl0 hl1) (Or.inl ⟨rfl, Or.inr (Or.inr (Or.inr (Or.inl rfl))), _, rfl⟩) (hb hby d13_15) hr
  · show Q_rmCh1_0 Z so tb kb x0 cs sf h0 n0 (some (.int x0)) T3.heap _
    rw [e3]
    exact ⟨rfl, N3, rfl⟩
theorem own_b2 (x : Int32) : ((x.toInt8.toInt32).toInt8.toInt32) = (x.toInt8.toInt32) := by
  rw [← Int32.toInt_inj]
  have h1 := c_i2b x
  have h2 := c_i2b x.toInt8.toInt32
  omega
theorem own_c (p x : Int32) (h : ((97 : Int32) + ((((p.toUInt32 >>> ((8 : Int32) &&& 31).toUInt32).toInt32) &&& (255 : Int32)) % (26 : Int32))).toUInt32.toUInt16.toUInt32.toInt32 = x) :
    ¬ (x < (97 : Int32)) ∧ ¬ ((122 : Int32) < x) ∧ ¬ (x < (0 : Int32)) ∧ ¬ ((255 : Int32) < x) := by
  subst h
  generalize ((p.toUInt32 >>> ((8 : Int32) &&& 31).toUInt32).toInt32) = u
  have h1 := c_mask u 255 8 (by decide) (by decide)
  generalize (u &&& (255 : Int32)) = w at *
  have h2 := c_irem w 26 26 (by decide)
  have h3 := c_iadd 97 (w % 26)
  have h4 := rng32 (97 + w % 26)
  have h5 := c_i2c (97 + w % 26)
  simp only [Int32.lt_iff_toInt_lt, show (97 : Int32).toInt = 97 from rfl, show (122 : Int32).toInt = 122 from rfl, show (0 : Int32).toInt = 0 from rfl, show (255 : Int32).toInt = 255 from rfl] at *
  omega
theorem pn_com_example_tombsweep_tombsweep_io_RecordHeaderGonePinLaw : plainName "com/example/tombsweep/tombsweep/io/RecordHeaderGonePinLaw" = true := by first | (simp [plainName, overriddenIn]; done) | decide +kernel
theorem d1_0 : decode method_2_code 0 = .ok (.iload_n 0, 1) := by decide +kernel
theorem d1_1 : decode method_2_code 1 = .ok (.ldc 7, 2) := by decide +kernel
theorem d1_3 : decode method_2_code 3 = .ok (.iand, 1) := by decide +kernel
theorem d1_4 : decode method_2_code 4 = .ok (.iconst 5, 1) := by decide +kernel
theorem d1_5 : decode method_2_code 5 = .ok (.irem, 1) := by decide +kernel
theorem d1_6 : decode method_2_code 6 = .ok (.istore_n 1, 1) := by decide +kernel
theorem d1_7 : decode method_2_code 7 = .ok (.iload_n 1, 1) := by decide +kernel
theorem d1_8 : decode method_2_code 8 = .ok (.ifCond .ne 7, 3) := by decide +kernel
theorem d1_11 : decode method_2_code 11 = .ok (.getstatic 8, 3) := by decide +kernel
theorem d1_14 : decode method_2_code 14 = .ok (.areturn, 1) := by decide +kernel
theorem d1_15 : decode method_2_code 15 = .ok (.iload_n 1, 1) := by decide +kernel
theorem d1_16 : decode method_2_code 16 = .ok (.iconst 1, 1) := by decide +kernel
theorem d1_17 : decode method_2_code 17 = .ok (.if_icmp .ne 7, 3) := by decide +kernel
theorem d1_20 : decode method_2_code 20 = .ok (.getstatic 14, 3) := by decide +kernel
theorem d1_23 : decode method_2_code 23 = .ok (.areturn, 1) := by decide +kernel
theorem d1_24 : decode method_2_code 24 = .ok (.iload_n 1, 1) := by decide +kernel
theorem d1_25 : decode method_2_code 25 = .ok (.iconst 2, 1) := by decide +kernel
theorem d1_26 : decode method_2_code 26 = .ok (.if_icmp .ne 7, 3) := by decide +kernel
theorem d1_29 : decode method_2_code 29 = .ok (.getstatic 17, 3) := by decide +kernel
theorem d1_32 : decode method_2_code 32 = .ok (.areturn, 1) := by decide +kernel
theorem d1_33 : decode method_2_code 33 = .ok (.iload_n 1, 1) := by decide +kernel
theorem d1_34 : decode method_2_code 34 = .ok (.iconst 3, 1) := by decide +kernel
theorem d1_35 : decode method_2_code 35 = .ok (.if_icmp .ne 7, 3) := by decide +kernel
theorem d1_38 : decode method_2_code 38 = .ok (.getstatic 20, 3) := by decide +kernel
theorem d1_41 : decode method_2_code 41 = .ok (.areturn, 1) := by decide +kernel
theorem d1_42 : decode method_2_code 42 = .ok (.getstatic 23, 3) := by decide +kernel
theorem d1_45 : decode method_2_code 45 = .ok (.areturn, 1) := by decide +kernel
theorem ef_rmKind (m : MethodId) (pv : Int32) : entryFrame m #[(.int pv)] 2 = mkF m 0 #[.val (.int pv), .unset] [] := by first | (simp [entryFrame, mkF, argsToLocals, Value.category]; done) | rfl
abbrev rm_rmKind : Room := ({ frames := 0, cells := 0, slots := 0, locals := 0 } : Room)
def Q_rmKind (Z : State) (pv : Int32) (w_PUT : Addr) (w_ERASED : Addr) (w_DELETE : Addr) (w_GONE : Addr) (w_UNFINISHED : Addr) (h0 : Heap) (n0 : Nat) (v : Option Value) (h : Heap) (L : List Loc) : Prop := ∃ b : Addr, (v = some (.ref b)) ∧ (Fr n0 L) ∧ (h = h0)
set_option maxRecDepth 65536 in
set_option maxHeartbeats 40000000 in
theorem rmKind (l : Launch) (Z : State) (a0 : Array Value) (hw : ∀ d ∈ tables_1, d.before a0 Z = true) (ws : List Jvm.Cond) (pv : Int32) (w_PUT : Addr) (w_ERASED : Addr) (w_DELETE : Addr) (w_GONE : Addr) (w_UNFINISHED : Addr) (h0 : Heap) (n0 : Nat) (O : Old Z n0 h0) (S_PUT : Sta Z Z.heap "com/example/tombsweep/tombsweep/io/RecordHeader$Kind" "PUT" "Lcom/example/tombsweep/tombsweep/io/RecordHeader$Kind;" (.ref w_PUT)) (S_ERASED : Sta Z Z.heap "com/example/tombsweep/tombsweep/io/RecordHeader$Kind" "ERASED" "Lcom/example/tombsweep/tombsweep/io/RecordHeader$Kind;" (.ref w_ERASED)) (S_DELETE : Sta Z Z.heap "com/example/tombsweep/tombsweep/io/RecordHeader$Kind" "DELETE" "Lcom/example/tombsweep/tombsweep/io/RecordHeader$Kind;" (.ref w_DELETE)) (S_GONE : Sta Z Z.heap "com/example/tombsweep/tombsweep/io/RecordHeader$Kind" "GONE" "Lcom/example/tombsweep/tombsweep/io/RecordHeader$Kind;" (.ref w_GONE)) (S_UNFINISHED : Sta Z Z.heap "com/example/tombsweep/tombsweep/io/RecordHeader$Kind" "UNFINISHED" "Lcom/example/tombsweep/tombsweep/io/RecordHeader$Kind;" (.ref w_UNFINISHED)) :
    MetFree l (⟨"com/example/tombsweep/tombsweep/io/RecordHeaderGonePinLaw", "kindOf", "(I)Lcom/example/tombsweep/tombsweep/io/RecordHeader$Kind;"⟩ : MethodName) (head1 (Jvm.Cond.code (⟨"com/example/tombsweep/tombsweep/io/RecordHeaderGonePinLaw", "kindOf", "(I)Lcom/example/tombsweep/tombsweep/io/RecordHeader$Kind;"⟩ : MethodName) method_2_code 2 (some (.object "com/example/tombsweep/tombsweep/io/RecordHeader$Kind")) :: ws) rm_rmKind) (fun A_ U => A_ = #[(.int pv)] ∧ Z.Warmed39 U.vm ∧ U.heap = h0) (fun _ _ _ _ _ => True) (fun _ U o U' => ∃ v L, o = .returned v ∧ Q_rmKind Z pv w_PUT w_ERASED w_DELETE w_GONE w_UNFINISHED h0 n0 v U'.heap L ∧ FrameEnd U o U' L rm_rmKind.cells rm_rmKind.slots) := by
  refine MetFree.of_bodySF (plainFor_of_name pn_com_example_tombsweep_tombsweep_io_RecordHeaderGonePinLaw) hisR ?_
  intro p e s m args below meth c s₁ Bd hml0 hP hK
  obtain ⟨rfl, hZ, hh⟩ := hP
  have hx := Bd.exec
  have hby := Bd.bytes
  have hml : c.maxLocals = 2 := hml0
  have hown : s.vm.findClass "com/example/tombsweep/tombsweep/io/RecordHeaderGonePinLaw" = some m.cls := findClass_of_methodNamed Bd.named
  have hnm := (name_of_methodNamed Bd.named Bd.method).1
  have X0 : Stand p l e rm_rmKind s m #[(.int pv)] below meth c s₁ [] 0 0 := Stand.of_body Bd
  have e0 : s₁.heap = h0 := by rw [← hh, Bd.state]; rfl
  have N0 := Fr.nil n0
  refine Go.step (p := p) (e := e) (below := below) (G := fun o U' => ∃ v L, o = .returned v ∧ Q_rmKind Z pv w_PUT w_ERASED w_DELETE w_GONE w_UNFINISHED h0 n0 v U'.heap L ∧ FrameEnd s o U' L rm_rmKind.cells rm_rmKind.slots) (S' := s₁.setTop (mkF m 0 #[iv pv, u_] [])) (fun t k => castTop (ef_rmKind m pv) k) ?_
  refine Go.step (S' := s₁.setTop (mkF m 8 #[iv pv, iv ((pv &&& (2147483647 : Int32)) % (5 : Int32))] [(.int ((pv &&& (2147483647 : Int32)) % (5 : Int32)))])) (fun t k => ?_) ?_
  · show Steps p.tables e below (s₁.setTop (mkF m 0 #[iv pv, u_] [])) _
    refine XS.iloadN X0.here hx rfl (hb hby d1_0) rfl ?_
    show Steps p.tables e below (s₁.setTop (mkF m 1 #[iv pv, u_] [(.int pv)])) _
    refine X0.ldcInt hx hown (mvT hZ (own_w hw 4 rfl)) (g := (mkF m 1 #[iv pv, u_] [(.int pv)])) rfl (hb hby d1_1) _ ?_
    show Steps p.tables e below (s₁.setTop (mkF m 3 #[iv pv, u_] [(.int (2147483647 : Int32)), (.int pv)])) _
    refine XS.iand X0.here hx rfl (hb hby d1_3) rfl ?_
    show Steps p.tables e below (s₁.setTop (mkF m 4 #[iv pv, u_] [(.int (pv &&& (2147483647 : Int32)))])) _
    refine XS.iconst X0.here hx rfl (hb hby d1_4) ?_
    show Steps p.tables e below (s₁.setTop (mkF m 5 #[iv pv, u_] [(.int (5 : Int32)), (.int (pv &&& (2147483647 : Int32)))])) _
    refine iremM X0 hx rfl (hb hby d1_5) rfl (by decide) ?_
    show Steps p.tables e below (s₁.setTop (mkF m 6 #[iv pv, u_] [(.int ((pv &&& (2147483647 : Int32)) % (5 : Int32)))])) _
    refine XS.istoreN X0.here hx rfl (hb hby d1_6) rfl (l' := #[iv pv, iv ((pv &&& (2147483647 : Int32)) % (5 : Int32))]) rfl ?_
    show Steps p.tables e below (s₁.setTop (mkF m 7 #[iv pv, iv ((pv &&& (2147483647 : Int32)) % (5 : Int32))] [])) _
    refine XS.iloadN X0.here hx rfl (hb hby d1_7) rfl ?_
    exact k
  by_cases hc8 : ((pv &&& (2147483647 : Int32)) % (5 : Int32)) = (0 : Int32)
  · skip
    refine Go.step (S' := s₁.setTop (mkF m 11 #[iv pv, iv ((pv &&& (2147483647 : Int32)) % (5 : Int32))] [])) (fun t k => ?_) ?_
    · show Steps p.tables e below (s₁.setTop (mkF m 8 #[iv pv, iv ((pv &&& (2147483647 : Int32)) % (5 : Int32))] [(.int ((pv &&& (2147483647 : Int32)) % (5 : Int32)))])) _
      refine XS.ifNo X0.here hx rfl (hb hby d1_8) rfl ((if0 _ _).trans (teq (hc8 : ((pv &&& (2147483647 : Int32)) % (5 : Int32)) = (0 : Int32))).2) ?_
      exact k
    obtain ⟨T1, X1, e1, st1⟩ := getS2 X0 hx hZ hown (host := "") (Or.inl (own_w hw 5 rfl)) Via.refl e0 (S_PUT.ext O.2) (g := (mkF m 11 #[iv pv, iv ((pv &&& (2147483647 : Int32)) % (5 : Int32))] [])) rfl (hb hby d1_11)
    refine Go.step st1 ?_
    show Go p e below _ (T1.setTop (mkF m 14 #[iv pv, iv ((pv &&& (2147483647 : Int32)) % (5 : Int32))] [(.ref w_PUT)]))
    obtain ⟨fs, hr, hrun, hended, hW, hsame⟩ := X1.leave (v := some (.ref w_PUT)) (fun h => by rw [Bd.returns] at h; cases h)
    refine Go.fin (S' := T1.setFrames fs) ?_ hrun hended ⟨_, _, rfl, ?_, ⟨_, rfl⟩, hW, hsame.mono (by decide) (by decide)⟩
    · exact retOut X1 hx Bd.returns rfl (Or.inr (Or.inr (Or.inr (Or.inr ⟨rfl, rfl, rfl⟩)))) (hb hby d1_14) hr
    · show Q_rmKind Z pv w_PUT w_ERASED w_DELETE w_GONE w_UNFINISHED h0 n0 (some (.ref w_PUT)) T1.heap _
      rw [e1]
      exact ⟨w_PUT, rfl, N0, rfl⟩
  · skip
    refine Go.step (S' := s₁.setTop (mkF m 17 #[iv pv, iv ((pv &&& (2147483647 : Int32)) % (5 : Int32))] [(.int (1 : Int32)), (.int ((pv &&& (2147483647 : Int32)) % (5 : Int32)))])) (fun t k => ?_) ?_
    · show Steps p.tables e below (s₁.setTop (mkF m 8 #[iv pv, iv ((pv &&& (2147483647 : Int32)) % (5 : Int32))] [(.int ((pv &&& (2147483647 : Int32)) % (5 : Int32)))])) _
      refine XS.ifYes X0.here hx rfl (pc0 := 8) (pc' := 15) rfl (hb hby d1_8) rfl ((if0 _ _).trans (feq (hc8 : ¬ (((pv &&& (2147483647 : Int32)) % (5 : Int32)) = (0 : Int32)))).2) (by decide) (by decide) ?_
      show Steps p.tables e below (s₁.setTop (mkF m 15 #[iv pv, iv ((pv &&& (2147483647 : Int32)) % (5 : Int32))] [])) _
      refine XS.iloadN X0.here hx rfl (hb hby d1_15) rfl ?_
      show Steps p.tables e below (s₁.setTop (mkF m 16 #[iv pv, iv ((pv &&& (2147483647 : Int32)) % (5 : Int32))] [(.int ((pv &&& (2147483647 : Int32)) % (5 : Int32)))])) _
      refine XS.iconst X0.here hx rfl (hb hby d1_16) ?_
      exact k
    by_cases hc17 : ((pv &&& (2147483647 : Int32)) % (5 : Int32)) = (1 : Int32)
    · skip
      refine Go.step (S' := s₁.setTop (mkF m 20 #[iv pv, iv ((pv &&& (2147483647 : Int32)) % (5 : Int32))] [])) (fun t k => ?_) ?_
      · show Steps p.tables e below (s₁.setTop (mkF m 17 #[iv pv, iv ((pv &&& (2147483647 : Int32)) % (5 : Int32))] [(.int (1 : Int32)), (.int ((pv &&& (2147483647 : Int32)) % (5 : Int32)))])) _
        refine XS.icmpNo X0.here hx rfl (hb hby d1_17) rfl (teq (hc17 : ((pv &&& (2147483647 : Int32)) % (5 : Int32)) = (1 : Int32))).2 ?_
        exact k
      obtain ⟨T2, X2, e2, st2⟩ := getS2 X0 hx hZ hown (host := "") (Or.inl (own_w hw 171 rfl)) Via.refl e0 (S_ERASED.ext O.2) (g := (mkF m 20 #[iv pv, iv ((pv &&& (2147483647 : Int32)) % (5 : Int32))] [])) rfl (hb hby d1_20)
      refine Go.step st2 ?_
      show Go p e below _ (T2.setTop (mkF m 23 #[iv pv, iv ((pv &&& (2147483647 : Int32)) % (5 : Int32))] [(.ref w_ERASED)]))
      obtain ⟨fs, hr, hrun, hended, hW, hsame⟩ := X2.leave (v := some (.ref w_ERASED)) (fun h => by rw [Bd.returns] at h; cases h)
      refine Go.fin (S' := T2.setFrames fs) ?_ hrun hended ⟨_, _, rfl, ?_, ⟨_, rfl⟩, hW, hsame.mono (by decide) (by decide)⟩
      · exact retOut X2 hx Bd.returns rfl (Or.inr (Or.inr (Or.inr (Or.inr ⟨rfl, rfl, rfl⟩)))) (hb hby d1_23) hr
      · show Q_rmKind Z pv w_PUT w_ERASED w_DELETE w_GONE w_UNFINISHED h0 n0 (some (.ref w_ERASED)) T2.heap _
        rw [e2]
        exact ⟨w_ERASED, rfl, N0, rfl⟩
    · skip
      refine Go.step (S' := s₁.setTop (mkF m 26 #[iv pv, iv ((pv &&& (2147483647 : Int32)) % (5 : Int32))] [(.int (2 : Int32)), (.int ((pv &&& (2147483647 : Int32)) % (5 : Int32)))])) (fun t k => ?_) ?_
      · show Steps p.tables e below (s₁.setTop (mkF m 17 #[iv pv, iv ((pv &&& (2147483647 : Int32)) % (5 : Int32))] [(.int (1 : Int32)), (.int ((pv &&& (2147483647 : Int32)) % (5 : Int32)))])) _
        refine XS.icmpYes X0.here hx rfl (pc0 := 17) (pc' := 24) rfl (hb hby d1_17) rfl (feq (hc17 : ¬ (((pv &&& (2147483647 : Int32)) % (5 : Int32)) = (1 : Int32)))).2 (by decide) (by decide) ?_
        show Steps p.tables e below (s₁.setTop (mkF m 24 #[iv pv, iv ((pv &&& (2147483647 : Int32)) % (5 : Int32))] [])) _
        refine XS.iloadN X0.here hx rfl (hb hby d1_24) rfl ?_
        show Steps p.tables e below (s₁.setTop (mkF m 25 #[iv pv, iv ((pv &&& (2147483647 : Int32)) % (5 : Int32))] [(.int ((pv &&& (2147483647 : Int32)) % (5 : Int32)))])) _
        refine XS.iconst X0.here hx rfl (hb hby d1_25) ?_
        exact k
      by_cases hc26 : ((pv &&& (2147483647 : Int32)) % (5 : Int32)) = (2 : Int32)
      · skip
        refine Go.step (S' := s₁.setTop (mkF m 29 #[iv pv, iv ((pv &&& (2147483647 : Int32)) % (5 : Int32))] [])) (fun t k => ?_) ?_
        · show Steps p.tables e below (s₁.setTop (mkF m 26 #[iv pv, iv ((pv &&& (2147483647 : Int32)) % (5 : Int32))] [(.int (2 : Int32)), (.int ((pv &&& (2147483647 : Int32)) % (5 : Int32)))])) _
          refine XS.icmpNo X0.here hx rfl (hb hby d1_26) rfl (teq (hc26 : ((pv &&& (2147483647 : Int32)) % (5 : Int32)) = (2 : Int32))).2 ?_
          exact k
        obtain ⟨T3, X3, e3, st3⟩ := getS2 X0 hx hZ hown (host := "") (Or.inl (own_w hw 167 rfl)) Via.refl e0 (S_DELETE.ext O.2) (g := (mkF m 29 #[iv pv, iv ((pv &&& (2147483647 : Int32)) % (5 : Int32))] [])) rfl (hb hby d1_29)
        refine Go.step st3 ?_
        show Go p e below _ (T3.setTop (mkF m 32 #[iv pv, iv ((pv &&& (2147483647 : Int32)) % (5 : Int32))] [(.ref w_DELETE)]))
        obtain ⟨fs, hr, hrun, hended, hW, hsame⟩ := X3.leave (v := some (.ref w_DELETE)) (fun h => by rw [Bd.returns] at h; cases h)
        refine Go.fin (S' := T3.setFrames fs) ?_ hrun hended ⟨_, _, rfl, ?_, ⟨_, rfl⟩, hW, hsame.mono (by decide) (by decide)⟩
        · exact retOut X3 hx Bd.returns rfl (Or.inr (Or.inr (Or.inr (Or.inr ⟨rfl, rfl, rfl⟩)))) (hb hby d1_32) hr
        · show Q_rmKind Z pv w_PUT w_ERASED w_DELETE w_GONE w_UNFINISHED h0 n0 (some (.ref w_DELETE)) T3.heap _
          rw [e3]
          exact ⟨w_DELETE, rfl, N0, rfl⟩
      · skip
        refine Go.step (S' := s₁.setTop (mkF m 35 #[iv pv, iv ((pv &&& (2147483647 : Int32)) % (5 : Int32))] [(.int (3 : Int32)), (.int ((pv &&& (2147483647 : Int32)) % (5 : Int32)))])) (fun t k => ?_) ?_
        · show Steps p.tables e below (s₁.setTop (mkF m 26 #[iv pv, iv ((pv &&& (2147483647 : Int32)) % (5 : Int32))] [(.int (2 : Int32)), (.int ((pv &&& (2147483647 : Int32)) % (5 : Int32)))])) _
          refine XS.icmpYes X0.here hx rfl (pc0 := 26) (pc' := 33) rfl (hb hby d1_26) rfl (feq (hc26 : ¬ (((pv &&& (2147483647 : Int32)) % (5 : Int32)) = (2 : Int32)))).2 (by decide) (by decide) ?_
          show Steps p.tables e below (s₁.setTop (mkF m 33 #[iv pv, iv ((pv &&& (2147483647 : Int32)) % (5 : Int32))] [])) _
          refine XS.iloadN X0.here hx rfl (hb hby d1_33) rfl ?_
          show Steps p.tables e below (s₁.setTop (mkF m 34 #[iv pv, iv ((pv &&& (2147483647 : Int32)) % (5 : Int32))] [(.int ((pv &&& (2147483647 : Int32)) % (5 : Int32)))])) _
          refine XS.iconst X0.here hx rfl (hb hby d1_34) ?_
          exact k
        by_cases hc35 : ((pv &&& (2147483647 : Int32)) % (5 : Int32)) = (3 : Int32)
        · skip
          refine Go.step (S' := s₁.setTop (mkF m 38 #[iv pv, iv ((pv &&& (2147483647 : Int32)) % (5 : Int32))] [])) (fun t k => ?_) ?_
          · show Steps p.tables e below (s₁.setTop (mkF m 35 #[iv pv, iv ((pv &&& (2147483647 : Int32)) % (5 : Int32))] [(.int (3 : Int32)), (.int ((pv &&& (2147483647 : Int32)) % (5 : Int32)))])) _
            refine XS.icmpNo X0.here hx rfl (hb hby d1_35) rfl (teq (hc35 : ((pv &&& (2147483647 : Int32)) % (5 : Int32)) = (3 : Int32))).2 ?_
            exact k
          obtain ⟨T4, X4, e4, st4⟩ := getS2 X0 hx hZ hown (host := "") (Or.inl (own_w hw 131 rfl)) Via.refl e0 (S_GONE.ext O.2) (g := (mkF m 38 #[iv pv, iv ((pv &&& (2147483647 : Int32)) % (5 : Int32))] [])) rfl (hb hby d1_38)
          refine Go.step st4 ?_
          show Go p e below _ (T4.setTop (mkF m 41 #[iv pv, iv ((pv &&& (2147483647 : Int32)) % (5 : Int32))] [(.ref w_GONE)]))
          obtain ⟨fs, hr, hrun, hended, hW, hsame⟩ := X4.leave (v := some (.ref w_GONE)) (fun h => by rw [Bd.returns] at h; cases h)
          refine Go.fin (S' := T4.setFrames fs) ?_ hrun hended ⟨_, _, rfl, ?_, ⟨_, rfl⟩, hW, hsame.mono (by decide) (by decide)⟩
          · exact retOut X4 hx Bd.returns rfl (Or.inr (Or.inr (Or.inr (Or.inr ⟨rfl, rfl, rfl⟩)))) (hb hby d1_41) hr
          · show Q_rmKind Z pv w_PUT w_ERASED w_DELETE w_GONE w_UNFINISHED h0 n0 (some (.ref w_GONE)) T4.heap _
            rw [e4]
            exact ⟨w_GONE, rfl, N0, rfl⟩
        · skip
          refine Go.step (S' := s₁.setTop (mkF m 42 #[iv pv, iv ((pv &&& (2147483647 : Int32)) % (5 : Int32))] [])) (fun t k => ?_) ?_
          · show Steps p.tables e below (s₁.setTop (mkF m 35 #[iv pv, iv ((pv &&& (2147483647 : Int32)) % (5 : Int32))] [(.int (3 : Int32)), (.int ((pv &&& (2147483647 : Int32)) % (5 : Int32)))])) _
            refine XS.icmpYes X0.here hx rfl (pc0 := 35) (pc' := 42) rfl (hb hby d1_35) rfl (feq (hc35 : ¬ (((pv &&& (2147483647 : Int32)) % (5 : Int32)) = (3 : Int32)))).2 (by decide) (by decide) ?_
            exact k
          obtain ⟨T5, X5, e5, st5⟩ := getS2 X0 hx hZ hown (host := "") (Or.inl (own_w hw 169 rfl)) Via.refl e0 (S_UNFINISHED.ext O.2) (g := (mkF m 42 #[iv pv, iv ((pv &&& (2147483647 : Int32)) % (5 : Int32))] [])) rfl (hb hby d1_42)
          refine Go.step st5 ?_
          show Go p e below _ (T5.setTop (mkF m 45 #[iv pv, iv ((pv &&& (2147483647 : Int32)) % (5 : Int32))] [(.ref w_UNFINISHED)]))
          obtain ⟨fs, hr, hrun, hended, hW, hsame⟩ := X5.leave (v := some (.ref w_UNFINISHED)) (fun h => by rw [Bd.returns] at h; cases h)
          refine Go.fin (S' := T5.setFrames fs) ?_ hrun hended ⟨_, _, rfl, ?_, ⟨_, rfl⟩, hW, hsame.mono (by decide) (by decide)⟩
          · exact retOut X5 hx Bd.returns rfl (Or.inr (Or.inr (Or.inr (Or.inr ⟨rfl, rfl, rfl⟩)))) (hb hby d1_45) hr
          · show Q_rmKind Z pv w_PUT w_ERASED w_DELETE w_GONE w_UNFINISHED h0 n0 (some (.ref w_UNFINISHED)) T5.heap _
            rw [e5]
            exact ⟨w_UNFINISHED, rfl, N0, rfl⟩
theorem d3_0 : decode jdk_43_method_3_code 0 = .ok (.iload_n 0, 1) := by decide +kernel
theorem d3_1 : decode jdk_43_method_3_code 1 = .ok (.sipush 255, 3) := by decide +kernel
theorem d3_4 : decode jdk_43_method_3_code 4 = .ok (.if_icmp .gt 7, 3) := by decide +kernel
theorem d3_7 : decode jdk_43_method_3_code 7 = .ok (.iconst 1, 1) := by decide +kernel
theorem d3_8 : decode jdk_43_method_3_code 8 = .ok (.goto 4, 3) := by decide +kernel
theorem d3_12 : decode jdk_43_method_3_code 12 = .ok (.ireturn, 1) := by decide +kernel
theorem ef_rmCan (m : MethodId) (x : Int32) : entryFrame m #[(.int x)] 1 = mkF m 0 #[.val (.int x)] [] := by first | (simp [entryFrame, mkF, argsToLocals, Value.category]; done) | rfl
abbrev rm_rmCan : Room := ({ frames := 0, cells := 0, slots := 0, locals := 0 } : Room)
def Q_rmCan (Z : State) (x : Int32) (h0 : Heap) (n0 : Nat) (v : Option Value) (h : Heap) (L : List Loc) : Prop := (v = some (.int (1 : Int32))) ∧ (Fr n0 L) ∧ (h = h0)
set_option maxRecDepth 65536 in
set_option maxHeartbeats 40000000 in
theorem rmCan (l : Launch) (Z : State) (a0 : Array Value) (hw : ∀ d ∈ tables_1, d.before a0 Z = true) (ws : List Jvm.Cond) (x : Int32) (h0 : Heap) (n0 : Nat) (O : Old Z n0 h0) (hp1 : ¬ ((255 : Int32) < x)) :
    MetFree l (⟨"java/lang/StringLatin1", "canEncode", "(C)Z"⟩ : MethodName) (head1 (Jvm.Cond.code (⟨"java/lang/StringLatin1", "canEncode", "(C)Z"⟩ : MethodName) jdk_43_method_3_code 1 (some .boolean) :: ws) rm_rmCan) (fun A_ U => A_ = #[(.int x)] ∧ Z.Warmed39 U.vm ∧ U.heap = h0) (fun _ _ _ _ _ => True) (fun _ U o U' => ∃ v L, o = .returned v ∧ Q_rmCan Z x h0 n0 v U'.heap L ∧ FrameEnd U o U' L rm_rmCan.cells rm_rmCan.slots) := by
  refine MetFree.of_bodySF (plainFor_of_name pn_java_lang_StringLatin1) hisR ?_
  intro p e s m args below meth c s₁ Bd hml0 hP hK
  obtain ⟨rfl, hZ, hh⟩ := hP
  have hx := Bd.exec
  have hby := Bd.bytes
  have hml : c.maxLocals = 1 := hml0
  have hown : s.vm.findClass "java/lang/StringLatin1" = some m.cls := findClass_of_methodNamed Bd.named
  have hnm := (name_of_methodNamed Bd.named Bd.method).1
  have X0 : Stand p l e rm_rmCan s m #[(.int x)] below meth c s₁ [] 0 0 := Stand.of_body Bd
  have e0 : s₁.heap = h0 := by rw [← hh, Bd.state]; rfl
  have N0 := Fr.nil n0
  refine Go.step (p := p) (e := e) (below := below) (G := fun o U' => ∃ v L, o = .returned v ∧ Q_rmCan Z x h0 n0 v U'.heap L ∧ FrameEnd s o U' L rm_rmCan.cells rm_rmCan.slots) (S' := s₁.setTop (mkF m 0 #[iv x] [])) (fun t k => castTop (ef_rmCan m x) k) ?_
  refine Go.step (S' := s₁.setTop (mkF m 12 #[iv x] [(.int (1 : Int32))])) (fun t k => ?_) ?_
  · show Steps p.tables e below (s₁.setTop (mkF m 0 #[iv x] [])) _
    refine XS.iloadN X0.here hx rfl (hb hby d3_0) rfl ?_
    show Steps p.tables e below (s₁.setTop (mkF m 1 #[iv x] [(.int x)])) _
    refine XS.sipush X0.here hx rfl (hb hby d3_1) ?_
    show Steps p.tables e below (s₁.setTop (mkF m 4 #[iv x] [(.int (255 : Int32)), (.int x)])) _
    refine XS.icmpNo X0.here hx rfl (hb hby d3_4) rfl (flt (hp1 : ¬ ((255 : Int32) < x))).2.2.1 ?_
    show Steps p.tables e below (s₁.setTop (mkF m 7 #[iv x] [])) _
    refine XS.iconst X0.here hx rfl (hb hby d3_7) ?_
    show Steps p.tables e below (s₁.setTop (mkF m 8 #[iv x] [(.int (1 : Int32))])) _
    refine XS.goto X0.here hx rfl (pc0 := 8) (pc' := 12) rfl (hb hby d3_8) (by decide) (by decide) ?_
    exact k
  obtain ⟨fs, hr, hrun, hended, hW, hsame⟩ := X0.leave (v := some (.int (1 : Int32))) (fun h => by rw [Bd.returns] at h; cases h)
  refine Go.fin (S' := s₁.setFrames fs) ?_ hrun hended ⟨_, _, rfl, ?_, ⟨_, rfl⟩, hW, hsame.mono (by decide) (by decide)⟩
  · exact retOut X0 hx Bd.returns (by decide) (Or.inl ⟨rfl, Or.inr (Or.inl rfl), _, rfl⟩) (hb hby d3_12) hr
  · show Q_rmCan Z x h0 n0 (some (.int (1 : Int32))) s₁.heap _
    rw [e0]
    exact ⟨rfl, N0, rfl⟩
theorem d4_0 : decode jdk_43_method_46_code 0 = .ok (.iconst 1, 1) := by decide +kernel
theorem d4_1 : decode jdk_43_method_46_code 1 = .ok (.newarray .byte, 2) := by decide +kernel
theorem d4_3 : decode jdk_43_method_46_code 3 = .ok (.dup, 1) := by decide +kernel
theorem d4_4 : decode jdk_43_method_46_code 4 = .ok (.iconst 0, 1) := by decide +kernel
theorem d4_5 : decode jdk_43_method_46_code 5 = .ok (.iload_n 0, 1) := by decide +kernel
theorem d4_6 : decode jdk_43_method_46_code 6 = .ok (.i2b, 1) := by decide +kernel
theorem d4_7 : decode jdk_43_method_46_code 7 = .ok (.bastore, 1) := by decide +kernel
theorem d4_8 : decode jdk_43_method_46_code 8 = .ok (.areturn, 1) := by decide +kernel
theorem ef_rmTB (m : MethodId) (x : Int32) : entryFrame m #[(.int x)] 1 = mkF m 0 #[.val (.int x)] [] := by first | (simp [entryFrame, mkF, argsToLocals, Value.category]; done) | rfl
abbrev rm_rmTB : Room := ({ frames := 0, cells := 1, slots := 1, locals := 0 } : Room)
def Q_rmTB (Z : State) (x : Int32) (h0 : Heap) (n0 : Nat) (v : Option Value) (h : Heap) (L : List Loc) : Prop := ∃ b : Addr, ∃ kb : ClassId, (v = some (.ref b)) ∧ (Fr n0 L) ∧ (Keep h0 h []) ∧ (Arv Z h b kb .byte (1 : Int32) [(.int (x.toInt8.toInt32))] (.int (0 : Int32)))
set_option maxRecDepth 65536 in
set_option maxHeartbeats 40000000 in
theorem rmTB (l : Launch) (Z : State) (a0 : Array Value) (hw : ∀ d ∈ tables_1, d.before a0 Z = true) (ws : List Jvm.Cond) (x : Int32) (h0 : Heap) (n0 : Nat) (O : Old Z n0 h0) :
    MetFree l (⟨"java/lang/StringLatin1", "toBytes", "(C)[B"⟩ : MethodName) (head1 (Jvm.Cond.code (⟨"java/lang/StringLatin1", "toBytes", "(C)[B"⟩ : MethodName) jdk_43_method_46_code 1 (some (.array .byte)) :: ws) rm_rmTB) (fun A_ U => A_ = #[(.int x)] ∧ Z.Warmed39 U.vm ∧ U.heap = h0) (fun _ _ _ _ _ => True) (fun _ U o U' => ∃ v L, o = .returned v ∧ Q_rmTB Z x h0 n0 v U'.heap L ∧ FrameEnd U o U' L rm_rmTB.cells rm_rmTB.slots) := by
  refine MetFree.of_bodySF (plainFor_of_name pn_java_lang_StringLatin1) hisR ?_
  intro p e s m args below meth c s₁ Bd hml0 hP hK
  obtain ⟨rfl, hZ, hh⟩ := hP
  have hx := Bd.exec
  have hby := Bd.bytes
  have hml : c.maxLocals = 1 := hml0
  have hown : s.vm.findClass "java/lang/StringLatin1" = some m.cls := findClass_of_methodNamed Bd.named
  have hnm := (name_of_methodNamed Bd.named Bd.method).1
  have X0 : Stand p l e rm_rmTB s m #[(.int x)] below meth c s₁ [] 0 0 := Stand.of_body Bd
  have e0 : s₁.heap = h0 := by rw [← hh, Bd.state]; rfl
  have N0 := Fr.nil n0
  have K := Keep.refl h0 []
  refine Go.step (p := p) (e := e) (below := below) (G := fun o U' => ∃ v L, o = .returned v ∧ Q_rmTB Z x h0 n0 v U'.heap L ∧ FrameEnd s o U' L rm_rmTB.cells rm_rmTB.slots) (S' := s₁.setTop (mkF m 0 #[iv x] [])) (fun t k => castTop (ef_rmTB m x) k) ?_
  refine Go.step (S' := s₁.setTop (mkF m 1 #[iv x] [(.int (1 : Int32))])) (fun t k => ?_) ?_
  · show Steps p.tables e below (s₁.setTop (mkF m 0 #[iv x] [])) _
    refine XS.iconst X0.here hx rfl (hb hby d4_0) ?_
    exact k
  obtain ⟨T1, h1, k1, X1, e1, E1, A1, st1⟩ := newP X0 hx hZ (own_w hw 25 rfl) e0 (g := (mkF m 1 #[iv x] [(.int (1 : Int32))])) rfl (hb hby d4_1) rfl (by decide) (cap := 1) (by decide) (by decide) (by decide) (by decide)
  obtain ⟨b1, g1⟩ : ∃ z, z = Array.size h0 := ⟨_, rfl⟩
  have g_b1 : n0 ≤ b1 := Nat.le_trans (old_le O) (Nat.le_of_eq g1.symm)
  have sz_b1 : h0.size ≤ b1 := Nat.le_trans K.1 (Nat.le_of_eq g1.symm)
  rw [← g1] at A1 st1
  have O := O.ext E1
  have K := K.ext E1
  have V_b1 : Arv Z h1 b1 k1 .byte (1 : Int32) [(.int (0 : Int32))] (.int (0 : Int32)) := (Arv.new A1 (by decide)).pad (pad_rep [] (.int (0 : Int32)) 1)
  refine Go.step st1 ?_
  show Go p e below _ (T1.setTop (mkF m 3 #[iv x] [(.ref b1)]))
  refine Go.step (S' := T1.setTop (mkF m 7 #[iv x] [(.int (x.toInt8.toInt32)), (.int (0 : Int32)), (.ref b1), (.ref b1)])) (fun t k => ?_) ?_
  · show Steps p.tables e below (T1.setTop (mkF m 3 #[iv x] [(.ref b1)])) _
    refine XS.dup X1.here hx rfl (hb hby d4_3) rfl rfl ?_
    show Steps p.tables e below (T1.setTop (mkF m 4 #[iv x] [(.ref b1), (.ref b1)])) _
    refine XS.iconst X1.here hx rfl (hb hby d4_4) ?_
    show Steps p.tables e below (T1.setTop (mkF m 5 #[iv x] [(.int (0 : Int32)), (.ref b1), (.ref b1)])) _
    refine XS.iloadN X1.here hx rfl (hb hby d4_5) rfl ?_
    show Steps p.tables e below (T1.setTop (mkF m 6 #[iv x] [(.int x), (.int (0 : Int32)), (.ref b1), (.ref b1)])) _
    refine XS.i2b X1.here hx rfl (hb hby d4_6) rfl ?_
    exact k
  obtain ⟨cl2, Ar2, q2, S2, N2_, H2, G2⟩ := V_b1
  have hin2 : ¬ ((0 : Int32) < 0 ∨ cl2.slots.size ≤ ((0 : Int32)).toNatClampNeg) := inb_of S2 ⟨by decide, by decide⟩
  obtain ⟨T2, h2, X2, e2, W2, st2⟩ := stB X1 hx hZ e1 Ar2 (j := (0 : Int32)) hin2 (g := (mkF m 7 #[iv x] [(.int (x.toInt8.toInt32)), (.int (0 : Int32)), (.ref b1), (.ref b1)])) rfl rfl (hb hby d4_7)
  have O := O.wr W2 g_b1
  have K := K.wr W2 (Or.inr sz_b1)
  have V_b1 : Arv Z h2 b1 k1 .byte (1 : Int32) [(.int ((x.toInt8.toInt32).toInt8.toInt32))] (.int (0 : Int32)) := Arv.set Ar2 q2 S2 N2_ H2 G2 (fits_nar_byte _) W2 0 rfl (Nat.le_of_ble_eq_true rfl)
  rw [(own_b2 x : ((x.toInt8.toInt32).toInt8.toInt32) = (x.toInt8.toInt32))] at V_b1
  have N2 := Fr.snoc X2 N0 g_b1
  refine Go.step st2 ?_
  show Go p e below _ (T2.setTop (mkF m 8 #[iv x] [(.ref b1)]))
  obtain ⟨fs, hr, hrun, hended, hW, hsame⟩ := X2.leave (v := some (.ref b1)) (fun h => by rw [Bd.returns] at h; cases h)
  refine Go.fin (S' := T2.setFrames fs) ?_ hrun hended ⟨_, _, rfl, ?_, ⟨_, rfl⟩, hW, hsame.mono (by decide) (by decide)⟩
  · exact retOut X2 hx Bd.returns rfl (Or.inr (Or.inr (Or.inr (Or.inr ⟨rfl, rfl, rfl⟩)))) (hb hby d4_8) hr
  · show Q_rmTB Z x h0 n0 (some (.ref b1)) T2.heap _
    rw [e2]
    exact ⟨b1, k1, rfl, N2, K, V_b1⟩
theorem d5_0 : decode jdk_42_method_151_code 0 = .ok (.aload_n 0, 1) := by decide +kernel
theorem d5_1 : decode jdk_42_method_151_code 1 = .ok (.invokespecial 1, 3) := by decide +kernel
theorem d5_4 : decode jdk_42_method_151_code 4 = .ok (.aload_n 0, 1) := by decide +kernel
theorem d5_5 : decode jdk_42_method_151_code 5 = .ok (.aload_n 1, 1) := by decide +kernel
theorem d5_6 : decode jdk_42_method_151_code 6 = .ok (.putfield 9, 3) := by decide +kernel
theorem d5_9 : decode jdk_42_method_151_code 9 = .ok (.aload_n 0, 1) := by decide +kernel
theorem d5_10 : decode jdk_42_method_151_code 10 = .ok (.iload_n 2, 1) := by decide +kernel
theorem d5_11 : decode jdk_42_method_151_code 11 = .ok (.putfield 15, 3) := by decide +kernel
theorem d5_14 : decode jdk_42_method_151_code 14 = .ok (.return_, 1) := by decide +kernel
theorem ef_rmSI (m : MethodId) (so : Addr) (tb : Addr) : entryFrame m #[(.ref so), (.ref tb), (.int (0 : Int32))] 3 = mkF m 0 #[.val (.ref so), .val (.ref tb), .val (.int (0 : Int32))] [] := by first | (simp [entryFrame, mkF, argsToLocals, Value.category]; done) | rfl
abbrev rm_rmSI : Room := ({ frames := 1, cells := 0, slots := 0, locals := 12 } : Room)
def Q_rmSI (Z : State) (so : Addr) (tb : Addr) (h0 : Heap) (n0 : Nat) (v : Option Value) (h : Heap) (L : List Loc) : Prop := (v = none) ∧ (Fr n0 L) ∧ (Keep h0 h [so]) ∧ (Exa Z h so "java/lang/String") ∧ (Fld Z h so "java/lang/String" "value" "[B" (.ref tb)) ∧ (Fld Z h so "java/lang/String" "coder" "B" (.int (0 : Int32)))
set_option maxRecDepth 65536 in
set_option maxHeartbeats 40000000 in
theorem rmSI (l : Launch) (Z : State) (a0 : Array Value) (hw : ∀ d ∈ tables_1, d.before a0 Z = true) (ws : List Jvm.Cond) (so : Addr) (tb : Addr) (h0 : Heap) (n0 : Nat) (O : Old Z n0 h0) (E_so : Exa Z h0 so "java/lang/String") (F_v : Fld Z h0 so "java/lang/String" "value" "[B" .null) (F_c : Fld Z h0 so "java/lang/String" "coder" "B" (.int (0 : Int32))) (g_so : n0 ≤ so) :
    MetFree l (⟨"java/lang/String", "<init>", "([BB)V"⟩ : MethodName) (head1 (Jvm.Cond.code (⟨"java/lang/String", "<init>", "([BB)V"⟩ : MethodName) jdk_42_method_151_code 3 none :: ws) rm_rmSI) (fun A_ U => A_ = #[(.ref so), (.ref tb), (.int (0 : Int32))] ∧ Z.Warmed39 U.vm ∧ U.heap = h0) (fun _ _ _ _ _ => True) (fun _ U o U' => ∃ v L, o = .returned v ∧ Q_rmSI Z so tb h0 n0 v U'.heap L ∧ FrameEnd U o U' L rm_rmSI.cells rm_rmSI.slots) := by
  refine MetFree.of_bodySF (plainFor_of_name pn_java_lang_String) hisR ?_
  intro p e s m args below meth c s₁ Bd hml0 hP hK
  obtain ⟨rfl, hZ, hh⟩ := hP
  have hx := Bd.exec
  have hby := Bd.bytes
  have hml : c.maxLocals = 3 := hml0
  have hown : s.vm.findClass "java/lang/String" = some m.cls := findClass_of_methodNamed Bd.named
  have hnm := (name_of_methodNamed Bd.named Bd.method).1
  have X0 : Stand p l e rm_rmSI s m #[(.ref so), (.ref tb), (.int (0 : Int32))] below meth c s₁ [] 0 0 := Stand.of_body Bd
  have e0 : s₁.heap = h0 := by rw [← hh, Bd.state]; rfl
  have N0 := Fr.nil n0
  have K := Keep.refl h0 [so]
  refine Go.step (p := p) (e := e) (below := below) (G := fun o U' => ∃ v L, o = .returned v ∧ Q_rmSI Z so tb h0 n0 v U'.heap L ∧ FrameEnd s o U' L rm_rmSI.cells rm_rmSI.slots) (S' := s₁.setTop (mkF m 0 #[rv so, rv tb, iv (0 : Int32)] [])) (fun t k => castTop (ef_rmSI m so tb) k) ?_
  refine Go.step (S' := s₁.setTop (mkF m 1 #[rv so, rv tb, iv (0 : Int32)] [(.ref so)])) (fun t k => ?_) ?_
  · show Steps p.tables e below (s₁.setTop (mkF m 0 #[rv so, rv tb, iv (0 : Int32)] [])) _
    refine XS.aloadN X0.here hx rfl (hb hby d5_0) rfl rfl ?_
    exact k
  obtain ⟨T1, X1, e1, st1⟩ := initO X0 hx hZ hown (own_w hw 30 rfl) (own_w hw 31 rfl) (own_w hw 32 rfl) e0 (g := (mkF m 1 #[rv so, rv tb, iv (0 : Int32)] [(.ref so)])) rfl (by rw [hml]; rfl) rfl (hb hby d5_1) (by decide) (W := 0) (by show 2 * 0 + _ ≤ _; exact Nat.le_of_eq rfl) (by decide)
  refine Go.step st1 ?_
  show Go p e below _ (T1.setTop (mkF m 4 #[rv so, rv tb, iv (0 : Int32)] []))
  refine Go.step (S' := T1.setTop (mkF m 6 #[rv so, rv tb, iv (0 : Int32)] [(.ref tb), (.ref so)])) (fun t k => ?_) ?_
  · show Steps p.tables e below (T1.setTop (mkF m 4 #[rv so, rv tb, iv (0 : Int32)] [])) _
    refine XS.aloadN X1.here hx rfl (hb hby d5_4) rfl rfl ?_
    show Steps p.tables e below (T1.setTop (mkF m 5 #[rv so, rv tb, iv (0 : Int32)] [(.ref so)])) _
    refine XS.aloadN X1.here hx rfl (hb hby d5_5) rfl rfl ?_
    exact k
  obtain ⟨T2, h2, X2, e2, W2, st2⟩ := putF X1 hx hZ hown (host := "") (Or.inl (own_w hw 33 rfl)) Via.refl e1 F_v E_so (Or.inr ⟨(own_w hw 34 rfl), rfl, hnm⟩) (own_w hw 21 rfl) (ty := (.array .byte)) (by decide) rfl rfl (g := (mkF m 6 #[rv so, rv tb, iv (0 : Int32)] [(.ref tb), (.ref so)])) rfl rfl (hb hby d5_6)
  have O := O.wr W2 g_so
  have E_so := E_so.wr W2
  have F_v := F_v.same W2
  have F_c := F_c.other W2 (Or.inr (slot_ne (Or.inr (own_w hw 36 rfl)) (Or.inr (own_w hw 34 rfl)) (by decide) (t := .byte) (t' := (.array .byte)) (by decide) (by decide)))
  have K := K.wr W2 (Or.inl (List.mem_of_getElem? (i := 0) rfl))
  have N2 := Fr.snoc X2 N0 g_so
  refine Go.step st2 ?_
  show Go p e below _ (T2.setTop (mkF m 9 #[rv so, rv tb, iv (0 : Int32)] []))
  refine Go.step (S' := T2.setTop (mkF m 11 #[rv so, rv tb, iv (0 : Int32)] [(.int (0 : Int32)), (.ref so)])) (fun t k => ?_) ?_
  · show Steps p.tables e below (T2.setTop (mkF m 9 #[rv so, rv tb, iv (0 : Int32)] [])) _
    refine XS.aloadN X2.here hx rfl (hb hby d5_9) rfl rfl ?_
    show Steps p.tables e below (T2.setTop (mkF m 10 #[rv so, rv tb, iv (0 : Int32)] [(.ref so)])) _
    refine XS.iloadN X2.here hx rfl (hb hby d5_10) rfl ?_
    exact k
  obtain ⟨T3, h3, X3, e3, W3, st3⟩ := putFN X2 hx hZ hown (own_w hw 35 rfl) Via.refl e2 F_c E_so (Or.inr ⟨(own_w hw 36 rfl), rfl, hnm⟩) (own_w hw 21 rfl) (ty := .byte) (v' := (.int (0 : Int32))) (by decide) rfl rfl (g := (mkF m 11 #[rv so, rv tb, iv (0 : Int32)] [(.int (0 : Int32)), (.ref so)])) rfl rfl (hb hby d5_11)
  have O := O.wr W3 g_so
  have E_so := E_so.wr W3
  have F_v := F_v.other W3 (Or.inr (slot_ne (Or.inr (own_w hw 34 rfl)) (Or.inr (own_w hw 36 rfl)) (by decide) (t := (.array .byte)) (t' := .byte) (by decide) (by decide)))
  have F_c := F_c.same W3
  have K := K.wr W3 (Or.inl (List.mem_of_getElem? (i := 0) rfl))
  have N3 := Fr.snoc X3 N2 g_so
  refine Go.step st3 ?_
  show Go p e below _ (T3.setTop (mkF m 14 #[rv so, rv tb, iv (0 : Int32)] []))
  obtain ⟨fs, hr, hrun, hended, hW, hsame⟩ := X3.leave (v := none) (fun _ => rfl)
  refine Go.fin (S' := T3.setFrames fs) ?_ hrun hended ⟨_, _, rfl, ?_, ⟨_, rfl⟩, hW, hsame.mono (by decide) (by decide)⟩
  · exact X3.returnOut hx Bd.returns (hb hby d5_14) hr
  · show Q_rmSI Z so tb h0 n0 (none) T3.heap _
    rw [e3]
    exact ⟨rfl, N3, K, E_so, F_v, F_c⟩
theorem d2_0 : decode jdk_42_method_139_code 0 = .ok (.getstatic 38, 3) := by decide +kernel
theorem d2_3 : decode jdk_42_method_139_code 3 = .ok (.ifCond .eq 23, 3) := by decide +kernel
theorem d2_6 : decode jdk_42_method_139_code 6 = .ok (.iload_n 0, 1) := by decide +kernel
theorem d2_7 : decode jdk_42_method_139_code 7 = .ok (.invokestatic 1015, 3) := by decide +kernel
theorem pd__28C_29Z : parseMethodDescriptor "(C)Z" = some ⟨[.char], some .boolean⟩ := by decide +kernel
theorem d2_10 : decode jdk_42_method_139_code 10 = .ok (.ifCond .eq 16, 3) := by decide +kernel
theorem d2_13 : decode jdk_42_method_139_code 13 = .ok (.new 10, 3) := by decide +kernel
theorem d2_16 : decode jdk_42_method_139_code 16 = .ok (.dup, 1) := by decide +kernel
theorem d2_17 : decode jdk_42_method_139_code 17 = .ok (.iload_n 0, 1) := by decide +kernel
theorem d2_18 : decode jdk_42_method_139_code 18 = .ok (.invokestatic 1018, 3) := by decide +kernel
theorem pd__28C_29_5bB : parseMethodDescriptor "(C)[B" = some ⟨[.char], some (.array .byte)⟩ := by decide +kernel
theorem d2_21 : decode jdk_42_method_139_code 21 = .ok (.iconst 0, 1) := by decide +kernel
theorem d2_22 : decode jdk_42_method_139_code 22 = .ok (.invokespecial 209, 3) := by decide +kernel
theorem pd__28_5bBB_29V : parseMethodDescriptor "([BB)V" = some ⟨[(.array .byte), .byte], none⟩ := by decide +kernel
theorem d2_25 : decode jdk_42_method_139_code 25 = .ok (.areturn, 1) := by decide +kernel
theorem ef_rmVal (m : MethodId) (x : Int32) : entryFrame m #[(.int x)] 1 = mkF m 0 #[.val (.int x)] [] := by first | (simp [entryFrame, mkF, argsToLocals, Value.category]; done) | rfl
abbrev rm_rmVal : Room := ({ frames := 2, cells := 2, slots := 5, locals := 27 } : Room)
def Q_rmVal (Z : State) (x : Int32) (cs : Int32) (h0 : Heap) (n0 : Nat) (v : Option Value) (h : Heap) (L : List Loc) : Prop := ∃ so : Addr, ∃ tb : Addr, ∃ kb : ClassId, (v = some (.ref so)) ∧ (Fr n0 L) ∧ (Keep h0 h []) ∧ (Exa Z h so "java/lang/String") ∧ (Fld Z h so "java/lang/String" "value" "[B" (.ref tb)) ∧ (Fld Z h so "java/lang/String" "coder" "B" (.int (0 : Int32))) ∧ (Arv Z h tb kb .byte (1 : Int32) [(.int (x.toInt8.toInt32))] (.int (0 : Int32)))
set_option maxRecDepth 65536 in
set_option maxHeartbeats 40000000 in
theorem rmVal (l : Launch) (Z : State) (a0 : Array Value) (hw : ∀ d ∈ tables_1, d.before a0 Z = true) (ws : List Jvm.Cond) (x : Int32) (cs : Int32) (h0 : Heap) (n0 : Nat) (O : Old Z n0 h0) (S_CS : Sta Z Z.heap "java/lang/String" "COMPACT_STRINGS" "Z" (.int cs)) (hcs : ¬ (cs = (0 : Int32))) (hp1 : ¬ ((255 : Int32) < x)) :
    MetFree l (⟨"java/lang/String", "valueOf", "(C)Ljava/lang/String;"⟩ : MethodName) (head1 (Jvm.Cond.code (⟨"java/lang/String", "valueOf", "(C)Ljava/lang/String;"⟩ : MethodName) jdk_42_method_139_code 1 (some (.object "java/lang/String")) :: ws) rm_rmVal) (fun A_ U => A_ = #[(.int x)] ∧ Z.Warmed39 U.vm ∧ U.heap = h0) (fun _ _ _ _ _ => True) (fun _ U o U' => ∃ v L, o = .returned v ∧ Q_rmVal Z x cs h0 n0 v U'.heap L ∧ FrameEnd U o U' L rm_rmVal.cells rm_rmVal.slots) := by
  refine MetFree.of_bodySF (plainFor_of_name pn_java_lang_String) hisR ?_
  intro p e s m args below meth c s₁ Bd hml0 hP hK
  obtain ⟨rfl, hZ, hh⟩ := hP
  have hx := Bd.exec
  have hby := Bd.bytes
  have hml : c.maxLocals = 1 := hml0
  have hown : s.vm.findClass "java/lang/String" = some m.cls := findClass_of_methodNamed Bd.named
  have hnm := (name_of_methodNamed Bd.named Bd.method).1
  have X0 : Stand p l e rm_rmVal s m #[(.int x)] below meth c s₁ [] 0 0 := Stand.of_body Bd
  have e0 : s₁.heap = h0 := by rw [← hh, Bd.state]; rfl
  have N0 := Fr.nil n0
  have K := Keep.refl h0 []
  refine Go.step (p := p) (e := e) (below := below) (G := fun o U' => ∃ v L, o = .returned v ∧ Q_rmVal Z x cs h0 n0 v U'.heap L ∧ FrameEnd s o U' L rm_rmVal.cells rm_rmVal.slots) (S' := s₁.setTop (mkF m 0 #[iv x] [])) (fun t k => castTop (ef_rmVal m x) k) ?_
  obtain ⟨T1, X1, e1, st1⟩ := getS2 X0 hx hZ hown (host := "") (Or.inl (own_w hw 15 rfl)) Via.refl e0 (S_CS.ext O.2) (g := (mkF m 0 #[iv x] [])) rfl (hb hby d2_0)
  refine Go.step st1 ?_
  show Go p e below _ (T1.setTop (mkF m 3 #[iv x] [(.int cs)]))
  refine Go.step (S' := T1.setTop (mkF m 7 #[iv x] [(.int x)])) (fun t k => ?_) ?_
  · show Steps p.tables e below (T1.setTop (mkF m 3 #[iv x] [(.int cs)])) _
    refine XS.ifNo X1.here hx rfl (hb hby d2_3) rfl ((if0 _ _).trans (feq (hcs : ¬ (cs = (0 : Int32)))).1) ?_
    show Steps p.tables e below (T1.setTop (mkF m 6 #[iv x] [])) _
    refine XS.iloadN X1.here hx rfl (hb hby d2_6) rfl ?_
    exact k
  obtain ⟨_, _, ⟨T2, L2, k2, n2⟩, -, X2, ⟨Lc2, hQ2, l2, y2, z2⟩, st2⟩ := Jvm.LawKit.callS X1 hx (y := (⟨"java/lang/StringLatin1", "canEncode", "(C)Z"⟩ : MethodName)) hown (mvT hZ (own_w hw 16 rfl)) (mvT hZ (own_w hw 17 rfl)) (mvT hZ (own_w hw 18 rfl)) (mvT hZ (own_w hw 19 rfl)) (by decide) (backOf (W := 0) (rmCan l Z a0 hw [] x h0 n0 O hp1) hZ (own_w hw 19 rfl) (own_w hw 18 rfl) (by decide) (by decide)) (g := (mkF m 7 #[iv x] [(.int x)])) rfl (by rw [hml]; rfl) (argsL := [(.int x)]) (rest := []) (lenOf pd__28C_29Z rfl) rfl (by show 2 * 0 + _ ≤ _; exact Nat.le_of_eq rfl) (hb hby d2_7) (fun _ _ => ⟨rfl, e1, (by decide : 0 + 0 ≤ _), (by decide : 0 + 0 ≤ _)⟩)
  dsimp only [Pt.U, Pt.locs, Pt.cells, Pt.slots] at X2 l2 y2 z2 st2 hQ2
  subst l2 y2 z2
  obtain ⟨rfl, Nq2, e2⟩ := hQ2
  have N2 := Fr.app N0 Nq2
  refine Go.step st2 ?_
  show Go p e below _ (T2.setTop (mkF m 10 #[iv x] [(.int (1 : Int32))]))
  refine Go.step (S' := T2.setTop (mkF m 13 #[iv x] [])) (fun t k => ?_) ?_
  · show Steps p.tables e below (T2.setTop (mkF m 10 #[iv x] [(.int (1 : Int32))])) _
    refine XS.ifNo X2.here hx rfl (hb hby d2_10) rfl ((if0 _ _).trans (feq ((by decide) : ¬ ((1 : Int32) = (0 : Int32)))).1) ?_
    exact k
  obtain ⟨T3, h3, X3, e3, E3, A3, D3, -, st3⟩ := newO X2 hx hZ hown (own_w hw 20 rfl) (own_w hw 21 rfl) (own_w hw 13 rfl) e2 (g := (mkF m 13 #[iv x] [])) rfl (hb hby d2_13) (by decide) (by decide)
  obtain ⟨b3, g3⟩ : ∃ z, z = Array.size h0 := ⟨_, rfl⟩
  have g_b3 : n0 ≤ b3 := Nat.le_trans (old_le O) (Nat.le_of_eq g3.symm)
  have sz_b3 : h0.size ≤ b3 := Nat.le_trans K.1 (Nat.le_of_eq g3.symm)
  rw [← g3] at A3 D3 st3
  have O := O.ext E3
  have K := K.ext E3
  have E_b3 := A3
  have F_value_b3 : Fld Z h3 b3 "java/lang/String" "value" "[B" .null := D3 (Or.inr (own_w hw 34 rfl)) (ty := (.array .byte)) (by decide)
  have F_coder_b3 : Fld Z h3 b3 "java/lang/String" "coder" "B" (.int (0 : Int32)) := D3 (Or.inr (own_w hw 36 rfl)) (ty := .byte) (by decide)
  refine Go.step st3 ?_
  show Go p e below _ (T3.setTop (mkF m 16 #[iv x] [(.ref b3)]))
  refine Go.step (S' := T3.setTop (mkF m 18 #[iv x] [(.int x), (.ref b3), (.ref b3)])) (fun t k => ?_) ?_
  · show Steps p.tables e below (T3.setTop (mkF m 16 #[iv x] [(.ref b3)])) _
    refine XS.dup X3.here hx rfl (hb hby d2_16) rfl rfl ?_
    show Steps p.tables e below (T3.setTop (mkF m 17 #[iv x] [(.ref b3), (.ref b3)])) _
    refine XS.iloadN X3.here hx rfl (hb hby d2_17) rfl ?_
    exact k
  obtain ⟨_, _, ⟨T4, L4, k4, n4⟩, -, X4, ⟨Lc4, hQ4, l4, y4, z4⟩, st4⟩ := Jvm.LawKit.callS X3 hx (y := (⟨"java/lang/StringLatin1", "toBytes", "(C)[B"⟩ : MethodName)) hown (mvT hZ (own_w hw 22 rfl)) (mvT hZ (own_w hw 23 rfl)) (mvT hZ (own_w hw 18 rfl)) (mvT hZ (own_w hw 24 rfl)) (by decide) (backOf (W := 2) (rmTB l Z a0 hw [] x h3 n0 O ) hZ (own_w hw 24 rfl) (own_w hw 18 rfl) (by decide) (by decide)) (g := (mkF m 18 #[iv x] [(.int x), (.ref b3), (.ref b3)])) rfl (by rw [hml]; rfl) (argsL := [(.int x)]) (rest := [(.ref b3), (.ref b3)]) (lenOf pd__28C_29_5bB rfl) rfl (by show 2 * 0 + _ ≤ _; exact Nat.le_of_eq rfl) (hb hby d2_18) (fun _ _ => ⟨rfl, e3, (by decide : 1 + 1 ≤ _), (by decide : 4 + 1 ≤ _)⟩)
  dsimp only [Pt.U, Pt.locs, Pt.cells, Pt.slots] at X4 l4 y4 z4 st4 hQ4
  subst l4 y4 z4
  obtain ⟨b_4, kb_4, rfl, Nq4, K4, P4_V⟩ := hQ4
  have N4 := Fr.app N2 Nq4
  have O := O.keep K4 all0
  have K := K.trans K4 all0
  have E_b3 := E_b3.keep K4
  have F_value_b3 := F_value_b3.keep K4 nin0
  have F_coder_b3 := F_coder_b3.keep K4 nin0
  have V_4 := P4_V
  refine Go.step st4 ?_
  show Go p e below _ (T4.setTop (mkF m 21 #[iv x] [(.ref b_4), (.ref b3), (.ref b3)]))
  refine Go.step (S' := T4.setTop (mkF m 22 #[iv x] [(.int (0 : Int32)), (.ref b_4), (.ref b3), (.ref b3)])) (fun t k => ?_) ?_
  · show Steps p.tables e below (T4.setTop (mkF m 21 #[iv x] [(.ref b_4), (.ref b3), (.ref b3)])) _
    refine XS.iconst X4.here hx rfl (hb hby d2_21) ?_
    exact k
  obtain ⟨_, _, ⟨T5, L5, k5, n5⟩, -, X5, ⟨Lc5, hQ5, l5, y5, z5⟩, st5⟩ := X4.specialBack hx (y := (⟨"java/lang/String", "<init>", "([BB)V"⟩ : MethodName)) rfl hown (mvT hZ (own_w hw 26 rfl)) (mvT hZ (own_w hw 27 rfl)) (mvT hZ (own_w hw 29 rfl)) (by decide) (backOf (W := 1) (rmSI l Z a0 hw [] b3 b_4 T4.heap n0 O E_b3 F_value_b3 F_coder_b3 (by assumption)) hZ (own_w hw 29 rfl) (own_w hw 13 rfl) (by decide) (by decide)) (g := (mkF m 22 #[iv x] [(.int (0 : Int32)), (.ref b_4), (.ref b3), (.ref b3)])) rfl (by rw [hml]; rfl) (Steps.refl _) (a := b3) (argsL := [(.ref b_4), (.int (0 : Int32))]) (rest := [(.ref b3)]) (lenOf pd__28_5bBB_29V rfl) rfl (by show 2 * 0 + _ ≤ _; exact Nat.le_of_eq rfl) (hb hby d2_22) (fun _ _ => ⟨rfl, (Eq.refl T4.heap), (by decide : 2 + 0 ≤ _), (by decide : 5 + 0 ≤ _)⟩)
  dsimp only [Pt.U, Pt.locs, Pt.cells, Pt.slots] at X5 l5 y5 z5 st5 hQ5
  subst l5 y5 z5
  obtain ⟨rfl, Nq5, K5, P5_E, P5_Fv, P5_Fc⟩ := hQ5
  have N5 := Fr.app N4 Nq5
  have ne_b_4_b3 : b_4 ≠ b3 := Ne.symm (Exa.neArv E_b3 V_4 (own_w hw 21 rfl))
  have O := O.keep K5 (allS g_b3 all0)
  have K := K.trans K5 (allS (Or.inr sz_b3) all0)
  have E_b3 := E_b3.keep K5
  have V_4 := V_4.keep K5 (ninS ne_b_4_b3 nin0)
  have E_5 := P5_E
  have Fv_5 := P5_Fv
  have Fc_5 := P5_Fc
  refine Go.step (fun t k => st5.trans k) ?_
  show Go p e below _ (T5.setTop (mkF m 25 #[iv x] [(.ref b3)]))
  obtain ⟨fs, hr, hrun, hended, hW, hsame⟩ := X5.leave (v := some (.ref b3)) (fun h => by rw [Bd.returns] at h; cases h)
  refine Go.fin (S' := T5.setFrames fs) ?_ hrun hended ⟨_, _, rfl, ?_, ⟨_, rfl⟩, hW, hsame.mono (by decide) (by decide)⟩
  · exact retOut X5 hx Bd.returns rfl (Or.inr (Or.inr (Or.inr (Or.inr ⟨rfl, rfl, rfl⟩)))) (hb hby d2_25) hr
  · show Q_rmVal Z x cs h0 n0 (some (.ref b3)) T5.heap _
    exact ⟨b3, b_4, kb_4, rfl, N5, K, E_b3, Fv_5, Fc_5, V_4⟩
theorem pn_java_lang_Record : plainName "java/lang/Record" = true := by first | (simp [plainName, overriddenIn]; done) | decide +kernel
theorem d8_0 : decode jdk_30_method_1_code 0 = .ok (.aload_n 0, 1) := by decide +kernel
theorem d8_1 : decode jdk_30_method_1_code 1 = .ok (.invokespecial 1, 3) := by decide +kernel
theorem d8_4 : decode jdk_30_method_1_code 4 = .ok (.return_, 1) := by decide +kernel
theorem ef_rmRec (m : MethodId) (a : Addr) : entryFrame m #[(.ref a)] 1 = mkF m 0 #[.val (.ref a)] [] := by first | (simp [entryFrame, mkF, argsToLocals, Value.category]; done) | rfl
abbrev rm_rmRec : Room := ({ frames := 1, cells := 0, slots := 0, locals := 12 } : Room)
def Q_rmRec (Z : State) (a : Addr) (h0 : Heap) (n0 : Nat) (v : Option Value) (h : Heap) (L : List Loc) : Prop := (v = none) ∧ (Fr n0 L) ∧ (h = h0)
set_option maxRecDepth 65536 in
set_option maxHeartbeats 40000000 in
theorem rmRec (l : Launch) (Z : State) (a0 : Array Value) (hw : ∀ d ∈ tables_1, d.before a0 Z = true) (ws : List Jvm.Cond) (a : Addr) (h0 : Heap) (n0 : Nat) (O : Old Z n0 h0) :
    MetFree l (⟨"java/lang/Record", "<init>", "()V"⟩ : MethodName) (head1 (Jvm.Cond.code (⟨"java/lang/Record", "<init>", "()V"⟩ : MethodName) jdk_30_method_1_code 1 none :: ws) rm_rmRec) (fun A_ U => A_ = #[(.ref a)] ∧ Z.Warmed39 U.vm ∧ U.heap = h0) (fun _ _ _ _ _ => True) (fun _ U o U' => ∃ v L, o = .returned v ∧ Q_rmRec Z a h0 n0 v U'.heap L ∧ FrameEnd U o U' L rm_rmRec.cells rm_rmRec.slots) := by
  refine MetFree.of_bodySF (plainFor_of_name pn_java_lang_Record) hisR ?_
  intro p e s m args below meth c s₁ Bd hml0 hP hK
  obtain ⟨rfl, hZ, hh⟩ := hP
  have hx := Bd.exec
  have hby := Bd.bytes
  have hml : c.maxLocals = 1 := hml0
  have hown : s.vm.findClass "java/lang/Record" = some m.cls := findClass_of_methodNamed Bd.named
  have hnm := (name_of_methodNamed Bd.named Bd.method).1
  have X0 : Stand p l e rm_rmRec s m #[(.ref a)] below meth c s₁ [] 0 0 := Stand.of_body Bd
  have e0 : s₁.heap = h0 := by rw [← hh, Bd.state]; rfl
  have N0 := Fr.nil n0
  refine Go.step (p := p) (e := e) (below := below) (G := fun o U' => ∃ v L, o = .returned v ∧ Q_rmRec Z a h0 n0 v U'.heap L ∧ FrameEnd s o U' L rm_rmRec.cells rm_rmRec.slots) (S' := s₁.setTop (mkF m 0 #[rv a] [])) (fun t k => castTop (ef_rmRec m a) k) ?_
  refine Go.step (S' := s₁.setTop (mkF m 1 #[rv a] [(.ref a)])) (fun t k => ?_) ?_
  · show Steps p.tables e below (s₁.setTop (mkF m 0 #[rv a] [])) _
    refine XS.aloadN X0.here hx rfl (hb hby d8_0) rfl rfl ?_
    exact k
  obtain ⟨T1, X1, e1, st1⟩ := initO X0 hx hZ hown (own_w hw 45 rfl) (own_w hw 31 rfl) (own_w hw 32 rfl) e0 (g := (mkF m 1 #[rv a] [(.ref a)])) rfl (by rw [hml]; rfl) rfl (hb hby d8_1) (by decide) (W := 0) (by show 2 * 0 + _ ≤ _; exact Nat.le_of_eq rfl) (by decide)
  refine Go.step st1 ?_
  show Go p e below _ (T1.setTop (mkF m 4 #[rv a] []))
  obtain ⟨fs, hr, hrun, hended, hW, hsame⟩ := X1.leave (v := none) (fun _ => rfl)
  refine Go.fin (S' := T1.setFrames fs) ?_ hrun hended ⟨_, _, rfl, ?_, ⟨_, rfl⟩, hW, hsame.mono (by decide) (by decide)⟩
  · exact X1.returnOut hx Bd.returns (hb hby d8_4) hr
  · show Q_rmRec Z a h0 n0 (none) T1.heap _
    rw [e1]
    exact ⟨rfl, N0, rfl⟩
theorem pn_java_util_Objects : plainName "java/util/Objects" = true := by first | (simp [plainName, overriddenIn]; done) | decide +kernel
theorem d9_0 : decode jdk_31_method_11_code 0 = .ok (.aload_n 0, 1) := by decide +kernel
theorem d9_1 : decode jdk_31_method_11_code 1 = .ok (.ifnonnull 12, 3) := by decide +kernel
theorem d9_13 : decode jdk_31_method_11_code 13 = .ok (.aload_n 0, 1) := by decide +kernel
theorem d9_14 : decode jdk_31_method_11_code 14 = .ok (.areturn, 1) := by decide +kernel
theorem ef_rmReq (m : MethodId) (a : Addr) (b : Addr) : entryFrame m #[(.ref a), (.ref b)] 2 = mkF m 0 #[.val (.ref a), .val (.ref b)] [] := by first | (simp [entryFrame, mkF, argsToLocals, Value.category]; done) | rfl
abbrev rm_rmReq : Room := ({ frames := 0, cells := 0, slots := 0, locals := 0 } : Room)
def Q_rmReq (Z : State) (a : Addr) (b : Addr) (h0 : Heap) (n0 : Nat) (v : Option Value) (h : Heap) (L : List Loc) : Prop := (v = some (.ref a)) ∧ (Fr n0 L) ∧ (h = h0)
set_option maxRecDepth 65536 in
set_option maxHeartbeats 40000000 in
theorem rmReq (l : Launch) (Z : State) (a0 : Array Value) (hw : ∀ d ∈ tables_1, d.before a0 Z = true) (ws : List Jvm.Cond) (a : Addr) (b : Addr) (h0 : Heap) (n0 : Nat) (O : Old Z n0 h0) :
    MetFree l (⟨"java/util/Objects", "requireNonNull", "(Ljava/lang/Object;Ljava/lang/String;)Ljava/lang/Object;"⟩ : MethodName) (head1 (Jvm.Cond.code (⟨"java/util/Objects", "requireNonNull", "(Ljava/lang/Object;Ljava/lang/String;)Ljava/lang/Object;"⟩ : MethodName) jdk_31_method_11_code 2 (some (.object "java/lang/Object")) :: ws) rm_rmReq) (fun A_ U => A_ = #[(.ref a), (.ref b)] ∧ Z.Warmed39 U.vm ∧ U.heap = h0) (fun _ _ _ _ _ => True) (fun _ U o U' => ∃ v L, o = .returned v ∧ Q_rmReq Z a b h0 n0 v U'.heap L ∧ FrameEnd U o U' L rm_rmReq.cells rm_rmReq.slots) := by
  refine MetFree.of_bodySF (plainFor_of_name pn_java_util_Objects) hisR ?_
  intro p e s m args below meth c s₁ Bd hml0 hP hK
  obtain ⟨rfl, hZ, hh⟩ := hP
  have hx := Bd.exec
  have hby := Bd.bytes
  have hml : c.maxLocals = 2 := hml0
  have hown : s.vm.findClass "java/util/Objects" = some m.cls := findClass_of_methodNamed Bd.named
  have hnm := (name_of_methodNamed Bd.named Bd.method).1
  have X0 : Stand p l e rm_rmReq s m #[(.ref a), (.ref b)] below meth c s₁ [] 0 0 := Stand.of_body Bd
  have e0 : s₁.heap = h0 := by rw [← hh, Bd.state]; rfl
  have N0 := Fr.nil n0
  refine Go.step (p := p) (e := e) (below := below) (G := fun o U' => ∃ v L, o = .returned v ∧ Q_rmReq Z a b h0 n0 v U'.heap L ∧ FrameEnd s o U' L rm_rmReq.cells rm_rmReq.slots) (S' := s₁.setTop (mkF m 0 #[rv a, rv b] [])) (fun t k => castTop (ef_rmReq m a b) k) ?_
  refine Go.step (S' := s₁.setTop (mkF m 14 #[rv a, rv b] [(.ref a)])) (fun t k => ?_) ?_
  · show Steps p.tables e below (s₁.setTop (mkF m 0 #[rv a, rv b] [])) _
    refine XS.aloadN X0.here hx rfl (hb hby d9_0) rfl rfl ?_
    show Steps p.tables e below (s₁.setTop (mkF m 1 #[rv a, rv b] [(.ref a)])) _
    refine XS.ifnonnullYes X0.here hx rfl (pc0 := 1) (pc' := 13) rfl (hb hby d9_1) rfl (by decide) (by decide) ?_
    show Steps p.tables e below (s₁.setTop (mkF m 13 #[rv a, rv b] [])) _
    refine XS.aloadN X0.here hx rfl (hb hby d9_13) rfl rfl ?_
    exact k
  obtain ⟨fs, hr, hrun, hended, hW, hsame⟩ := X0.leave (v := some (.ref a)) (fun h => by rw [Bd.returns] at h; cases h)
  refine Go.fin (S' := s₁.setFrames fs) ?_ hrun hended ⟨_, _, rfl, ?_, ⟨_, rfl⟩, hW, hsame.mono (by decide) (by decide)⟩
  · exact retOut X0 hx Bd.returns rfl (Or.inr (Or.inr (Or.inr (Or.inr ⟨rfl, rfl, rfl⟩)))) (hb hby d9_14) hr
  · show Q_rmReq Z a b h0 n0 (some (.ref a)) s₁.heap _
    rw [e0]
    exact ⟨rfl, N0, rfl⟩
theorem pn_com_example_tombsweep_tombsweep_model_BlobKey : plainName "com/example/tombsweep/tombsweep/model/BlobKey" = true := by first | (simp [plainName, overriddenIn]; done) | decide +kernel
theorem d18_0 : decode prog_11_method_4_code 0 = .ok (.iload_n 0, 1) := by decide +kernel
theorem d18_1 : decode prog_11_method_4_code 1 = .ok (.bipush 97, 2) := by decide +kernel
theorem d18_3 : decode prog_11_method_4_code 3 = .ok (.if_icmp .lt 9, 3) := by decide +kernel
theorem d18_6 : decode prog_11_method_4_code 6 = .ok (.iload_n 0, 1) := by decide +kernel
theorem d18_7 : decode prog_11_method_4_code 7 = .ok (.bipush 122, 2) := by decide +kernel
theorem d18_9 : decode prog_11_method_4_code 9 = .ok (.if_icmp .le 51, 3) := by decide +kernel
theorem d18_60 : decode prog_11_method_4_code 60 = .ok (.iconst 1, 1) := by decide +kernel
theorem d18_61 : decode prog_11_method_4_code 61 = .ok (.goto 4, 3) := by decide +kernel
theorem d18_65 : decode prog_11_method_4_code 65 = .ok (.ireturn, 1) := by decide +kernel
theorem ef_rmKey (m : MethodId) (x : Int32) : entryFrame m #[(.int x)] 1 = mkF m 0 #[.val (.int x)] [] := by first | (simp [entryFrame, mkF, argsToLocals, Value.category]; done) | rfl
abbrev rm_rmKey : Room := ({ frames := 0, cells := 0, slots := 0, locals := 0 } : Room)
def Q_rmKey (Z : State) (x : Int32) (h0 : Heap) (n0 : Nat) (v : Option Value) (h : Heap) (L : List Loc) : Prop := (v = some (.int (1 : Int32))) ∧ (Fr n0 L) ∧ (h = h0)
set_option maxRecDepth 65536 in
set_option maxHeartbeats 40000000 in
theorem rmKey (l : Launch) (Z : State) (a0 : Array Value) (hw : ∀ d ∈ tables_1, d.before a0 Z = true) (ws : List Jvm.Cond) (x : Int32) (h0 : Heap) (n0 : Nat) (O : Old Z n0 h0) (hp1 : ¬ (x < (97 : Int32))) (hp2 : ¬ ((122 : Int32) < x)) :
    MetFree l (⟨"com/example/tombsweep/tombsweep/model/BlobKey", "isKeyCharacter", "(C)Z"⟩ : MethodName) (head1 (Jvm.Cond.code (⟨"com/example/tombsweep/tombsweep/model/BlobKey", "isKeyCharacter", "(C)Z"⟩ : MethodName) prog_11_method_4_code 1 (some .boolean) :: ws) rm_rmKey) (fun A_ U => A_ = #[(.int x)] ∧ Z.Warmed39 U.vm ∧ U.heap = h0) (fun _ _ _ _ _ => True) (fun _ U o U' => ∃ v L, o = .returned v ∧ Q_rmKey Z x h0 n0 v U'.heap L ∧ FrameEnd U o U' L rm_rmKey.cells rm_rmKey.slots) := by
  refine MetFree.of_bodySF (plainFor_of_name pn_com_example_tombsweep_tombsweep_model_BlobKey) hisR ?_
  intro p e s m args below meth c s₁ Bd hml0 hP hK
  obtain ⟨rfl, hZ, hh⟩ := hP
  have hx := Bd.exec
  have hby := Bd.bytes
  have hml : c.maxLocals = 1 := hml0
  have hown : s.vm.findClass "com/example/tombsweep/tombsweep/model/BlobKey" = some m.cls := findClass_of_methodNamed Bd.named
  have hnm := (name_of_methodNamed Bd.named Bd.method).1
  have X0 : Stand p l e rm_rmKey s m #[(.int x)] below meth c s₁ [] 0 0 := Stand.of_body Bd
  have e0 : s₁.heap = h0 := by rw [← hh, Bd.state]; rfl
  have N0 := Fr.nil n0
  refine Go.step (p := p) (e := e) (below := below) (G := fun o U' => ∃ v L, o = .returned v ∧ Q_rmKey Z x h0 n0 v U'.heap L ∧ FrameEnd s o U' L rm_rmKey.cells rm_rmKey.slots) (S' := s₁.setTop (mkF m 0 #[iv x] [])) (fun t k => castTop (ef_rmKey m x) k) ?_
  refine Go.step (S' := s₁.setTop (mkF m 65 #[iv x] [(.int (1 : Int32))])) (fun t k => ?_) ?_
  · show Steps p.tables e below (s₁.setTop (mkF m 0 #[iv x] [])) _
    refine XS.iloadN X0.here hx rfl (hb hby d18_0) rfl ?_
    show Steps p.tables e below (s₁.setTop (mkF m 1 #[iv x] [(.int x)])) _
    refine XS.bipush X0.here hx rfl (hb hby d18_1) ?_
    show Steps p.tables e below (s₁.setTop (mkF m 3 #[iv x] [(.int (97 : Int32)), (.int x)])) _
    refine XS.icmpNo X0.here hx rfl (hb hby d18_3) rfl (flt (hp1 : ¬ (x < (97 : Int32)))).1 ?_
    show Steps p.tables e below (s₁.setTop (mkF m 6 #[iv x] [])) _
    refine XS.iloadN X0.here hx rfl (hb hby d18_6) rfl ?_
    show Steps p.tables e below (s₁.setTop (mkF m 7 #[iv x] [(.int x)])) _
    refine XS.bipush X0.here hx rfl (hb hby d18_7) ?_
    show Steps p.tables e below (s₁.setTop (mkF m 9 #[iv x] [(.int (122 : Int32)), (.int x)])) _
    refine XS.icmpYes X0.here hx rfl (pc0 := 9) (pc' := 60) rfl (hb hby d18_9) rfl (flt (hp2 : ¬ ((122 : Int32) < x))).2.2.2 (by decide) (by decide) ?_
    show Steps p.tables e below (s₁.setTop (mkF m 60 #[iv x] [])) _
    refine XS.iconst X0.here hx rfl (hb hby d18_60) ?_
    show Steps p.tables e below (s₁.setTop (mkF m 61 #[iv x] [(.int (1 : Int32))])) _
    refine XS.goto X0.here hx rfl (pc0 := 61) (pc' := 65) rfl (hb hby d18_61) (by decide) (by decide) ?_
    exact k
  obtain ⟨fs, hr, hrun, hended, hW, hsame⟩ := X0.leave (v := some (.int (1 : Int32))) (fun h => by rw [Bd.returns] at h; cases h)
  refine Go.fin (S' := s₁.setFrames fs) ?_ hrun hended ⟨_, _, rfl, ?_, ⟨_, rfl⟩, hW, hsame.mono (by decide) (by decide)⟩
  · exact retOut X0 hx Bd.returns (by decide) (Or.inl ⟨rfl, Or.inr (Or.inl rfl), _, rfl⟩) (hb hby d18_65) hr
  · show Q_rmKey Z x h0 n0 (some (.int (1 : Int32))) s₁.heap _
    rw [e0]
    exact ⟨rfl, N0, rfl⟩
theorem d7_0 : decode prog_11_method_1_code 0 = .ok (.aload_n 0, 1) := by decide +kernel
theorem d7_1 : decode prog_11_method_1_code 1 = .ok (.invokespecial 1, 3) := by decide +kernel
theorem pd__28_29V : parseMethodDescriptor "()V" = some ⟨[], none⟩ := by decide +kernel
theorem d7_4 : decode prog_11_method_1_code 4 = .ok (.aload_n 1, 1) := by decide +kernel
theorem d7_5 : decode prog_11_method_1_code 5 = .ok (.ldc 7, 2) := by decide +kernel
theorem d7_7 : decode prog_11_method_1_code 7 = .ok (.invokestatic 9, 3) := by decide +kernel
theorem pd__28Ljava_2flang_2fObject_3bLjava_2flang_2fString_3b_29Ljava_2flang_2fObject_3b : parseMethodDescriptor "(Ljava/lang/Object;Ljava/lang/String;)Ljava/lang/Object;" = some ⟨[(.object "java/lang/Object"), (.object "java/lang/String")], some (.object "java/lang/Object")⟩ := by decide +kernel
theorem d7_10 : decode prog_11_method_1_code 10 = .ok (.pop, 1) := by decide +kernel
theorem d7_11 : decode prog_11_method_1_code 11 = .ok (.aload_n 1, 1) := by decide +kernel
theorem d7_12 : decode prog_11_method_1_code 12 = .ok (.invokevirtual 15, 3) := by decide +kernel
theorem d7_15 : decode prog_11_method_1_code 15 = .ok (.ifCond .ne 13, 3) := by decide +kernel
theorem d7_18 : decode prog_11_method_1_code 18 = .ok (.aload_n 1, 1) := by decide +kernel
theorem d7_19 : decode prog_11_method_1_code 19 = .ok (.invokevirtual 21, 3) := by decide +kernel
theorem pd__28_29I : parseMethodDescriptor "()I" = some ⟨[], some .int⟩ := by decide +kernel
theorem d7_22 : decode prog_11_method_1_code 22 = .ok (.sipush 255, 3) := by decide +kernel
theorem d7_25 : decode prog_11_method_1_code 25 = .ok (.if_icmp .le 20, 3) := by decide +kernel
theorem d7_45 : decode prog_11_method_1_code 45 = .ok (.iconst 0, 1) := by decide +kernel
theorem d7_46 : decode prog_11_method_1_code 46 = .ok (.istore_n 2, 1) := by decide +kernel
theorem d7_47 : decode prog_11_method_1_code 47 = .ok (.iload_n 2, 1) := by decide +kernel
theorem d7_48 : decode prog_11_method_1_code 48 = .ok (.aload_n 1, 1) := by decide +kernel
theorem d7_49 : decode prog_11_method_1_code 49 = .ok (.invokevirtual 21, 3) := by decide +kernel
theorem d7_52 : decode prog_11_method_1_code 52 = .ok (.if_icmp .ge 53, 3) := by decide +kernel
theorem d7_55 : decode prog_11_method_1_code 55 = .ok (.aload_n 1, 1) := by decide +kernel
theorem d7_56 : decode prog_11_method_1_code 56 = .ok (.iload_n 2, 1) := by decide +kernel
theorem d7_57 : decode prog_11_method_1_code 57 = .ok (.invokevirtual 36, 3) := by decide +kernel
theorem pd__28I_29C : parseMethodDescriptor "(I)C" = some ⟨[.int], some .char⟩ := by decide +kernel
theorem d7_60 : decode prog_11_method_1_code 60 = .ok (.istore_n 3, 1) := by decide +kernel
theorem d7_61 : decode prog_11_method_1_code 61 = .ok (.iload_n 3, 1) := by decide +kernel
theorem d7_62 : decode prog_11_method_1_code 62 = .ok (.invokestatic 40, 3) := by decide +kernel
theorem d7_65 : decode prog_11_method_1_code 65 = .ok (.ifCond .ne 34, 3) := by decide +kernel
theorem d7_99 : decode prog_11_method_1_code 99 = .ok (.iinc 2 1, 3) := by decide +kernel
theorem d7_102 : decode prog_11_method_1_code 102 = .ok (.goto (-55), 3) := by decide +kernel
theorem d7_105 : decode prog_11_method_1_code 105 = .ok (.aload_n 0, 1) := by decide +kernel
theorem d7_106 : decode prog_11_method_1_code 106 = .ok (.aload_n 1, 1) := by decide +kernel
theorem d7_107 : decode prog_11_method_1_code 107 = .ok (.putfield 58, 3) := by decide +kernel
theorem d7_110 : decode prog_11_method_1_code 110 = .ok (.return_, 1) := by decide +kernel
theorem ef_rmBK (m : MethodId) (a : Addr) (so : Addr) : entryFrame m #[(.ref a), (.ref so)] 4 = mkF m 0 #[.val (.ref a), .val (.ref so), .unset, .unset] [] := by first | (simp [entryFrame, mkF, argsToLocals, Value.category]; done) | rfl
abbrev rm_rmBK : Room := ({ frames := 4, cells := 2, slots := 24, locals := 53 } : Room)
def Q_rmBK (Z : State) (a : Addr) (so : Addr) (tb : Addr) (kb : ClassId) (x0 : Int32) (cs : Int32) (sf : Value) (h0 : Heap) (n0 : Nat) (v : Option Value) (h : Heap) (L : List Loc) : Prop := (v = none) ∧ (Fr n0 L) ∧ (Keep h0 h [a]) ∧ (Exa Z h a "com/example/tombsweep/tombsweep/model/BlobKey")
set_option maxRecDepth 65536 in
set_option maxHeartbeats 40000000 in
theorem rmBK (l : Launch) (Z : State) (a0 : Array Value) (hw : ∀ d ∈ tables_1, d.before a0 Z = true) (ws : List Jvm.Cond) (a : Addr) (so : Addr) (tb : Addr) (kb : ClassId) (x0 : Int32) (cs : Int32) (sf : Value) (h0 : Heap) (n0 : Nat) (O : Old Z n0 h0) (S_CS : Sta Z Z.heap "java/lang/String" "COMPACT_STRINGS" "Z" (.int cs)) (S_FM : Sta Z Z.heap "jdk/internal/util/Preconditions" "SIOOBE_FORMATTER" "Ljava/util/function/BiFunction;" sf) (E_so : Exa Z h0 so "java/lang/String") (F_value_so : Fld Z h0 so "java/lang/String" "value" "[B" (.ref tb)) (F_coder_so : Fld Z h0 so "java/lang/String" "coder" "B" (.int (0 : Int32))) (V_tb : Arv Z h0 tb kb .byte (1 : Int32) [(.int (x0.toInt8.toInt32))] (.int (0 : Int32))) (E_a : Exa Z h0 a "com/example/tombsweep/tombsweep/model/BlobKey") (F_value_a : Fld Z h0 a "com/example/tombsweep/tombsweep/model/BlobKey" "value" "Ljava/lang/String;" .null) (g_a : n0 ≤ a) (hcs : ¬ (cs = (0 : Int32))) (hsf : sf.isRef = true) (r1 : ¬ (x0 < (97 : Int32))) (r2 : ¬ ((122 : Int32) < x0)) (r3 : ¬ (x0 < (0 : Int32))) (r4 : ¬ ((255 : Int32) < x0)) :
    MetFree l (⟨"com/example/tombsweep/tombsweep/model/BlobKey", "<init>", "(Ljava/lang/String;)V"⟩ : MethodName) (head1 (Jvm.Cond.code (⟨"com/example/tombsweep/tombsweep/model/BlobKey", "<init>", "(Ljava/lang/String;)V"⟩ : MethodName) prog_11_method_1_code 4 none :: ws) rm_rmBK) (fun A_ U => A_ = #[(.ref a), (.ref so)] ∧ Z.Warmed39 U.vm ∧ U.heap = h0) (fun _ _ _ _ _ => True) (fun _ U o U' => ∃ v L, o = .returned v ∧ Q_rmBK Z a so tb kb x0 cs sf h0 n0 v U'.heap L ∧ ReturnedEndW U o U' L rm_rmBK.cells rm_rmBK.slots) := by
  refine MetFree.of_bodySF (plainFor_of_name pn_com_example_tombsweep_tombsweep_model_BlobKey) hisR ?_
  intro p e s m args below meth c s₁ Bd hml0 hP hK
  obtain ⟨rfl, hZ, hh⟩ := hP
  have hx := Bd.exec
  have hby := Bd.bytes
  have hml : c.maxLocals = 4 := hml0
  have hown : s.vm.findClass "com/example/tombsweep/tombsweep/model/BlobKey" = some m.cls := findClass_of_methodNamed Bd.named
  have hnm := (name_of_methodNamed Bd.named Bd.method).1
  have X0 : Stand p l e rm_rmBK (s.setVm s.vm) m #[(.ref a), (.ref so)] below meth c s₁ [] 0 0 := Stand.of_body Bd
  have e0 : s₁.heap = h0 := by rw [← hh, Bd.state]; rfl
  have N0 := Fr.nil n0
  have K := Keep.refl h0 [a]
  have hS : s.Since s.vm 0 := (State.WarmedH.refl s).since 0
  have hk : 0 ≤ h0.size := Nat.zero_le _
  have wS := own_wS hw
  refine Go.step (p := p) (e := e) (below := below) (G := fun o U' => ∃ v L, o = .returned v ∧ Q_rmBK Z a so tb kb x0 cs sf h0 n0 v U'.heap L ∧ ReturnedEndW s o U' L rm_rmBK.cells rm_rmBK.slots) (S' := s₁.setTop (mkF m 0 #[rv a, rv so, u_, u_] [])) (fun t k => castTop (ef_rmBK m a so) k) ?_
  refine Go.step (S' := s₁.setTop (mkF m 1 #[rv a, rv so, u_, u_] [(.ref a)])) (fun t k => ?_) ?_
  · show Steps p.tables e below (s₁.setTop (mkF m 0 #[rv a, rv so, u_, u_] [])) _
    refine XS.aloadN X0.here hx rfl (hb hby d7_0) rfl rfl ?_
    exact k
  obtain ⟨_, _, ⟨T1, L1, k1, n1⟩, -, X1, ⟨Lc1, hQ1, l1, y1, z1⟩, st1⟩ := X0.specialBack hx (y := (⟨"java/lang/Record", "<init>", "()V"⟩ : MethodName)) rfl hown (mvT hZ (own_w hw 40 rfl)) (mvT hZ (own_w hw 41 rfl)) (mvT hZ (own_w hw 44 rfl)) (by decide) (backOf (W := 0) (rmRec l Z a0 hw [] a h0 n0 O ) hZ (own_w hw 44 rfl) (own_w hw 43 rfl) (by decide) (by decide)) (g := (mkF m 1 #[rv a, rv so, u_, u_] [(.ref a)])) rfl (by rw [hml]; rfl) (Steps.refl _) (a := a) (argsL := []) (rest := []) (lenOf pd__28_29V rfl) rfl (by show 2 * 0 + _ ≤ _; exact Nat.le_of_eq rfl) (hb hby d7_1) (fun _ _ => ⟨rfl, e0, (by decide : 0 + 0 ≤ _), (by decide : 0 + 0 ≤ _)⟩)
  dsimp only [Pt.U, Pt.locs, Pt.cells, Pt.slots] at X1 l1 y1 z1 st1 hQ1
  subst l1 y1 z1
  obtain ⟨rfl, Nq1, e1⟩ := hQ1
  have N1 := Fr.app N0 Nq1
  refine Go.step (fun t k => st1.trans k) ?_
  show Go p e below _ (T1.setTop (mkF m 4 #[rv a, rv so, u_, u_] []))
  refine Go.step (S' := T1.setTop (mkF m 5 #[rv a, rv so, u_, u_] [(.ref so)])) (fun t k => ?_) ?_
  · show Steps p.tables e below (T1.setTop (mkF m 4 #[rv a, rv so, u_, u_] [])) _
    refine XS.aloadN X1.here hx rfl (hb hby d7_4) rfl rfl ?_
    exact k
  obtain ⟨a2, T2, h2, k2, X2, e2, E2, hS, hk, hZ, hown, st2⟩ := ldcS X1 hx hZ hown (own_w hw 46 rfl) wS e1 hS hk (g := (mkF m 5 #[rv a, rv so, u_, u_] [(.ref so)])) rfl (hb hby d7_5) (n := 20) (by decide) (by decide) (by decide) (by decide)
  have O := O.ext E2
  have E_so := E_so.ext E2
  have F_value_so := F_value_so.ext E2
  have F_coder_so := F_coder_so.ext E2
  have V_tb := V_tb.ext E2
  have E_a := E_a.ext E2
  have F_value_a := F_value_a.ext E2
  have K := K.ext E2
  refine Go.step st2 ?_
  show Go p e below _ (T2.setTop (mkF m 7 #[rv a, rv so, u_, u_] [(.ref a2), (.ref so)]))
  obtain ⟨_, _, ⟨T3, L3, k3, n3⟩, -, X3, ⟨Lc3, hQ3, l3, y3, z3⟩, st3⟩ := Jvm.LawKit.callS X2 hx (y := (⟨"java/util/Objects", "requireNonNull", "(Ljava/lang/Object;Ljava/lang/String;)Ljava/lang/Object;"⟩ : MethodName)) hown (mvT hZ (own_w hw 49 rfl)) (mvT hZ (own_w hw 50 rfl)) (mvT hZ (own_w hw 51 rfl)) (mvT hZ (own_w hw 52 rfl)) (by decide) (backOf (W := 0) (rmReq l Z a0 hw [] so a2 h2 n0 O ) hZ (own_w hw 52 rfl) (own_w hw 51 rfl) (by decide) (by decide)) (g := (mkF m 7 #[rv a, rv so, u_, u_] [(.ref a2), (.ref so)])) rfl (by rw [hml]; rfl) (argsL := [(.ref so), (.ref a2)]) (rest := []) (lenOf pd__28Ljava_2flang_2fObject_3bLjava_2flang_2fString_3b_29Ljava_2flang_2fObject_3b rfl) rfl (by show 2 * 0 + _ ≤ _; exact Nat.le_of_eq rfl) (hb hby d7_7) (fun _ _ => ⟨rfl, e2, (by decide : 2 + 0 ≤ _), (by decide : 24 + 0 ≤ _)⟩)
  dsimp only [Pt.U, Pt.locs, Pt.cells, Pt.slots] at X3 l3 y3 z3 st3 hQ3
  subst l3 y3 z3
  obtain ⟨rfl, Nq3, e3⟩ := hQ3
  have N3 := Fr.app N1 Nq3
  refine Go.step st3 ?_
  show Go p e below _ (T3.setTop (mkF m 10 #[rv a, rv so, u_, u_] [(.ref so)]))
  refine Go.step (S' := T3.setTop (mkF m 12 #[rv a, rv so, u_, u_] [(.ref so)])) (fun t k => ?_) ?_
  · show Steps p.tables e below (T3.setTop (mkF m 10 #[rv a, rv so, u_, u_] [(.ref so)])) _
    refine XS.pop X3.here hx rfl (hb hby d7_10) rfl rfl ?_
    show Steps p.tables e below (T3.setTop (mkF m 11 #[rv a, rv so, u_, u_] [])) _
    refine XS.aloadN X3.here hx rfl (hb hby d7_11) rfl rfl ?_
    exact k
  obtain ⟨cq4, kq4, q4a, q4b, q4c⟩ := isOf hZ e3 E_so
  obtain ⟨_, _, ⟨T4, L4, k4, n4⟩, -, X4, ⟨Lc4, hQ4, l4, y4, z4⟩, st4⟩ := X3.virtualBack hx (y := (⟨"java/lang/String", "isEmpty", "()Z"⟩ : MethodName)) (z := (⟨"java/lang/String", "isEmpty", "()Z"⟩ : MethodName)) hown (mvT hZ (own_w hw 53 rfl)) (mvT hZ (own_w hw 54 rfl)) (notFace_of_selects (args := #[]) (mvT hZ (own_w hw 56 rfl))) (mvT hZ (own_w hw 56 rfl)) (mvT hZ (own_w hw 55 rfl)) (by decide) (backOf (W := 0) (rmEmp1 l Z a0 hw [] so tb kb x0 h2 n0 O F_value_so V_tb) hZ (own_w hw 57 rfl) (own_w hw 13 rfl) (by decide) (by decide)) q4a q4c (g := (mkF m 12 #[rv a, rv so, u_, u_] [(.ref so)])) rfl (by rw [hml]; rfl) (Steps.refl _) (argsL := []) (rest := []) (lenOf pd__28_29Z rfl) rfl (by show 2 * 0 + _ ≤ _; exact Nat.le_of_eq rfl) (hb hby d7_12) (fun _ _ => ⟨rfl, e3, (by decide : 2 + 0 ≤ _), (by decide : 24 + 0 ≤ _)⟩)
  dsimp only [Pt.U, Pt.locs, Pt.cells, Pt.slots] at X4 l4 y4 z4 st4 hQ4
  subst l4 y4 z4
  obtain ⟨rfl, Nq4, e4⟩ := hQ4
  have N4 := Fr.app N3 Nq4
  refine Go.step (fun t k => st4.trans k) ?_
  show Go p e below _ (T4.setTop (mkF m 15 #[rv a, rv so, u_, u_] [(.int (0 : Int32))]))
  refine Go.step (S' := T4.setTop (mkF m 19 #[rv a, rv so, u_, u_] [(.ref so)])) (fun t k => ?_) ?_
  · show Steps p.tables e below (T4.setTop (mkF m 15 #[rv a, rv so, u_, u_] [(.int (0 : Int32))])) _
    refine XS.ifNo X4.here hx rfl (hb hby d7_15) rfl ((if0 _ _).trans (teq ((by decide) : (0 : Int32) = (0 : Int32))).2) ?_
    show Steps p.tables e below (T4.setTop (mkF m 18 #[rv a, rv so, u_, u_] [])) _
    refine XS.aloadN X4.here hx rfl (hb hby d7_18) rfl rfl ?_
    exact k
  obtain ⟨cq5, kq5, q5a, q5b, q5c⟩ := isOf hZ e4 E_so
  obtain ⟨_, _, ⟨T5, L5, k5, n5⟩, -, X5, ⟨Lc5, hQ5, l5, y5, z5⟩, st5⟩ := X4.virtualBack hx (y := (⟨"java/lang/String", "length", "()I"⟩ : MethodName)) (z := (⟨"java/lang/String", "length", "()I"⟩ : MethodName)) hown (mvT hZ (own_w hw 58 rfl)) (mvT hZ (own_w hw 59 rfl)) (notFace_of_selects (args := #[]) (mvT hZ (own_w hw 61 rfl))) (mvT hZ (own_w hw 61 rfl)) (mvT hZ (own_w hw 60 rfl)) (by decide) (backOf (W := 0) (rmLen1 l Z a0 hw [] so tb kb x0 cs h2 n0 O S_CS E_so F_value_so F_coder_so V_tb hcs) hZ (own_w hw 62 rfl) (own_w hw 13 rfl) (by decide) (by decide)) q5a q5c (g := (mkF m 19 #[rv a, rv so, u_, u_] [(.ref so)])) rfl (by rw [hml]; rfl) (Steps.refl _) (argsL := []) (rest := []) (lenOf pd__28_29I rfl) rfl (by show 2 * 0 + _ ≤ _; exact Nat.le_of_eq rfl) (hb hby d7_19) (fun _ _ => ⟨rfl, e4, (by decide : 2 + 0 ≤ _), (by decide : 24 + 0 ≤ _)⟩)
  dsimp only [Pt.U, Pt.locs, Pt.cells, Pt.slots] at X5 l5 y5 z5 st5 hQ5
  subst l5 y5 z5
  obtain ⟨rfl, Nq5, e5⟩ := hQ5
  have N5 := Fr.app N4 Nq5
  refine Go.step (fun t k => st5.trans k) ?_
  show Go p e below _ (T5.setTop (mkF m 22 #[rv a, rv so, u_, u_] [(.int (1 : Int32))]))
  refine Go.step (S' := T5.setTop (mkF m 49 #[rv a, rv so, iv (0 : Int32), u_] [(.ref so), (.int (0 : Int32))])) (fun t k => ?_) ?_
  · show Steps p.tables e below (T5.setTop (mkF m 22 #[rv a, rv so, u_, u_] [(.int (1 : Int32))])) _
    refine XS.sipush X5.here hx rfl (hb hby d7_22) ?_
    show Steps p.tables e below (T5.setTop (mkF m 25 #[rv a, rv so, u_, u_] [(.int (255 : Int32)), (.int (1 : Int32))])) _
    refine XS.icmpYes X5.here hx rfl (pc0 := 25) (pc' := 45) rfl (hb hby d7_25) rfl (flt ((by decide) : ¬ ((255 : Int32) < (1 : Int32)))).2.2.2 (by decide) (by decide) ?_
    show Steps p.tables e below (T5.setTop (mkF m 45 #[rv a, rv so, u_, u_] [])) _
    refine XS.iconst X5.here hx rfl (hb hby d7_45) ?_
    show Steps p.tables e below (T5.setTop (mkF m 46 #[rv a, rv so, u_, u_] [(.int (0 : Int32))])) _
    refine XS.istoreN X5.here hx rfl (hb hby d7_46) rfl (l' := #[rv a, rv so, iv (0 : Int32), u_]) rfl ?_
    show Steps p.tables e below (T5.setTop (mkF m 47 #[rv a, rv so, iv (0 : Int32), u_] [])) _
    refine XS.iloadN X5.here hx rfl (hb hby d7_47) rfl ?_
    show Steps p.tables e below (T5.setTop (mkF m 48 #[rv a, rv so, iv (0 : Int32), u_] [(.int (0 : Int32))])) _
    refine XS.aloadN X5.here hx rfl (hb hby d7_48) rfl rfl ?_
    exact k
  obtain ⟨cq6, kq6, q6a, q6b, q6c⟩ := isOf hZ e5 E_so
  obtain ⟨_, _, ⟨T6, L6, k6, n6⟩, -, X6, ⟨Lc6, hQ6, l6, y6, z6⟩, st6⟩ := X5.virtualBack hx (y := (⟨"java/lang/String", "length", "()I"⟩ : MethodName)) (z := (⟨"java/lang/String", "length", "()I"⟩ : MethodName)) hown (mvT hZ (own_w hw 58 rfl)) (mvT hZ (own_w hw 59 rfl)) (notFace_of_selects (args := #[]) (mvT hZ (own_w hw 61 rfl))) (mvT hZ (own_w hw 61 rfl)) (mvT hZ (own_w hw 60 rfl)) (by decide) (backOf (W := 1) (rmLen1 l Z a0 hw [] so tb kb x0 cs h2 n0 O S_CS E_so F_value_so F_coder_so V_tb hcs) hZ (own_w hw 62 rfl) (own_w hw 13 rfl) (by decide) (by decide)) q6a q6c (g := (mkF m 49 #[rv a, rv so, iv (0 : Int32), u_] [(.ref so), (.int (0 : Int32))])) rfl (by rw [hml]; rfl) (Steps.refl _) (argsL := []) (rest := [(.int (0 : Int32))]) (lenOf pd__28_29I rfl) rfl (by show 2 * 0 + _ ≤ _; exact Nat.le_of_eq rfl) (hb hby d7_49) (fun _ _ => ⟨rfl, e5, (by decide : 2 + 0 ≤ _), (by decide : 24 + 0 ≤ _)⟩)
  dsimp only [Pt.U, Pt.locs, Pt.cells, Pt.slots] at X6 l6 y6 z6 st6 hQ6
  subst l6 y6 z6
  obtain ⟨rfl, Nq6, e6⟩ := hQ6
  have N6 := Fr.app N5 Nq6
  refine Go.step (fun t k => st6.trans k) ?_
  show Go p e below _ (T6.setTop (mkF m 52 #[rv a, rv so, iv (0 : Int32), u_] [(.int (1 : Int32)), (.int (0 : Int32))]))
  refine Go.step (S' := T6.setTop (mkF m 57 #[rv a, rv so, iv (0 : Int32), u_] [(.int (0 : Int32)), (.ref so)])) (fun t k => ?_) ?_
  · show Steps p.tables e below (T6.setTop (mkF m 52 #[rv a, rv so, iv (0 : Int32), u_] [(.int (1 : Int32)), (.int (0 : Int32))])) _
    refine XS.icmpNo X6.here hx rfl (hb hby d7_52) rfl (tlt ((by decide) : (0 : Int32) < (1 : Int32))).2.1 ?_
    show Steps p.tables e below (T6.setTop (mkF m 55 #[rv a, rv so, iv (0 : Int32), u_] [])) _
    refine XS.aloadN X6.here hx rfl (hb hby d7_55) rfl rfl ?_
    show Steps p.tables e below (T6.setTop (mkF m 56 #[rv a, rv so, iv (0 : Int32), u_] [(.ref so)])) _
    refine XS.iloadN X6.here hx rfl (hb hby d7_56) rfl ?_
    exact k
  obtain ⟨cq7, kq7, q7a, q7b, q7c⟩ := isOf hZ e6 E_so
  obtain ⟨_, _, ⟨T7, L7, k7, n7⟩, -, X7, ⟨Lc7, hQ7, l7, y7, z7⟩, st7⟩ := X6.virtualBack hx (y := (⟨"java/lang/String", "charAt", "(I)C"⟩ : MethodName)) (z := (⟨"java/lang/String", "charAt", "(I)C"⟩ : MethodName)) hown (mvT hZ (own_w hw 68 rfl)) (mvT hZ (own_w hw 69 rfl)) (notFace_of_selects (args := #[]) (mvT hZ (own_w hw 71 rfl))) (mvT hZ (own_w hw 71 rfl)) (mvT hZ (own_w hw 70 rfl)) (by decide) (backOf (W := 0) (rmCh1_0 l Z a0 hw [] so tb kb x0 cs sf h2 n0 O S_CS S_FM E_so F_value_so F_coder_so V_tb hcs hsf r3 r4) hZ (own_w hw 72 rfl) (own_w hw 13 rfl) (by decide) (by decide)) q7a q7c (g := (mkF m 57 #[rv a, rv so, iv (0 : Int32), u_] [(.int (0 : Int32)), (.ref so)])) rfl (by rw [hml]; rfl) (Steps.refl _) (argsL := [(.int (0 : Int32))]) (rest := []) (lenOf pd__28I_29C rfl) rfl (by show 2 * 0 + _ ≤ _; exact Nat.le_of_eq rfl) (hb hby d7_57) (fun _ _ => ⟨rfl, e6, (by decide : 2 + 0 ≤ _), (by decide : 24 + 0 ≤ _)⟩)
  dsimp only [Pt.U, Pt.locs, Pt.cells, Pt.slots] at X7 l7 y7 z7 st7 hQ7
  subst l7 y7 z7
  obtain ⟨rfl, Nq7, e7⟩ := hQ7
  have N7 := Fr.app N6 Nq7
  refine Go.step (fun t k => st7.trans k) ?_
  show Go p e below _ (T7.setTop (mkF m 60 #[rv a, rv so, iv (0 : Int32), u_] [(.int x0)]))
  refine Go.step (S' := T7.setTop (mkF m 62 #[rv a, rv so, iv (0 : Int32), iv x0] [(.int x0)])) (fun t k => ?_) ?_
  · show Steps p.tables e below (T7.setTop (mkF m 60 #[rv a, rv so, iv (0 : Int32), u_] [(.int x0)])) _
    refine XS.istoreN X7.here hx rfl (hb hby d7_60) rfl (l' := #[rv a, rv so, iv (0 : Int32), iv x0]) rfl ?_
    show Steps p.tables e below (T7.setTop (mkF m 61 #[rv a, rv so, iv (0 : Int32), iv x0] [])) _
    refine XS.iloadN X7.here hx rfl (hb hby d7_61) rfl ?_
    exact k
  obtain ⟨_, _, ⟨T8, L8, k8, n8⟩, -, X8, ⟨Lc8, hQ8, l8, y8, z8⟩, st8⟩ := Jvm.LawKit.callS X7 hx (y := (⟨"com/example/tombsweep/tombsweep/model/BlobKey", "isKeyCharacter", "(C)Z"⟩ : MethodName)) hown (mvT hZ (own_w hw 89 rfl)) (mvT hZ (own_w hw 90 rfl)) (mvT hZ (own_w hw 10 rfl)) (mvT hZ (own_w hw 91 rfl)) (by decide) (backOf (W := 0) (rmKey l Z a0 hw [] x0 h2 n0 O r1 r2) hZ (own_w hw 91 rfl) (own_w hw 10 rfl) (by decide) (by decide)) (g := (mkF m 62 #[rv a, rv so, iv (0 : Int32), iv x0] [(.int x0)])) rfl (by rw [hml]; rfl) (argsL := [(.int x0)]) (rest := []) (lenOf pd__28C_29Z rfl) rfl (by show 2 * 0 + _ ≤ _; exact Nat.le_of_eq rfl) (hb hby d7_62) (fun _ _ => ⟨rfl, e7, (by decide : 2 + 0 ≤ _), (by decide : 24 + 0 ≤ _)⟩)
  dsimp only [Pt.U, Pt.locs, Pt.cells, Pt.slots] at X8 l8 y8 z8 st8 hQ8
  subst l8 y8 z8
  obtain ⟨rfl, Nq8, e8⟩ := hQ8
  have N8 := Fr.app N7 Nq8
  refine Go.step st8 ?_
  show Go p e below _ (T8.setTop (mkF m 65 #[rv a, rv so, iv (0 : Int32), iv x0] [(.int (1 : Int32))]))
  refine Go.step (S' := T8.setTop (mkF m 102 #[rv a, rv so, iv ((0 : Int32) + (1 : Int32)), iv x0] [])) (fun t k => ?_) ?_
  · show Steps p.tables e below (T8.setTop (mkF m 65 #[rv a, rv so, iv (0 : Int32), iv x0] [(.int (1 : Int32))])) _
    refine XS.ifYes X8.here hx rfl (pc0 := 65) (pc' := 99) rfl (hb hby d7_65) rfl ((if0 _ _).trans (feq ((by decide) : ¬ ((1 : Int32) = (0 : Int32)))).2) (by decide) (by decide) ?_
    show Steps p.tables e below (T8.setTop (mkF m 99 #[rv a, rv so, iv (0 : Int32), iv x0] [])) _
    refine XS.iinc X8.here hx rfl (hb hby d7_99) rfl (l' := #[rv a, rv so, iv ((0 : Int32) + (1 : Int32)), iv x0]) rfl ?_
    exact k
  rw [show ((0 : Int32) + (1 : Int32)) = (1 : Int32) from by decide]
  show Go p e below _ (T8.setTop (mkF m 102 #[rv a, rv so, iv (1 : Int32), iv x0] []))
  refine Go.step (S' := T8.setTop (mkF m 49 #[rv a, rv so, iv (1 : Int32), iv x0] [(.ref so), (.int (1 : Int32))])) (fun t k => ?_) ?_
  · show Steps p.tables e below (T8.setTop (mkF m 102 #[rv a, rv so, iv (1 : Int32), iv x0] [])) _
    refine XS.goto X8.here hx rfl (pc0 := 102) (pc' := 47) rfl (hb hby d7_102) (by decide) (by decide) ?_
    show Steps p.tables e below (T8.setTop (mkF m 47 #[rv a, rv so, iv (1 : Int32), iv x0] [])) _
    refine XS.iloadN X8.here hx rfl (hb hby d7_47) rfl ?_
    show Steps p.tables e below (T8.setTop (mkF m 48 #[rv a, rv so, iv (1 : Int32), iv x0] [(.int (1 : Int32))])) _
    refine XS.aloadN X8.here hx rfl (hb hby d7_48) rfl rfl ?_
    exact k
  obtain ⟨cq9, kq9, q9a, q9b, q9c⟩ := isOf hZ e8 E_so
  obtain ⟨_, _, ⟨T9, L9, k9, n9⟩, -, X9, ⟨Lc9, hQ9, l9, y9, z9⟩, st9⟩ := X8.virtualBack hx (y := (⟨"java/lang/String", "length", "()I"⟩ : MethodName)) (z := (⟨"java/lang/String", "length", "()I"⟩ : MethodName)) hown (mvT hZ (own_w hw 58 rfl)) (mvT hZ (own_w hw 59 rfl)) (notFace_of_selects (args := #[]) (mvT hZ (own_w hw 61 rfl))) (mvT hZ (own_w hw 61 rfl)) (mvT hZ (own_w hw 60 rfl)) (by decide) (backOf (W := 1) (rmLen1 l Z a0 hw [] so tb kb x0 cs h2 n0 O S_CS E_so F_value_so F_coder_so V_tb hcs) hZ (own_w hw 62 rfl) (own_w hw 13 rfl) (by decide) (by decide)) q9a q9c (g := (mkF m 49 #[rv a, rv so, iv (1 : Int32), iv x0] [(.ref so), (.int (1 : Int32))])) rfl (by rw [hml]; rfl) (Steps.refl _) (argsL := []) (rest := [(.int (1 : Int32))]) (lenOf pd__28_29I rfl) rfl (by show 2 * 0 + _ ≤ _; exact Nat.le_of_eq rfl) (hb hby d7_49) (fun _ _ => ⟨rfl, e8, (by decide : 2 + 0 ≤ _), (by decide : 24 + 0 ≤ _)⟩)
  dsimp only [Pt.U, Pt.locs, Pt.cells, Pt.slots] at X9 l9 y9 z9 st9 hQ9
  subst l9 y9 z9
  obtain ⟨rfl, Nq9, e9⟩ := hQ9
  have N9 := Fr.app N8 Nq9
  refine Go.step (fun t k => st9.trans k) ?_
  show Go p e below _ (T9.setTop (mkF m 52 #[rv a, rv so, iv (1 : Int32), iv x0] [(.int (1 : Int32)), (.int (1 : Int32))]))
  refine Go.step (S' := T9.setTop (mkF m 107 #[rv a, rv so, iv (1 : Int32), iv x0] [(.ref so), (.ref a)])) (fun t k => ?_) ?_
  · show Steps p.tables e below (T9.setTop (mkF m 52 #[rv a, rv so, iv (1 : Int32), iv x0] [(.int (1 : Int32)), (.int (1 : Int32))])) _
    refine XS.icmpYes X9.here hx rfl (pc0 := 52) (pc' := 105) rfl (hb hby d7_52) rfl (flt ((by decide) : ¬ ((1 : Int32) < (1 : Int32)))).2.1 (by decide) (by decide) ?_
    show Steps p.tables e below (T9.setTop (mkF m 105 #[rv a, rv so, iv (1 : Int32), iv x0] [])) _
    refine XS.aloadN X9.here hx rfl (hb hby d7_105) rfl rfl ?_
    show Steps p.tables e below (T9.setTop (mkF m 106 #[rv a, rv so, iv (1 : Int32), iv x0] [(.ref a)])) _
    refine XS.aloadN X9.here hx rfl (hb hby d7_106) rfl rfl ?_
    exact k
  obtain ⟨T10, h10, X10, e10, W10, st10⟩ := putF X9 hx hZ hown (host := "") (Or.inl (own_w hw 92 rfl)) Via.refl e9 F_value_a E_a (Or.inr ⟨(own_w hw 93 rfl), rfl, hnm⟩) (own_w hw 9 rfl) (ty := (.object "java/lang/String")) (by decide) rfl rfl (g := (mkF m 107 #[rv a, rv so, iv (1 : Int32), iv x0] [(.ref so), (.ref a)])) rfl rfl (hb hby d7_107)
  have ne_so_a : so ≠ a := ne_exa E_so E_a (by decide)
  have ne_tb_a : tb ≠ a := Ne.symm (Exa.neArv E_a V_tb (own_w hw 9 rfl))
  have O := O.wr W10 g_a
  have E_so := E_so.wr W10
  have F_value_so := F_value_so.other W10 (Or.inl ne_so_a)
  have F_coder_so := F_coder_so.other W10 (Or.inl ne_so_a)
  have V_tb := V_tb.other W10 ne_tb_a
  have E_a := E_a.wr W10
  have F_value_a := F_value_a.same W10
  have K := K.wr W10 (Or.inl (List.mem_of_getElem? (i := 0) rfl))
  have hk := Nat.le_trans hk (Keep.of_wr W10).1
  have N10 := Fr.snoc X10 N9 g_a
  refine Go.step st10 ?_
  show Go p e below _ (T10.setTop (mkF m 110 #[rv a, rv so, iv (1 : Int32), iv x0] []))
  obtain ⟨fs, hr, hrun, hended, hR⟩ := X10.leaveW hS (by rw [e10]; exact hk) (v := none) (fun _ => rfl)
  refine Go.fin (S' := T10.setFrames fs) ?_ hrun hended ⟨_, _, rfl, ?_, hR.1, hR.2.1, hR.2.2.1, hR.2.2.2.mono (by decide) (by decide)⟩
  · exact X10.returnOut hx Bd.returns (hb hby d7_110) hr
  · show Q_rmBK Z a so tb kb x0 cs sf h0 n0 (none) T10.heap _
    rw [e10]
    exact ⟨rfl, N10, K, E_a⟩
theorem pn_com_example_tombsweep_tombsweep_io_RecordHeader : plainName "com/example/tombsweep/tombsweep/io/RecordHeader" = true := by first | (simp [plainName, overriddenIn]; done) | decide +kernel
theorem d19_0 : decode prog_5_method_1_code 0 = .ok (.aload_n 0, 1) := by decide +kernel
theorem d19_1 : decode prog_5_method_1_code 1 = .ok (.invokespecial 5, 3) := by decide +kernel
theorem d19_4 : decode prog_5_method_1_code 4 = .ok (.aload_n 0, 1) := by decide +kernel
theorem d19_5 : decode prog_5_method_1_code 5 = .ok (.aload_n 1, 1) := by decide +kernel
theorem d19_6 : decode prog_5_method_1_code 6 = .ok (.putfield 11, 3) := by decide +kernel
theorem d19_9 : decode prog_5_method_1_code 9 = .ok (.aload_n 0, 1) := by decide +kernel
theorem d19_10 : decode prog_5_method_1_code 10 = .ok (.aload_n 2, 1) := by decide +kernel
theorem d19_11 : decode prog_5_method_1_code 11 = .ok (.putfield 15, 3) := by decide +kernel
theorem d19_14 : decode prog_5_method_1_code 14 = .ok (.aload_n 0, 1) := by decide +kernel
theorem d19_15 : decode prog_5_method_1_code 15 = .ok (.iload_n 3, 1) := by decide +kernel
theorem d19_16 : decode prog_5_method_1_code 16 = .ok (.putfield 19, 3) := by decide +kernel
theorem d19_19 : decode prog_5_method_1_code 19 = .ok (.aload_n 0, 1) := by decide +kernel
theorem d19_20 : decode prog_5_method_1_code 20 = .ok (.lload 4, 2) := by decide +kernel
theorem d19_22 : decode prog_5_method_1_code 22 = .ok (.putfield 23, 3) := by decide +kernel
theorem d19_25 : decode prog_5_method_1_code 25 = .ok (.aload_n 0, 1) := by decide +kernel
theorem d19_26 : decode prog_5_method_1_code 26 = .ok (.lload 6, 2) := by decide +kernel
theorem d19_28 : decode prog_5_method_1_code 28 = .ok (.putfield 27, 3) := by decide +kernel
theorem d19_31 : decode prog_5_method_1_code 31 = .ok (.aload_n 0, 1) := by decide +kernel
theorem d19_32 : decode prog_5_method_1_code 32 = .ok (.lload 8, 2) := by decide +kernel
theorem d19_34 : decode prog_5_method_1_code 34 = .ok (.putfield 30, 3) := by decide +kernel
theorem d19_37 : decode prog_5_method_1_code 37 = .ok (.aload_n 0, 1) := by decide +kernel
theorem d19_38 : decode prog_5_method_1_code 38 = .ok (.iload 10, 2) := by decide +kernel
theorem d19_40 : decode prog_5_method_1_code 40 = .ok (.putfield 33, 3) := by decide +kernel
theorem d19_43 : decode prog_5_method_1_code 43 = .ok (.aload_n 0, 1) := by decide +kernel
theorem d19_44 : decode prog_5_method_1_code 44 = .ok (.iload 11, 2) := by decide +kernel
theorem d19_46 : decode prog_5_method_1_code 46 = .ok (.putfield 36, 3) := by decide +kernel
theorem d19_49 : decode prog_5_method_1_code 49 = .ok (.return_, 1) := by decide +kernel
theorem ef_rmRH (m : MethodId) (a : Addr) (ki : Addr) (ke : Addr) (m1 : Int32) (q1 : Int64) (q2 : Int64) (q3 : Int64) (m2 : Int32) (m3 : Int32) : entryFrame m #[(.ref a), (.ref ki), (.ref ke), (.int m1), (.long q1), (.long q2), (.long q3), (.int m2), (.int m3)] 12 = mkF m 0 #[.val (.ref a), .val (.ref ki), .val (.ref ke), .val (.int m1), .val (.long q1), .second, .val (.long q2), .second, .val (.long q3), .second, .val (.int m2), .val (.int m3)] [] := by first | (simp [entryFrame, mkF, argsToLocals, Value.category]; done) | rfl
abbrev rm_rmRH : Room := ({ frames := 2, cells := 0, slots := 0, locals := 24 } : Room)
def Q_rmRH (Z : State) (a : Addr) (ki : Addr) (ke : Addr) (m1 : Int32) (q1 : Int64) (q2 : Int64) (q3 : Int64) (m2 : Int32) (m3 : Int32) (h0 : Heap) (n0 : Nat) (v : Option Value) (h : Heap) (L : List Loc) : Prop := (v = none) ∧ (Fr n0 L) ∧ (Keep h0 h [a]) ∧ (Exa Z h a "com/example/tombsweep/tombsweep/io/RecordHeader") ∧ (Fld Z h a "com/example/tombsweep/tombsweep/io/RecordHeader" "kind" "Lcom/example/tombsweep/tombsweep/io/RecordHeader$Kind;" (.ref ki)) ∧ (Fld Z h a "com/example/tombsweep/tombsweep/io/RecordHeader" "key" "Lcom/example/tombsweep/tombsweep/model/BlobKey;" (.ref ke)) ∧ (Fld Z h a "com/example/tombsweep/tombsweep/io/RecordHeader" "metadataLength" "I" (.int m1)) ∧ (Fld Z h a "com/example/tombsweep/tombsweep/io/RecordHeader" "sequence" "J" (.long q1)) ∧ (Fld Z h a "com/example/tombsweep/tombsweep/io/RecordHeader" "time" "J" (.long q2)) ∧ (Fld Z h a "com/example/tombsweep/tombsweep/io/RecordHeader" "contentLength" "J" (.long q3)) ∧ (Fld Z h a "com/example/tombsweep/tombsweep/io/RecordHeader" "contentCheck" "I" (.int m2)) ∧ (Fld Z h a "com/example/tombsweep/tombsweep/io/RecordHeader" "metadataCheck" "I" (.int m3))
set_option maxRecDepth 65536 in
set_option maxHeartbeats 40000000 in
theorem rmRH (l : Launch) (Z : State) (a0 : Array Value) (hw : ∀ d ∈ tables_1, d.before a0 Z = true) (ws : List Jvm.Cond) (a : Addr) (ki : Addr) (ke : Addr) (m1 : Int32) (q1 : Int64) (q2 : Int64) (q3 : Int64) (m2 : Int32) (m3 : Int32) (h0 : Heap) (n0 : Nat) (O : Old Z n0 h0) (E_a : Exa Z h0 a "com/example/tombsweep/tombsweep/io/RecordHeader") (F_kind : Fld Z h0 a "com/example/tombsweep/tombsweep/io/RecordHeader" "kind" "Lcom/example/tombsweep/tombsweep/io/RecordHeader$Kind;" .null) (F_key : Fld Z h0 a "com/example/tombsweep/tombsweep/io/RecordHeader" "key" "Lcom/example/tombsweep/tombsweep/model/BlobKey;" .null) (F_metadataLength : Fld Z h0 a "com/example/tombsweep/tombsweep/io/RecordHeader" "metadataLength" "I" (.int (0 : Int32))) (F_sequence : Fld Z h0 a "com/example/tombsweep/tombsweep/io/RecordHeader" "sequence" "J" (.long (0 : Int64))) (F_time : Fld Z h0 a "com/example/tombsweep/tombsweep/io/RecordHeader" "time" "J" (.long (0 : Int64))) (F_contentLength : Fld Z h0 a "com/example/tombsweep/tombsweep/io/RecordHeader" "contentLength" "J" (.long (0 : Int64))) (F_contentCheck : Fld Z h0 a "com/example/tombsweep/tombsweep/io/RecordHeader" "contentCheck" "I" (.int (0 : Int32))) (F_metadataCheck : Fld Z h0 a "com/example/tombsweep/tombsweep/io/RecordHeader" "metadataCheck" "I" (.int (0 : Int32))) (g_a : n0 ≤ a) :
    MetFree l (⟨"com/example/tombsweep/tombsweep/io/RecordHeader", "<init>", "(Lcom/example/tombsweep/tombsweep/io/RecordHeader$Kind;Lcom/example/tombsweep/tombsweep/model/BlobKey;IJJJII)V"⟩ : MethodName) (head1 (Jvm.Cond.code (⟨"com/example/tombsweep/tombsweep/io/RecordHeader", "<init>", "(Lcom/example/tombsweep/tombsweep/io/RecordHeader$Kind;Lcom/example/tombsweep/tombsweep/model/BlobKey;IJJJII)V"⟩ : MethodName) prog_5_method_1_code 12 none :: ws) rm_rmRH) (fun A_ U => A_ = #[(.ref a), (.ref ki), (.ref ke), (.int m1), (.long q1), (.long q2), (.long q3), (.int m2), (.int m3)] ∧ Z.Warmed39 U.vm ∧ U.heap = h0) (fun _ _ _ _ _ => True) (fun _ U o U' => ∃ v L, o = .returned v ∧ Q_rmRH Z a ki ke m1 q1 q2 q3 m2 m3 h0 n0 v U'.heap L ∧ FrameEnd U o U' L rm_rmRH.cells rm_rmRH.slots) := by
  refine MetFree.of_bodySF (plainFor_of_name pn_com_example_tombsweep_tombsweep_io_RecordHeader) hisR ?_
  intro p e s m args below meth c s₁ Bd hml0 hP hK
  obtain ⟨rfl, hZ, hh⟩ := hP
  have hx := Bd.exec
  have hby := Bd.bytes
  have hml : c.maxLocals = 12 := hml0
  have hown : s.vm.findClass "com/example/tombsweep/tombsweep/io/RecordHeader" = some m.cls := findClass_of_methodNamed Bd.named
  have hnm := (name_of_methodNamed Bd.named Bd.method).1
  have X0 : Stand p l e rm_rmRH s m #[(.ref a), (.ref ki), (.ref ke), (.int m1), (.long q1), (.long q2), (.long q3), (.int m2), (.int m3)] below meth c s₁ [] 0 0 := Stand.of_body Bd
  have e0 : s₁.heap = h0 := by rw [← hh, Bd.state]; rfl
  have N0 := Fr.nil n0
  have K := Keep.refl h0 [a]
  refine Go.step (p := p) (e := e) (below := below) (G := fun o U' => ∃ v L, o = .returned v ∧ Q_rmRH Z a ki ke m1 q1 q2 q3 m2 m3 h0 n0 v U'.heap L ∧ FrameEnd s o U' L rm_rmRH.cells rm_rmRH.slots) (S' := s₁.setTop (mkF m 0 #[rv a, rv ki, rv ke, iv m1, lv q1, .second, lv q2, .second, lv q3, .second, iv m2, iv m3] [])) (fun t k => castTop (ef_rmRH m a ki ke m1 q1 q2 q3 m2 m3) k) ?_
  refine Go.step (S' := s₁.setTop (mkF m 1 #[rv a, rv ki, rv ke, iv m1, lv q1, .second, lv q2, .second, lv q3, .second, iv m2, iv m3] [(.ref a)])) (fun t k => ?_) ?_
  · show Steps p.tables e below (s₁.setTop (mkF m 0 #[rv a, rv ki, rv ke, iv m1, lv q1, .second, lv q2, .second, lv q3, .second, iv m2, iv m3] [])) _
    refine XS.aloadN X0.here hx rfl (hb hby d19_0) rfl rfl ?_
    exact k
  obtain ⟨_, _, ⟨T1, L1, k1, n1⟩, -, X1, ⟨Lc1, hQ1, l1, y1, z1⟩, st1⟩ := X0.specialBack hx (y := (⟨"java/lang/Record", "<init>", "()V"⟩ : MethodName)) rfl hown (mvT hZ (own_w hw 100 rfl)) (mvT hZ (own_w hw 41 rfl)) (mvT hZ (own_w hw 44 rfl)) (by decide) (backOf (W := 0) (rmRec l Z a0 hw [] a h0 n0 O ) hZ (own_w hw 44 rfl) (own_w hw 43 rfl) (by decide) (by decide)) (g := (mkF m 1 #[rv a, rv ki, rv ke, iv m1, lv q1, .second, lv q2, .second, lv q3, .second, iv m2, iv m3] [(.ref a)])) rfl (by rw [hml]; rfl) (Steps.refl _) (a := a) (argsL := []) (rest := []) (lenOf pd__28_29V rfl) rfl (by show 2 * 0 + _ ≤ _; exact Nat.le_of_eq rfl) (hb hby d19_1) (fun _ _ => ⟨rfl, e0, (by decide : 0 + 0 ≤ _), (by decide : 0 + 0 ≤ _)⟩)
  dsimp only [Pt.U, Pt.locs, Pt.cells, Pt.slots] at X1 l1 y1 z1 st1 hQ1
  subst l1 y1 z1
  obtain ⟨rfl, Nq1, e1⟩ := hQ1
  have N1 := Fr.app N0 Nq1
  refine Go.step (fun t k => st1.trans k) ?_
  show Go p e below _ (T1.setTop (mkF m 4 #[rv a, rv ki, rv ke, iv m1, lv q1, .second, lv q2, .second, lv q3, .second, iv m2, iv m3] []))
  refine Go.step (S' := T1.setTop (mkF m 6 #[rv a, rv ki, rv ke, iv m1, lv q1, .second, lv q2, .second, lv q3, .second, iv m2, iv m3] [(.ref ki), (.ref a)])) (fun t k => ?_) ?_
  · show Steps p.tables e below (T1.setTop (mkF m 4 #[rv a, rv ki, rv ke, iv m1, lv q1, .second, lv q2, .second, lv q3, .second, iv m2, iv m3] [])) _
    refine XS.aloadN X1.here hx rfl (hb hby d19_4) rfl rfl ?_
    show Steps p.tables e below (T1.setTop (mkF m 5 #[rv a, rv ki, rv ke, iv m1, lv q1, .second, lv q2, .second, lv q3, .second, iv m2, iv m3] [(.ref a)])) _
    refine XS.aloadN X1.here hx rfl (hb hby d19_5) rfl rfl ?_
    exact k
  obtain ⟨T2, h2, X2, e2, W2, st2⟩ := putF X1 hx hZ hown (host := "") (Or.inl (own_w hw 101 rfl)) Via.refl e1 F_kind E_a (Or.inr ⟨(own_w hw 102 rfl), rfl, hnm⟩) (own_w hw 95 rfl) (ty := (.object "com/example/tombsweep/tombsweep/io/RecordHeader$Kind")) (by decide) rfl rfl (g := (mkF m 6 #[rv a, rv ki, rv ke, iv m1, lv q1, .second, lv q2, .second, lv q3, .second, iv m2, iv m3] [(.ref ki), (.ref a)])) rfl rfl (hb hby d19_6)
  have O := O.wr W2 g_a
  have E_a := E_a.wr W2
  have F_kind := F_kind.same W2
  have F_key := F_key.other W2 (Or.inr (slot_ne (Or.inr (own_w hw 104 rfl)) (Or.inr (own_w hw 102 rfl)) (by decide) (t := (.object "com/example/tombsweep/tombsweep/model/BlobKey")) (t' := (.object "com/example/tombsweep/tombsweep/io/RecordHeader$Kind")) (by decide) (by decide)))
  have F_metadataLength := F_metadataLength.other W2 (Or.inr (slot_ne (Or.inr (own_w hw 106 rfl)) (Or.inr (own_w hw 102 rfl)) (by decide) (t := .int) (t' := (.object "com/example/tombsweep/tombsweep/io/RecordHeader$Kind")) (by decide) (by decide)))
  have F_sequence := F_sequence.other W2 (Or.inr (slot_ne (Or.inr (own_w hw 108 rfl)) (Or.inr (own_w hw 102 rfl)) (by decide) (t := .long) (t' := (.object "com/example/tombsweep/tombsweep/io/RecordHeader$Kind")) (by decide) (by decide)))
  have F_time := F_time.other W2 (Or.inr (slot_ne (Or.inr (own_w hw 110 rfl)) (Or.inr (own_w hw 102 rfl)) (by decide) (t := .long) (t' := (.object "com/example/tombsweep/tombsweep/io/RecordHeader$Kind")) (by decide) (by decide)))
  have F_contentLength := F_contentLength.other W2 (Or.inr (slot_ne (Or.inr (own_w hw 112 rfl)) (Or.inr (own_w hw 102 rfl)) (by decide) (t := .long) (t' := (.object "com/example/tombsweep/tombsweep/io/RecordHeader$Kind")) (by decide) (by decide)))
  have F_contentCheck := F_contentCheck.other W2 (Or.inr (slot_ne (Or.inr (own_w hw 114 rfl)) (Or.inr (own_w hw 102 rfl)) (by decide) (t := .int) (t' := (.object "com/example/tombsweep/tombsweep/io/RecordHeader$Kind")) (by decide) (by decide)))
  have F_metadataCheck := F_metadataCheck.other W2 (Or.inr (slot_ne (Or.inr (own_w hw 116 rfl)) (Or.inr (own_w hw 102 rfl)) (by decide) (t := .int) (t' := (.object "com/example/tombsweep/tombsweep/io/RecordHeader$Kind")) (by decide) (by decide)))
  have K := K.wr W2 (Or.inl (List.mem_of_getElem? (i := 0) rfl))
  have N2 := Fr.snoc X2 N1 g_a
  refine Go.step st2 ?_
  show Go p e below _ (T2.setTop (mkF m 9 #[rv a, rv ki, rv ke, iv m1, lv q1, .second, lv q2, .second, lv q3, .second, iv m2, iv m3] []))
  refine Go.step (S' := T2.setTop (mkF m 11 #[rv a, rv ki, rv ke, iv m1, lv q1, .second, lv q2, .second, lv q3, .second, iv m2, iv m3] [(.ref ke), (.ref a)])) (fun t k => ?_) ?_
  · show Steps p.tables e below (T2.setTop (mkF m 9 #[rv a, rv ki, rv ke, iv m1, lv q1, .second, lv q2, .second, lv q3, .second, iv m2, iv m3] [])) _
    refine XS.aloadN X2.here hx rfl (hb hby d19_9) rfl rfl ?_
    show Steps p.tables e below (T2.setTop (mkF m 10 #[rv a, rv ki, rv ke, iv m1, lv q1, .second, lv q2, .second, lv q3, .second, iv m2, iv m3] [(.ref a)])) _
    refine XS.aloadN X2.here hx rfl (hb hby d19_10) rfl rfl ?_
    exact k
  obtain ⟨T3, h3, X3, e3, W3, st3⟩ := putF X2 hx hZ hown (host := "") (Or.inl (own_w hw 103 rfl)) Via.refl e2 F_key E_a (Or.inr ⟨(own_w hw 104 rfl), rfl, hnm⟩) (own_w hw 95 rfl) (ty := (.object "com/example/tombsweep/tombsweep/model/BlobKey")) (by decide) rfl rfl (g := (mkF m 11 #[rv a, rv ki, rv ke, iv m1, lv q1, .second, lv q2, .second, lv q3, .second, iv m2, iv m3] [(.ref ke), (.ref a)])) rfl rfl (hb hby d19_11)
  have O := O.wr W3 g_a
  have E_a := E_a.wr W3
  have F_kind := F_kind.other W3 (Or.inr (slot_ne (Or.inr (own_w hw 102 rfl)) (Or.inr (own_w hw 104 rfl)) (by decide) (t := (.object "com/example/tombsweep/tombsweep/io/RecordHeader$Kind")) (t' := (.object "com/example/tombsweep/tombsweep/model/BlobKey")) (by decide) (by decide)))
  have F_key := F_key.same W3
  have F_metadataLength := F_metadataLength.other W3 (Or.inr (slot_ne (Or.inr (own_w hw 106 rfl)) (Or.inr (own_w hw 104 rfl)) (by decide) (t := .int) (t' := (.object "com/example/tombsweep/tombsweep/model/BlobKey")) (by decide) (by decide)))
  have F_sequence := F_sequence.other W3 (Or.inr (slot_ne (Or.inr (own_w hw 108 rfl)) (Or.inr (own_w hw 104 rfl)) (by decide) (t := .long) (t' := (.object "com/example/tombsweep/tombsweep/model/BlobKey")) (by decide) (by decide)))
  have F_time := F_time.other W3 (Or.inr (slot_ne (Or.inr (own_w hw 110 rfl)) (Or.inr (own_w hw 104 rfl)) (by decide) (t := .long) (t' := (.object "com/example/tombsweep/tombsweep/model/BlobKey")) (by decide) (by decide)))
  have F_contentLength := F_contentLength.other W3 (Or.inr (slot_ne (Or.inr (own_w hw 112 rfl)) (Or.inr (own_w hw 104 rfl)) (by decide) (t := .long) (t' := (.object "com/example/tombsweep/tombsweep/model/BlobKey")) (by decide) (by decide)))
  have F_contentCheck := F_contentCheck.other W3 (Or.inr (slot_ne (Or.inr (own_w hw 114 rfl)) (Or.inr (own_w hw 104 rfl)) (by decide) (t := .int) (t' := (.object "com/example/tombsweep/tombsweep/model/BlobKey")) (by decide) (by decide)))
  have F_metadataCheck := F_metadataCheck.other W3 (Or.inr (slot_ne (Or.inr (own_w hw 116 rfl)) (Or.inr (own_w hw 104 rfl)) (by decide) (t := .int) (t' := (.object "com/example/tombsweep/tombsweep/model/BlobKey")) (by decide) (by decide)))
  have K := K.wr W3 (Or.inl (List.mem_of_getElem? (i := 0) rfl))
  have N3 := Fr.snoc X3 N2 g_a
  refine Go.step st3 ?_
  show Go p e below _ (T3.setTop (mkF m 14 #[rv a, rv ki, rv ke, iv m1, lv q1, .second, lv q2, .second, lv q3, .second, iv m2, iv m3] []))
  refine Go.step (S' := T3.setTop (mkF m 16 #[rv a, rv ki, rv ke, iv m1, lv q1, .second, lv q2, .second, lv q3, .second, iv m2, iv m3] [(.int m1), (.ref a)])) (fun t k => ?_) ?_
  · show Steps p.tables e below (T3.setTop (mkF m 14 #[rv a, rv ki, rv ke, iv m1, lv q1, .second, lv q2, .second, lv q3, .second, iv m2, iv m3] [])) _
    refine XS.aloadN X3.here hx rfl (hb hby d19_14) rfl rfl ?_
    show Steps p.tables e below (T3.setTop (mkF m 15 #[rv a, rv ki, rv ke, iv m1, lv q1, .second, lv q2, .second, lv q3, .second, iv m2, iv m3] [(.ref a)])) _
    refine XS.iloadN X3.here hx rfl (hb hby d19_15) rfl ?_
    exact k
  obtain ⟨T4, h4, X4, e4, W4, st4⟩ := putF X3 hx hZ hown (host := "") (Or.inl (own_w hw 105 rfl)) Via.refl e3 F_metadataLength E_a (Or.inr ⟨(own_w hw 106 rfl), rfl, hnm⟩) (own_w hw 95 rfl) (ty := .int) (by decide) rfl rfl (g := (mkF m 16 #[rv a, rv ki, rv ke, iv m1, lv q1, .second, lv q2, .second, lv q3, .second, iv m2, iv m3] [(.int m1), (.ref a)])) rfl rfl (hb hby d19_16)
  have O := O.wr W4 g_a
  have E_a := E_a.wr W4
  have F_kind := F_kind.other W4 (Or.inr (slot_ne (Or.inr (own_w hw 102 rfl)) (Or.inr (own_w hw 106 rfl)) (by decide) (t := (.object "com/example/tombsweep/tombsweep/io/RecordHeader$Kind")) (t' := .int) (by decide) (by decide)))
  have F_key := F_key.other W4 (Or.inr (slot_ne (Or.inr (own_w hw 104 rfl)) (Or.inr (own_w hw 106 rfl)) (by decide) (t := (.object "com/example/tombsweep/tombsweep/model/BlobKey")) (t' := .int) (by decide) (by decide)))
  have F_metadataLength := F_metadataLength.same W4
  have F_sequence := F_sequence.other W4 (Or.inr (slot_ne (Or.inr (own_w hw 108 rfl)) (Or.inr (own_w hw 106 rfl)) (by decide) (t := .long) (t' := .int) (by decide) (by decide)))
  have F_time := F_time.other W4 (Or.inr (slot_ne (Or.inr (own_w hw 110 rfl)) (Or.inr (own_w hw 106 rfl)) (by decide) (t := .long) (t' := .int) (by decide) (by decide)))
  have F_contentLength := F_contentLength.other W4 (Or.inr (slot_ne (Or.inr (own_w hw 112 rfl)) (Or.inr (own_w hw 106 rfl)) (by decide) (t := .long) (t' := .int) (by decide) (by decide)))
  have F_contentCheck := F_contentCheck.other W4 (Or.inr (slot_ne (Or.inr (own_w hw 114 rfl)) (Or.inr (own_w hw 106 rfl)) (by decide) (t := .int) (t' := .int) (by decide) (by decide)))
  have F_metadataCheck := F_metadataCheck.other W4 (Or.inr (slot_ne (Or.inr (own_w hw 116 rfl)) (Or.inr (own_w hw 106 rfl)) (by decide) (t := .int) (t' := .int) (by decide) (by decide)))
  have K := K.wr W4 (Or.inl (List.mem_of_getElem? (i := 0) rfl))
  have N4 := Fr.snoc X4 N3 g_a
  refine Go.step st4 ?_
  show Go p e below _ (T4.setTop (mkF m 19 #[rv a, rv ki, rv ke, iv m1, lv q1, .second, lv q2, .second, lv q3, .second, iv m2, iv m3] []))
  refine Go.step (S' := T4.setTop (mkF m 22 #[rv a, rv ki, rv ke, iv m1, lv q1, .second, lv q2, .second, lv q3, .second, iv m2, iv m3] [(.long q1), (.ref a)])) (fun t k => ?_) ?_
  · show Steps p.tables e below (T4.setTop (mkF m 19 #[rv a, rv ki, rv ke, iv m1, lv q1, .second, lv q2, .second, lv q3, .second, iv m2, iv m3] [])) _
    refine XS.aloadN X4.here hx rfl (hb hby d19_19) rfl rfl ?_
    show Steps p.tables e below (T4.setTop (mkF m 20 #[rv a, rv ki, rv ke, iv m1, lv q1, .second, lv q2, .second, lv q3, .second, iv m2, iv m3] [(.ref a)])) _
    refine XS.lload X4.here hx rfl (hb hby d19_20) rfl ?_
    exact k
  obtain ⟨T5, h5, X5, e5, W5, st5⟩ := putF X4 hx hZ hown (host := "") (Or.inl (own_w hw 107 rfl)) Via.refl e4 F_sequence E_a (Or.inr ⟨(own_w hw 108 rfl), rfl, hnm⟩) (own_w hw 95 rfl) (ty := .long) (by decide) rfl rfl (g := (mkF m 22 #[rv a, rv ki, rv ke, iv m1, lv q1, .second, lv q2, .second, lv q3, .second, iv m2, iv m3] [(.long q1), (.ref a)])) rfl rfl (hb hby d19_22)
  have O := O.wr W5 g_a
  have E_a := E_a.wr W5
  have F_kind := F_kind.other W5 (Or.inr (slot_ne (Or.inr (own_w hw 102 rfl)) (Or.inr (own_w hw 108 rfl)) (by decide) (t := (.object "com/example/tombsweep/tombsweep/io/RecordHeader$Kind")) (t' := .long) (by decide) (by decide)))
  have F_key := F_key.other W5 (Or.inr (slot_ne (Or.inr (own_w hw 104 rfl)) (Or.inr (own_w hw 108 rfl)) (by decide) (t := (.object "com/example/tombsweep/tombsweep/model/BlobKey")) (t' := .long) (by decide) (by decide)))
  have F_metadataLength := F_metadataLength.other W5 (Or.inr (slot_ne (Or.inr (own_w hw 106 rfl)) (Or.inr (own_w hw 108 rfl)) (by decide) (t := .int) (t' := .long) (by decide) (by decide)))
  have F_sequence := F_sequence.same W5
  have F_time := F_time.other W5 (Or.inr (slot_ne (Or.inr (own_w hw 110 rfl)) (Or.inr (own_w hw 108 rfl)) (by decide) (t := .long) (t' := .long) (by decide) (by decide)))
  have F_contentLength := F_contentLength.other W5 (Or.inr (slot_ne (Or.inr (own_w hw 112 rfl)) (Or.inr (own_w hw 108 rfl)) (by decide) (t := .long) (t' := .long) (by decide) (by decide)))
  have F_contentCheck := F_contentCheck.other W5 (Or.inr (slot_ne (Or.inr (own_w hw 114 rfl)) (Or.inr (own_w hw 108 rfl)) (by decide) (t := .int) (t' := .long) (by decide) (by decide)))
  have F_metadataCheck := F_metadataCheck.other W5 (Or.inr (slot_ne (Or.inr (own_w hw 116 rfl)) (Or.inr (own_w hw 108 rfl)) (by decide) (t := .int) (t' := .long) (by decide) (by decide)))
  have K := K.wr W5 (Or.inl (List.mem_of_getElem? (i := 0) rfl))
  have N5 := Fr.snoc X5 N4 g_a
  refine Go.step st5 ?_
  show Go p e below _ (T5.setTop (mkF m 25 #[rv a, rv ki, rv ke, iv m1, lv q1, .second, lv q2, .second, lv q3, .second, iv m2, iv m3] []))
  refine Go.step (S' := T5.setTop (mkF m 28 #[rv a, rv ki, rv ke, iv m1, lv q1, .second, lv q2, .second, lv q3, .second, iv m2, iv m3] [(.long q2), (.ref a)])) (fun t k => ?_) ?_
  · show Steps p.tables e below (T5.setTop (mkF m 25 #[rv a, rv ki, rv ke, iv m1, lv q1, .second, lv q2, .second, lv q3, .second, iv m2, iv m3] [])) _
    refine XS.aloadN X5.here hx rfl (hb hby d19_25) rfl rfl ?_
    show Steps p.tables e below (T5.setTop (mkF m 26 #[rv a, rv ki, rv ke, iv m1, lv q1, .second, lv q2, .second, lv q3, .second, iv m2, iv m3] [(.ref a)])) _
    refine XS.lload X5.here hx rfl (hb hby d19_26) rfl ?_
    exact k
  obtain ⟨T6, h6, X6, e6, W6, st6⟩ := putF X5 hx hZ hown (host := "") (Or.inl (own_w hw 109 rfl)) Via.refl e5 F_time E_a (Or.inr ⟨(own_w hw 110 rfl), rfl, hnm⟩) (own_w hw 95 rfl) (ty := .long) (by decide) rfl rfl (g := (mkF m 28 #[rv a, rv ki, rv ke, iv m1, lv q1, .second, lv q2, .second, lv q3, .second, iv m2, iv m3] [(.long q2), (.ref a)])) rfl rfl (hb hby d19_28)
  have O := O.wr W6 g_a
  have E_a := E_a.wr W6
  have F_kind := F_kind.other W6 (Or.inr (slot_ne (Or.inr (own_w hw 102 rfl)) (Or.inr (own_w hw 110 rfl)) (by decide) (t := (.object "com/example/tombsweep/tombsweep/io/RecordHeader$Kind")) (t' := .long) (by decide) (by decide)))
  have F_key := F_key.other W6 (Or.inr (slot_ne (Or.inr (own_w hw 104 rfl)) (Or.inr (own_w hw 110 rfl)) (by decide) (t := (.object "com/example/tombsweep/tombsweep/model/BlobKey")) (t' := .long) (by decide) (by decide)))
  have F_metadataLength := F_metadataLength.other W6 (Or.inr (slot_ne (Or.inr (own_w hw 106 rfl)) (Or.inr (own_w hw 110 rfl)) (by decide) (t := .int) (t' := .long) (by decide) (by decide)))
  have F_sequence := F_sequence.other W6 (Or.inr (slot_ne (Or.inr (own_w hw 108 rfl)) (Or.inr (own_w hw 110 rfl)) (by decide) (t := .long) (t' := .long) (by decide) (by decide)))
  have F_time := F_time.same W6
  have F_contentLength := F_contentLength.other W6 (Or.inr (slot_ne (Or.inr (own_w hw 112 rfl)) (Or.inr (own_w hw 110 rfl)) (by decide) (t := .long) (t' := .long) (by decide) (by decide)))
  have F_contentCheck := F_contentCheck.other W6 (Or.inr (slot_ne (Or.inr (own_w hw 114 rfl)) (Or.inr (own_w hw 110 rfl)) (by decide) (t := .int) (t' := .long) (by decide) (by decide)))
  have F_metadataCheck := F_metadataCheck.other W6 (Or.inr (slot_ne (Or.inr (own_w hw 116 rfl)) (Or.inr (own_w hw 110 rfl)) (by decide) (t := .int) (t' := .long) (by decide) (by decide)))
  have K := K.wr W6 (Or.inl (List.mem_of_getElem? (i := 0) rfl))
  have N6 := Fr.snoc X6 N5 g_a
  refine Go.step st6 ?_
  show Go p e below _ (T6.setTop (mkF m 31 #[rv a, rv ki, rv ke, iv m1, lv q1, .second, lv q2, .second, lv q3, .second, iv m2, iv m3] []))
  refine Go.step (S' := T6.setTop (mkF m 34 #[rv a, rv ki, rv ke, iv m1, lv q1, .second, lv q2, .second, lv q3, .second, iv m2, iv m3] [(.long q3), (.ref a)])) (fun t k => ?_) ?_
  · show Steps p.tables e below (T6.setTop (mkF m 31 #[rv a, rv ki, rv ke, iv m1, lv q1, .second, lv q2, .second, lv q3, .second, iv m2, iv m3] [])) _
    refine XS.aloadN X6.here hx rfl (hb hby d19_31) rfl rfl ?_
    show Steps p.tables e below (T6.setTop (mkF m 32 #[rv a, rv ki, rv ke, iv m1, lv q1, .second, lv q2, .second, lv q3, .second, iv m2, iv m3] [(.ref a)])) _
    refine XS.lload X6.here hx rfl (hb hby d19_32) rfl ?_
    exact k
  obtain ⟨T7, h7, X7, e7, W7, st7⟩ := putF X6 hx hZ hown (host := "") (Or.inl (own_w hw 111 rfl)) Via.refl e6 F_contentLength E_a (Or.inr ⟨(own_w hw 112 rfl), rfl, hnm⟩) (own_w hw 95 rfl) (ty := .long) (by decide) rfl rfl (g := (mkF m 34 #[rv a, rv ki, rv ke, iv m1, lv q1, .second, lv q2, .second, lv q3, .second, iv m2, iv m3] [(.long q3), (.ref a)])) rfl rfl (hb hby d19_34)
  have O := O.wr W7 g_a
  have E_a := E_a.wr W7
  have F_kind := F_kind.other W7 (Or.inr (slot_ne (Or.inr (own_w hw 102 rfl)) (Or.inr (own_w hw 112 rfl)) (by decide) (t := (.object "com/example/tombsweep/tombsweep/io/RecordHeader$Kind")) (t' := .long) (by decide) (by decide)))
  have F_key := F_key.other W7 (Or.inr (slot_ne (Or.inr (own_w hw 104 rfl)) (Or.inr (own_w hw 112 rfl)) (by decide) (t := (.object "com/example/tombsweep/tombsweep/model/BlobKey")) (t' := .long) (by decide) (by decide)))
  have F_metadataLength := F_metadataLength.other W7 (Or.inr (slot_ne (Or.inr (own_w hw 106 rfl)) (Or.inr (own_w hw 112 rfl)) (by decide) (t := .int) (t' := .long) (by decide) (by decide)))
  have F_sequence := F_sequence.other W7 (Or.inr (slot_ne (Or.inr (own_w hw 108 rfl)) (Or.inr (own_w hw 112 rfl)) (by decide) (t := .long) (t' := .long) (by decide) (by decide)))
  have F_time := F_time.other W7 (Or.inr (slot_ne (Or.inr (own_w hw 110 rfl)) (Or.inr (own_w hw 112 rfl)) (by decide) (t := .long) (t' := .long) (by decide) (by decide)))
  have F_contentLength := F_contentLength.same W7
  have F_contentCheck := F_contentCheck.other W7 (Or.inr (slot_ne (Or.inr (own_w hw 114 rfl)) (Or.inr (own_w hw 112 rfl)) (by decide) (t := .int) (t' := .long) (by decide) (by decide)))
  have F_metadataCheck := F_metadataCheck.other W7 (Or.inr (slot_ne (Or.inr (own_w hw 116 rfl)) (Or.inr (own_w hw 112 rfl)) (by decide) (t := .int) (t' := .long) (by decide) (by decide)))
  have K := K.wr W7 (Or.inl (List.mem_of_getElem? (i := 0) rfl))
  have N7 := Fr.snoc X7 N6 g_a
  refine Go.step st7 ?_
  show Go p e below _ (T7.setTop (mkF m 37 #[rv a, rv ki, rv ke, iv m1, lv q1, .second, lv q2, .second, lv q3, .second, iv m2, iv m3] []))
  refine Go.step (S' := T7.setTop (mkF m 40 #[rv a, rv ki, rv ke, iv m1, lv q1, .second, lv q2, .second, lv q3, .second, iv m2, iv m3] [(.int m2), (.ref a)])) (fun t k => ?_) ?_
  · show Steps p.tables e below (T7.setTop (mkF m 37 #[rv a, rv ki, rv ke, iv m1, lv q1, .second, lv q2, .second, lv q3, .second, iv m2, iv m3] [])) _
    refine XS.aloadN X7.here hx rfl (hb hby d19_37) rfl rfl ?_
    show Steps p.tables e below (T7.setTop (mkF m 38 #[rv a, rv ki, rv ke, iv m1, lv q1, .second, lv q2, .second, lv q3, .second, iv m2, iv m3] [(.ref a)])) _
    refine XS.iload X7.here hx rfl (hb hby d19_38) rfl ?_
    exact k
  obtain ⟨T8, h8, X8, e8, W8, st8⟩ := putF X7 hx hZ hown (host := "") (Or.inl (own_w hw 113 rfl)) Via.refl e7 F_contentCheck E_a (Or.inr ⟨(own_w hw 114 rfl), rfl, hnm⟩) (own_w hw 95 rfl) (ty := .int) (by decide) rfl rfl (g := (mkF m 40 #[rv a, rv ki, rv ke, iv m1, lv q1, .second, lv q2, .second, lv q3, .second, iv m2, iv m3] [(.int m2), (.ref a)])) rfl rfl (hb hby d19_40)
  have O := O.wr W8 g_a
  have E_a := E_a.wr W8
  have F_kind := F_kind.other W8 (Or.inr (slot_ne (Or.inr (own_w hw 102 rfl)) (Or.inr (own_w hw 114 rfl)) (by decide) (t := (.object "com/example/tombsweep/tombsweep/io/RecordHeader$Kind")) (t' := .int) (by decide) (by decide)))
  have F_key := F_key.other W8 (Or.inr (slot_ne (Or.inr (own_w hw 104 rfl)) (Or.inr (own_w hw 114 rfl)) (by decide) (t := (.object "com/example/tombsweep/tombsweep/model/BlobKey")) (t' := .int) (by decide) (by decide)))
  have F_metadataLength := F_metadataLength.other W8 (Or.inr (slot_ne (Or.inr (own_w hw 106 rfl)) (Or.inr (own_w hw 114 rfl)) (by decide) (t := .int) (t' := .int) (by decide) (by decide)))
  have F_sequence := F_sequence.other W8 (Or.inr (slot_ne (Or.inr (own_w hw 108 rfl)) (Or.inr (own_w hw 114 rfl)) (by decide) (t := .long) (t' := .int) (by decide) (by decide)))
  have F_time := F_time.other W8 (Or.inr (slot_ne (Or.inr (own_w hw 110 rfl)) (Or.inr (own_w hw 114 rfl)) (by decide) (t := .long) (t' := .int) (by decide) (by decide)))
  have F_contentLength := F_contentLength.other W8 (Or.inr (slot_ne (Or.inr (own_w hw 112 rfl)) (Or.inr (own_w hw 114 rfl)) (by decide) (t := .long) (t' := .int) (by decide) (by decide)))
  have F_contentCheck := F_contentCheck.same W8
  have F_metadataCheck := F_metadataCheck.other W8 (Or.inr (slot_ne (Or.inr (own_w hw 116 rfl)) (Or.inr (own_w hw 114 rfl)) (by decide) (t := .int) (t' := .int) (by decide) (by decide)))
  have K := K.wr W8 (Or.inl (List.mem_of_getElem? (i := 0) rfl))
  have N8 := Fr.snoc X8 N7 g_a
  refine Go.step st8 ?_
  show Go p e below _ (T8.setTop (mkF m 43 #[rv a, rv ki, rv ke, iv m1, lv q1, .second, lv q2, .second, lv q3, .second, iv m2, iv m3] []))
  refine Go.step (S' := T8.setTop (mkF m 46 #[rv a, rv ki, rv ke, iv m1, lv q1, .second, lv q2, .second, lv q3, .second, iv m2, iv m3] [(.int m3), (.ref a)])) (fun t k => ?_) ?_
  · show Steps p.tables e below (T8.setTop (mkF m 43 #[rv a, rv ki, rv ke, iv m1, lv q1, .second, lv q2, .second, lv q3, .second, iv m2, iv m3] [])) _
    refine XS.aloadN X8.here hx rfl (hb hby d19_43) rfl rfl ?_
    show Steps p.tables e below (T8.setTop (mkF m 44 #[rv a, rv ki, rv ke, iv m1, lv q1, .second, lv q2, .second, lv q3, .second, iv m2, iv m3] [(.ref a)])) _
    refine XS.iload X8.here hx rfl (hb hby d19_44) rfl ?_
    exact k
  obtain ⟨T9, h9, X9, e9, W9, st9⟩ := putF X8 hx hZ hown (host := "") (Or.inl (own_w hw 115 rfl)) Via.refl e8 F_metadataCheck E_a (Or.inr ⟨(own_w hw 116 rfl), rfl, hnm⟩) (own_w hw 95 rfl) (ty := .int) (by decide) rfl rfl (g := (mkF m 46 #[rv a, rv ki, rv ke, iv m1, lv q1, .second, lv q2, .second, lv q3, .second, iv m2, iv m3] [(.int m3), (.ref a)])) rfl rfl (hb hby d19_46)
  have O := O.wr W9 g_a
  have E_a := E_a.wr W9
  have F_kind := F_kind.other W9 (Or.inr (slot_ne (Or.inr (own_w hw 102 rfl)) (Or.inr (own_w hw 116 rfl)) (by decide) (t := (.object "com/example/tombsweep/tombsweep/io/RecordHeader$Kind")) (t' := .int) (by decide) (by decide)))
  have F_key := F_key.other W9 (Or.inr (slot_ne (Or.inr (own_w hw 104 rfl)) (Or.inr (own_w hw 116 rfl)) (by decide) (t := (.object "com/example/tombsweep/tombsweep/model/BlobKey")) (t' := .int) (by decide) (by decide)))
  have F_metadataLength := F_metadataLength.other W9 (Or.inr (slot_ne (Or.inr (own_w hw 106 rfl)) (Or.inr (own_w hw 116 rfl)) (by decide) (t := .int) (t' := .int) (by decide) (by decide)))
  have F_sequence := F_sequence.other W9 (Or.inr (slot_ne (Or.inr (own_w hw 108 rfl)) (Or.inr (own_w hw 116 rfl)) (by decide) (t := .long) (t' := .int) (by decide) (by decide)))
  have F_time := F_time.other W9 (Or.inr (slot_ne (Or.inr (own_w hw 110 rfl)) (Or.inr (own_w hw 116 rfl)) (by decide) (t := .long) (t' := .int) (by decide) (by decide)))
  have F_contentLength := F_contentLength.other W9 (Or.inr (slot_ne (Or.inr (own_w hw 112 rfl)) (Or.inr (own_w hw 116 rfl)) (by decide) (t := .long) (t' := .int) (by decide) (by decide)))
  have F_contentCheck := F_contentCheck.other W9 (Or.inr (slot_ne (Or.inr (own_w hw 114 rfl)) (Or.inr (own_w hw 116 rfl)) (by decide) (t := .int) (t' := .int) (by decide) (by decide)))
  have F_metadataCheck := F_metadataCheck.same W9
  have K := K.wr W9 (Or.inl (List.mem_of_getElem? (i := 0) rfl))
  have N9 := Fr.snoc X9 N8 g_a
  refine Go.step st9 ?_
  show Go p e below _ (T9.setTop (mkF m 49 #[rv a, rv ki, rv ke, iv m1, lv q1, .second, lv q2, .second, lv q3, .second, iv m2, iv m3] []))
  obtain ⟨fs, hr, hrun, hended, hW, hsame⟩ := X9.leave (v := none) (fun _ => rfl)
  refine Go.fin (S' := T9.setFrames fs) ?_ hrun hended ⟨_, _, rfl, ?_, ⟨_, rfl⟩, hW, hsame.mono (by decide) (by decide)⟩
  · exact X9.returnOut hx Bd.returns (hb hby d19_49) hr
  · show Q_rmRH Z a ki ke m1 q1 q2 q3 m2 m3 h0 n0 (none) T9.heap _
    rw [e9]
    exact ⟨rfl, N9, K, E_a, F_kind, F_key, F_metadataLength, F_sequence, F_time, F_contentLength, F_contentCheck, F_metadataCheck⟩
theorem d20_0 : decode prog_5_method_5_code 0 = .ok (.new 1, 3) := by decide +kernel
theorem d20_3 : decode prog_5_method_5_code 3 = .ok (.dup, 1) := by decide +kernel
theorem d20_4 : decode prog_5_method_5_code 4 = .ok (.getstatic 53, 3) := by decide +kernel
theorem d20_7 : decode prog_5_method_5_code 7 = .ok (.aload_n 0, 1) := by decide +kernel
theorem d20_8 : decode prog_5_method_5_code 8 = .ok (.getfield 15, 3) := by decide +kernel
theorem d20_11 : decode prog_5_method_5_code 11 = .ok (.aload_n 0, 1) := by decide +kernel
theorem d20_12 : decode prog_5_method_5_code 12 = .ok (.getfield 19, 3) := by decide +kernel
theorem d20_15 : decode prog_5_method_5_code 15 = .ok (.aload_n 0, 1) := by decide +kernel
theorem d20_16 : decode prog_5_method_5_code 16 = .ok (.getfield 23, 3) := by decide +kernel
theorem d20_19 : decode prog_5_method_5_code 19 = .ok (.aload_n 0, 1) := by decide +kernel
theorem d20_20 : decode prog_5_method_5_code 20 = .ok (.getfield 27, 3) := by decide +kernel
theorem d20_23 : decode prog_5_method_5_code 23 = .ok (.aload_n 0, 1) := by decide +kernel
theorem d20_24 : decode prog_5_method_5_code 24 = .ok (.getfield 30, 3) := by decide +kernel
theorem d20_27 : decode prog_5_method_5_code 27 = .ok (.aload_n 0, 1) := by decide +kernel
theorem d20_28 : decode prog_5_method_5_code 28 = .ok (.getfield 33, 3) := by decide +kernel
theorem d20_31 : decode prog_5_method_5_code 31 = .ok (.aload_n 0, 1) := by decide +kernel
theorem d20_32 : decode prog_5_method_5_code 32 = .ok (.getfield 36, 3) := by decide +kernel
theorem d20_35 : decode prog_5_method_5_code 35 = .ok (.invokespecial 44, 3) := by decide +kernel
theorem pd__28Lcom_2fexample_2ftombsweep_2ftombsweep_2fio_2fRecordHeader_24Kind_3bLcom_2fexample_2ftombsweep_2ftombsweep_2fmodel_2fBlobKey_3bIJJJII_29V : parseMethodDescriptor "(Lcom/example/tombsweep/tombsweep/io/RecordHeader$Kind;Lcom/example/tombsweep/tombsweep/model/BlobKey;IJJJII)V" = some ⟨[(.object "com/example/tombsweep/tombsweep/io/RecordHeader$Kind"), (.object "com/example/tombsweep/tombsweep/model/BlobKey"), .int, .long, .long, .long, .int, .int], none⟩ := by decide +kernel
theorem d20_38 : decode prog_5_method_5_code 38 = .ok (.areturn, 1) := by decide +kernel
theorem ef_rmGone (m : MethodId) (a : Addr) : entryFrame m #[(.ref a)] 1 = mkF m 0 #[.val (.ref a)] [] := by first | (simp [entryFrame, mkF, argsToLocals, Value.category]; done) | rfl
abbrev rm_rmGone : Room := ({ frames := 3, cells := 1, slots := 8, locals := 48 } : Room)
def Q_rmGone (Z : State) (a : Addr) (ke : Addr) (m1 : Int32) (q1 : Int64) (q2 : Int64) (q3 : Int64) (m2 : Int32) (m3 : Int32) (w_GONE : Addr) (h0 : Heap) (n0 : Nat) (v : Option Value) (h : Heap) (L : List Loc) : Prop := ∃ b : Addr, (v = some (.ref b)) ∧ (Fr n0 L) ∧ (Keep h0 h []) ∧ (Exa Z h b "com/example/tombsweep/tombsweep/io/RecordHeader") ∧ (Fld Z h b "com/example/tombsweep/tombsweep/io/RecordHeader" "kind" "Lcom/example/tombsweep/tombsweep/io/RecordHeader$Kind;" (.ref w_GONE)) ∧ (Fld Z h b "com/example/tombsweep/tombsweep/io/RecordHeader" "key" "Lcom/example/tombsweep/tombsweep/model/BlobKey;" (.ref ke)) ∧ (Fld Z h b "com/example/tombsweep/tombsweep/io/RecordHeader" "metadataLength" "I" (.int m1)) ∧ (Fld Z h b "com/example/tombsweep/tombsweep/io/RecordHeader" "sequence" "J" (.long q1)) ∧ (Fld Z h b "com/example/tombsweep/tombsweep/io/RecordHeader" "time" "J" (.long q2)) ∧ (Fld Z h b "com/example/tombsweep/tombsweep/io/RecordHeader" "contentLength" "J" (.long q3)) ∧ (Fld Z h b "com/example/tombsweep/tombsweep/io/RecordHeader" "contentCheck" "I" (.int m2)) ∧ (Fld Z h b "com/example/tombsweep/tombsweep/io/RecordHeader" "metadataCheck" "I" (.int m3))
set_option maxRecDepth 65536 in
set_option maxHeartbeats 40000000 in
theorem rmGone (l : Launch) (Z : State) (a0 : Array Value) (hw : ∀ d ∈ tables_1, d.before a0 Z = true) (ws : List Jvm.Cond) (a : Addr) (ke : Addr) (m1 : Int32) (q1 : Int64) (q2 : Int64) (q3 : Int64) (m2 : Int32) (m3 : Int32) (w_GONE : Addr) (h0 : Heap) (n0 : Nat) (O : Old Z n0 h0) (S_GONE : Sta Z Z.heap "com/example/tombsweep/tombsweep/io/RecordHeader$Kind" "GONE" "Lcom/example/tombsweep/tombsweep/io/RecordHeader$Kind;" (.ref w_GONE)) (F_key : Fld Z h0 a "com/example/tombsweep/tombsweep/io/RecordHeader" "key" "Lcom/example/tombsweep/tombsweep/model/BlobKey;" (.ref ke)) (F_metadataLength : Fld Z h0 a "com/example/tombsweep/tombsweep/io/RecordHeader" "metadataLength" "I" (.int m1)) (F_sequence : Fld Z h0 a "com/example/tombsweep/tombsweep/io/RecordHeader" "sequence" "J" (.long q1)) (F_time : Fld Z h0 a "com/example/tombsweep/tombsweep/io/RecordHeader" "time" "J" (.long q2)) (F_contentLength : Fld Z h0 a "com/example/tombsweep/tombsweep/io/RecordHeader" "contentLength" "J" (.long q3)) (F_contentCheck : Fld Z h0 a "com/example/tombsweep/tombsweep/io/RecordHeader" "contentCheck" "I" (.int m2)) (F_metadataCheck : Fld Z h0 a "com/example/tombsweep/tombsweep/io/RecordHeader" "metadataCheck" "I" (.int m3)) :
    MetFree l (⟨"com/example/tombsweep/tombsweep/io/RecordHeader", "gone", "()Lcom/example/tombsweep/tombsweep/io/RecordHeader;"⟩ : MethodName) (head1 (Jvm.Cond.code (⟨"com/example/tombsweep/tombsweep/io/RecordHeader", "gone", "()Lcom/example/tombsweep/tombsweep/io/RecordHeader;"⟩ : MethodName) prog_5_method_5_code 1 (some (.object "com/example/tombsweep/tombsweep/io/RecordHeader")) :: ws) rm_rmGone) (fun A_ U => A_ = #[(.ref a)] ∧ Z.Warmed39 U.vm ∧ U.heap = h0) (fun _ _ _ _ _ => True) (fun _ U o U' => ∃ v L, o = .returned v ∧ Q_rmGone Z a ke m1 q1 q2 q3 m2 m3 w_GONE h0 n0 v U'.heap L ∧ FrameEnd U o U' L rm_rmGone.cells rm_rmGone.slots) := by
  refine MetFree.of_bodySF (plainFor_of_name pn_com_example_tombsweep_tombsweep_io_RecordHeader) hisR ?_
  intro p e s m args below meth c s₁ Bd hml0 hP hK
  obtain ⟨rfl, hZ, hh⟩ := hP
  have hx := Bd.exec
  have hby := Bd.bytes
  have hml : c.maxLocals = 1 := hml0
  have hown : s.vm.findClass "com/example/tombsweep/tombsweep/io/RecordHeader" = some m.cls := findClass_of_methodNamed Bd.named
  have hnm := (name_of_methodNamed Bd.named Bd.method).1
  have X0 : Stand p l e rm_rmGone s m #[(.ref a)] below meth c s₁ [] 0 0 := Stand.of_body Bd
  have e0 : s₁.heap = h0 := by rw [← hh, Bd.state]; rfl
  have N0 := Fr.nil n0
  have K := Keep.refl h0 []
  refine Go.step (p := p) (e := e) (below := below) (G := fun o U' => ∃ v L, o = .returned v ∧ Q_rmGone Z a ke m1 q1 q2 q3 m2 m3 w_GONE h0 n0 v U'.heap L ∧ FrameEnd s o U' L rm_rmGone.cells rm_rmGone.slots) (S' := s₁.setTop (mkF m 0 #[rv a] [])) (fun t k => castTop (ef_rmGone m a) k) ?_
  obtain ⟨T1, h1, X1, e1, E1, A1, D1, -, st1⟩ := newO X0 hx hZ hown (own_w hw 122 rfl) (own_w hw 95 rfl) (own_w hw 96 rfl) e0 (g := (mkF m 0 #[rv a] [])) rfl (hb hby d20_0) (by decide) (by decide)
  obtain ⟨b1, g1⟩ : ∃ z, z = Array.size h0 := ⟨_, rfl⟩
  have g_b1 : n0 ≤ b1 := Nat.le_trans (old_le O) (Nat.le_of_eq g1.symm)
  have sz_b1 : h0.size ≤ b1 := Nat.le_trans K.1 (Nat.le_of_eq g1.symm)
  have ne_a_b1 : a ≠ b1 := Nat.ne_of_lt (Nat.lt_of_lt_of_le F_key.lt (Nat.le_of_eq g1.symm))
  rw [← g1] at A1 D1 st1
  have O := O.ext E1
  have F_key := F_key.ext E1
  have F_metadataLength := F_metadataLength.ext E1
  have F_sequence := F_sequence.ext E1
  have F_time := F_time.ext E1
  have F_contentLength := F_contentLength.ext E1
  have F_contentCheck := F_contentCheck.ext E1
  have F_metadataCheck := F_metadataCheck.ext E1
  have K := K.ext E1
  have E_b1 := A1
  have F_kind_b1 : Fld Z h1 b1 "com/example/tombsweep/tombsweep/io/RecordHeader" "kind" "Lcom/example/tombsweep/tombsweep/io/RecordHeader$Kind;" .null := D1 (Or.inr (own_w hw 102 rfl)) (ty := (.object "com/example/tombsweep/tombsweep/io/RecordHeader$Kind")) (by decide)
  have F_key_b1 : Fld Z h1 b1 "com/example/tombsweep/tombsweep/io/RecordHeader" "key" "Lcom/example/tombsweep/tombsweep/model/BlobKey;" .null := D1 (Or.inr (own_w hw 104 rfl)) (ty := (.object "com/example/tombsweep/tombsweep/model/BlobKey")) (by decide)
  have F_metadataLength_b1 : Fld Z h1 b1 "com/example/tombsweep/tombsweep/io/RecordHeader" "metadataLength" "I" (.int (0 : Int32)) := D1 (Or.inr (own_w hw 106 rfl)) (ty := .int) (by decide)
  have F_sequence_b1 : Fld Z h1 b1 "com/example/tombsweep/tombsweep/io/RecordHeader" "sequence" "J" (.long (0 : Int64)) := D1 (Or.inr (own_w hw 108 rfl)) (ty := .long) (by decide)
  have F_time_b1 : Fld Z h1 b1 "com/example/tombsweep/tombsweep/io/RecordHeader" "time" "J" (.long (0 : Int64)) := D1 (Or.inr (own_w hw 110 rfl)) (ty := .long) (by decide)
  have F_contentLength_b1 : Fld Z h1 b1 "com/example/tombsweep/tombsweep/io/RecordHeader" "contentLength" "J" (.long (0 : Int64)) := D1 (Or.inr (own_w hw 112 rfl)) (ty := .long) (by decide)
  have F_contentCheck_b1 : Fld Z h1 b1 "com/example/tombsweep/tombsweep/io/RecordHeader" "contentCheck" "I" (.int (0 : Int32)) := D1 (Or.inr (own_w hw 114 rfl)) (ty := .int) (by decide)
  have F_metadataCheck_b1 : Fld Z h1 b1 "com/example/tombsweep/tombsweep/io/RecordHeader" "metadataCheck" "I" (.int (0 : Int32)) := D1 (Or.inr (own_w hw 116 rfl)) (ty := .int) (by decide)
  refine Go.step st1 ?_
  show Go p e below _ (T1.setTop (mkF m 3 #[rv a] [(.ref b1)]))
  refine Go.step (S' := T1.setTop (mkF m 4 #[rv a] [(.ref b1), (.ref b1)])) (fun t k => ?_) ?_
  · show Steps p.tables e below (T1.setTop (mkF m 3 #[rv a] [(.ref b1)])) _
    refine XS.dup X1.here hx rfl (hb hby d20_3) rfl rfl ?_
    exact k
  obtain ⟨T2, X2, e2, st2⟩ := getS2 X1 hx hZ hown (host := "") (Or.inl (own_w hw 123 rfl)) Via.refl e1 (S_GONE.ext O.2) (g := (mkF m 4 #[rv a] [(.ref b1), (.ref b1)])) rfl (hb hby d20_4)
  refine Go.step st2 ?_
  show Go p e below _ (T2.setTop (mkF m 7 #[rv a] [(.ref w_GONE), (.ref b1), (.ref b1)]))
  refine Go.step (S' := T2.setTop (mkF m 8 #[rv a] [(.ref a), (.ref w_GONE), (.ref b1), (.ref b1)])) (fun t k => ?_) ?_
  · show Steps p.tables e below (T2.setTop (mkF m 7 #[rv a] [(.ref w_GONE), (.ref b1), (.ref b1)])) _
    refine XS.aloadN X2.here hx rfl (hb hby d20_7) rfl rfl ?_
    exact k
  obtain ⟨T3, X3, e3, st3⟩ := getF X2 hx hZ hown (host := "") (Or.inl (own_w hw 103 rfl)) Via.refl e2 F_key (g := (mkF m 8 #[rv a] [(.ref a), (.ref w_GONE), (.ref b1), (.ref b1)])) rfl rfl (hb hby d20_8)
  refine Go.step st3 ?_
  show Go p e below _ (T3.setTop (mkF m 11 #[rv a] [(.ref ke), (.ref w_GONE), (.ref b1), (.ref b1)]))
  refine Go.step (S' := T3.setTop (mkF m 12 #[rv a] [(.ref a), (.ref ke), (.ref w_GONE), (.ref b1), (.ref b1)])) (fun t k => ?_) ?_
  · show Steps p.tables e below (T3.setTop (mkF m 11 #[rv a] [(.ref ke), (.ref w_GONE), (.ref b1), (.ref b1)])) _
    refine XS.aloadN X3.here hx rfl (hb hby d20_11) rfl rfl ?_
    exact k
  obtain ⟨T4, X4, e4, st4⟩ := getF X3 hx hZ hown (host := "") (Or.inl (own_w hw 105 rfl)) Via.refl e3 F_metadataLength (g := (mkF m 12 #[rv a] [(.ref a), (.ref ke), (.ref w_GONE), (.ref b1), (.ref b1)])) rfl rfl (hb hby d20_12)
  refine Go.step st4 ?_
  show Go p e below _ (T4.setTop (mkF m 15 #[rv a] [(.int m1), (.ref ke), (.ref w_GONE), (.ref b1), (.ref b1)]))
  refine Go.step (S' := T4.setTop (mkF m 16 #[rv a] [(.ref a), (.int m1), (.ref ke), (.ref w_GONE), (.ref b1), (.ref b1)])) (fun t k => ?_) ?_
  · show Steps p.tables e below (T4.setTop (mkF m 15 #[rv a] [(.int m1), (.ref ke), (.ref w_GONE), (.ref b1), (.ref b1)])) _
    refine XS.aloadN X4.here hx rfl (hb hby d20_15) rfl rfl ?_
    exact k
  obtain ⟨T5, X5, e5, st5⟩ := getF X4 hx hZ hown (host := "") (Or.inl (own_w hw 107 rfl)) Via.refl e4 F_sequence (g := (mkF m 16 #[rv a] [(.ref a), (.int m1), (.ref ke), (.ref w_GONE), (.ref b1), (.ref b1)])) rfl rfl (hb hby d20_16)
  refine Go.step st5 ?_
  show Go p e below _ (T5.setTop (mkF m 19 #[rv a] [(.long q1), (.int m1), (.ref ke), (.ref w_GONE), (.ref b1), (.ref b1)]))
  refine Go.step (S' := T5.setTop (mkF m 20 #[rv a] [(.ref a), (.long q1), (.int m1), (.ref ke), (.ref w_GONE), (.ref b1), (.ref b1)])) (fun t k => ?_) ?_
  · show Steps p.tables e below (T5.setTop (mkF m 19 #[rv a] [(.long q1), (.int m1), (.ref ke), (.ref w_GONE), (.ref b1), (.ref b1)])) _
    refine XS.aloadN X5.here hx rfl (hb hby d20_19) rfl rfl ?_
    exact k
  obtain ⟨T6, X6, e6, st6⟩ := getF X5 hx hZ hown (host := "") (Or.inl (own_w hw 109 rfl)) Via.refl e5 F_time (g := (mkF m 20 #[rv a] [(.ref a), (.long q1), (.int m1), (.ref ke), (.ref w_GONE), (.ref b1), (.ref b1)])) rfl rfl (hb hby d20_20)
  refine Go.step st6 ?_
  show Go p e below _ (T6.setTop (mkF m 23 #[rv a] [(.long q2), (.long q1), (.int m1), (.ref ke), (.ref w_GONE), (.ref b1), (.ref b1)]))
  refine Go.step (S' := T6.setTop (mkF m 24 #[rv a] [(.ref a), (.long q2), (.long q1), (.int m1), (.ref ke), (.ref w_GONE), (.ref b1), (.ref b1)])) (fun t k => ?_) ?_
  · show Steps p.tables e below (T6.setTop (mkF m 23 #[rv a] [(.long q2), (.long q1), (.int m1), (.ref ke), (.ref w_GONE), (.ref b1), (.ref b1)])) _
    refine XS.aloadN X6.here hx rfl (hb hby d20_23) rfl rfl ?_
    exact k
  obtain ⟨T7, X7, e7, st7⟩ := getF X6 hx hZ hown (host := "") (Or.inl (own_w hw 111 rfl)) Via.refl e6 F_contentLength (g := (mkF m 24 #[rv a] [(.ref a), (.long q2), (.long q1), (.int m1), (.ref ke), (.ref w_GONE), (.ref b1), (.ref b1)])) rfl rfl (hb hby d20_24)
  refine Go.step st7 ?_
  show Go p e below _ (T7.setTop (mkF m 27 #[rv a] [(.long q3), (.long q2), (.long q1), (.int m1), (.ref ke), (.ref w_GONE), (.ref b1), (.ref b1)]))
  refine Go.step (S' := T7.setTop (mkF m 28 #[rv a] [(.ref a), (.long q3), (.long q2), (.long q1), (.int m1), (.ref ke), (.ref w_GONE), (.ref b1), (.ref b1)])) (fun t k => ?_) ?_
  · show Steps p.tables e below (T7.setTop (mkF m 27 #[rv a] [(.long q3), (.long q2), (.long q1), (.int m1), (.ref ke), (.ref w_GONE), (.ref b1), (.ref b1)])) _
    refine XS.aloadN X7.here hx rfl (hb hby d20_27) rfl rfl ?_
    exact k
  obtain ⟨T8, X8, e8, st8⟩ := getF X7 hx hZ hown (host := "") (Or.inl (own_w hw 113 rfl)) Via.refl e7 F_contentCheck (g := (mkF m 28 #[rv a] [(.ref a), (.long q3), (.long q2), (.long q1), (.int m1), (.ref ke), (.ref w_GONE), (.ref b1), (.ref b1)])) rfl rfl (hb hby d20_28)
  refine Go.step st8 ?_
  show Go p e below _ (T8.setTop (mkF m 31 #[rv a] [(.int m2), (.long q3), (.long q2), (.long q1), (.int m1), (.ref ke), (.ref w_GONE), (.ref b1), (.ref b1)]))
  refine Go.step (S' := T8.setTop (mkF m 32 #[rv a] [(.ref a), (.int m2), (.long q3), (.long q2), (.long q1), (.int m1), (.ref ke), (.ref w_GONE), (.ref b1), (.ref b1)])) (fun t k => ?_) ?_
  · show Steps p.tables e below (T8.setTop (mkF m 31 #[rv a] [(.int m2), (.long q3), (.long q2), (.long q1), (.int m1), (.ref ke), (.ref w_GONE), (.ref b1), (.ref b1)])) _
    refine XS.aloadN X8.here hx rfl (hb hby d20_31) rfl rfl ?_
    exact k
  obtain ⟨T9, X9, e9, st9⟩ := getF X8 hx hZ hown (host := "") (Or.inl (own_w hw 115 rfl)) Via.refl e8 F_metadataCheck (g := (mkF m 32 #[rv a] [(.ref a), (.int m2), (.long q3), (.long q2), (.long q1), (.int m1), (.ref ke), (.ref w_GONE), (.ref b1), (.ref b1)])) rfl rfl (hb hby d20_32)
  refine Go.step st9 ?_
  show Go p e below _ (T9.setTop (mkF m 35 #[rv a] [(.int m3), (.int m2), (.long q3), (.long q2), (.long q1), (.int m1), (.ref ke), (.ref w_GONE), (.ref b1), (.ref b1)]))
  obtain ⟨_, _, ⟨T10, L10, k10, n10⟩, -, X10, ⟨Lc10, hQ10, l10, y10, z10⟩, st10⟩ := X9.specialBack hx (y := (⟨"com/example/tombsweep/tombsweep/io/RecordHeader", "<init>", "(Lcom/example/tombsweep/tombsweep/io/RecordHeader$Kind;Lcom/example/tombsweep/tombsweep/model/BlobKey;IJJJII)V"⟩ : MethodName)) rfl hown (mvT hZ (own_w hw 125 rfl)) (mvT hZ (own_w hw 98 rfl)) (mvT hZ (own_w hw 99 rfl)) (by decide) (backOf (W := 1) (rmRH l Z a0 hw [] b1 w_GONE ke m1 q1 q2 q3 m2 m3 h1 n0 O E_b1 F_kind_b1 F_key_b1 F_metadataLength_b1 F_sequence_b1 F_time_b1 F_contentLength_b1 F_contentCheck_b1 F_metadataCheck_b1 (by assumption)) hZ (own_w hw 99 rfl) (own_w hw 96 rfl) (by decide) (by decide)) (g := (mkF m 35 #[rv a] [(.int m3), (.int m2), (.long q3), (.long q2), (.long q1), (.int m1), (.ref ke), (.ref w_GONE), (.ref b1), (.ref b1)])) rfl (by rw [hml]; rfl) (Steps.refl _) (a := b1) (argsL := [(.ref w_GONE), (.ref ke), (.int m1), (.long q1), (.long q2), (.long q3), (.int m2), (.int m3)]) (rest := [(.ref b1)]) (lenOf pd__28Lcom_2fexample_2ftombsweep_2ftombsweep_2fio_2fRecordHeader_24Kind_3bLcom_2fexample_2ftombsweep_2ftombsweep_2fmodel_2fBlobKey_3bIJJJII_29V rfl) rfl (by show 2 * 0 + _ ≤ _; exact Nat.le_of_eq rfl) (hb hby d20_35) (fun _ _ => ⟨rfl, e9, (by decide : 1 + 0 ≤ _), (by decide : 8 + 0 ≤ _)⟩)
  dsimp only [Pt.U, Pt.locs, Pt.cells, Pt.slots] at X10 l10 y10 z10 st10 hQ10
  subst l10 y10 z10
  obtain ⟨rfl, Nq10, K10, P10_E, P10_Fkind, P10_Fkey, P10_FmetadataLength, P10_Fsequence, P10_Ftime, P10_FcontentLength, P10_FcontentCheck, P10_FmetadataCheck⟩ := hQ10
  have N10 := Fr.app N0 Nq10
  have O := O.keep K10 (allS g_b1 all0)
  have F_key := F_key.keep K10 (ninS ne_a_b1 nin0)
  have F_metadataLength := F_metadataLength.keep K10 (ninS ne_a_b1 nin0)
  have F_sequence := F_sequence.keep K10 (ninS ne_a_b1 nin0)
  have F_time := F_time.keep K10 (ninS ne_a_b1 nin0)
  have F_contentLength := F_contentLength.keep K10 (ninS ne_a_b1 nin0)
  have F_contentCheck := F_contentCheck.keep K10 (ninS ne_a_b1 nin0)
  have F_metadataCheck := F_metadataCheck.keep K10 (ninS ne_a_b1 nin0)
  have K := K.trans K10 (allS (Or.inr sz_b1) all0)
  have E_b1 := E_b1.keep K10
  have E_10 := P10_E
  have Fkind_10 := P10_Fkind
  have Fkey_10 := P10_Fkey
  have FmetadataLength_10 := P10_FmetadataLength
  have Fsequence_10 := P10_Fsequence
  have Ftime_10 := P10_Ftime
  have FcontentLength_10 := P10_FcontentLength
  have FcontentCheck_10 := P10_FcontentCheck
  have FmetadataCheck_10 := P10_FmetadataCheck
  refine Go.step (fun t k => st10.trans k) ?_
  show Go p e below _ (T10.setTop (mkF m 38 #[rv a] [(.ref b1)]))
  obtain ⟨fs, hr, hrun, hended, hW, hsame⟩ := X10.leave (v := some (.ref b1)) (fun h => by rw [Bd.returns] at h; cases h)
  refine Go.fin (S' := T10.setFrames fs) ?_ hrun hended ⟨_, _, rfl, ?_, ⟨_, rfl⟩, hW, hsame.mono (by decide) (by decide)⟩
  · exact retOut X10 hx Bd.returns rfl (Or.inr (Or.inr (Or.inr (Or.inr ⟨rfl, rfl, rfl⟩)))) (hb hby d20_38) hr
  · show Q_rmGone Z a ke m1 q1 q2 q3 m2 m3 w_GONE h0 n0 (some (.ref b1)) T10.heap _
    exact ⟨b1, rfl, N10, K, E_b1, Fkind_10, Fkey_10, FmetadataLength_10, Fsequence_10, Ftime_10, FcontentLength_10, FcontentCheck_10, FmetadataCheck_10⟩
theorem d21_0 : decode prog_5_method_21_code 0 = .ok (.aload_n 0, 1) := by decide +kernel
theorem d21_1 : decode prog_5_method_21_code 1 = .ok (.getfield 11, 3) := by decide +kernel
theorem d21_4 : decode prog_5_method_21_code 4 = .ok (.areturn, 1) := by decide +kernel
theorem ef_rmG_kind (m : MethodId) (a : Addr) : entryFrame m #[(.ref a)] 1 = mkF m 0 #[.val (.ref a)] [] := by first | (simp [entryFrame, mkF, argsToLocals, Value.category]; done) | rfl
abbrev rm_rmG_kind : Room := ({ frames := 0, cells := 0, slots := 0, locals := 0 } : Room)
def Q_rmG_kind (Z : State) (a : Addr) (ki : Addr) (h0 : Heap) (n0 : Nat) (v : Option Value) (h : Heap) (L : List Loc) : Prop := (v = some (.ref ki)) ∧ (Fr n0 L) ∧ (h = h0)
set_option maxRecDepth 65536 in
set_option maxHeartbeats 40000000 in
theorem rmG_kind (l : Launch) (Z : State) (a0 : Array Value) (hw : ∀ d ∈ tables_1, d.before a0 Z = true) (ws : List Jvm.Cond) (a : Addr) (ki : Addr) (h0 : Heap) (n0 : Nat) (O : Old Z n0 h0) (F : Fld Z h0 a "com/example/tombsweep/tombsweep/io/RecordHeader" "kind" "Lcom/example/tombsweep/tombsweep/io/RecordHeader$Kind;" (.ref ki)) :
    MetFree l (⟨"com/example/tombsweep/tombsweep/io/RecordHeader", "kind", "()Lcom/example/tombsweep/tombsweep/io/RecordHeader$Kind;"⟩ : MethodName) (head1 (Jvm.Cond.code (⟨"com/example/tombsweep/tombsweep/io/RecordHeader", "kind", "()Lcom/example/tombsweep/tombsweep/io/RecordHeader$Kind;"⟩ : MethodName) prog_5_method_21_code 1 (some (.object "com/example/tombsweep/tombsweep/io/RecordHeader$Kind")) :: ws) rm_rmG_kind) (fun A_ U => A_ = #[(.ref a)] ∧ Z.Warmed39 U.vm ∧ U.heap = h0) (fun _ _ _ _ _ => True) (fun _ U o U' => ∃ v L, o = .returned v ∧ Q_rmG_kind Z a ki h0 n0 v U'.heap L ∧ FrameEnd U o U' L rm_rmG_kind.cells rm_rmG_kind.slots) := by
  refine MetFree.of_bodySF (plainFor_of_name pn_com_example_tombsweep_tombsweep_io_RecordHeader) hisR ?_
  intro p e s m args below meth c s₁ Bd hml0 hP hK
  obtain ⟨rfl, hZ, hh⟩ := hP
  have hx := Bd.exec
  have hby := Bd.bytes
  have hml : c.maxLocals = 1 := hml0
  have hown : s.vm.findClass "com/example/tombsweep/tombsweep/io/RecordHeader" = some m.cls := findClass_of_methodNamed Bd.named
  have hnm := (name_of_methodNamed Bd.named Bd.method).1
  have X0 : Stand p l e rm_rmG_kind s m #[(.ref a)] below meth c s₁ [] 0 0 := Stand.of_body Bd
  have e0 : s₁.heap = h0 := by rw [← hh, Bd.state]; rfl
  have N0 := Fr.nil n0
  refine Go.step (p := p) (e := e) (below := below) (G := fun o U' => ∃ v L, o = .returned v ∧ Q_rmG_kind Z a ki h0 n0 v U'.heap L ∧ FrameEnd s o U' L rm_rmG_kind.cells rm_rmG_kind.slots) (S' := s₁.setTop (mkF m 0 #[rv a] [])) (fun t k => castTop (ef_rmG_kind m a) k) ?_
  refine Go.step (S' := s₁.setTop (mkF m 1 #[rv a] [(.ref a)])) (fun t k => ?_) ?_
  · show Steps p.tables e below (s₁.setTop (mkF m 0 #[rv a] [])) _
    refine XS.aloadN X0.here hx rfl (hb hby d21_0) rfl rfl ?_
    exact k
  obtain ⟨T1, X1, e1, st1⟩ := getF X0 hx hZ hown (host := "") (Or.inl (own_w hw 101 rfl)) Via.refl e0 F (g := (mkF m 1 #[rv a] [(.ref a)])) rfl rfl (hb hby d21_1)
  refine Go.step st1 ?_
  show Go p e below _ (T1.setTop (mkF m 4 #[rv a] [(.ref ki)]))
  obtain ⟨fs, hr, hrun, hended, hW, hsame⟩ := X1.leave (v := some (.ref ki)) (fun h => by rw [Bd.returns] at h; cases h)
  refine Go.fin (S' := T1.setFrames fs) ?_ hrun hended ⟨_, _, rfl, ?_, ⟨_, rfl⟩, hW, hsame.mono (by decide) (by decide)⟩
  · exact retOut X1 hx Bd.returns rfl (Or.inr (Or.inr (Or.inr (Or.inr ⟨rfl, rfl, rfl⟩)))) (hb hby d21_4) hr
  · show Q_rmG_kind Z a ki h0 n0 (some (.ref ki)) T1.heap _
    rw [e1]
    exact ⟨rfl, N0, rfl⟩
theorem d22_0 : decode prog_5_method_22_code 0 = .ok (.aload_n 0, 1) := by decide +kernel
theorem d22_1 : decode prog_5_method_22_code 1 = .ok (.getfield 15, 3) := by decide +kernel
theorem d22_4 : decode prog_5_method_22_code 4 = .ok (.areturn, 1) := by decide +kernel
theorem ef_rmG_key (m : MethodId) (a : Addr) : entryFrame m #[(.ref a)] 1 = mkF m 0 #[.val (.ref a)] [] := by first | (simp [entryFrame, mkF, argsToLocals, Value.category]; done) | rfl
abbrev rm_rmG_key : Room := ({ frames := 0, cells := 0, slots := 0, locals := 0 } : Room)
def Q_rmG_key (Z : State) (a : Addr) (ke : Addr) (h0 : Heap) (n0 : Nat) (v : Option Value) (h : Heap) (L : List Loc) : Prop := (v = some (.ref ke)) ∧ (Fr n0 L) ∧ (h = h0)
set_option maxRecDepth 65536 in
set_option maxHeartbeats 40000000 in
theorem rmG_key (l : Launch) (Z : State) (a0 : Array Value) (hw : ∀ d ∈ tables_1, d.before a0 Z = true) (ws : List Jvm.Cond) (a : Addr) (ke : Addr) (h0 : Heap) (n0 : Nat) (O : Old Z n0 h0) (F : Fld Z h0 a "com/example/tombsweep/tombsweep/io/RecordHeader" "key" "Lcom/example/tombsweep/tombsweep/model/BlobKey;" (.ref ke)) :
    MetFree l (⟨"com/example/tombsweep/tombsweep/io/RecordHeader", "key", "()Lcom/example/tombsweep/tombsweep/model/BlobKey;"⟩ : MethodName) (head1 (Jvm.Cond.code (⟨"com/example/tombsweep/tombsweep/io/RecordHeader", "key", "()Lcom/example/tombsweep/tombsweep/model/BlobKey;"⟩ : MethodName) prog_5_method_22_code 1 (some (.object "com/example/tombsweep/tombsweep/model/BlobKey")) :: ws) rm_rmG_key) (fun A_ U => A_ = #[(.ref a)] ∧ Z.Warmed39 U.vm ∧ U.heap = h0) (fun _ _ _ _ _ => True) (fun _ U o U' => ∃ v L, o = .returned v ∧ Q_rmG_key Z a ke h0 n0 v U'.heap L ∧ FrameEnd U o U' L rm_rmG_key.cells rm_rmG_key.slots) := by
  refine MetFree.of_bodySF (plainFor_of_name pn_com_example_tombsweep_tombsweep_io_RecordHeader) hisR ?_
  intro p e s m args below meth c s₁ Bd hml0 hP hK
  obtain ⟨rfl, hZ, hh⟩ := hP
  have hx := Bd.exec
  have hby := Bd.bytes
  have hml : c.maxLocals = 1 := hml0
  have hown : s.vm.findClass "com/example/tombsweep/tombsweep/io/RecordHeader" = some m.cls := findClass_of_methodNamed Bd.named
  have hnm := (name_of_methodNamed Bd.named Bd.method).1
  have X0 : Stand p l e rm_rmG_key s m #[(.ref a)] below meth c s₁ [] 0 0 := Stand.of_body Bd
  have e0 : s₁.heap = h0 := by rw [← hh, Bd.state]; rfl
  have N0 := Fr.nil n0
  refine Go.step (p := p) (e := e) (below := below) (G := fun o U' => ∃ v L, o = .returned v ∧ Q_rmG_key Z a ke h0 n0 v U'.heap L ∧ FrameEnd s o U' L rm_rmG_key.cells rm_rmG_key.slots) (S' := s₁.setTop (mkF m 0 #[rv a] [])) (fun t k => castTop (ef_rmG_key m a) k) ?_
  refine Go.step (S' := s₁.setTop (mkF m 1 #[rv a] [(.ref a)])) (fun t k => ?_) ?_
  · show Steps p.tables e below (s₁.setTop (mkF m 0 #[rv a] [])) _
    refine XS.aloadN X0.here hx rfl (hb hby d22_0) rfl rfl ?_
    exact k
  obtain ⟨T1, X1, e1, st1⟩ := getF X0 hx hZ hown (host := "") (Or.inl (own_w hw 103 rfl)) Via.refl e0 F (g := (mkF m 1 #[rv a] [(.ref a)])) rfl rfl (hb hby d22_1)
  refine Go.step st1 ?_
  show Go p e below _ (T1.setTop (mkF m 4 #[rv a] [(.ref ke)]))
  obtain ⟨fs, hr, hrun, hended, hW, hsame⟩ := X1.leave (v := some (.ref ke)) (fun h => by rw [Bd.returns] at h; cases h)
  refine Go.fin (S' := T1.setFrames fs) ?_ hrun hended ⟨_, _, rfl, ?_, ⟨_, rfl⟩, hW, hsame.mono (by decide) (by decide)⟩
  · exact retOut X1 hx Bd.returns rfl (Or.inr (Or.inr (Or.inr (Or.inr ⟨rfl, rfl, rfl⟩)))) (hb hby d22_4) hr
  · show Q_rmG_key Z a ke h0 n0 (some (.ref ke)) T1.heap _
    rw [e1]
    exact ⟨rfl, N0, rfl⟩
theorem d23_0 : decode prog_5_method_23_code 0 = .ok (.aload_n 0, 1) := by decide +kernel
theorem d23_1 : decode prog_5_method_23_code 1 = .ok (.getfield 19, 3) := by decide +kernel
theorem d23_4 : decode prog_5_method_23_code 4 = .ok (.ireturn, 1) := by decide +kernel
theorem ef_rmG_metadataLength (m : MethodId) (a : Addr) : entryFrame m #[(.ref a)] 1 = mkF m 0 #[.val (.ref a)] [] := by first | (simp [entryFrame, mkF, argsToLocals, Value.category]; done) | rfl
abbrev rm_rmG_metadataLength : Room := ({ frames := 0, cells := 0, slots := 0, locals := 0 } : Room)
def Q_rmG_metadataLength (Z : State) (a : Addr) (m1 : Int32) (h0 : Heap) (n0 : Nat) (v : Option Value) (h : Heap) (L : List Loc) : Prop := (v = some (.int m1)) ∧ (Fr n0 L) ∧ (h = h0)
set_option maxRecDepth 65536 in
set_option maxHeartbeats 40000000 in
theorem rmG_metadataLength (l : Launch) (Z : State) (a0 : Array Value) (hw : ∀ d ∈ tables_1, d.before a0 Z = true) (ws : List Jvm.Cond) (a : Addr) (m1 : Int32) (h0 : Heap) (n0 : Nat) (O : Old Z n0 h0) (F : Fld Z h0 a "com/example/tombsweep/tombsweep/io/RecordHeader" "metadataLength" "I" (.int m1)) :
    MetFree l (⟨"com/example/tombsweep/tombsweep/io/RecordHeader", "metadataLength", "()I"⟩ : MethodName) (head1 (Jvm.Cond.code (⟨"com/example/tombsweep/tombsweep/io/RecordHeader", "metadataLength", "()I"⟩ : MethodName) prog_5_method_23_code 1 (some .int) :: ws) rm_rmG_metadataLength) (fun A_ U => A_ = #[(.ref a)] ∧ Z.Warmed39 U.vm ∧ U.heap = h0) (fun _ _ _ _ _ => True) (fun _ U o U' => ∃ v L, o = .returned v ∧ Q_rmG_metadataLength Z a m1 h0 n0 v U'.heap L ∧ FrameEnd U o U' L rm_rmG_metadataLength.cells rm_rmG_metadataLength.slots) := by
  refine MetFree.of_bodySF (plainFor_of_name pn_com_example_tombsweep_tombsweep_io_RecordHeader) hisR ?_
  intro p e s m args below meth c s₁ Bd hml0 hP hK
  obtain ⟨rfl, hZ, hh⟩ := hP
  have hx := Bd.exec
  have hby := Bd.bytes
  have hml : c.maxLocals = 1 := hml0
  have hown : s.vm.findClass "com/example/tombsweep/tombsweep/io/RecordHeader" = some m.cls := findClass_of_methodNamed Bd.named
  have hnm := (name_of_methodNamed Bd.named Bd.method).1
  have X0 : Stand p l e rm_rmG_metadataLength s m #[(.ref a)] below meth c s₁ [] 0 0 := Stand.of_body Bd
  have e0 : s₁.heap = h0 := by rw [← hh, Bd.state]; rfl
  have N0 := Fr.nil n0
  refine Go.step (p := p) (e := e) (below := below) (G := fun o U' => ∃ v L, o = .returned v ∧ Q_rmG_metadataLength Z a m1 h0 n0 v U'.heap L ∧ FrameEnd s o U' L rm_rmG_metadataLength.cells rm_rmG_metadataLength.slots) (S' := s₁.setTop (mkF m 0 #[rv a] [])) (fun t k => castTop (ef_rmG_metadataLength m a) k) ?_
  refine Go.step (S' := s₁.setTop (mkF m 1 #[rv a] [(.ref a)])) (fun t k => ?_) ?_
  · show Steps p.tables e below (s₁.setTop (mkF m 0 #[rv a] [])) _
    refine XS.aloadN X0.here hx rfl (hb hby d23_0) rfl rfl ?_
    exact k
  obtain ⟨T1, X1, e1, st1⟩ := getF X0 hx hZ hown (host := "") (Or.inl (own_w hw 105 rfl)) Via.refl e0 F (g := (mkF m 1 #[rv a] [(.ref a)])) rfl rfl (hb hby d23_1)
  refine Go.step st1 ?_
  show Go p e below _ (T1.setTop (mkF m 4 #[rv a] [(.int m1)]))
  obtain ⟨fs, hr, hrun, hended, hW, hsame⟩ := X1.leave (v := some (.int m1)) (fun h => by rw [Bd.returns] at h; cases h)
  refine Go.fin (S' := T1.setFrames fs) ?_ hrun hended ⟨_, _, rfl, ?_, ⟨_, rfl⟩, hW, hsame.mono (by decide) (by decide)⟩
  · exact retOut X1 hx Bd.returns rfl (Or.inl ⟨rfl, Or.inl rfl, _, rfl⟩) (hb hby d23_4) hr
  · show Q_rmG_metadataLength Z a m1 h0 n0 (some (.int m1)) T1.heap _
    rw [e1]
    exact ⟨rfl, N0, rfl⟩
theorem d24_0 : decode prog_5_method_24_code 0 = .ok (.aload_n 0, 1) := by decide +kernel
theorem d24_1 : decode prog_5_method_24_code 1 = .ok (.getfield 23, 3) := by decide +kernel
theorem d24_4 : decode prog_5_method_24_code 4 = .ok (.lreturn, 1) := by decide +kernel
theorem ef_rmG_sequence (m : MethodId) (a : Addr) : entryFrame m #[(.ref a)] 1 = mkF m 0 #[.val (.ref a)] [] := by first | (simp [entryFrame, mkF, argsToLocals, Value.category]; done) | rfl
abbrev rm_rmG_sequence : Room := ({ frames := 0, cells := 0, slots := 0, locals := 0 } : Room)
def Q_rmG_sequence (Z : State) (a : Addr) (q1 : Int64) (h0 : Heap) (n0 : Nat) (v : Option Value) (h : Heap) (L : List Loc) : Prop := (v = some (.long q1)) ∧ (Fr n0 L) ∧ (h = h0)
set_option maxRecDepth 65536 in
set_option maxHeartbeats 40000000 in
theorem rmG_sequence (l : Launch) (Z : State) (a0 : Array Value) (hw : ∀ d ∈ tables_1, d.before a0 Z = true) (ws : List Jvm.Cond) (a : Addr) (q1 : Int64) (h0 : Heap) (n0 : Nat) (O : Old Z n0 h0) (F : Fld Z h0 a "com/example/tombsweep/tombsweep/io/RecordHeader" "sequence" "J" (.long q1)) :
    MetFree l (⟨"com/example/tombsweep/tombsweep/io/RecordHeader", "sequence", "()J"⟩ : MethodName) (head1 (Jvm.Cond.code (⟨"com/example/tombsweep/tombsweep/io/RecordHeader", "sequence", "()J"⟩ : MethodName) prog_5_method_24_code 1 (some .long) :: ws) rm_rmG_sequence) (fun A_ U => A_ = #[(.ref a)] ∧ Z.Warmed39 U.vm ∧ U.heap = h0) (fun _ _ _ _ _ => True) (fun _ U o U' => ∃ v L, o = .returned v ∧ Q_rmG_sequence Z a q1 h0 n0 v U'.heap L ∧ FrameEnd U o U' L rm_rmG_sequence.cells rm_rmG_sequence.slots) := by
  refine MetFree.of_bodySF (plainFor_of_name pn_com_example_tombsweep_tombsweep_io_RecordHeader) hisR ?_
  intro p e s m args below meth c s₁ Bd hml0 hP hK
  obtain ⟨rfl, hZ, hh⟩ := hP
  have hx := Bd.exec
  have hby := Bd.bytes
  have hml : c.maxLocals = 1 := hml0
  have hown : s.vm.findClass "com/example/tombsweep/tombsweep/io/RecordHeader" = some m.cls := findClass_of_methodNamed Bd.named
  have hnm := (name_of_methodNamed Bd.named Bd.method).1
  have X0 : Stand p l e rm_rmG_sequence s m #[(.ref a)] below meth c s₁ [] 0 0 := Stand.of_body Bd
  have e0 : s₁.heap = h0 := by rw [← hh, Bd.state]; rfl
  have N0 := Fr.nil n0
  refine Go.step (p := p) (e := e) (below := below) (G := fun o U' => ∃ v L, o = .returned v ∧ Q_rmG_sequence Z a q1 h0 n0 v U'.heap L ∧ FrameEnd s o U' L rm_rmG_sequence.cells rm_rmG_sequence.slots) (S' := s₁.setTop (mkF m 0 #[rv a] [])) (fun t k => castTop (ef_rmG_sequence m a) k) ?_
  refine Go.step (S' := s₁.setTop (mkF m 1 #[rv a] [(.ref a)])) (fun t k => ?_) ?_
  · show Steps p.tables e below (s₁.setTop (mkF m 0 #[rv a] [])) _
    refine XS.aloadN X0.here hx rfl (hb hby d24_0) rfl rfl ?_
    exact k
  obtain ⟨T1, X1, e1, st1⟩ := getF X0 hx hZ hown (host := "") (Or.inl (own_w hw 107 rfl)) Via.refl e0 F (g := (mkF m 1 #[rv a] [(.ref a)])) rfl rfl (hb hby d24_1)
  refine Go.step st1 ?_
  show Go p e below _ (T1.setTop (mkF m 4 #[rv a] [(.long q1)]))
  obtain ⟨fs, hr, hrun, hended, hW, hsame⟩ := X1.leave (v := some (.long q1)) (fun h => by rw [Bd.returns] at h; cases h)
  refine Go.fin (S' := T1.setFrames fs) ?_ hrun hended ⟨_, _, rfl, ?_, ⟨_, rfl⟩, hW, hsame.mono (by decide) (by decide)⟩
  · exact retOut X1 hx Bd.returns rfl (Or.inr (Or.inl ⟨rfl, rfl, _, rfl⟩)) (hb hby d24_4) hr
  · show Q_rmG_sequence Z a q1 h0 n0 (some (.long q1)) T1.heap _
    rw [e1]
    exact ⟨rfl, N0, rfl⟩
theorem d25_0 : decode prog_5_method_25_code 0 = .ok (.aload_n 0, 1) := by decide +kernel
theorem d25_1 : decode prog_5_method_25_code 1 = .ok (.getfield 27, 3) := by decide +kernel
theorem d25_4 : decode prog_5_method_25_code 4 = .ok (.lreturn, 1) := by decide +kernel
theorem ef_rmG_time (m : MethodId) (a : Addr) : entryFrame m #[(.ref a)] 1 = mkF m 0 #[.val (.ref a)] [] := by first | (simp [entryFrame, mkF, argsToLocals, Value.category]; done) | rfl
abbrev rm_rmG_time : Room := ({ frames := 0, cells := 0, slots := 0, locals := 0 } : Room)
def Q_rmG_time (Z : State) (a : Addr) (q2 : Int64) (h0 : Heap) (n0 : Nat) (v : Option Value) (h : Heap) (L : List Loc) : Prop := (v = some (.long q2)) ∧ (Fr n0 L) ∧ (h = h0)
set_option maxRecDepth 65536 in
set_option maxHeartbeats 40000000 in
theorem rmG_time (l : Launch) (Z : State) (a0 : Array Value) (hw : ∀ d ∈ tables_1, d.before a0 Z = true) (ws : List Jvm.Cond) (a : Addr) (q2 : Int64) (h0 : Heap) (n0 : Nat) (O : Old Z n0 h0) (F : Fld Z h0 a "com/example/tombsweep/tombsweep/io/RecordHeader" "time" "J" (.long q2)) :
    MetFree l (⟨"com/example/tombsweep/tombsweep/io/RecordHeader", "time", "()J"⟩ : MethodName) (head1 (Jvm.Cond.code (⟨"com/example/tombsweep/tombsweep/io/RecordHeader", "time", "()J"⟩ : MethodName) prog_5_method_25_code 1 (some .long) :: ws) rm_rmG_time) (fun A_ U => A_ = #[(.ref a)] ∧ Z.Warmed39 U.vm ∧ U.heap = h0) (fun _ _ _ _ _ => True) (fun _ U o U' => ∃ v L, o = .returned v ∧ Q_rmG_time Z a q2 h0 n0 v U'.heap L ∧ FrameEnd U o U' L rm_rmG_time.cells rm_rmG_time.slots) := by
  refine MetFree.of_bodySF (plainFor_of_name pn_com_example_tombsweep_tombsweep_io_RecordHeader) hisR ?_
  intro p e s m args below meth c s₁ Bd hml0 hP hK
  obtain ⟨rfl, hZ, hh⟩ := hP
  have hx := Bd.exec
  have hby := Bd.bytes
  have hml : c.maxLocals = 1 := hml0
  have hown : s.vm.findClass "com/example/tombsweep/tombsweep/io/RecordHeader" = some m.cls := findClass_of_methodNamed Bd.named
  have hnm := (name_of_methodNamed Bd.named Bd.method).1
  have X0 : Stand p l e rm_rmG_time s m #[(.ref a)] below meth c s₁ [] 0 0 := Stand.of_body Bd
  have e0 : s₁.heap = h0 := by rw [← hh, Bd.state]; rfl
  have N0 := Fr.nil n0
  refine Go.step (p := p) (e := e) (below := below) (G := fun o U' => ∃ v L, o = .returned v ∧ Q_rmG_time Z a q2 h0 n0 v U'.heap L ∧ FrameEnd s o U' L rm_rmG_time.cells rm_rmG_time.slots) (S' := s₁.setTop (mkF m 0 #[rv a] [])) (fun t k => castTop (ef_rmG_time m a) k) ?_
  refine Go.step (S' := s₁.setTop (mkF m 1 #[rv a] [(.ref a)])) (fun t k => ?_) ?_
  · show Steps p.tables e below (s₁.setTop (mkF m 0 #[rv a] [])) _
    refine XS.aloadN X0.here hx rfl (hb hby d25_0) rfl rfl ?_
    exact k
  obtain ⟨T1, X1, e1, st1⟩ := getF X0 hx hZ hown (host := "") (Or.inl (own_w hw 109 rfl)) Via.refl e0 F (g := (mkF m 1 #[rv a] [(.ref a)])) rfl rfl (hb hby d25_1)
  refine Go.step st1 ?_
  show Go p e below _ (T1.setTop (mkF m 4 #[rv a] [(.long q2)]))
  obtain ⟨fs, hr, hrun, hended, hW, hsame⟩ := X1.leave (v := some (.long q2)) (fun h => by rw [Bd.returns] at h; cases h)
  refine Go.fin (S' := T1.setFrames fs) ?_ hrun hended ⟨_, _, rfl, ?_, ⟨_, rfl⟩, hW, hsame.mono (by decide) (by decide)⟩
  · exact retOut X1 hx Bd.returns rfl (Or.inr (Or.inl ⟨rfl, rfl, _, rfl⟩)) (hb hby d25_4) hr
  · show Q_rmG_time Z a q2 h0 n0 (some (.long q2)) T1.heap _
    rw [e1]
    exact ⟨rfl, N0, rfl⟩
theorem d26_0 : decode prog_5_method_26_code 0 = .ok (.aload_n 0, 1) := by decide +kernel
theorem d26_1 : decode prog_5_method_26_code 1 = .ok (.getfield 30, 3) := by decide +kernel
theorem d26_4 : decode prog_5_method_26_code 4 = .ok (.lreturn, 1) := by decide +kernel
theorem ef_rmG_contentLength (m : MethodId) (a : Addr) : entryFrame m #[(.ref a)] 1 = mkF m 0 #[.val (.ref a)] [] := by first | (simp [entryFrame, mkF, argsToLocals, Value.category]; done) | rfl
abbrev rm_rmG_contentLength : Room := ({ frames := 0, cells := 0, slots := 0, locals := 0 } : Room)
def Q_rmG_contentLength (Z : State) (a : Addr) (q3 : Int64) (h0 : Heap) (n0 : Nat) (v : Option Value) (h : Heap) (L : List Loc) : Prop := (v = some (.long q3)) ∧ (Fr n0 L) ∧ (h = h0)
set_option maxRecDepth 65536 in
set_option maxHeartbeats 40000000 in
theorem rmG_contentLength (l : Launch) (Z : State) (a0 : Array Value) (hw : ∀ d ∈ tables_1, d.before a0 Z = true) (ws : List Jvm.Cond) (a : Addr) (q3 : Int64) (h0 : Heap) (n0 : Nat) (O : Old Z n0 h0) (F : Fld Z h0 a "com/example/tombsweep/tombsweep/io/RecordHeader" "contentLength" "J" (.long q3)) :
    MetFree l (⟨"com/example/tombsweep/tombsweep/io/RecordHeader", "contentLength", "()J"⟩ : MethodName) (head1 (Jvm.Cond.code (⟨"com/example/tombsweep/tombsweep/io/RecordHeader", "contentLength", "()J"⟩ : MethodName) prog_5_method_26_code 1 (some .long) :: ws) rm_rmG_contentLength) (fun A_ U => A_ = #[(.ref a)] ∧ Z.Warmed39 U.vm ∧ U.heap = h0) (fun _ _ _ _ _ => True) (fun _ U o U' => ∃ v L, o = .returned v ∧ Q_rmG_contentLength Z a q3 h0 n0 v U'.heap L ∧ FrameEnd U o U' L rm_rmG_contentLength.cells rm_rmG_contentLength.slots) := by
  refine MetFree.of_bodySF (plainFor_of_name pn_com_example_tombsweep_tombsweep_io_RecordHeader) hisR ?_
  intro p e s m args below meth c s₁ Bd hml0 hP hK
  obtain ⟨rfl, hZ, hh⟩ := hP
  have hx := Bd.exec
  have hby := Bd.bytes
  have hml : c.maxLocals = 1 := hml0
  have hown : s.vm.findClass "com/example/tombsweep/tombsweep/io/RecordHeader" = some m.cls := findClass_of_methodNamed Bd.named
  have hnm := (name_of_methodNamed Bd.named Bd.method).1
  have X0 : Stand p l e rm_rmG_contentLength s m #[(.ref a)] below meth c s₁ [] 0 0 := Stand.of_body Bd
  have e0 : s₁.heap = h0 := by rw [← hh, Bd.state]; rfl
  have N0 := Fr.nil n0
  refine Go.step (p := p) (e := e) (below := below) (G := fun o U' => ∃ v L, o = .returned v ∧ Q_rmG_contentLength Z a q3 h0 n0 v U'.heap L ∧ FrameEnd s o U' L rm_rmG_contentLength.cells rm_rmG_contentLength.slots) (S' := s₁.setTop (mkF m 0 #[rv a] [])) (fun t k => castTop (ef_rmG_contentLength m a) k) ?_
  refine Go.step (S' := s₁.setTop (mkF m 1 #[rv a] [(.ref a)])) (fun t k => ?_) ?_
  · show Steps p.tables e below (s₁.setTop (mkF m 0 #[rv a] [])) _
    refine XS.aloadN X0.here hx rfl (hb hby d26_0) rfl rfl ?_
    exact k
  obtain ⟨T1, X1, e1, st1⟩ := getF X0 hx hZ hown (host := "") (Or.inl (own_w hw 111 rfl)) Via.refl e0 F (g := (mkF m 1 #[rv a] [(.ref a)])) rfl rfl (hb hby d26_1)
  refine Go.step st1 ?_
  show Go p e below _ (T1.setTop (mkF m 4 #[rv a] [(.long q3)]))
  obtain ⟨fs, hr, hrun, hended, hW, hsame⟩ := X1.leave (v := some (.long q3)) (fun h => by rw [Bd.returns] at h; cases h)
  refine Go.fin (S' := T1.setFrames fs) ?_ hrun hended ⟨_, _, rfl, ?_, ⟨_, rfl⟩, hW, hsame.mono (by decide) (by decide)⟩
  · exact retOut X1 hx Bd.returns rfl (Or.inr (Or.inl ⟨rfl, rfl, _, rfl⟩)) (hb hby d26_4) hr
  · show Q_rmG_contentLength Z a q3 h0 n0 (some (.long q3)) T1.heap _
    rw [e1]
    exact ⟨rfl, N0, rfl⟩
theorem d27_0 : decode prog_5_method_27_code 0 = .ok (.aload_n 0, 1) := by decide +kernel
theorem d27_1 : decode prog_5_method_27_code 1 = .ok (.getfield 33, 3) := by decide +kernel
theorem d27_4 : decode prog_5_method_27_code 4 = .ok (.ireturn, 1) := by decide +kernel
theorem ef_rmG_contentCheck (m : MethodId) (a : Addr) : entryFrame m #[(.ref a)] 1 = mkF m 0 #[.val (.ref a)] [] := by first | (simp [entryFrame, mkF, argsToLocals, Value.category]; done) | rfl
abbrev rm_rmG_contentCheck : Room := ({ frames := 0, cells := 0, slots := 0, locals := 0 } : Room)
def Q_rmG_contentCheck (Z : State) (a : Addr) (m2 : Int32) (h0 : Heap) (n0 : Nat) (v : Option Value) (h : Heap) (L : List Loc) : Prop := (v = some (.int m2)) ∧ (Fr n0 L) ∧ (h = h0)
set_option maxRecDepth 65536 in
set_option maxHeartbeats 40000000 in
theorem rmG_contentCheck (l : Launch) (Z : State) (a0 : Array Value) (hw : ∀ d ∈ tables_1, d.before a0 Z = true) (ws : List Jvm.Cond) (a : Addr) (m2 : Int32) (h0 : Heap) (n0 : Nat) (O : Old Z n0 h0) (F : Fld Z h0 a "com/example/tombsweep/tombsweep/io/RecordHeader" "contentCheck" "I" (.int m2)) :
    MetFree l (⟨"com/example/tombsweep/tombsweep/io/RecordHeader", "contentCheck", "()I"⟩ : MethodName) (head1 (Jvm.Cond.code (⟨"com/example/tombsweep/tombsweep/io/RecordHeader", "contentCheck", "()I"⟩ : MethodName) prog_5_method_27_code 1 (some .int) :: ws) rm_rmG_contentCheck) (fun A_ U => A_ = #[(.ref a)] ∧ Z.Warmed39 U.vm ∧ U.heap = h0) (fun _ _ _ _ _ => True) (fun _ U o U' => ∃ v L, o = .returned v ∧ Q_rmG_contentCheck Z a m2 h0 n0 v U'.heap L ∧ FrameEnd U o U' L rm_rmG_contentCheck.cells rm_rmG_contentCheck.slots) := by
  refine MetFree.of_bodySF (plainFor_of_name pn_com_example_tombsweep_tombsweep_io_RecordHeader) hisR ?_
  intro p e s m args below meth c s₁ Bd hml0 hP hK
  obtain ⟨rfl, hZ, hh⟩ := hP
  have hx := Bd.exec
  have hby := Bd.bytes
  have hml : c.maxLocals = 1 := hml0
  have hown : s.vm.findClass "com/example/tombsweep/tombsweep/io/RecordHeader" = some m.cls := findClass_of_methodNamed Bd.named
  have hnm := (name_of_methodNamed Bd.named Bd.method).1
  have X0 : Stand p l e rm_rmG_contentCheck s m #[(.ref a)] below meth c s₁ [] 0 0 := Stand.of_body Bd
  have e0 : s₁.heap = h0 := by rw [← hh, Bd.state]; rfl
  have N0 := Fr.nil n0
  refine Go.step (p := p) (e := e) (below := below) (G := fun o U' => ∃ v L, o = .returned v ∧ Q_rmG_contentCheck Z a m2 h0 n0 v U'.heap L ∧ FrameEnd s o U' L rm_rmG_contentCheck.cells rm_rmG_contentCheck.slots) (S' := s₁.setTop (mkF m 0 #[rv a] [])) (fun t k => castTop (ef_rmG_contentCheck m a) k) ?_
  refine Go.step (S' := s₁.setTop (mkF m 1 #[rv a] [(.ref a)])) (fun t k => ?_) ?_
  · show Steps p.tables e below (s₁.setTop (mkF m 0 #[rv a] [])) _
    refine XS.aloadN X0.here hx rfl (hb hby d27_0) rfl rfl ?_
    exact k
  obtain ⟨T1, X1, e1, st1⟩ := getF X0 hx hZ hown (host := "") (Or.inl (own_w hw 113 rfl)) Via.refl e0 F (g := (mkF m 1 #[rv a] [(.ref a)])) rfl rfl (hb hby d27_1)
  refine Go.step st1 ?_
  show Go p e below _ (T1.setTop (mkF m 4 #[rv a] [(.int m2)]))
  obtain ⟨fs, hr, hrun, hended, hW, hsame⟩ := X1.leave (v := some (.int m2)) (fun h => by rw [Bd.returns] at h; cases h)
  refine Go.fin (S' := T1.setFrames fs) ?_ hrun hended ⟨_, _, rfl, ?_, ⟨_, rfl⟩, hW, hsame.mono (by decide) (by decide)⟩
  · exact retOut X1 hx Bd.returns rfl (Or.inl ⟨rfl, Or.inl rfl, _, rfl⟩) (hb hby d27_4) hr
  · show Q_rmG_contentCheck Z a m2 h0 n0 (some (.int m2)) T1.heap _
    rw [e1]
    exact ⟨rfl, N0, rfl⟩
theorem d28_0 : decode prog_5_method_28_code 0 = .ok (.aload_n 0, 1) := by decide +kernel
theorem d28_1 : decode prog_5_method_28_code 1 = .ok (.getfield 36, 3) := by decide +kernel
theorem d28_4 : decode prog_5_method_28_code 4 = .ok (.ireturn, 1) := by decide +kernel
theorem ef_rmG_metadataCheck (m : MethodId) (a : Addr) : entryFrame m #[(.ref a)] 1 = mkF m 0 #[.val (.ref a)] [] := by first | (simp [entryFrame, mkF, argsToLocals, Value.category]; done) | rfl
abbrev rm_rmG_metadataCheck : Room := ({ frames := 0, cells := 0, slots := 0, locals := 0 } : Room)
def Q_rmG_metadataCheck (Z : State) (a : Addr) (m3 : Int32) (h0 : Heap) (n0 : Nat) (v : Option Value) (h : Heap) (L : List Loc) : Prop := (v = some (.int m3)) ∧ (Fr n0 L) ∧ (h = h0)
set_option maxRecDepth 65536 in
set_option maxHeartbeats 40000000 in
theorem rmG_metadataCheck (l : Launch) (Z : State) (a0 : Array Value) (hw : ∀ d ∈ tables_1, d.before a0 Z = true) (ws : List Jvm.Cond) (a : Addr) (m3 : Int32) (h0 : Heap) (n0 : Nat) (O : Old Z n0 h0) (F : Fld Z h0 a "com/example/tombsweep/tombsweep/io/RecordHeader" "metadataCheck" "I" (.int m3)) :
    MetFree l (⟨"com/example/tombsweep/tombsweep/io/RecordHeader", "metadataCheck", "()I"⟩ : MethodName) (head1 (Jvm.Cond.code (⟨"com/example/tombsweep/tombsweep/io/RecordHeader", "metadataCheck", "()I"⟩ : MethodName) prog_5_method_28_code 1 (some .int) :: ws) rm_rmG_metadataCheck) (fun A_ U => A_ = #[(.ref a)] ∧ Z.Warmed39 U.vm ∧ U.heap = h0) (fun _ _ _ _ _ => True) (fun _ U o U' => ∃ v L, o = .returned v ∧ Q_rmG_metadataCheck Z a m3 h0 n0 v U'.heap L ∧ FrameEnd U o U' L rm_rmG_metadataCheck.cells rm_rmG_metadataCheck.slots) := by
  refine MetFree.of_bodySF (plainFor_of_name pn_com_example_tombsweep_tombsweep_io_RecordHeader) hisR ?_
  intro p e s m args below meth c s₁ Bd hml0 hP hK
  obtain ⟨rfl, hZ, hh⟩ := hP
  have hx := Bd.exec
  have hby := Bd.bytes
  have hml : c.maxLocals = 1 := hml0
  have hown : s.vm.findClass "com/example/tombsweep/tombsweep/io/RecordHeader" = some m.cls := findClass_of_methodNamed Bd.named
  have hnm := (name_of_methodNamed Bd.named Bd.method).1
  have X0 : Stand p l e rm_rmG_metadataCheck s m #[(.ref a)] below meth c s₁ [] 0 0 := Stand.of_body Bd
  have e0 : s₁.heap = h0 := by rw [← hh, Bd.state]; rfl
  have N0 := Fr.nil n0
  refine Go.step (p := p) (e := e) (below := below) (G := fun o U' => ∃ v L, o = .returned v ∧ Q_rmG_metadataCheck Z a m3 h0 n0 v U'.heap L ∧ FrameEnd s o U' L rm_rmG_metadataCheck.cells rm_rmG_metadataCheck.slots) (S' := s₁.setTop (mkF m 0 #[rv a] [])) (fun t k => castTop (ef_rmG_metadataCheck m a) k) ?_
  refine Go.step (S' := s₁.setTop (mkF m 1 #[rv a] [(.ref a)])) (fun t k => ?_) ?_
  · show Steps p.tables e below (s₁.setTop (mkF m 0 #[rv a] [])) _
    refine XS.aloadN X0.here hx rfl (hb hby d28_0) rfl rfl ?_
    exact k
  obtain ⟨T1, X1, e1, st1⟩ := getF X0 hx hZ hown (host := "") (Or.inl (own_w hw 115 rfl)) Via.refl e0 F (g := (mkF m 1 #[rv a] [(.ref a)])) rfl rfl (hb hby d28_1)
  refine Go.step st1 ?_
  show Go p e below _ (T1.setTop (mkF m 4 #[rv a] [(.int m3)]))
  obtain ⟨fs, hr, hrun, hended, hW, hsame⟩ := X1.leave (v := some (.int m3)) (fun h => by rw [Bd.returns] at h; cases h)
  refine Go.fin (S' := T1.setFrames fs) ?_ hrun hended ⟨_, _, rfl, ?_, ⟨_, rfl⟩, hW, hsame.mono (by decide) (by decide)⟩
  · exact retOut X1 hx Bd.returns rfl (Or.inl ⟨rfl, Or.inl rfl, _, rfl⟩) (hb hby d28_4) hr
  · show Q_rmG_metadataCheck Z a m3 h0 n0 (some (.int m3)) T1.heap _
    rw [e1]
    exact ⟨rfl, N0, rfl⟩
theorem pd__28I_29Lcom_2fexample_2ftombsweep_2ftombsweep_2fio_2fRecordHeader_24Kind_3b : parseMethodDescriptor "(I)Lcom/example/tombsweep/tombsweep/io/RecordHeader$Kind;" = some ⟨[.int], some (.object "com/example/tombsweep/tombsweep/io/RecordHeader$Kind")⟩ := by decide +kernel
theorem pd__28C_29Ljava_2flang_2fString_3b : parseMethodDescriptor "(C)Ljava/lang/String;" = some ⟨[.char], some (.object "java/lang/String")⟩ := by decide +kernel
theorem pd__28Ljava_2flang_2fString_3b_29V : parseMethodDescriptor "(Ljava/lang/String;)V" = some ⟨[(.object "java/lang/String")], none⟩ := by decide +kernel
theorem pd__28_29Lcom_2fexample_2ftombsweep_2ftombsweep_2fio_2fRecordHeader_3b : parseMethodDescriptor "()Lcom/example/tombsweep/tombsweep/io/RecordHeader;" = some ⟨[], some (.object "com/example/tombsweep/tombsweep/io/RecordHeader")⟩ := by decide +kernel
theorem pd__28_29Lcom_2fexample_2ftombsweep_2ftombsweep_2fio_2fRecordHeader_24Kind_3b : parseMethodDescriptor "()Lcom/example/tombsweep/tombsweep/io/RecordHeader$Kind;" = some ⟨[], some (.object "com/example/tombsweep/tombsweep/io/RecordHeader$Kind")⟩ := by decide +kernel
theorem pd__28_29Lcom_2fexample_2ftombsweep_2ftombsweep_2fmodel_2fBlobKey_3b : parseMethodDescriptor "()Lcom/example/tombsweep/tombsweep/model/BlobKey;" = some ⟨[], some (.object "com/example/tombsweep/tombsweep/model/BlobKey")⟩ := by decide +kernel
theorem pd__28_29J : parseMethodDescriptor "()J" = some ⟨[], some .long⟩ := by decide +kernel
theorem ef_rm0 (m : MethodId) (p0 : Int32) (p1 : Int32) (q2 : Int64) (q3 : Int64) (q4 : Int64) (q5 : Int64) : entryFrame m #[(.int p0), (.int p1), (.long q2), (.long q3), (.long q4), (.long q5)] maxLocals = mkF m 0 #[.val (.int p0), .val (.int p1), .val (.long q2), .second, .val (.long q3), .second, .val (.long q4), .second, .val (.long q5), .second, .unset, .unset, .unset, .unset, .unset, .unset, .unset] [] := by first | (simp [entryFrame, mkF, argsToLocals, Value.category, maxLocals]; done) | rfl
def Q_rm0 (Z : State) (p0 : Int32) (p1 : Int32) (q2 : Int64) (q3 : Int64) (q4 : Int64) (q5 : Int64) (w_PUT : Addr) (w_ERASED : Addr) (w_DELETE : Addr) (w_GONE : Addr) (w_UNFINISHED : Addr) (cs : Int32) (sf : Value) (h0 : Heap) (n0 : Nat) (v : Option Value) (h : Heap) (L : List Loc) : Prop := (v = some (.int (1 : Int32))) ∧ (Fr n0 L) ∧ (Keep h0 h [])
set_option maxRecDepth 65536 in
set_option maxHeartbeats 40000000 in
theorem rm0 (l : Launch) (Z : State) (a0 : Array Value) (hw : ∀ d ∈ tables_1, d.before a0 Z = true) (ws : List Jvm.Cond) (p0 : Int32) (p1 : Int32) (q2 : Int64) (q3 : Int64) (q4 : Int64) (q5 : Int64) (w_PUT : Addr) (w_ERASED : Addr) (w_DELETE : Addr) (w_GONE : Addr) (w_UNFINISHED : Addr) (cs : Int32) (sf : Value) (h0 : Heap) (n0 : Nat) (O : Old Z n0 h0) (S_PUT : Sta Z Z.heap "com/example/tombsweep/tombsweep/io/RecordHeader$Kind" "PUT" "Lcom/example/tombsweep/tombsweep/io/RecordHeader$Kind;" (.ref w_PUT)) (S_ERASED : Sta Z Z.heap "com/example/tombsweep/tombsweep/io/RecordHeader$Kind" "ERASED" "Lcom/example/tombsweep/tombsweep/io/RecordHeader$Kind;" (.ref w_ERASED)) (S_DELETE : Sta Z Z.heap "com/example/tombsweep/tombsweep/io/RecordHeader$Kind" "DELETE" "Lcom/example/tombsweep/tombsweep/io/RecordHeader$Kind;" (.ref w_DELETE)) (S_GONE : Sta Z Z.heap "com/example/tombsweep/tombsweep/io/RecordHeader$Kind" "GONE" "Lcom/example/tombsweep/tombsweep/io/RecordHeader$Kind;" (.ref w_GONE)) (S_UNFINISHED : Sta Z Z.heap "com/example/tombsweep/tombsweep/io/RecordHeader$Kind" "UNFINISHED" "Lcom/example/tombsweep/tombsweep/io/RecordHeader$Kind;" (.ref w_UNFINISHED)) (S_CS : Sta Z Z.heap "java/lang/String" "COMPACT_STRINGS" "Z" (.int cs)) (S_FM : Sta Z Z.heap "jdk/internal/util/Preconditions" "SIOOBE_FORMATTER" "Ljava/util/function/BiFunction;" sf) (hcs : ¬ (cs = (0 : Int32))) (hsf : sf.isRef = true) :
    MetFree l x (head1 (Jvm.Cond.code x code maxLocals ret :: ws) room_1) (fun A_ U => A_ = #[(.int p0), (.int p1), (.long q2), (.long q3), (.long q4), (.long q5)] ∧ Z.Warmed39 U.vm ∧ U.heap = h0) (fun _ _ _ _ _ => True) (fun _ U o U' => ∃ v L, o = .returned v ∧ Q_rm0 Z p0 p1 q2 q3 q4 q5 w_PUT w_ERASED w_DELETE w_GONE w_UNFINISHED cs sf h0 n0 v U'.heap L ∧ ReturnedEndW U o U' L room_1.cells room_1.slots) := by
  refine MetFree.of_bodySF (plainFor_of_name pn_com_example_tombsweep_tombsweep_io_RecordHeaderGonePinLaw) hisR ?_
  intro p e s m args below meth c s₁ Bd hml0 hP hK
  obtain ⟨rfl, hZ, hh⟩ := hP
  have hx := Bd.exec
  have hby := Bd.bytes
  have hml : c.maxLocals = 17 := hml0
  have hown : s.vm.findClass "com/example/tombsweep/tombsweep/io/RecordHeaderGonePinLaw" = some m.cls := findClass_of_methodNamed Bd.named
  have hnm := (name_of_methodNamed Bd.named Bd.method).1
  have X0 : Stand p l e room_1 (s.setVm s.vm) m #[(.int p0), (.int p1), (.long q2), (.long q3), (.long q4), (.long q5)] below meth c s₁ [] 0 0 := Stand.of_body Bd
  have e0 : s₁.heap = h0 := by rw [← hh, Bd.state]; rfl
  have N0 := Fr.nil n0
  have K := Keep.refl h0 []
  have hS : s.Since s.vm 0 := (State.WarmedH.refl s).since 0
  have hk : 0 ≤ h0.size := Nat.zero_le _
  have wS := own_wS hw
  refine Go.step (p := p) (e := e) (below := below) (G := fun o U' => ∃ v L, o = .returned v ∧ Q_rm0 Z p0 p1 q2 q3 q4 q5 w_PUT w_ERASED w_DELETE w_GONE w_UNFINISHED cs sf h0 n0 v U'.heap L ∧ ReturnedEndW s o U' L room_1.cells room_1.slots) (S' := s₁.setTop (mkF m 0 #[iv p0, iv p1, lv q2, .second, lv q3, .second, lv q4, .second, lv q5, .second, u_, u_, u_, u_, u_, u_, u_] [])) (fun t k => castTop (ef_rm0 m p0 p1 q2 q3 q4 q5) k) ?_
  refine Go.step (S' := s₁.setTop (mkF m 1 #[iv p0, iv p1, lv q2, .second, lv q3, .second, lv q4, .second, lv q5, .second, u_, u_, u_, u_, u_, u_, u_] [(.int p0)])) (fun t k => ?_) ?_
  · show Steps p.tables e below (s₁.setTop (mkF m 0 #[iv p0, iv p1, lv q2, .second, lv q3, .second, lv q4, .second, lv q5, .second, u_, u_, u_, u_, u_, u_, u_] [])) _
    refine XS.iloadN X0.here hx rfl (hb hby at_0) rfl ?_
    exact k
  obtain ⟨_, _, ⟨T1, L1, k1, n1⟩, -, X1, ⟨Lc1, hQ1, l1, y1, z1⟩, st1⟩ := Jvm.LawKit.callS X0 hx (y := (⟨"com/example/tombsweep/tombsweep/io/RecordHeaderGonePinLaw", "kindOf", "(I)Lcom/example/tombsweep/tombsweep/io/RecordHeader$Kind;"⟩ : MethodName)) hown (mvT hZ (own_w hw 0 rfl)) (mvT hZ (own_w hw 1 rfl)) (mvT hZ (own_w hw 2 rfl)) (mvT hZ (own_w hw 3 rfl)) (by decide) (backOf (W := 0) (rmKind l Z a0 hw [] p0 w_PUT w_ERASED w_DELETE w_GONE w_UNFINISHED h0 n0 O S_PUT S_ERASED S_DELETE S_GONE S_UNFINISHED) hZ (own_w hw 3 rfl) (own_w hw 2 rfl) (by decide) (by decide)) (g := (mkF m 1 #[iv p0, iv p1, lv q2, .second, lv q3, .second, lv q4, .second, lv q5, .second, u_, u_, u_, u_, u_, u_, u_] [(.int p0)])) rfl (by rw [hml]; rfl) (argsL := [(.int p0)]) (rest := []) (lenOf pd__28I_29Lcom_2fexample_2ftombsweep_2ftombsweep_2fio_2fRecordHeader_24Kind_3b rfl) rfl (by show 2 * 0 + _ ≤ _; exact Nat.le_of_eq rfl) (hb hby at_1) (fun _ _ => ⟨rfl, e0, (by decide : 0 + 0 ≤ _), (by decide : 0 + 0 ≤ _)⟩)
  dsimp only [Pt.U, Pt.locs, Pt.cells, Pt.slots] at X1 l1 y1 z1 st1 hQ1
  subst l1 y1 z1
  obtain ⟨b_1, rfl, Nq1, e1⟩ := hQ1
  have N1 := Fr.app N0 Nq1
  refine Go.step st1 ?_
  show Go p e below _ (T1.setTop (mkF m 4 #[iv p0, iv p1, lv q2, .second, lv q3, .second, lv q4, .second, lv q5, .second, u_, u_, u_, u_, u_, u_, u_] [(.ref b_1)]))
  refine Go.step (S' := T1.setTop (mkF m 23 #[iv p0, iv p1, lv q2, .second, lv q3, .second, lv q4, .second, lv q5, .second, rv b_1, iv (((97 : Int32) + ((((p0.toUInt32 >>> ((8 : Int32) &&& 31).toUInt32).toInt32) &&& (255 : Int32)) % (26 : Int32))).toUInt32.toUInt16.toUInt32.toInt32), u_, u_, u_, u_, u_] [])) (fun t k => ?_) ?_
  · show Steps p.tables e below (T1.setTop (mkF m 4 #[iv p0, iv p1, lv q2, .second, lv q3, .second, lv q4, .second, lv q5, .second, u_, u_, u_, u_, u_, u_, u_] [(.ref b_1)])) _
    refine XS.astore X1.here hx rfl (hb hby at_4) rfl rfl (l' := #[iv p0, iv p1, lv q2, .second, lv q3, .second, lv q4, .second, lv q5, .second, rv b_1, u_, u_, u_, u_, u_, u_]) rfl ?_
    show Steps p.tables e below (T1.setTop (mkF m 6 #[iv p0, iv p1, lv q2, .second, lv q3, .second, lv q4, .second, lv q5, .second, rv b_1, u_, u_, u_, u_, u_, u_] [])) _
    refine XS.bipush X1.here hx rfl (hb hby at_6) ?_
    show Steps p.tables e below (T1.setTop (mkF m 8 #[iv p0, iv p1, lv q2, .second, lv q3, .second, lv q4, .second, lv q5, .second, rv b_1, u_, u_, u_, u_, u_, u_] [(.int (97 : Int32))])) _
    refine XS.iloadN X1.here hx rfl (hb hby at_8) rfl ?_
    show Steps p.tables e below (T1.setTop (mkF m 9 #[iv p0, iv p1, lv q2, .second, lv q3, .second, lv q4, .second, lv q5, .second, rv b_1, u_, u_, u_, u_, u_, u_] [(.int p0), (.int (97 : Int32))])) _
    refine XS.bipush X1.here hx rfl (hb hby at_9) ?_
    show Steps p.tables e below (T1.setTop (mkF m 11 #[iv p0, iv p1, lv q2, .second, lv q3, .second, lv q4, .second, lv q5, .second, rv b_1, u_, u_, u_, u_, u_, u_] [(.int (8 : Int32)), (.int p0), (.int (97 : Int32))])) _
    refine XS.iushr X1.here hx rfl (hb hby at_11) rfl ?_
    show Steps p.tables e below (T1.setTop (mkF m 12 #[iv p0, iv p1, lv q2, .second, lv q3, .second, lv q4, .second, lv q5, .second, rv b_1, u_, u_, u_, u_, u_, u_] [(.int ((p0.toUInt32 >>> ((8 : Int32) &&& 31).toUInt32).toInt32)), (.int (97 : Int32))])) _
    refine XS.sipush X1.here hx rfl (hb hby at_12) ?_
    show Steps p.tables e below (T1.setTop (mkF m 15 #[iv p0, iv p1, lv q2, .second, lv q3, .second, lv q4, .second, lv q5, .second, rv b_1, u_, u_, u_, u_, u_, u_] [(.int (255 : Int32)), (.int ((p0.toUInt32 >>> ((8 : Int32) &&& 31).toUInt32).toInt32)), (.int (97 : Int32))])) _
    refine XS.iand X1.here hx rfl (hb hby at_15) rfl ?_
    show Steps p.tables e below (T1.setTop (mkF m 16 #[iv p0, iv p1, lv q2, .second, lv q3, .second, lv q4, .second, lv q5, .second, rv b_1, u_, u_, u_, u_, u_, u_] [(.int (((p0.toUInt32 >>> ((8 : Int32) &&& 31).toUInt32).toInt32) &&& (255 : Int32))), (.int (97 : Int32))])) _
    refine XS.bipush X1.here hx rfl (hb hby at_16) ?_
    show Steps p.tables e below (T1.setTop (mkF m 18 #[iv p0, iv p1, lv q2, .second, lv q3, .second, lv q4, .second, lv q5, .second, rv b_1, u_, u_, u_, u_, u_, u_] [(.int (26 : Int32)), (.int (((p0.toUInt32 >>> ((8 : Int32) &&& 31).toUInt32).toInt32) &&& (255 : Int32))), (.int (97 : Int32))])) _
    refine iremM X1 hx rfl (hb hby at_18) rfl (by decide) ?_
    show Steps p.tables e below (T1.setTop (mkF m 19 #[iv p0, iv p1, lv q2, .second, lv q3, .second, lv q4, .second, lv q5, .second, rv b_1, u_, u_, u_, u_, u_, u_] [(.int ((((p0.toUInt32 >>> ((8 : Int32) &&& 31).toUInt32).toInt32) &&& (255 : Int32)) % (26 : Int32))), (.int (97 : Int32))])) _
    refine XS.iadd X1.here hx rfl (hb hby at_19) rfl ?_
    show Steps p.tables e below (T1.setTop (mkF m 20 #[iv p0, iv p1, lv q2, .second, lv q3, .second, lv q4, .second, lv q5, .second, rv b_1, u_, u_, u_, u_, u_, u_] [(.int ((97 : Int32) + ((((p0.toUInt32 >>> ((8 : Int32) &&& 31).toUInt32).toInt32) &&& (255 : Int32)) % (26 : Int32))))])) _
    refine XS.i2c X1.here hx rfl (hb hby at_20) rfl ?_
    show Steps p.tables e below (T1.setTop (mkF m 21 #[iv p0, iv p1, lv q2, .second, lv q3, .second, lv q4, .second, lv q5, .second, rv b_1, u_, u_, u_, u_, u_, u_] [(.int (((97 : Int32) + ((((p0.toUInt32 >>> ((8 : Int32) &&& 31).toUInt32).toInt32) &&& (255 : Int32)) % (26 : Int32))).toUInt32.toUInt16.toUInt32.toInt32))])) _
    refine XS.istore X1.here hx rfl (hb hby at_21) rfl (l' := #[iv p0, iv p1, lv q2, .second, lv q3, .second, lv q4, .second, lv q5, .second, rv b_1, iv (((97 : Int32) + ((((p0.toUInt32 >>> ((8 : Int32) &&& 31).toUInt32).toInt32) &&& (255 : Int32)) % (26 : Int32))).toUInt32.toUInt16.toUInt32.toInt32), u_, u_, u_, u_, u_]) rfl ?_
    exact k
  obtain ⟨xc, hd_xc⟩ : ∃ z : Int32, (((97 : Int32) + ((((p0.toUInt32 >>> ((8 : Int32) &&& 31).toUInt32).toInt32) &&& (255 : Int32)) % (26 : Int32))).toUInt32.toUInt16.toUInt32.toInt32) = z := ⟨_, rfl⟩
  rw [hd_xc]
  show Go p e below _ (T1.setTop (mkF m 23 #[iv p0, iv p1, lv q2, .second, lv q3, .second, lv q4, .second, lv q5, .second, rv b_1, iv xc, u_, u_, u_, u_, u_] []))
  obtain ⟨r1, r2, r3, r4⟩ := own_c p0 xc hd_xc
  obtain ⟨T2, h2, X2, e2, E2, A2, D2, -, st2⟩ := newO X1 hx hZ hown (own_w hw 8 rfl) (own_w hw 9 rfl) (own_w hw 10 rfl) e1 (g := (mkF m 23 #[iv p0, iv p1, lv q2, .second, lv q3, .second, lv q4, .second, lv q5, .second, rv b_1, iv xc, u_, u_, u_, u_, u_] [])) rfl (hb hby at_23) (by decide) (by decide)
  obtain ⟨b2, g2⟩ : ∃ z, z = Array.size h0 := ⟨_, rfl⟩
  have g_b2 : n0 ≤ b2 := Nat.le_trans (old_le O) (Nat.le_of_eq g2.symm)
  have sz_b2 : h0.size ≤ b2 := Nat.le_trans K.1 (Nat.le_of_eq g2.symm)
  rw [← g2] at A2 D2 st2
  have O := O.ext E2
  have hk := Nat.le_trans hk E2.1
  have K := K.ext E2
  have E_b2 := A2
  have F_value_b2 : Fld Z h2 b2 "com/example/tombsweep/tombsweep/model/BlobKey" "value" "Ljava/lang/String;" .null := D2 (Or.inr (own_w hw 93 rfl)) (ty := (.object "java/lang/String")) (by decide)
  refine Go.step st2 ?_
  show Go p e below _ (T2.setTop (mkF m 26 #[iv p0, iv p1, lv q2, .second, lv q3, .second, lv q4, .second, lv q5, .second, rv b_1, iv xc, u_, u_, u_, u_, u_] [(.ref b2)]))
  refine Go.step (S' := T2.setTop (mkF m 29 #[iv p0, iv p1, lv q2, .second, lv q3, .second, lv q4, .second, lv q5, .second, rv b_1, iv xc, u_, u_, u_, u_, u_] [(.int xc), (.ref b2), (.ref b2)])) (fun t k => ?_) ?_
  · show Steps p.tables e below (T2.setTop (mkF m 26 #[iv p0, iv p1, lv q2, .second, lv q3, .second, lv q4, .second, lv q5, .second, rv b_1, iv xc, u_, u_, u_, u_, u_] [(.ref b2)])) _
    refine XS.dup X2.here hx rfl (hb hby at_26) rfl rfl ?_
    show Steps p.tables e below (T2.setTop (mkF m 27 #[iv p0, iv p1, lv q2, .second, lv q3, .second, lv q4, .second, lv q5, .second, rv b_1, iv xc, u_, u_, u_, u_, u_] [(.ref b2), (.ref b2)])) _
    refine XS.iload X2.here hx rfl (hb hby at_27) rfl ?_
    exact k
  obtain ⟨_, _, ⟨T3, L3, k3, n3⟩, -, X3, ⟨Lc3, hQ3, l3, y3, z3⟩, st3⟩ := Jvm.LawKit.callS X2 hx (y := (⟨"java/lang/String", "valueOf", "(C)Ljava/lang/String;"⟩ : MethodName)) hown (mvT hZ (own_w hw 11 rfl)) (mvT hZ (own_w hw 12 rfl)) (mvT hZ (own_w hw 13 rfl)) (mvT hZ (own_w hw 14 rfl)) (by decide) (backOf (W := 2) (rmVal l Z a0 hw [] xc cs h2 n0 O S_CS hcs r4) hZ (own_w hw 14 rfl) (own_w hw 13 rfl) (by decide) (by decide)) (g := (mkF m 29 #[iv p0, iv p1, lv q2, .second, lv q3, .second, lv q4, .second, lv q5, .second, rv b_1, iv xc, u_, u_, u_, u_, u_] [(.int xc), (.ref b2), (.ref b2)])) rfl (by rw [hml]; rfl) (argsL := [(.int xc)]) (rest := [(.ref b2), (.ref b2)]) (lenOf pd__28C_29Ljava_2flang_2fString_3b rfl) rfl (by show 2 * 0 + _ ≤ _; exact Nat.le_of_eq rfl) (hb hby at_29) (fun _ _ => ⟨rfl, e2, (by decide : 1 + 2 ≤ _), (by decide : 1 + 5 ≤ _)⟩)
  dsimp only [Pt.U, Pt.locs, Pt.cells, Pt.slots] at X3 l3 y3 z3 st3 hQ3
  subst l3 y3 z3
  obtain ⟨so_3, tb_3, kb_3, rfl, Nq3, K3, P3_E, P3_Fv, P3_Fc, P3_V⟩ := hQ3
  have N3 := Fr.app N1 Nq3
  have O := O.keep K3 all0
  have hk := Nat.le_trans hk K3.1
  have K := K.trans K3 all0
  have E_b2 := E_b2.keep K3
  have F_value_b2 := F_value_b2.keep K3 nin0
  have E_3 := P3_E
  have Fv_3 := P3_Fv
  have Fc_3 := P3_Fc
  have V_3 := P3_V
  refine Go.step st3 ?_
  show Go p e below _ (T3.setTop (mkF m 32 #[iv p0, iv p1, lv q2, .second, lv q3, .second, lv q4, .second, lv q5, .second, rv b_1, iv xc, u_, u_, u_, u_, u_] [(.ref so_3), (.ref b2), (.ref b2)]))
  obtain ⟨_, _, ⟨T4, L4, k4, n4⟩, -, X4, hS4, hgr4, ⟨Lc4, hQ4, l4, y4, z4⟩, st4⟩ := X3.specialBackS hx (y := (⟨"com/example/tombsweep/tombsweep/model/BlobKey", "<init>", "(Ljava/lang/String;)V"⟩ : MethodName)) rfl hown (mvT hZ (own_w hw 37 rfl)) (mvT hZ (own_w hw 38 rfl)) (mvT hZ (own_w hw 39 rfl)) (by decide) (backOfS (W := 1) (rmBK l Z a0 hw [] b2 so_3 tb_3 kb_3 xc cs sf T3.heap n0 O S_CS S_FM E_3 Fv_3 Fc_3 V_3 E_b2 F_value_b2 (by assumption) hcs hsf r1 r2 r3 r4) hZ (own_w hw 39 rfl) (own_w hw 10 rfl) (by decide) (by decide)) (g := (mkF m 32 #[iv p0, iv p1, lv q2, .second, lv q3, .second, lv q4, .second, lv q5, .second, rv b_1, iv xc, u_, u_, u_, u_, u_] [(.ref so_3), (.ref b2), (.ref b2)])) rfl (by rw [hml]; rfl) (Steps.refl _) (a := b2) (argsL := [(.ref so_3)]) (rest := [(.ref b2)]) (lenOf pd__28Ljava_2flang_2fString_3b_29V rfl) rfl (by show 2 * 0 + _ ≤ _; exact Nat.le_of_eq rfl) (hb hby at_32) (fun _ _ => ⟨rfl, (Eq.refl T3.heap), (by decide : 3 + 2 ≤ _), (by decide : 6 + 24 ≤ _)⟩)
  dsimp only [Pt.U, Pt.locs, Pt.cells, Pt.slots] at X4 l4 y4 z4 st4 hQ4 hS4 hgr4
  subst l4 y4 z4
  have hS := foldS hS (by exact hk) hS4 hgr4
  have hown : (s.setVm T4.vm).vm.findClass "com/example/tombsweep/tombsweep/io/RecordHeaderGonePinLaw" = some m.cls := by show T4.vm.findClass _ = _; rw [hS4.1.alike.findClass]; exact hown
  have hZ : Z.Warmed39 (s.setVm T4.vm).vm := State.Warmed39.trans hZ hS4.1
  have X4 : Stand p l e room_1 (s.setVm T4.vm) m #[(.int p0), (.int p1), (.long q2), (.long q3), (.long q4), (.long q5)] below meth c T4 _ _ _ := X4
  obtain ⟨rfl, Nq4, K4, P4_E⟩ := hQ4
  have N4 := Fr.app N3 Nq4
  have ne_so_3_b2 : so_3 ≠ b2 := ne_exa E_3 E_b2 (by decide)
  have ne_tb_3_b2 : tb_3 ≠ b2 := Ne.symm (Exa.neArv E_b2 V_3 (own_w hw 9 rfl))
  have O := O.keep K4 (allS g_b2 all0)
  have K := K.trans K4 (allS (Or.inr sz_b2) all0)
  have E_b2 := E_b2.keep K4
  have E_3 := E_3.keep K4
  have Fv_3 := Fv_3.keep K4 (ninS ne_so_3_b2 nin0)
  have Fc_3 := Fc_3.keep K4 (ninS ne_so_3_b2 nin0)
  have V_3 := V_3.keep K4 (ninS ne_tb_3_b2 nin0)
  have E_4 := P4_E
  have hk : T4.heap.size ≤ (T4.heap).size := Nat.le_refl _
  refine Go.step (fun t k => st4.trans k) ?_
  show Go p e below _ (T4.setTop (mkF m 35 #[iv p0, iv p1, lv q2, .second, lv q3, .second, lv q4, .second, lv q5, .second, rv b_1, iv xc, u_, u_, u_, u_, u_] [(.ref b2)]))
  refine Go.step (S' := T4.setTop (mkF m 50 #[iv p0, iv p1, lv q2, .second, lv q3, .second, lv q4, .second, lv q5, .second, rv b_1, iv xc, rv b2, iv (((q5.toUInt64 >>> ((32 : Int32) &&& 0x3f).toInt64.toUInt64).toInt64).toInt32), iv (q5.toInt32), u_, u_] [])) (fun t k => ?_) ?_
  · show Steps p.tables e below (T4.setTop (mkF m 35 #[iv p0, iv p1, lv q2, .second, lv q3, .second, lv q4, .second, lv q5, .second, rv b_1, iv xc, u_, u_, u_, u_, u_] [(.ref b2)])) _
    refine XS.astore X4.here hx rfl (hb hby at_35) rfl rfl (l' := #[iv p0, iv p1, lv q2, .second, lv q3, .second, lv q4, .second, lv q5, .second, rv b_1, iv xc, rv b2, u_, u_, u_, u_]) rfl ?_
    show Steps p.tables e below (T4.setTop (mkF m 37 #[iv p0, iv p1, lv q2, .second, lv q3, .second, lv q4, .second, lv q5, .second, rv b_1, iv xc, rv b2, u_, u_, u_, u_] [])) _
    refine XS.lload X4.here hx rfl (hb hby at_37) rfl ?_
    show Steps p.tables e below (T4.setTop (mkF m 39 #[iv p0, iv p1, lv q2, .second, lv q3, .second, lv q4, .second, lv q5, .second, rv b_1, iv xc, rv b2, u_, u_, u_, u_] [(.long q5)])) _
    refine XS.bipush X4.here hx rfl (hb hby at_39) ?_
    show Steps p.tables e below (T4.setTop (mkF m 41 #[iv p0, iv p1, lv q2, .second, lv q3, .second, lv q4, .second, lv q5, .second, rv b_1, iv xc, rv b2, u_, u_, u_, u_] [(.int (32 : Int32)), (.long q5)])) _
    refine XS.lushr X4.here hx rfl (hb hby at_41) rfl ?_
    show Steps p.tables e below (T4.setTop (mkF m 42 #[iv p0, iv p1, lv q2, .second, lv q3, .second, lv q4, .second, lv q5, .second, rv b_1, iv xc, rv b2, u_, u_, u_, u_] [(.long ((q5.toUInt64 >>> ((32 : Int32) &&& 0x3f).toInt64.toUInt64).toInt64))])) _
    refine XS.l2i X4.here hx rfl (hb hby at_42) rfl ?_
    show Steps p.tables e below (T4.setTop (mkF m 43 #[iv p0, iv p1, lv q2, .second, lv q3, .second, lv q4, .second, lv q5, .second, rv b_1, iv xc, rv b2, u_, u_, u_, u_] [(.int (((q5.toUInt64 >>> ((32 : Int32) &&& 0x3f).toInt64.toUInt64).toInt64).toInt32))])) _
    refine XS.istore X4.here hx rfl (hb hby at_43) rfl (l' := #[iv p0, iv p1, lv q2, .second, lv q3, .second, lv q4, .second, lv q5, .second, rv b_1, iv xc, rv b2, iv (((q5.toUInt64 >>> ((32 : Int32) &&& 0x3f).toInt64.toUInt64).toInt64).toInt32), u_, u_, u_]) rfl ?_
    show Steps p.tables e below (T4.setTop (mkF m 45 #[iv p0, iv p1, lv q2, .second, lv q3, .second, lv q4, .second, lv q5, .second, rv b_1, iv xc, rv b2, iv (((q5.toUInt64 >>> ((32 : Int32) &&& 0x3f).toInt64.toUInt64).toInt64).toInt32), u_, u_, u_] [])) _
    refine XS.lload X4.here hx rfl (hb hby at_45) rfl ?_
    show Steps p.tables e below (T4.setTop (mkF m 47 #[iv p0, iv p1, lv q2, .second, lv q3, .second, lv q4, .second, lv q5, .second, rv b_1, iv xc, rv b2, iv (((q5.toUInt64 >>> ((32 : Int32) &&& 0x3f).toInt64.toUInt64).toInt64).toInt32), u_, u_, u_] [(.long q5)])) _
    refine XS.l2i X4.here hx rfl (hb hby at_47) rfl ?_
    show Steps p.tables e below (T4.setTop (mkF m 48 #[iv p0, iv p1, lv q2, .second, lv q3, .second, lv q4, .second, lv q5, .second, rv b_1, iv xc, rv b2, iv (((q5.toUInt64 >>> ((32 : Int32) &&& 0x3f).toInt64.toUInt64).toInt64).toInt32), u_, u_, u_] [(.int (q5.toInt32))])) _
    refine XS.istore X4.here hx rfl (hb hby at_48) rfl (l' := #[iv p0, iv p1, lv q2, .second, lv q3, .second, lv q4, .second, lv q5, .second, rv b_1, iv xc, rv b2, iv (((q5.toUInt64 >>> ((32 : Int32) &&& 0x3f).toInt64.toUInt64).toInt64).toInt32), iv (q5.toInt32), u_, u_]) rfl ?_
    exact k
  obtain ⟨T5, h5, X5, e5, E5, A5, D5, -, st5⟩ := newO X4 hx hZ hown (own_w hw 94 rfl) (own_w hw 95 rfl) (own_w hw 96 rfl) (Eq.refl T4.heap) (g := (mkF m 50 #[iv p0, iv p1, lv q2, .second, lv q3, .second, lv q4, .second, lv q5, .second, rv b_1, iv xc, rv b2, iv (((q5.toUInt64 >>> ((32 : Int32) &&& 0x3f).toInt64.toUInt64).toInt64).toInt32), iv (q5.toInt32), u_, u_] [])) rfl (hb hby at_50) (by decide) (by decide)
  obtain ⟨b5, g5⟩ : ∃ z, z = Array.size T4.heap := ⟨_, rfl⟩
  have g_b5 : n0 ≤ b5 := Nat.le_trans (old_le O) (Nat.le_of_eq g5.symm)
  have sz_b5 : h0.size ≤ b5 := Nat.le_trans K.1 (Nat.le_of_eq g5.symm)
  have ne_b2_b5 : b2 ≠ b5 := Nat.ne_of_lt (Nat.lt_of_lt_of_le E_b2.lt (Nat.le_of_eq g5.symm))
  rw [← g5] at A5 D5 st5
  have O := O.ext E5
  have K := K.ext E5
  have E_b2 := E_b2.ext E5
  have E_4 := E_4.ext E5
  have hk := Nat.le_trans hk E5.1
  have E_b5 := A5
  have F_kind_b5 : Fld Z h5 b5 "com/example/tombsweep/tombsweep/io/RecordHeader" "kind" "Lcom/example/tombsweep/tombsweep/io/RecordHeader$Kind;" .null := D5 (Or.inr (own_w hw 102 rfl)) (ty := (.object "com/example/tombsweep/tombsweep/io/RecordHeader$Kind")) (by decide)
  have F_key_b5 : Fld Z h5 b5 "com/example/tombsweep/tombsweep/io/RecordHeader" "key" "Lcom/example/tombsweep/tombsweep/model/BlobKey;" .null := D5 (Or.inr (own_w hw 104 rfl)) (ty := (.object "com/example/tombsweep/tombsweep/model/BlobKey")) (by decide)
  have F_metadataLength_b5 : Fld Z h5 b5 "com/example/tombsweep/tombsweep/io/RecordHeader" "metadataLength" "I" (.int (0 : Int32)) := D5 (Or.inr (own_w hw 106 rfl)) (ty := .int) (by decide)
  have F_sequence_b5 : Fld Z h5 b5 "com/example/tombsweep/tombsweep/io/RecordHeader" "sequence" "J" (.long (0 : Int64)) := D5 (Or.inr (own_w hw 108 rfl)) (ty := .long) (by decide)
  have F_time_b5 : Fld Z h5 b5 "com/example/tombsweep/tombsweep/io/RecordHeader" "time" "J" (.long (0 : Int64)) := D5 (Or.inr (own_w hw 110 rfl)) (ty := .long) (by decide)
  have F_contentLength_b5 : Fld Z h5 b5 "com/example/tombsweep/tombsweep/io/RecordHeader" "contentLength" "J" (.long (0 : Int64)) := D5 (Or.inr (own_w hw 112 rfl)) (ty := .long) (by decide)
  have F_contentCheck_b5 : Fld Z h5 b5 "com/example/tombsweep/tombsweep/io/RecordHeader" "contentCheck" "I" (.int (0 : Int32)) := D5 (Or.inr (own_w hw 114 rfl)) (ty := .int) (by decide)
  have F_metadataCheck_b5 : Fld Z h5 b5 "com/example/tombsweep/tombsweep/io/RecordHeader" "metadataCheck" "I" (.int (0 : Int32)) := D5 (Or.inr (own_w hw 116 rfl)) (ty := .int) (by decide)
  refine Go.step st5 ?_
  show Go p e below _ (T5.setTop (mkF m 53 #[iv p0, iv p1, lv q2, .second, lv q3, .second, lv q4, .second, lv q5, .second, rv b_1, iv xc, rv b2, iv (((q5.toUInt64 >>> ((32 : Int32) &&& 0x3f).toInt64.toUInt64).toInt64).toInt32), iv (q5.toInt32), u_, u_] [(.ref b5)]))
  refine Go.step (S' := T5.setTop (mkF m 68 #[iv p0, iv p1, lv q2, .second, lv q3, .second, lv q4, .second, lv q5, .second, rv b_1, iv xc, rv b2, iv (((q5.toUInt64 >>> ((32 : Int32) &&& 0x3f).toInt64.toUInt64).toInt64).toInt32), iv (q5.toInt32), u_, u_] [(.int (q5.toInt32)), (.int (((q5.toUInt64 >>> ((32 : Int32) &&& 0x3f).toInt64.toUInt64).toInt64).toInt32)), (.long q4), (.long q3), (.long q2), (.int p1), (.ref b2), (.ref b_1), (.ref b5), (.ref b5)])) (fun t k => ?_) ?_
  · show Steps p.tables e below (T5.setTop (mkF m 53 #[iv p0, iv p1, lv q2, .second, lv q3, .second, lv q4, .second, lv q5, .second, rv b_1, iv xc, rv b2, iv (((q5.toUInt64 >>> ((32 : Int32) &&& 0x3f).toInt64.toUInt64).toInt64).toInt32), iv (q5.toInt32), u_, u_] [(.ref b5)])) _
    refine XS.dup X5.here hx rfl (hb hby at_53) rfl rfl ?_
    show Steps p.tables e below (T5.setTop (mkF m 54 #[iv p0, iv p1, lv q2, .second, lv q3, .second, lv q4, .second, lv q5, .second, rv b_1, iv xc, rv b2, iv (((q5.toUInt64 >>> ((32 : Int32) &&& 0x3f).toInt64.toUInt64).toInt64).toInt32), iv (q5.toInt32), u_, u_] [(.ref b5), (.ref b5)])) _
    refine XS.aload X5.here hx rfl (hb hby at_54) rfl rfl ?_
    show Steps p.tables e below (T5.setTop (mkF m 56 #[iv p0, iv p1, lv q2, .second, lv q3, .second, lv q4, .second, lv q5, .second, rv b_1, iv xc, rv b2, iv (((q5.toUInt64 >>> ((32 : Int32) &&& 0x3f).toInt64.toUInt64).toInt64).toInt32), iv (q5.toInt32), u_, u_] [(.ref b_1), (.ref b5), (.ref b5)])) _
    refine XS.aload X5.here hx rfl (hb hby at_56) rfl rfl ?_
    show Steps p.tables e below (T5.setTop (mkF m 58 #[iv p0, iv p1, lv q2, .second, lv q3, .second, lv q4, .second, lv q5, .second, rv b_1, iv xc, rv b2, iv (((q5.toUInt64 >>> ((32 : Int32) &&& 0x3f).toInt64.toUInt64).toInt64).toInt32), iv (q5.toInt32), u_, u_] [(.ref b2), (.ref b_1), (.ref b5), (.ref b5)])) _
    refine XS.iloadN X5.here hx rfl (hb hby at_58) rfl ?_
    show Steps p.tables e below (T5.setTop (mkF m 59 #[iv p0, iv p1, lv q2, .second, lv q3, .second, lv q4, .second, lv q5, .second, rv b_1, iv xc, rv b2, iv (((q5.toUInt64 >>> ((32 : Int32) &&& 0x3f).toInt64.toUInt64).toInt64).toInt32), iv (q5.toInt32), u_, u_] [(.int p1), (.ref b2), (.ref b_1), (.ref b5), (.ref b5)])) _
    refine XS.lloadN X5.here hx rfl (hb hby at_59) rfl ?_
    show Steps p.tables e below (T5.setTop (mkF m 60 #[iv p0, iv p1, lv q2, .second, lv q3, .second, lv q4, .second, lv q5, .second, rv b_1, iv xc, rv b2, iv (((q5.toUInt64 >>> ((32 : Int32) &&& 0x3f).toInt64.toUInt64).toInt64).toInt32), iv (q5.toInt32), u_, u_] [(.long q2), (.int p1), (.ref b2), (.ref b_1), (.ref b5), (.ref b5)])) _
    refine XS.lload X5.here hx rfl (hb hby at_60) rfl ?_
    show Steps p.tables e below (T5.setTop (mkF m 62 #[iv p0, iv p1, lv q2, .second, lv q3, .second, lv q4, .second, lv q5, .second, rv b_1, iv xc, rv b2, iv (((q5.toUInt64 >>> ((32 : Int32) &&& 0x3f).toInt64.toUInt64).toInt64).toInt32), iv (q5.toInt32), u_, u_] [(.long q3), (.long q2), (.int p1), (.ref b2), (.ref b_1), (.ref b5), (.ref b5)])) _
    refine XS.lload X5.here hx rfl (hb hby at_62) rfl ?_
    show Steps p.tables e below (T5.setTop (mkF m 64 #[iv p0, iv p1, lv q2, .second, lv q3, .second, lv q4, .second, lv q5, .second, rv b_1, iv xc, rv b2, iv (((q5.toUInt64 >>> ((32 : Int32) &&& 0x3f).toInt64.toUInt64).toInt64).toInt32), iv (q5.toInt32), u_, u_] [(.long q4), (.long q3), (.long q2), (.int p1), (.ref b2), (.ref b_1), (.ref b5), (.ref b5)])) _
    refine XS.iload X5.here hx rfl (hb hby at_64) rfl ?_
    show Steps p.tables e below (T5.setTop (mkF m 66 #[iv p0, iv p1, lv q2, .second, lv q3, .second, lv q4, .second, lv q5, .second, rv b_1, iv xc, rv b2, iv (((q5.toUInt64 >>> ((32 : Int32) &&& 0x3f).toInt64.toUInt64).toInt64).toInt32), iv (q5.toInt32), u_, u_] [(.int (((q5.toUInt64 >>> ((32 : Int32) &&& 0x3f).toInt64.toUInt64).toInt64).toInt32)), (.long q4), (.long q3), (.long q2), (.int p1), (.ref b2), (.ref b_1), (.ref b5), (.ref b5)])) _
    refine XS.iload X5.here hx rfl (hb hby at_66) rfl ?_
    exact k
  obtain ⟨_, _, ⟨T6, L6, k6, n6⟩, -, X6, ⟨Lc6, hQ6, l6, y6, z6⟩, st6⟩ := X5.specialBack hx (y := (⟨"com/example/tombsweep/tombsweep/io/RecordHeader", "<init>", "(Lcom/example/tombsweep/tombsweep/io/RecordHeader$Kind;Lcom/example/tombsweep/tombsweep/model/BlobKey;IJJJII)V"⟩ : MethodName)) rfl hown (mvT hZ (own_w hw 97 rfl)) (mvT hZ (own_w hw 98 rfl)) (mvT hZ (own_w hw 99 rfl)) (by decide) (backOf (W := 1) (rmRH l Z a0 hw [] b5 b_1 b2 p1 q2 q3 q4 (((q5.toUInt64 >>> ((32 : Int32) &&& 0x3f).toInt64.toUInt64).toInt64).toInt32) (q5.toInt32) h5 n0 O E_b5 F_kind_b5 F_key_b5 F_metadataLength_b5 F_sequence_b5 F_time_b5 F_contentLength_b5 F_contentCheck_b5 F_metadataCheck_b5 (by assumption)) hZ (own_w hw 99 rfl) (own_w hw 96 rfl) (by decide) (by decide)) (g := (mkF m 68 #[iv p0, iv p1, lv q2, .second, lv q3, .second, lv q4, .second, lv q5, .second, rv b_1, iv xc, rv b2, iv (((q5.toUInt64 >>> ((32 : Int32) &&& 0x3f).toInt64.toUInt64).toInt64).toInt32), iv (q5.toInt32), u_, u_] [(.int (q5.toInt32)), (.int (((q5.toUInt64 >>> ((32 : Int32) &&& 0x3f).toInt64.toUInt64).toInt64).toInt32)), (.long q4), (.long q3), (.long q2), (.int p1), (.ref b2), (.ref b_1), (.ref b5), (.ref b5)])) rfl (by rw [hml]; rfl) (Steps.refl _) (a := b5) (argsL := [(.ref b_1), (.ref b2), (.int p1), (.long q2), (.long q3), (.long q4), (.int (((q5.toUInt64 >>> ((32 : Int32) &&& 0x3f).toInt64.toUInt64).toInt64).toInt32)), (.int (q5.toInt32))]) (rest := [(.ref b5)]) (lenOf pd__28Lcom_2fexample_2ftombsweep_2ftombsweep_2fio_2fRecordHeader_24Kind_3bLcom_2fexample_2ftombsweep_2ftombsweep_2fmodel_2fBlobKey_3bIJJJII_29V rfl) rfl (by show 2 * 0 + _ ≤ _; exact Nat.le_of_eq rfl) (hb hby at_68) (fun _ _ => ⟨rfl, e5, (by decide : 6 + 0 ≤ _), (by decide : 38 + 0 ≤ _)⟩)
  dsimp only [Pt.U, Pt.locs, Pt.cells, Pt.slots] at X6 l6 y6 z6 st6 hQ6
  subst l6 y6 z6
  obtain ⟨rfl, Nq6, K6, P6_E, P6_Fkind, P6_Fkey, P6_FmetadataLength, P6_Fsequence, P6_Ftime, P6_FcontentLength, P6_FcontentCheck, P6_FmetadataCheck⟩ := hQ6
  have N6 := Fr.app N4 Nq6
  have O := O.keep K6 (allS g_b5 all0)
  have K := K.trans K6 (allS (Or.inr sz_b5) all0)
  have E_b2 := E_b2.keep K6
  have E_4 := E_4.keep K6
  have hk := Nat.le_trans hk K6.1
  have E_b5 := E_b5.keep K6
  have E_6 := P6_E
  have Fkind_6 := P6_Fkind
  have Fkey_6 := P6_Fkey
  have FmetadataLength_6 := P6_FmetadataLength
  have Fsequence_6 := P6_Fsequence
  have Ftime_6 := P6_Ftime
  have FcontentLength_6 := P6_FcontentLength
  have FcontentCheck_6 := P6_FcontentCheck
  have FmetadataCheck_6 := P6_FmetadataCheck
  refine Go.step (fun t k => st6.trans k) ?_
  show Go p e below _ (T6.setTop (mkF m 71 #[iv p0, iv p1, lv q2, .second, lv q3, .second, lv q4, .second, lv q5, .second, rv b_1, iv xc, rv b2, iv (((q5.toUInt64 >>> ((32 : Int32) &&& 0x3f).toInt64.toUInt64).toInt64).toInt32), iv (q5.toInt32), u_, u_] [(.ref b5)]))
  refine Go.step (S' := T6.setTop (mkF m 75 #[iv p0, iv p1, lv q2, .second, lv q3, .second, lv q4, .second, lv q5, .second, rv b_1, iv xc, rv b2, iv (((q5.toUInt64 >>> ((32 : Int32) &&& 0x3f).toInt64.toUInt64).toInt64).toInt32), iv (q5.toInt32), rv b5, u_] [(.ref b5)])) (fun t k => ?_) ?_
  · show Steps p.tables e below (T6.setTop (mkF m 71 #[iv p0, iv p1, lv q2, .second, lv q3, .second, lv q4, .second, lv q5, .second, rv b_1, iv xc, rv b2, iv (((q5.toUInt64 >>> ((32 : Int32) &&& 0x3f).toInt64.toUInt64).toInt64).toInt32), iv (q5.toInt32), u_, u_] [(.ref b5)])) _
    refine XS.astore X6.here hx rfl (hb hby at_71) rfl rfl (l' := #[iv p0, iv p1, lv q2, .second, lv q3, .second, lv q4, .second, lv q5, .second, rv b_1, iv xc, rv b2, iv (((q5.toUInt64 >>> ((32 : Int32) &&& 0x3f).toInt64.toUInt64).toInt64).toInt32), iv (q5.toInt32), rv b5, u_]) rfl ?_
    show Steps p.tables e below (T6.setTop (mkF m 73 #[iv p0, iv p1, lv q2, .second, lv q3, .second, lv q4, .second, lv q5, .second, rv b_1, iv xc, rv b2, iv (((q5.toUInt64 >>> ((32 : Int32) &&& 0x3f).toInt64.toUInt64).toInt64).toInt32), iv (q5.toInt32), rv b5, u_] [])) _
    refine XS.aload X6.here hx rfl (hb hby at_73) rfl rfl ?_
    exact k
  obtain ⟨cq7, kq7, q7a, q7b, q7c⟩ := isOf hZ (Eq.refl T6.heap) E_b5
  obtain ⟨_, _, ⟨T7, L7, k7, n7⟩, -, X7, ⟨Lc7, hQ7, l7, y7, z7⟩, st7⟩ := X6.virtualBack hx (y := (⟨"com/example/tombsweep/tombsweep/io/RecordHeader", "gone", "()Lcom/example/tombsweep/tombsweep/io/RecordHeader;"⟩ : MethodName)) (z := (⟨"com/example/tombsweep/tombsweep/io/RecordHeader", "gone", "()Lcom/example/tombsweep/tombsweep/io/RecordHeader;"⟩ : MethodName)) hown (mvT hZ (own_w hw 117 rfl)) (mvT hZ (own_w hw 118 rfl)) (notFace_of_selects (args := #[]) (mvT hZ (own_w hw 120 rfl))) (mvT hZ (own_w hw 120 rfl)) (mvT hZ (own_w hw 119 rfl)) (by decide) (backOf (W := 0) (rmGone l Z a0 hw [] b5 b2 p1 q2 q3 q4 (((q5.toUInt64 >>> ((32 : Int32) &&& 0x3f).toInt64.toUInt64).toInt64).toInt32) (q5.toInt32) w_GONE T6.heap n0 O S_GONE Fkey_6 FmetadataLength_6 Fsequence_6 Ftime_6 FcontentLength_6 FcontentCheck_6 FmetadataCheck_6) hZ (own_w hw 121 rfl) (own_w hw 96 rfl) (by decide) (by decide)) q7a q7c (g := (mkF m 75 #[iv p0, iv p1, lv q2, .second, lv q3, .second, lv q4, .second, lv q5, .second, rv b_1, iv xc, rv b2, iv (((q5.toUInt64 >>> ((32 : Int32) &&& 0x3f).toInt64.toUInt64).toInt64).toInt32), iv (q5.toInt32), rv b5, u_] [(.ref b5)])) rfl (by rw [hml]; rfl) (Steps.refl _) (argsL := []) (rest := []) (lenOf pd__28_29Lcom_2fexample_2ftombsweep_2ftombsweep_2fio_2fRecordHeader_3b rfl) rfl (by show 2 * 0 + _ ≤ _; exact Nat.le_of_eq rfl) (hb hby at_75) (fun _ _ => ⟨rfl, (Eq.refl T6.heap), (by decide : 6 + 1 ≤ _), (by decide : 38 + 8 ≤ _)⟩)
  dsimp only [Pt.U, Pt.locs, Pt.cells, Pt.slots] at X7 l7 y7 z7 st7 hQ7
  subst l7 y7 z7
  obtain ⟨b_7, rfl, Nq7, K7, P7_E, P7_Fkind, P7_Fkey, P7_FmetadataLength, P7_Fsequence, P7_Ftime, P7_FcontentLength, P7_FcontentCheck, P7_FmetadataCheck⟩ := hQ7
  have N7 := Fr.app N6 Nq7
  have O := O.keep K7 all0
  have K := K.trans K7 all0
  have E_b2 := E_b2.keep K7
  have E_4 := E_4.keep K7
  have hk := Nat.le_trans hk K7.1
  have E_b5 := E_b5.keep K7
  have E_6 := E_6.keep K7
  have Fkind_6 := Fkind_6.keep K7 nin0
  have Fkey_6 := Fkey_6.keep K7 nin0
  have FmetadataLength_6 := FmetadataLength_6.keep K7 nin0
  have Fsequence_6 := Fsequence_6.keep K7 nin0
  have Ftime_6 := Ftime_6.keep K7 nin0
  have FcontentLength_6 := FcontentLength_6.keep K7 nin0
  have FcontentCheck_6 := FcontentCheck_6.keep K7 nin0
  have FmetadataCheck_6 := FmetadataCheck_6.keep K7 nin0
  have E_7 := P7_E
  have Fkind_7 := P7_Fkind
  have Fkey_7 := P7_Fkey
  have FmetadataLength_7 := P7_FmetadataLength
  have Fsequence_7 := P7_Fsequence
  have Ftime_7 := P7_Ftime
  have FcontentLength_7 := P7_FcontentLength
  have FcontentCheck_7 := P7_FcontentCheck
  have FmetadataCheck_7 := P7_FmetadataCheck
  refine Go.step (fun t k => st7.trans k) ?_
  show Go p e below _ (T7.setTop (mkF m 78 #[iv p0, iv p1, lv q2, .second, lv q3, .second, lv q4, .second, lv q5, .second, rv b_1, iv xc, rv b2, iv (((q5.toUInt64 >>> ((32 : Int32) &&& 0x3f).toInt64.toUInt64).toInt64).toInt32), iv (q5.toInt32), rv b5, u_] [(.ref b_7)]))
  refine Go.step (S' := T7.setTop (mkF m 87 #[iv p0, iv p1, lv q2, .second, lv q3, .second, lv q4, .second, lv q5, .second, rv b_1, iv xc, rv b2, iv (((q5.toUInt64 >>> ((32 : Int32) &&& 0x3f).toInt64.toUInt64).toInt64).toInt32), iv (q5.toInt32), rv b5, rv b_7] [(.ref b_7)])) (fun t k => ?_) ?_
  · show Steps p.tables e below (T7.setTop (mkF m 78 #[iv p0, iv p1, lv q2, .second, lv q3, .second, lv q4, .second, lv q5, .second, rv b_1, iv xc, rv b2, iv (((q5.toUInt64 >>> ((32 : Int32) &&& 0x3f).toInt64.toUInt64).toInt64).toInt32), iv (q5.toInt32), rv b5, u_] [(.ref b_7)])) _
    refine XS.astore X7.here hx rfl (hb hby at_78) rfl rfl (l' := #[iv p0, iv p1, lv q2, .second, lv q3, .second, lv q4, .second, lv q5, .second, rv b_1, iv xc, rv b2, iv (((q5.toUInt64 >>> ((32 : Int32) &&& 0x3f).toInt64.toUInt64).toInt64).toInt32), iv (q5.toInt32), rv b5, rv b_7]) rfl ?_
    show Steps p.tables e below (T7.setTop (mkF m 80 #[iv p0, iv p1, lv q2, .second, lv q3, .second, lv q4, .second, lv q5, .second, rv b_1, iv xc, rv b2, iv (((q5.toUInt64 >>> ((32 : Int32) &&& 0x3f).toInt64.toUInt64).toInt64).toInt32), iv (q5.toInt32), rv b5, rv b_7] [])) _
    refine XS.aload X7.here hx rfl (hb hby at_80) rfl rfl ?_
    show Steps p.tables e below (T7.setTop (mkF m 82 #[iv p0, iv p1, lv q2, .second, lv q3, .second, lv q4, .second, lv q5, .second, rv b_1, iv xc, rv b2, iv (((q5.toUInt64 >>> ((32 : Int32) &&& 0x3f).toInt64.toUInt64).toInt64).toInt32), iv (q5.toInt32), rv b5, rv b_7] [(.ref b_7)])) _
    refine XS.ifnullNo X7.here hx rfl (hb hby at_82) rfl ?_
    show Steps p.tables e below (T7.setTop (mkF m 85 #[iv p0, iv p1, lv q2, .second, lv q3, .second, lv q4, .second, lv q5, .second, rv b_1, iv xc, rv b2, iv (((q5.toUInt64 >>> ((32 : Int32) &&& 0x3f).toInt64.toUInt64).toInt64).toInt32), iv (q5.toInt32), rv b5, rv b_7] [])) _
    refine XS.aload X7.here hx rfl (hb hby at_85) rfl rfl ?_
    exact k
  obtain ⟨cq8, kq8, q8a, q8b, q8c⟩ := isOf hZ (Eq.refl T7.heap) E_7
  obtain ⟨_, _, ⟨T8, L8, k8, n8⟩, -, X8, ⟨Lc8, hQ8, l8, y8, z8⟩, st8⟩ := X7.virtualBack hx (y := (⟨"com/example/tombsweep/tombsweep/io/RecordHeader", "kind", "()Lcom/example/tombsweep/tombsweep/io/RecordHeader$Kind;"⟩ : MethodName)) (z := (⟨"com/example/tombsweep/tombsweep/io/RecordHeader", "kind", "()Lcom/example/tombsweep/tombsweep/io/RecordHeader$Kind;"⟩ : MethodName)) hown (mvT hZ (own_w hw 126 rfl)) (mvT hZ (own_w hw 127 rfl)) (notFace_of_selects (args := #[]) (mvT hZ (own_w hw 129 rfl))) (mvT hZ (own_w hw 129 rfl)) (mvT hZ (own_w hw 128 rfl)) (by decide) (backOf (W := 0) (rmG_kind l Z a0 hw [] b_7 w_GONE T7.heap n0 O Fkind_7) hZ (own_w hw 130 rfl) (own_w hw 96 rfl) (by decide) (by decide)) q8a q8c (g := (mkF m 87 #[iv p0, iv p1, lv q2, .second, lv q3, .second, lv q4, .second, lv q5, .second, rv b_1, iv xc, rv b2, iv (((q5.toUInt64 >>> ((32 : Int32) &&& 0x3f).toInt64.toUInt64).toInt64).toInt32), iv (q5.toInt32), rv b5, rv b_7] [(.ref b_7)])) rfl (by rw [hml]; rfl) (Steps.refl _) (argsL := []) (rest := []) (lenOf pd__28_29Lcom_2fexample_2ftombsweep_2ftombsweep_2fio_2fRecordHeader_24Kind_3b rfl) rfl (by show 2 * 0 + _ ≤ _; exact Nat.le_of_eq rfl) (hb hby at_87) (fun _ _ => ⟨rfl, (Eq.refl T7.heap), (by decide : 7 + 0 ≤ _), (by decide : 46 + 0 ≤ _)⟩)
  dsimp only [Pt.U, Pt.locs, Pt.cells, Pt.slots] at X8 l8 y8 z8 st8 hQ8
  subst l8 y8 z8
  obtain ⟨rfl, Nq8, e8⟩ := hQ8
  have N8 := Fr.app N7 Nq8
  refine Go.step (fun t k => st8.trans k) ?_
  show Go p e below _ (T8.setTop (mkF m 90 #[iv p0, iv p1, lv q2, .second, lv q3, .second, lv q4, .second, lv q5, .second, rv b_1, iv xc, rv b2, iv (((q5.toUInt64 >>> ((32 : Int32) &&& 0x3f).toInt64.toUInt64).toInt64).toInt32), iv (q5.toInt32), rv b5, rv b_7] [(.ref w_GONE)]))
  obtain ⟨T9, X9, e9, st9⟩ := getS2 X8 hx hZ hown (host := "") (Or.inl (own_w hw 131 rfl)) Via.refl e8 (S_GONE.ext O.2) (g := (mkF m 90 #[iv p0, iv p1, lv q2, .second, lv q3, .second, lv q4, .second, lv q5, .second, rv b_1, iv xc, rv b2, iv (((q5.toUInt64 >>> ((32 : Int32) &&& 0x3f).toInt64.toUInt64).toInt64).toInt32), iv (q5.toInt32), rv b5, rv b_7] [(.ref w_GONE)])) rfl (hb hby at_90)
  refine Go.step st9 ?_
  show Go p e below _ (T9.setTop (mkF m 93 #[iv p0, iv p1, lv q2, .second, lv q3, .second, lv q4, .second, lv q5, .second, rv b_1, iv xc, rv b2, iv (((q5.toUInt64 >>> ((32 : Int32) &&& 0x3f).toInt64.toUInt64).toInt64).toInt32), iv (q5.toInt32), rv b5, rv b_7] [(.ref w_GONE), (.ref w_GONE)]))
  refine Go.step (S' := T9.setTop (mkF m 98 #[iv p0, iv p1, lv q2, .second, lv q3, .second, lv q4, .second, lv q5, .second, rv b_1, iv xc, rv b2, iv (((q5.toUInt64 >>> ((32 : Int32) &&& 0x3f).toInt64.toUInt64).toInt64).toInt32), iv (q5.toInt32), rv b5, rv b_7] [(.ref b_7)])) (fun t k => ?_) ?_
  · show Steps p.tables e below (T9.setTop (mkF m 93 #[iv p0, iv p1, lv q2, .second, lv q3, .second, lv q4, .second, lv q5, .second, rv b_1, iv xc, rv b2, iv (((q5.toUInt64 >>> ((32 : Int32) &&& 0x3f).toInt64.toUInt64).toInt64).toInt32), iv (q5.toInt32), rv b5, rv b_7] [(.ref w_GONE), (.ref w_GONE)])) _
    refine Jvm.RoadKit.acmp (g := (mkF m 93 #[iv p0, iv p1, lv q2, .second, lv q3, .second, lv q4, .second, lv q5, .second, rv b_1, iv xc, rv b2, iv (((q5.toUInt64 >>> ((32 : Int32) &&& 0x3f).toInt64.toUInt64).toInt64).toInt32), iv (q5.toInt32), rv b5, rv b_7] [(.ref w_GONE), (.ref w_GONE)])) X9 hx rfl rfl rfl (pc0 := 93) (pc' := 96) (same := true) rfl (hb hby at_93) rfl (decide_eq_true rfl) (by decide) (by decide) ?_
    show Steps p.tables e below (T9.setTop (mkF m 96 #[iv p0, iv p1, lv q2, .second, lv q3, .second, lv q4, .second, lv q5, .second, rv b_1, iv xc, rv b2, iv (((q5.toUInt64 >>> ((32 : Int32) &&& 0x3f).toInt64.toUInt64).toInt64).toInt32), iv (q5.toInt32), rv b5, rv b_7] [])) _
    refine XS.aload X9.here hx rfl (hb hby at_96) rfl rfl ?_
    exact k
  obtain ⟨cq10, kq10, q10a, q10b, q10c⟩ := isOf hZ e9 E_7
  obtain ⟨_, _, ⟨T10, L10, k10, n10⟩, -, X10, ⟨Lc10, hQ10, l10, y10, z10⟩, st10⟩ := X9.virtualBack hx (y := (⟨"com/example/tombsweep/tombsweep/io/RecordHeader", "key", "()Lcom/example/tombsweep/tombsweep/model/BlobKey;"⟩ : MethodName)) (z := (⟨"com/example/tombsweep/tombsweep/io/RecordHeader", "key", "()Lcom/example/tombsweep/tombsweep/model/BlobKey;"⟩ : MethodName)) hown (mvT hZ (own_w hw 132 rfl)) (mvT hZ (own_w hw 133 rfl)) (notFace_of_selects (args := #[]) (mvT hZ (own_w hw 135 rfl))) (mvT hZ (own_w hw 135 rfl)) (mvT hZ (own_w hw 134 rfl)) (by decide) (backOf (W := 0) (rmG_key l Z a0 hw [] b_7 b2 T7.heap n0 O Fkey_7) hZ (own_w hw 136 rfl) (own_w hw 96 rfl) (by decide) (by decide)) q10a q10c (g := (mkF m 98 #[iv p0, iv p1, lv q2, .second, lv q3, .second, lv q4, .second, lv q5, .second, rv b_1, iv xc, rv b2, iv (((q5.toUInt64 >>> ((32 : Int32) &&& 0x3f).toInt64.toUInt64).toInt64).toInt32), iv (q5.toInt32), rv b5, rv b_7] [(.ref b_7)])) rfl (by rw [hml]; rfl) (Steps.refl _) (argsL := []) (rest := []) (lenOf pd__28_29Lcom_2fexample_2ftombsweep_2ftombsweep_2fmodel_2fBlobKey_3b rfl) rfl (by show 2 * 0 + _ ≤ _; exact Nat.le_of_eq rfl) (hb hby at_98) (fun _ _ => ⟨rfl, e9, (by decide : 7 + 0 ≤ _), (by decide : 46 + 0 ≤ _)⟩)
  dsimp only [Pt.U, Pt.locs, Pt.cells, Pt.slots] at X10 l10 y10 z10 st10 hQ10
  subst l10 y10 z10
  obtain ⟨rfl, Nq10, e10⟩ := hQ10
  have N10 := Fr.app N8 Nq10
  refine Go.step (fun t k => st10.trans k) ?_
  show Go p e below _ (T10.setTop (mkF m 101 #[iv p0, iv p1, lv q2, .second, lv q3, .second, lv q4, .second, lv q5, .second, rv b_1, iv xc, rv b2, iv (((q5.toUInt64 >>> ((32 : Int32) &&& 0x3f).toInt64.toUInt64).toInt64).toInt32), iv (q5.toInt32), rv b5, rv b_7] [(.ref b2)]))
  refine Go.step (S' := T10.setTop (mkF m 108 #[iv p0, iv p1, lv q2, .second, lv q3, .second, lv q4, .second, lv q5, .second, rv b_1, iv xc, rv b2, iv (((q5.toUInt64 >>> ((32 : Int32) &&& 0x3f).toInt64.toUInt64).toInt64).toInt32), iv (q5.toInt32), rv b5, rv b_7] [(.ref b_7)])) (fun t k => ?_) ?_
  · show Steps p.tables e below (T10.setTop (mkF m 101 #[iv p0, iv p1, lv q2, .second, lv q3, .second, lv q4, .second, lv q5, .second, rv b_1, iv xc, rv b2, iv (((q5.toUInt64 >>> ((32 : Int32) &&& 0x3f).toInt64.toUInt64).toInt64).toInt32), iv (q5.toInt32), rv b5, rv b_7] [(.ref b2)])) _
    refine XS.aload X10.here hx rfl (hb hby at_101) rfl rfl ?_
    show Steps p.tables e below (T10.setTop (mkF m 103 #[iv p0, iv p1, lv q2, .second, lv q3, .second, lv q4, .second, lv q5, .second, rv b_1, iv xc, rv b2, iv (((q5.toUInt64 >>> ((32 : Int32) &&& 0x3f).toInt64.toUInt64).toInt64).toInt32), iv (q5.toInt32), rv b5, rv b_7] [(.ref b2), (.ref b2)])) _
    refine Jvm.RoadKit.acmp (g := (mkF m 103 #[iv p0, iv p1, lv q2, .second, lv q3, .second, lv q4, .second, lv q5, .second, rv b_1, iv xc, rv b2, iv (((q5.toUInt64 >>> ((32 : Int32) &&& 0x3f).toInt64.toUInt64).toInt64).toInt32), iv (q5.toInt32), rv b5, rv b_7] [(.ref b2), (.ref b2)])) X10 hx rfl rfl rfl (pc0 := 103) (pc' := 106) (same := true) rfl (hb hby at_103) rfl (decide_eq_true rfl) (by decide) (by decide) ?_
    show Steps p.tables e below (T10.setTop (mkF m 106 #[iv p0, iv p1, lv q2, .second, lv q3, .second, lv q4, .second, lv q5, .second, rv b_1, iv xc, rv b2, iv (((q5.toUInt64 >>> ((32 : Int32) &&& 0x3f).toInt64.toUInt64).toInt64).toInt32), iv (q5.toInt32), rv b5, rv b_7] [])) _
    refine XS.aload X10.here hx rfl (hb hby at_106) rfl rfl ?_
    exact k
  obtain ⟨cq11, kq11, q11a, q11b, q11c⟩ := isOf hZ e10 E_7
  obtain ⟨_, _, ⟨T11, L11, k11, n11⟩, -, X11, ⟨Lc11, hQ11, l11, y11, z11⟩, st11⟩ := X10.virtualBack hx (y := (⟨"com/example/tombsweep/tombsweep/io/RecordHeader", "metadataLength", "()I"⟩ : MethodName)) (z := (⟨"com/example/tombsweep/tombsweep/io/RecordHeader", "metadataLength", "()I"⟩ : MethodName)) hown (mvT hZ (own_w hw 137 rfl)) (mvT hZ (own_w hw 138 rfl)) (notFace_of_selects (args := #[]) (mvT hZ (own_w hw 140 rfl))) (mvT hZ (own_w hw 140 rfl)) (mvT hZ (own_w hw 139 rfl)) (by decide) (backOf (W := 0) (rmG_metadataLength l Z a0 hw [] b_7 p1 T7.heap n0 O FmetadataLength_7) hZ (own_w hw 141 rfl) (own_w hw 96 rfl) (by decide) (by decide)) q11a q11c (g := (mkF m 108 #[iv p0, iv p1, lv q2, .second, lv q3, .second, lv q4, .second, lv q5, .second, rv b_1, iv xc, rv b2, iv (((q5.toUInt64 >>> ((32 : Int32) &&& 0x3f).toInt64.toUInt64).toInt64).toInt32), iv (q5.toInt32), rv b5, rv b_7] [(.ref b_7)])) rfl (by rw [hml]; rfl) (Steps.refl _) (argsL := []) (rest := []) (lenOf pd__28_29I rfl) rfl (by show 2 * 0 + _ ≤ _; exact Nat.le_of_eq rfl) (hb hby at_108) (fun _ _ => ⟨rfl, e10, (by decide : 7 + 0 ≤ _), (by decide : 46 + 0 ≤ _)⟩)
  dsimp only [Pt.U, Pt.locs, Pt.cells, Pt.slots] at X11 l11 y11 z11 st11 hQ11
  subst l11 y11 z11
  obtain ⟨rfl, Nq11, e11⟩ := hQ11
  have N11 := Fr.app N10 Nq11
  refine Go.step (fun t k => st11.trans k) ?_
  show Go p e below _ (T11.setTop (mkF m 111 #[iv p0, iv p1, lv q2, .second, lv q3, .second, lv q4, .second, lv q5, .second, rv b_1, iv xc, rv b2, iv (((q5.toUInt64 >>> ((32 : Int32) &&& 0x3f).toInt64.toUInt64).toInt64).toInt32), iv (q5.toInt32), rv b5, rv b_7] [(.int p1)]))
  refine Go.step (S' := T11.setTop (mkF m 117 #[iv p0, iv p1, lv q2, .second, lv q3, .second, lv q4, .second, lv q5, .second, rv b_1, iv xc, rv b2, iv (((q5.toUInt64 >>> ((32 : Int32) &&& 0x3f).toInt64.toUInt64).toInt64).toInt32), iv (q5.toInt32), rv b5, rv b_7] [(.ref b_7)])) (fun t k => ?_) ?_
  · show Steps p.tables e below (T11.setTop (mkF m 111 #[iv p0, iv p1, lv q2, .second, lv q3, .second, lv q4, .second, lv q5, .second, rv b_1, iv xc, rv b2, iv (((q5.toUInt64 >>> ((32 : Int32) &&& 0x3f).toInt64.toUInt64).toInt64).toInt32), iv (q5.toInt32), rv b5, rv b_7] [(.int p1)])) _
    refine XS.iloadN X11.here hx rfl (hb hby at_111) rfl ?_
    show Steps p.tables e below (T11.setTop (mkF m 112 #[iv p0, iv p1, lv q2, .second, lv q3, .second, lv q4, .second, lv q5, .second, rv b_1, iv xc, rv b2, iv (((q5.toUInt64 >>> ((32 : Int32) &&& 0x3f).toInt64.toUInt64).toInt64).toInt32), iv (q5.toInt32), rv b5, rv b_7] [(.int p1), (.int p1)])) _
    refine XS.icmpNo X11.here hx rfl (hb hby at_112) rfl (teq (rfl : p1 = p1)).2 ?_
    show Steps p.tables e below (T11.setTop (mkF m 115 #[iv p0, iv p1, lv q2, .second, lv q3, .second, lv q4, .second, lv q5, .second, rv b_1, iv xc, rv b2, iv (((q5.toUInt64 >>> ((32 : Int32) &&& 0x3f).toInt64.toUInt64).toInt64).toInt32), iv (q5.toInt32), rv b5, rv b_7] [])) _
    refine XS.aload X11.here hx rfl (hb hby at_115) rfl rfl ?_
    exact k
  obtain ⟨cq12, kq12, q12a, q12b, q12c⟩ := isOf hZ e11 E_7
  obtain ⟨_, _, ⟨T12, L12, k12, n12⟩, -, X12, ⟨Lc12, hQ12, l12, y12, z12⟩, st12⟩ := X11.virtualBack hx (y := (⟨"com/example/tombsweep/tombsweep/io/RecordHeader", "sequence", "()J"⟩ : MethodName)) (z := (⟨"com/example/tombsweep/tombsweep/io/RecordHeader", "sequence", "()J"⟩ : MethodName)) hown (mvT hZ (own_w hw 142 rfl)) (mvT hZ (own_w hw 143 rfl)) (notFace_of_selects (args := #[]) (mvT hZ (own_w hw 145 rfl))) (mvT hZ (own_w hw 145 rfl)) (mvT hZ (own_w hw 144 rfl)) (by decide) (backOf (W := 0) (rmG_sequence l Z a0 hw [] b_7 q2 T7.heap n0 O Fsequence_7) hZ (own_w hw 146 rfl) (own_w hw 96 rfl) (by decide) (by decide)) q12a q12c (g := (mkF m 117 #[iv p0, iv p1, lv q2, .second, lv q3, .second, lv q4, .second, lv q5, .second, rv b_1, iv xc, rv b2, iv (((q5.toUInt64 >>> ((32 : Int32) &&& 0x3f).toInt64.toUInt64).toInt64).toInt32), iv (q5.toInt32), rv b5, rv b_7] [(.ref b_7)])) rfl (by rw [hml]; rfl) (Steps.refl _) (argsL := []) (rest := []) (lenOf pd__28_29J rfl) rfl (by show 2 * 0 + _ ≤ _; exact Nat.le_of_eq rfl) (hb hby at_117) (fun _ _ => ⟨rfl, e11, (by decide : 7 + 0 ≤ _), (by decide : 46 + 0 ≤ _)⟩)
  dsimp only [Pt.U, Pt.locs, Pt.cells, Pt.slots] at X12 l12 y12 z12 st12 hQ12
  subst l12 y12 z12
  obtain ⟨rfl, Nq12, e12⟩ := hQ12
  have N12 := Fr.app N11 Nq12
  refine Go.step (fun t k => st12.trans k) ?_
  show Go p e below _ (T12.setTop (mkF m 120 #[iv p0, iv p1, lv q2, .second, lv q3, .second, lv q4, .second, lv q5, .second, rv b_1, iv xc, rv b2, iv (((q5.toUInt64 >>> ((32 : Int32) &&& 0x3f).toInt64.toUInt64).toInt64).toInt32), iv (q5.toInt32), rv b5, rv b_7] [(.long q2)]))
  refine Go.step (S' := T12.setTop (mkF m 127 #[iv p0, iv p1, lv q2, .second, lv q3, .second, lv q4, .second, lv q5, .second, rv b_1, iv xc, rv b2, iv (((q5.toUInt64 >>> ((32 : Int32) &&& 0x3f).toInt64.toUInt64).toInt64).toInt32), iv (q5.toInt32), rv b5, rv b_7] [(.ref b_7)])) (fun t k => ?_) ?_
  · show Steps p.tables e below (T12.setTop (mkF m 120 #[iv p0, iv p1, lv q2, .second, lv q3, .second, lv q4, .second, lv q5, .second, rv b_1, iv xc, rv b2, iv (((q5.toUInt64 >>> ((32 : Int32) &&& 0x3f).toInt64.toUInt64).toInt64).toInt32), iv (q5.toInt32), rv b5, rv b_7] [(.long q2)])) _
    refine XS.lloadN X12.here hx rfl (hb hby at_120) rfl ?_
    show Steps p.tables e below (T12.setTop (mkF m 121 #[iv p0, iv p1, lv q2, .second, lv q3, .second, lv q4, .second, lv q5, .second, rv b_1, iv xc, rv b2, iv (((q5.toUInt64 >>> ((32 : Int32) &&& 0x3f).toInt64.toUInt64).toInt64).toInt32), iv (q5.toInt32), rv b5, rv b_7] [(.long q2), (.long q2)])) _
    refine XS.lcmp X12.here hx rfl (hb hby at_121) rfl ?_
    show Steps p.tables e below (T12.setTop (mkF m 122 #[iv p0, iv p1, lv q2, .second, lv q3, .second, lv q4, .second, lv q5, .second, rv b_1, iv xc, rv b2, iv (((q5.toUInt64 >>> ((32 : Int32) &&& 0x3f).toInt64.toUInt64).toInt64).toInt32), iv (q5.toInt32), rv b5, rv b_7] [(.int (lcmpW q2 q2))])) _
    refine XS.ifNo X12.here hx rfl (hb hby at_122) rfl ((if0 _ _).trans (teq ((lw_eq q2 q2).mpr rfl)).2) ?_
    show Steps p.tables e below (T12.setTop (mkF m 125 #[iv p0, iv p1, lv q2, .second, lv q3, .second, lv q4, .second, lv q5, .second, rv b_1, iv xc, rv b2, iv (((q5.toUInt64 >>> ((32 : Int32) &&& 0x3f).toInt64.toUInt64).toInt64).toInt32), iv (q5.toInt32), rv b5, rv b_7] [])) _
    refine XS.aload X12.here hx rfl (hb hby at_125) rfl rfl ?_
    exact k
  obtain ⟨cq13, kq13, q13a, q13b, q13c⟩ := isOf hZ e12 E_7
  obtain ⟨_, _, ⟨T13, L13, k13, n13⟩, -, X13, ⟨Lc13, hQ13, l13, y13, z13⟩, st13⟩ := X12.virtualBack hx (y := (⟨"com/example/tombsweep/tombsweep/io/RecordHeader", "time", "()J"⟩ : MethodName)) (z := (⟨"com/example/tombsweep/tombsweep/io/RecordHeader", "time", "()J"⟩ : MethodName)) hown (mvT hZ (own_w hw 147 rfl)) (mvT hZ (own_w hw 148 rfl)) (notFace_of_selects (args := #[]) (mvT hZ (own_w hw 150 rfl))) (mvT hZ (own_w hw 150 rfl)) (mvT hZ (own_w hw 149 rfl)) (by decide) (backOf (W := 0) (rmG_time l Z a0 hw [] b_7 q3 T7.heap n0 O Ftime_7) hZ (own_w hw 151 rfl) (own_w hw 96 rfl) (by decide) (by decide)) q13a q13c (g := (mkF m 127 #[iv p0, iv p1, lv q2, .second, lv q3, .second, lv q4, .second, lv q5, .second, rv b_1, iv xc, rv b2, iv (((q5.toUInt64 >>> ((32 : Int32) &&& 0x3f).toInt64.toUInt64).toInt64).toInt32), iv (q5.toInt32), rv b5, rv b_7] [(.ref b_7)])) rfl (by rw [hml]; rfl) (Steps.refl _) (argsL := []) (rest := []) (lenOf pd__28_29J rfl) rfl (by show 2 * 0 + _ ≤ _; exact Nat.le_of_eq rfl) (hb hby at_127) (fun _ _ => ⟨rfl, e12, (by decide : 7 + 0 ≤ _), (by decide : 46 + 0 ≤ _)⟩)
  dsimp only [Pt.U, Pt.locs, Pt.cells, Pt.slots] at X13 l13 y13 z13 st13 hQ13
  subst l13 y13 z13
  obtain ⟨rfl, Nq13, e13⟩ := hQ13
  have N13 := Fr.app N12 Nq13
  refine Go.step (fun t k => st13.trans k) ?_
  show Go p e below _ (T13.setTop (mkF m 130 #[iv p0, iv p1, lv q2, .second, lv q3, .second, lv q4, .second, lv q5, .second, rv b_1, iv xc, rv b2, iv (((q5.toUInt64 >>> ((32 : Int32) &&& 0x3f).toInt64.toUInt64).toInt64).toInt32), iv (q5.toInt32), rv b5, rv b_7] [(.long q3)]))
  refine Go.step (S' := T13.setTop (mkF m 138 #[iv p0, iv p1, lv q2, .second, lv q3, .second, lv q4, .second, lv q5, .second, rv b_1, iv xc, rv b2, iv (((q5.toUInt64 >>> ((32 : Int32) &&& 0x3f).toInt64.toUInt64).toInt64).toInt32), iv (q5.toInt32), rv b5, rv b_7] [(.ref b_7)])) (fun t k => ?_) ?_
  · show Steps p.tables e below (T13.setTop (mkF m 130 #[iv p0, iv p1, lv q2, .second, lv q3, .second, lv q4, .second, lv q5, .second, rv b_1, iv xc, rv b2, iv (((q5.toUInt64 >>> ((32 : Int32) &&& 0x3f).toInt64.toUInt64).toInt64).toInt32), iv (q5.toInt32), rv b5, rv b_7] [(.long q3)])) _
    refine XS.lload X13.here hx rfl (hb hby at_130) rfl ?_
    show Steps p.tables e below (T13.setTop (mkF m 132 #[iv p0, iv p1, lv q2, .second, lv q3, .second, lv q4, .second, lv q5, .second, rv b_1, iv xc, rv b2, iv (((q5.toUInt64 >>> ((32 : Int32) &&& 0x3f).toInt64.toUInt64).toInt64).toInt32), iv (q5.toInt32), rv b5, rv b_7] [(.long q3), (.long q3)])) _
    refine XS.lcmp X13.here hx rfl (hb hby at_132) rfl ?_
    show Steps p.tables e below (T13.setTop (mkF m 133 #[iv p0, iv p1, lv q2, .second, lv q3, .second, lv q4, .second, lv q5, .second, rv b_1, iv xc, rv b2, iv (((q5.toUInt64 >>> ((32 : Int32) &&& 0x3f).toInt64.toUInt64).toInt64).toInt32), iv (q5.toInt32), rv b5, rv b_7] [(.int (lcmpW q3 q3))])) _
    refine XS.ifNo X13.here hx rfl (hb hby at_133) rfl ((if0 _ _).trans (teq ((lw_eq q3 q3).mpr rfl)).2) ?_
    show Steps p.tables e below (T13.setTop (mkF m 136 #[iv p0, iv p1, lv q2, .second, lv q3, .second, lv q4, .second, lv q5, .second, rv b_1, iv xc, rv b2, iv (((q5.toUInt64 >>> ((32 : Int32) &&& 0x3f).toInt64.toUInt64).toInt64).toInt32), iv (q5.toInt32), rv b5, rv b_7] [])) _
    refine XS.aload X13.here hx rfl (hb hby at_136) rfl rfl ?_
    exact k
  obtain ⟨cq14, kq14, q14a, q14b, q14c⟩ := isOf hZ e13 E_7
  obtain ⟨_, _, ⟨T14, L14, k14, n14⟩, -, X14, ⟨Lc14, hQ14, l14, y14, z14⟩, st14⟩ := X13.virtualBack hx (y := (⟨"com/example/tombsweep/tombsweep/io/RecordHeader", "contentLength", "()J"⟩ : MethodName)) (z := (⟨"com/example/tombsweep/tombsweep/io/RecordHeader", "contentLength", "()J"⟩ : MethodName)) hown (mvT hZ (own_w hw 152 rfl)) (mvT hZ (own_w hw 153 rfl)) (notFace_of_selects (args := #[]) (mvT hZ (own_w hw 155 rfl))) (mvT hZ (own_w hw 155 rfl)) (mvT hZ (own_w hw 154 rfl)) (by decide) (backOf (W := 0) (rmG_contentLength l Z a0 hw [] b_7 q4 T7.heap n0 O FcontentLength_7) hZ (own_w hw 156 rfl) (own_w hw 96 rfl) (by decide) (by decide)) q14a q14c (g := (mkF m 138 #[iv p0, iv p1, lv q2, .second, lv q3, .second, lv q4, .second, lv q5, .second, rv b_1, iv xc, rv b2, iv (((q5.toUInt64 >>> ((32 : Int32) &&& 0x3f).toInt64.toUInt64).toInt64).toInt32), iv (q5.toInt32), rv b5, rv b_7] [(.ref b_7)])) rfl (by rw [hml]; rfl) (Steps.refl _) (argsL := []) (rest := []) (lenOf pd__28_29J rfl) rfl (by show 2 * 0 + _ ≤ _; exact Nat.le_of_eq rfl) (hb hby at_138) (fun _ _ => ⟨rfl, e13, (by decide : 7 + 0 ≤ _), (by decide : 46 + 0 ≤ _)⟩)
  dsimp only [Pt.U, Pt.locs, Pt.cells, Pt.slots] at X14 l14 y14 z14 st14 hQ14
  subst l14 y14 z14
  obtain ⟨rfl, Nq14, e14⟩ := hQ14
  have N14 := Fr.app N13 Nq14
  refine Go.step (fun t k => st14.trans k) ?_
  show Go p e below _ (T14.setTop (mkF m 141 #[iv p0, iv p1, lv q2, .second, lv q3, .second, lv q4, .second, lv q5, .second, rv b_1, iv xc, rv b2, iv (((q5.toUInt64 >>> ((32 : Int32) &&& 0x3f).toInt64.toUInt64).toInt64).toInt32), iv (q5.toInt32), rv b5, rv b_7] [(.long q4)]))
  refine Go.step (S' := T14.setTop (mkF m 149 #[iv p0, iv p1, lv q2, .second, lv q3, .second, lv q4, .second, lv q5, .second, rv b_1, iv xc, rv b2, iv (((q5.toUInt64 >>> ((32 : Int32) &&& 0x3f).toInt64.toUInt64).toInt64).toInt32), iv (q5.toInt32), rv b5, rv b_7] [(.ref b_7)])) (fun t k => ?_) ?_
  · show Steps p.tables e below (T14.setTop (mkF m 141 #[iv p0, iv p1, lv q2, .second, lv q3, .second, lv q4, .second, lv q5, .second, rv b_1, iv xc, rv b2, iv (((q5.toUInt64 >>> ((32 : Int32) &&& 0x3f).toInt64.toUInt64).toInt64).toInt32), iv (q5.toInt32), rv b5, rv b_7] [(.long q4)])) _
    refine XS.lload X14.here hx rfl (hb hby at_141) rfl ?_
    show Steps p.tables e below (T14.setTop (mkF m 143 #[iv p0, iv p1, lv q2, .second, lv q3, .second, lv q4, .second, lv q5, .second, rv b_1, iv xc, rv b2, iv (((q5.toUInt64 >>> ((32 : Int32) &&& 0x3f).toInt64.toUInt64).toInt64).toInt32), iv (q5.toInt32), rv b5, rv b_7] [(.long q4), (.long q4)])) _
    refine XS.lcmp X14.here hx rfl (hb hby at_143) rfl ?_
    show Steps p.tables e below (T14.setTop (mkF m 144 #[iv p0, iv p1, lv q2, .second, lv q3, .second, lv q4, .second, lv q5, .second, rv b_1, iv xc, rv b2, iv (((q5.toUInt64 >>> ((32 : Int32) &&& 0x3f).toInt64.toUInt64).toInt64).toInt32), iv (q5.toInt32), rv b5, rv b_7] [(.int (lcmpW q4 q4))])) _
    refine XS.ifNo X14.here hx rfl (hb hby at_144) rfl ((if0 _ _).trans (teq ((lw_eq q4 q4).mpr rfl)).2) ?_
    show Steps p.tables e below (T14.setTop (mkF m 147 #[iv p0, iv p1, lv q2, .second, lv q3, .second, lv q4, .second, lv q5, .second, rv b_1, iv xc, rv b2, iv (((q5.toUInt64 >>> ((32 : Int32) &&& 0x3f).toInt64.toUInt64).toInt64).toInt32), iv (q5.toInt32), rv b5, rv b_7] [])) _
    refine XS.aload X14.here hx rfl (hb hby at_147) rfl rfl ?_
    exact k
  obtain ⟨cq15, kq15, q15a, q15b, q15c⟩ := isOf hZ e14 E_7
  obtain ⟨_, _, ⟨T15, L15, k15, n15⟩, -, X15, ⟨Lc15, hQ15, l15, y15, z15⟩, st15⟩ := X14.virtualBack hx (y := (⟨"com/example/tombsweep/tombsweep/io/RecordHeader", "contentCheck", "()I"⟩ : MethodName)) (z := (⟨"com/example/tombsweep/tombsweep/io/RecordHeader", "contentCheck", "()I"⟩ : MethodName)) hown (mvT hZ (own_w hw 157 rfl)) (mvT hZ (own_w hw 158 rfl)) (notFace_of_selects (args := #[]) (mvT hZ (own_w hw 160 rfl))) (mvT hZ (own_w hw 160 rfl)) (mvT hZ (own_w hw 159 rfl)) (by decide) (backOf (W := 0) (rmG_contentCheck l Z a0 hw [] b_7 (((q5.toUInt64 >>> ((32 : Int32) &&& 0x3f).toInt64.toUInt64).toInt64).toInt32) T7.heap n0 O FcontentCheck_7) hZ (own_w hw 161 rfl) (own_w hw 96 rfl) (by decide) (by decide)) q15a q15c (g := (mkF m 149 #[iv p0, iv p1, lv q2, .second, lv q3, .second, lv q4, .second, lv q5, .second, rv b_1, iv xc, rv b2, iv (((q5.toUInt64 >>> ((32 : Int32) &&& 0x3f).toInt64.toUInt64).toInt64).toInt32), iv (q5.toInt32), rv b5, rv b_7] [(.ref b_7)])) rfl (by rw [hml]; rfl) (Steps.refl _) (argsL := []) (rest := []) (lenOf pd__28_29I rfl) rfl (by show 2 * 0 + _ ≤ _; exact Nat.le_of_eq rfl) (hb hby at_149) (fun _ _ => ⟨rfl, e14, (by decide : 7 + 0 ≤ _), (by decide : 46 + 0 ≤ _)⟩)
  dsimp only [Pt.U, Pt.locs, Pt.cells, Pt.slots] at X15 l15 y15 z15 st15 hQ15
  subst l15 y15 z15
  obtain ⟨rfl, Nq15, e15⟩ := hQ15
  have N15 := Fr.app N14 Nq15
  refine Go.step (fun t k => st15.trans k) ?_
  show Go p e below _ (T15.setTop (mkF m 152 #[iv p0, iv p1, lv q2, .second, lv q3, .second, lv q4, .second, lv q5, .second, rv b_1, iv xc, rv b2, iv (((q5.toUInt64 >>> ((32 : Int32) &&& 0x3f).toInt64.toUInt64).toInt64).toInt32), iv (q5.toInt32), rv b5, rv b_7] [(.int (((q5.toUInt64 >>> ((32 : Int32) &&& 0x3f).toInt64.toUInt64).toInt64).toInt32))]))
  refine Go.step (S' := T15.setTop (mkF m 159 #[iv p0, iv p1, lv q2, .second, lv q3, .second, lv q4, .second, lv q5, .second, rv b_1, iv xc, rv b2, iv (((q5.toUInt64 >>> ((32 : Int32) &&& 0x3f).toInt64.toUInt64).toInt64).toInt32), iv (q5.toInt32), rv b5, rv b_7] [(.ref b_7)])) (fun t k => ?_) ?_
  · show Steps p.tables e below (T15.setTop (mkF m 152 #[iv p0, iv p1, lv q2, .second, lv q3, .second, lv q4, .second, lv q5, .second, rv b_1, iv xc, rv b2, iv (((q5.toUInt64 >>> ((32 : Int32) &&& 0x3f).toInt64.toUInt64).toInt64).toInt32), iv (q5.toInt32), rv b5, rv b_7] [(.int (((q5.toUInt64 >>> ((32 : Int32) &&& 0x3f).toInt64.toUInt64).toInt64).toInt32))])) _
    refine XS.iload X15.here hx rfl (hb hby at_152) rfl ?_
    show Steps p.tables e below (T15.setTop (mkF m 154 #[iv p0, iv p1, lv q2, .second, lv q3, .second, lv q4, .second, lv q5, .second, rv b_1, iv xc, rv b2, iv (((q5.toUInt64 >>> ((32 : Int32) &&& 0x3f).toInt64.toUInt64).toInt64).toInt32), iv (q5.toInt32), rv b5, rv b_7] [(.int (((q5.toUInt64 >>> ((32 : Int32) &&& 0x3f).toInt64.toUInt64).toInt64).toInt32)), (.int (((q5.toUInt64 >>> ((32 : Int32) &&& 0x3f).toInt64.toUInt64).toInt64).toInt32))])) _
    refine XS.icmpNo X15.here hx rfl (hb hby at_154) rfl (teq (rfl : (((q5.toUInt64 >>> ((32 : Int32) &&& 0x3f).toInt64.toUInt64).toInt64).toInt32) = (((q5.toUInt64 >>> ((32 : Int32) &&& 0x3f).toInt64.toUInt64).toInt64).toInt32))).2 ?_
    show Steps p.tables e below (T15.setTop (mkF m 157 #[iv p0, iv p1, lv q2, .second, lv q3, .second, lv q4, .second, lv q5, .second, rv b_1, iv xc, rv b2, iv (((q5.toUInt64 >>> ((32 : Int32) &&& 0x3f).toInt64.toUInt64).toInt64).toInt32), iv (q5.toInt32), rv b5, rv b_7] [])) _
    refine XS.aload X15.here hx rfl (hb hby at_157) rfl rfl ?_
    exact k
  obtain ⟨cq16, kq16, q16a, q16b, q16c⟩ := isOf hZ e15 E_7
  obtain ⟨_, _, ⟨T16, L16, k16, n16⟩, -, X16, ⟨Lc16, hQ16, l16, y16, z16⟩, st16⟩ := X15.virtualBack hx (y := (⟨"com/example/tombsweep/tombsweep/io/RecordHeader", "metadataCheck", "()I"⟩ : MethodName)) (z := (⟨"com/example/tombsweep/tombsweep/io/RecordHeader", "metadataCheck", "()I"⟩ : MethodName)) hown (mvT hZ (own_w hw 162 rfl)) (mvT hZ (own_w hw 163 rfl)) (notFace_of_selects (args := #[]) (mvT hZ (own_w hw 165 rfl))) (mvT hZ (own_w hw 165 rfl)) (mvT hZ (own_w hw 164 rfl)) (by decide) (backOf (W := 0) (rmG_metadataCheck l Z a0 hw [] b_7 (q5.toInt32) T7.heap n0 O FmetadataCheck_7) hZ (own_w hw 166 rfl) (own_w hw 96 rfl) (by decide) (by decide)) q16a q16c (g := (mkF m 159 #[iv p0, iv p1, lv q2, .second, lv q3, .second, lv q4, .second, lv q5, .second, rv b_1, iv xc, rv b2, iv (((q5.toUInt64 >>> ((32 : Int32) &&& 0x3f).toInt64.toUInt64).toInt64).toInt32), iv (q5.toInt32), rv b5, rv b_7] [(.ref b_7)])) rfl (by rw [hml]; rfl) (Steps.refl _) (argsL := []) (rest := []) (lenOf pd__28_29I rfl) rfl (by show 2 * 0 + _ ≤ _; exact Nat.le_of_eq rfl) (hb hby at_159) (fun _ _ => ⟨rfl, e15, (by decide : 7 + 0 ≤ _), (by decide : 46 + 0 ≤ _)⟩)
  dsimp only [Pt.U, Pt.locs, Pt.cells, Pt.slots] at X16 l16 y16 z16 st16 hQ16
  subst l16 y16 z16
  obtain ⟨rfl, Nq16, e16⟩ := hQ16
  have N16 := Fr.app N15 Nq16
  refine Go.step (fun t k => st16.trans k) ?_
  show Go p e below _ (T16.setTop (mkF m 162 #[iv p0, iv p1, lv q2, .second, lv q3, .second, lv q4, .second, lv q5, .second, rv b_1, iv xc, rv b2, iv (((q5.toUInt64 >>> ((32 : Int32) &&& 0x3f).toInt64.toUInt64).toInt64).toInt32), iv (q5.toInt32), rv b5, rv b_7] [(.int (q5.toInt32))]))
  refine Go.step (S' := T16.setTop (mkF m 172 #[iv p0, iv p1, lv q2, .second, lv q3, .second, lv q4, .second, lv q5, .second, rv b_1, iv xc, rv b2, iv (((q5.toUInt64 >>> ((32 : Int32) &&& 0x3f).toInt64.toUInt64).toInt64).toInt32), iv (q5.toInt32), rv b5, rv b_7] [(.int (1 : Int32))])) (fun t k => ?_) ?_
  · show Steps p.tables e below (T16.setTop (mkF m 162 #[iv p0, iv p1, lv q2, .second, lv q3, .second, lv q4, .second, lv q5, .second, rv b_1, iv xc, rv b2, iv (((q5.toUInt64 >>> ((32 : Int32) &&& 0x3f).toInt64.toUInt64).toInt64).toInt32), iv (q5.toInt32), rv b5, rv b_7] [(.int (q5.toInt32))])) _
    refine XS.iload X16.here hx rfl (hb hby at_162) rfl ?_
    show Steps p.tables e below (T16.setTop (mkF m 164 #[iv p0, iv p1, lv q2, .second, lv q3, .second, lv q4, .second, lv q5, .second, rv b_1, iv xc, rv b2, iv (((q5.toUInt64 >>> ((32 : Int32) &&& 0x3f).toInt64.toUInt64).toInt64).toInt32), iv (q5.toInt32), rv b5, rv b_7] [(.int (q5.toInt32)), (.int (q5.toInt32))])) _
    refine XS.icmpNo X16.here hx rfl (hb hby at_164) rfl (teq (rfl : (q5.toInt32) = (q5.toInt32))).2 ?_
    show Steps p.tables e below (T16.setTop (mkF m 167 #[iv p0, iv p1, lv q2, .second, lv q3, .second, lv q4, .second, lv q5, .second, rv b_1, iv xc, rv b2, iv (((q5.toUInt64 >>> ((32 : Int32) &&& 0x3f).toInt64.toUInt64).toInt64).toInt32), iv (q5.toInt32), rv b5, rv b_7] [])) _
    refine XS.iconst X16.here hx rfl (hb hby at_167) ?_
    show Steps p.tables e below (T16.setTop (mkF m 168 #[iv p0, iv p1, lv q2, .second, lv q3, .second, lv q4, .second, lv q5, .second, rv b_1, iv xc, rv b2, iv (((q5.toUInt64 >>> ((32 : Int32) &&& 0x3f).toInt64.toUInt64).toInt64).toInt32), iv (q5.toInt32), rv b5, rv b_7] [(.int (1 : Int32))])) _
    refine XS.goto X16.here hx rfl (pc0 := 168) (pc' := 172) rfl (hb hby at_168) (by decide) (by decide) ?_
    exact k
  obtain ⟨fs, hr, hrun, hended, hR⟩ := X16.leaveW hS (by rw [e16]; exact hk) (v := some (.int (1 : Int32))) (fun h => by rw [Bd.returns] at h; cases h)
  refine Go.fin (S' := T16.setFrames fs) ?_ hrun hended ⟨_, _, rfl, ?_, hR.1, hR.2.1, hR.2.2.1, hR.2.2.2.mono (by decide) (by decide)⟩
  · exact retOut X16 hx Bd.returns (by decide) (Or.inl ⟨rfl, Or.inr (Or.inl rfl), _, rfl⟩) (hb hby at_172) hr
  · show Q_rm0 Z p0 p1 q2 q3 q4 q5 w_PUT w_ERASED w_DELETE w_GONE w_UNFINISHED cs sf h0 n0 (some (.int (1 : Int32))) T16.heap _
    rw [e16]
    exact ⟨rfl, N16, K⟩
set_option maxRecDepth 65536 in
set_option maxHeartbeats 40000000 in
theorem comes_1 {Post : Tables → Env → Array Value → State → Outcome → State → Prop} (hpost : ∀ tb e args s v u, (limb_1_1.after args s (.returned v) u = true ∧ limb_1_2.after args s (.returned v) u = true ∧ True) → ReturnedEndW s (.returned v) u (Jvm.fieldLocs frame_1_writes args s ++ Jvm.arrayLocs frame_1_arrays args s ++ Jvm.staticLocs frame_1_statics s) 24 1152 → Post tb e args s (.returned v) u) :
    ArmFor flags0 classFile x code maxLocals ret World_1 tables_1 room_1 Calls_1 rest_1 Pre_1 Post := by
  intro l hfl _ _ p e ha hc hk s m args below hf hA hF happ hP
  obtain ⟨hcalls, hrest, hpre⟩ := hP
  obtain ⟨-, -, -, hnamed, -, -, -, hat⟩ := (Spec.applies_iff hf).mp happ
  obtain ⟨hg, hn⟩ := and_e (Cond.before_iff.mp (show (Jvm.Cond.and given_1 narrow_1).before args s = true from hpre))
  obtain ⟨hgl, hgr⟩ := and_e hg
  obtain ⟨hgrl, hgrr⟩ := and_e hgr
  obtain ⟨hgrrl, hgrrr⟩ := and_e hgrr
  obtain ⟨hgrrrl, hgrrrr⟩ := and_e hgrrr
  obtain ⟨hgrrrrl, hgrrrrr⟩ := and_e hgrrrr
  obtain ⟨hgrrrrrl, hgrrrrrr⟩ := and_e hgrrrrr
  obtain ⟨w0, w1, w2, w3, w4, w5, rfl⟩ : ∃ w0 w1 w2 w3 w4 w5 : Value, args = #[w0, w1, w2, w3, w4, w5] := by
    have hs : args.size = 6 := by simpa [Cond.value, given_1] using hgl
    obtain ⟨L⟩ := args
    match L, hs with
    | [w0, w1, w2, w3, w4, w5], _ => exact ⟨w0, w1, w2, w3, w4, w5, rfl⟩
  have hw := fun d (hd : d ∈ tables_1) => atoms_spec (ws := Jvm.Cond.code x code maxLocals ret :: tables_1) hat d (List.mem_cons_of_mem _ hd)
  have hfit : Fit s := fun {y c} hc i hi => by
    obtain ⟨ha, rfl⟩ := Array.getElem?_eq_some_iff.mp hc
    have q := List.all_eq_true.mp ((Array.all_eq_true_iff_forall_mem.mp hF) _ (Array.getElem_mem ha)) i (List.mem_range.mpr hi)
    simpa [Array.getElem?_eq_getElem hi] using q
  obtain ⟨hsets, hown0⟩ := atoms_of _ (rest_1_c_eq ▸ (show rest_1_c.before _ s = true from hrest))
  obtain ⟨i0, ei0⟩ := is_v hgrl
  obtain rfl : w0 = (.int i0) := Option.some.inj ei0
  obtain ⟨i1, ei1⟩ := is_v hgrrl
  obtain rfl : w1 = (.int i1) := Option.some.inj ei1
  obtain ⟨i2, ei2⟩ := isL_v hgrrrl
  obtain rfl : w2 = (.long i2) := Option.some.inj ei2
  obtain ⟨i3, ei3⟩ := isL_v hgrrrrl
  obtain rfl : w3 = (.long i3) := Option.some.inj ei3
  obtain ⟨i4, ei4⟩ := isL_v hgrrrrrl
  obtain rfl : w4 = (.long i4) := Option.some.inj ei4
  obtain ⟨i5, ei5⟩ := isL_v hgrrrrrr
  obtain rfl : w5 = (.long i5) := Option.some.inj ei5
  obtain ⟨hna, hnb⟩ := and_e hn
  obtain ⟨w_PUT, ev_PUT⟩ := exa_v hna
  have E_PUT := Exa.start ev_PUT hna
  have S_PUT := Sta.start ev_PUT (Or.inr ⟨(own_w hw 6 rfl), (own_w hw 7 rfl)⟩)
  obtain ⟨hnba, hnbb⟩ := and_e hnb
  obtain ⟨w_GONE, ev_GONE⟩ := exa_v hnba
  have E_GONE := Exa.start ev_GONE hnba
  have S_GONE := Sta.start ev_GONE (Or.inr ⟨(own_w hw 6 rfl), (own_w hw 124 rfl)⟩)
  obtain ⟨hnbba, hnbbb⟩ := and_e hnbb
  obtain ⟨w_DELETE, ev_DELETE⟩ := exa_v hnbba
  have E_DELETE := Exa.start ev_DELETE hnbba
  have S_DELETE := Sta.start ev_DELETE (Or.inr ⟨(own_w hw 6 rfl), (own_w hw 168 rfl)⟩)
  obtain ⟨hnbbba, hnbbbb⟩ := and_e hnbbb
  obtain ⟨w_UNFINISHED, ev_UNFINISHED⟩ := exa_v hnbbba
  have E_UNFINISHED := Exa.start ev_UNFINISHED hnbbba
  have S_UNFINISHED := Sta.start ev_UNFINISHED (Or.inr ⟨(own_w hw 6 rfl), (own_w hw 170 rfl)⟩)
  obtain ⟨w_ERASED, ev_ERASED⟩ := exa_v hnbbbb
  have E_ERASED := Exa.start ev_ERASED hnbbbb
  have S_ERASED := Sta.start ev_ERASED (Or.inr ⟨(own_w hw 6 rfl), (own_w hw 172 rfl)⟩)
  obtain ⟨cs, evCS⟩ := is_v (Cond.before_iff.mp (hsets _ (List.mem_of_getElem? (i := 1) rfl)))
  have S_CS := Sta.start evCS (Or.inl (hsets _ (List.mem_of_getElem? (i := 0) rfl)))
  have hcs : ¬ (cs = (0 : Int32)) := fun q => by have := not_v (Cond.before_iff.mp (hsets _ (List.mem_of_getElem? (i := 2) rfl))); rw [eq_i evCS (Term.int_eval 0) (by rw [q])] at this; cases this
  obtain ⟨sf, evFM, hsf⟩ := isR_v (Cond.before_iff.mp (hsets _ (List.mem_of_getElem? (i := 8) rfl)))
  have S_FM := Sta.start evFM (Or.inl (hsets _ (List.mem_of_getElem? (i := 7) rfl)))
  obtain ⟨n, o, h1, h2, h3, _, L, rfl, ⟨rfl, N, -⟩, hq⟩ := rm0 l s _ hw tables_1 i0 i1 i2 i3 i4 i5 w_PUT w_ERASED w_DELETE w_GONE w_UNFINISHED cs sf s.heap s.heap.size (Old.start s) S_PUT S_ERASED S_DELETE S_GONE S_UNFINISHED S_CS S_FM hcs hsf p e ha hc hk s m _ below hf ((Spec.applies_iff_loose hf).mp happ).1 ⟨rfl, State.Warmed39.refl s, rfl⟩ trivial
  refine ⟨n, _, h1, h2, h3, hpost _ _ _ _ _ _ ⟨Cond.after_iff.mpr rfl, Cond.after_iff.mpr (eq_i res_at (Term.int_eval (1)) rfl), trivial⟩ ⟨hq.1, hq.2.1, hq.2.2.1, (hq.2.2.2.sift fun y hy => Or.inr (N y hy)).mono (by decide) (by decide)⟩⟩
theorem main_1_1 : Claimed_1_1 := comes_1 fun _ _ _ _ _ _ h hF => ⟨h.1, hF⟩
theorem main_1_2 : Claimed_1_2 := comes_1 fun _ _ _ _ _ _ h hF => ⟨h.2.1, hF⟩
end Jvm.Pilot.@@N@@
namespace Jvm.Pilot.@@N@@
open Jvm Jvm.ClassFile Sem Op Lib Jvm.Free Jvm.Stand Jvm.Pilot.@@N@@.Jvm.D
/-! MADE BY PROGRAM (witnessworld.py) out of the Statement's table words and the real class files: 22 classes; the members and pool entries that the words name. The judged class is class 1, her method 2. -/
namespace start1
open Jvm.ClassFile
def u (s : String) : CpInfo := .utf8 (stringToUtf16 s)
/-- a pool by its gaps: so many unusable entries, then the entry; so many at the end -/
def gap : Nat → List CpInfo → List CpInfo
  | 0, r => r
  | n + 1, r => .unusable :: gap n r
def poolList (es : List (Nat × CpInfo)) (last : Nat) : List CpInfo := es.foldr (fun e r => gap e.1 (e.2 :: r)) (gap last [])
def pool (es : List (Nat × CpInfo)) (last : Nat) : Array CpInfo := ⟨poolList es last⟩
def fileOf (pool : Array CpInfo) (this : Nat) (attrs : Array Attribute := #[]) (ms : Array MethodInfo := #[]) (fl : Nat := 33) (sup : Nat := 0) (ifs : Array Nat := #[]) (fds : Array FieldInfo := #[]) : ClassFile where
  minorVersion := 0
  majorVersion := 65
  constantPool := pool
  accessFlags := fl
  thisClass := this
  superClass := sup
  interfaces := ifs
  fields := fds
  methods := ms
  attributes := attrs
def plain (name : String) (sup : Option ClassId) : Class where
  name := name
  kind := .ordinary
  loader := none
  accessFlags := 33
  super := sup
  interfaces := #[]
  cf := none
  fields := #[]
  methods := #[]
  instanceTypes := #[]
  staticTypes := #[]
  resolved := #[]
  callSites := []
  init := .initialized
  statics := none
  mirror := none

def pool0 : Array CpInfo := pool [(5, u "<init>"), (0, u "()V"), (1, .class_ 10), (1, u "java/lang/Object")] 113

def k0c0 : Code := { maxStack := 0, maxLocals := 1, code := object_method_1_code, exceptionTable := #[], attributes := #[] }
def k0m0 : Method := { name := "<init>", desc := "()V", sig := { parameters := [], returnType := none }, accessFlags := 1, code := some k0c0 }
/-- java/lang/Object -/
def k0 : Class := { plain "java/lang/Object" none with
  accessFlags := 33
  interfaces := #[]
  cf := some (fileOf pool0 8 #[] #[{ accessFlags := 1, nameIndex := 5, descriptorIndex := 6, attributes := #[] }] 33 0 #[] #[])
  fields := #[]
  methods := #[k0m0]
  instanceTypes := #[]
  staticTypes := #[]
  resolved := Array.replicate 124 none
  statics := none }

def pool1 : Array CpInfo := pool [(2, .class_ 4), (1, u "java/lang/Object"), (0, u "<init>"), (0, u "()V"), (0, .integer 2147483647), (0, .fieldref 9 10), (0, .class_ 11), (0, .nameAndType 12 13), (0, u "com/example/tombsweep/tombsweep/io/RecordHeader$Kind"), (0, u "PUT"), (0, u "Lcom/example/tombsweep/tombsweep/io/RecordHeader$Kind;"), (0, .fieldref 9 15), (0, .nameAndType 16 13), (0, u "ERASED"), (0, .fieldref 9 18), (0, .nameAndType 19 13), (0, u "DELETE"), (0, .fieldref 9 21), (0, .nameAndType 22 13), (0, u "GONE"), (0, .fieldref 9 24), (0, .nameAndType 25 13), (0, u "UNFINISHED"), (0, .methodref 27 28), (0, .class_ 29), (0, .nameAndType 30 31), (0, u "com/example/tombsweep/tombsweep/io/RecordHeaderGonePinLaw"), (0, u "kindOf"), (0, u "(I)Lcom/example/tombsweep/tombsweep/io/RecordHeader$Kind;"), (0, .class_ 33), (0, u "com/example/tombsweep/tombsweep/model/BlobKey"), (0, .methodref 35 36), (0, .class_ 37), (0, .nameAndType 38 39), (0, u "java/lang/String"), (0, u "valueOf"), (0, u "(C)Ljava/lang/String;"), (0, .methodref 32 41), (0, .nameAndType 5 42), (0, u "(Ljava/lang/String;)V"), (0, .class_ 44), (0, u "com/example/tombsweep/tombsweep/io/RecordHeader"), (0, .methodref 43 46), (0, .nameAndType 5 47), (0, u "(Lcom/example/tombsweep/tombsweep/io/RecordHeader$Kind;Lcom/example/tombsweep/tombsweep/model/BlobKey;IJJJII)V"), (0, .methodref 43 49), (0, .nameAndType 50 51), (0, u "gone"), (0, u "()Lcom/example/tombsweep/tombsweep/io/RecordHeader;"), (0, .methodref 43 53), (0, .nameAndType 54 55), (0, u "kind"), (0, u "()Lcom/example/tombsweep/tombsweep/io/RecordHeader$Kind;"), (0, .methodref 43 57), (0, .nameAndType 58 59), (0, u "key"), (0, u "()Lcom/example/tombsweep/tombsweep/model/BlobKey;"), (0, .methodref 43 61), (0, .nameAndType 62 63), (0, u "metadataLength"), (0, u "()I"), (0, .methodref 43 65), (0, .nameAndType 66 67), (0, u "sequence"), (0, u "()J"), (0, .methodref 43 69), (0, .nameAndType 70 67), (0, u "time"), (0, .methodref 43 72), (0, .nameAndType 73 67), (0, u "contentLength"), (0, .methodref 43 75), (0, .nameAndType 76 63), (0, u "contentCheck"), (0, .methodref 43 78), (0, .nameAndType 79 63), (0, u "metadataCheck"), (3, u "law"), (0, u "(IIJJJJ)Z")] 4

def k1m0 : Method := { name := "<init>", desc := "()V", sig := { parameters := [], returnType := none }, accessFlags := 1, code := none }
def k1c1 : Code := { maxStack := 2, maxLocals := 2, code := method_2_code, exceptionTable := #[], attributes := #[] }
def k1m1 : Method := { name := "kindOf", desc := "(I)Lcom/example/tombsweep/tombsweep/io/RecordHeader$Kind;", sig := { parameters := [.int], returnType := some (.object "com/example/tombsweep/tombsweep/io/RecordHeader$Kind") }, accessFlags := 10, code := some k1c1 }
def k1c2 : Code := { maxStack := 13, maxLocals := 17, code := code, exceptionTable := #[], attributes := #[] }
def k1m2 : Method := { name := "law", desc := "(IIJJJJ)Z", sig := { parameters := [.int, .int, .long, .long, .long, .long], returnType := some .boolean }, accessFlags := 9, code := some k1c2 }
/-- com/example/tombsweep/tombsweep/io/RecordHeaderGonePinLaw -/
def k1 : Class := { plain "com/example/tombsweep/tombsweep/io/RecordHeaderGonePinLaw" (some 0) with
  accessFlags := 49
  interfaces := #[]
  cf := some (fileOf pool1 27 #[] #[{ accessFlags := 1, nameIndex := 5, descriptorIndex := 6, attributes := #[] }, { accessFlags := 10, nameIndex := 30, descriptorIndex := 31, attributes := #[] }, { accessFlags := 9, nameIndex := 83, descriptorIndex := 84, attributes := #[] }] 49 2 #[] #[])
  fields := #[]
  methods := #[k1m0, k1m1, k1m2]
  instanceTypes := #[]
  staticTypes := #[]
  resolved := Array.replicate 89 none
  statics := none }

def pool2 : Array CpInfo := pool [(1, .class_ 2), (0, u "java/lang/constant/Constable"), (0, .class_ 4), (0, u "java/lang/Object")] 6

/-- java/lang/constant/Constable -/
def k2 : Class := { plain "java/lang/constant/Constable" (some 0) with
  accessFlags := 1537
  interfaces := #[]
  cf := some (fileOf pool2 1 #[] #[] 1537 3 #[] #[])
  fields := #[]
  methods := #[]
  instanceTypes := #[]
  staticTypes := #[]
  resolved := Array.replicate 11 none
  statics := none }

def pool3 : Array CpInfo := pool [(1, .class_ 2), (0, u "java/lang/Comparable"), (0, .class_ 4), (0, u "java/lang/Object")] 7

/-- java/lang/Comparable -/
def k3 : Class := { plain "java/lang/Comparable" (some 0) with
  accessFlags := 1537
  interfaces := #[]
  cf := some (fileOf pool3 1 #[] #[] 1537 3 #[] #[])
  fields := #[]
  methods := #[]
  instanceTypes := #[]
  staticTypes := #[]
  resolved := Array.replicate 12 none
  statics := none }

def pool4 : Array CpInfo := pool [(1, .class_ 2), (0, u "java/io/Serializable"), (0, .class_ 4), (0, u "java/lang/Object")] 2

/-- java/io/Serializable -/
def k4 : Class := { plain "java/io/Serializable" (some 0) with
  accessFlags := 1537
  interfaces := #[]
  cf := some (fileOf pool4 1 #[] #[] 1537 3 #[] #[])
  fields := #[]
  methods := #[]
  instanceTypes := #[]
  staticTypes := #[]
  resolved := Array.replicate 7 none
  statics := none }

def pool5 : Array CpInfo := pool [(2, .class_ 4), (1, u "java/lang/Enum"), (0, u "name"), (0, u "Ljava/lang/String;"), (2, u "ordinal"), (0, u "I"), (1, .class_ 14), (1, u "java/lang/Object"), (4, u "hash"), (86, .class_ 108), (1, u "java/lang/Enum$EnumDesc"), (2, .class_ 112), (0, u "java/lang/constant/Constable"), (0, .class_ 114), (0, u "java/lang/Comparable"), (0, .class_ 116), (0, u "java/io/Serializable")] 87

/-- java/lang/Enum -/
def k5 : Class := { plain "java/lang/Enum" (some 0) with
  accessFlags := 1057
  interfaces := #[2, 3, 4]
  cf := some (fileOf pool5 2 #[.nestMembers #[106]] #[] 1057 12 #[111, 113, 115] #[{ accessFlags := 18, nameIndex := 5, descriptorIndex := 6, attributes := #[] }, { accessFlags := 18, nameIndex := 9, descriptorIndex := 10, attributes := #[] }, { accessFlags := 2, nameIndex := 19, descriptorIndex := 10, attributes := #[] }])
  fields := #[{ name := "name", type := (.object "java/lang/String"), accessFlags := 18, slot := 0, constantValue := 0 }, { name := "ordinal", type := .int, accessFlags := 18, slot := 1, constantValue := 0 }, { name := "hash", type := .int, accessFlags := 2, slot := 2, constantValue := 0 }]
  methods := #[]
  instanceTypes := #[(.object "java/lang/String"), .int, .int]
  staticTypes := #[]
  resolved := Array.replicate 204 none
  statics := none }

def pool6 : Array CpInfo := pool [(1, .class_ 2), (0, u "com/example/tombsweep/tombsweep/io/RecordHeader$Kind"), (2, u "PUT"), (0, u "Lcom/example/tombsweep/tombsweep/io/RecordHeader$Kind;"), (2, u "ERASED"), (2, u "DELETE"), (2, u "GONE"), (2, u "UNFINISHED"), (2, u "$VALUES"), (0, u "[Lcom/example/tombsweep/tombsweep/io/RecordHeader$Kind;"), (6, .class_ 31), (1, u "java/lang/Enum"), (8, u "code"), (0, u "B"), (26, u "KINDS"), (30, .class_ 100), (0, u "com/example/tombsweep/tombsweep/io/RecordHeader")] 2

/-- com/example/tombsweep/tombsweep/io/RecordHeader$Kind -/
def k6 : Class := { plain "com/example/tombsweep/tombsweep/io/RecordHeader$Kind" (some 5) with
  accessFlags := 16433
  interfaces := #[]
  cf := some (fileOf pool6 1 #[.nestHost 99] #[] 16433 29 #[] #[{ accessFlags := 16409, nameIndex := 5, descriptorIndex := 6, attributes := #[] }, { accessFlags := 16409, nameIndex := 9, descriptorIndex := 6, attributes := #[] }, { accessFlags := 16409, nameIndex := 12, descriptorIndex := 6, attributes := #[] }, { accessFlags := 16409, nameIndex := 15, descriptorIndex := 6, attributes := #[] }, { accessFlags := 16409, nameIndex := 18, descriptorIndex := 6, attributes := #[] }, { accessFlags := 26, nameIndex := 68, descriptorIndex := 22, attributes := #[] }, { accessFlags := 18, nameIndex := 40, descriptorIndex := 41, attributes := #[] }, { accessFlags := 4122, nameIndex := 21, descriptorIndex := 22, attributes := #[] }])
  fields := #[{ name := "PUT", type := (.object "com/example/tombsweep/tombsweep/io/RecordHeader$Kind"), accessFlags := 16409, slot := 0, constantValue := 0 }, { name := "ERASED", type := (.object "com/example/tombsweep/tombsweep/io/RecordHeader$Kind"), accessFlags := 16409, slot := 1, constantValue := 0 }, { name := "DELETE", type := (.object "com/example/tombsweep/tombsweep/io/RecordHeader$Kind"), accessFlags := 16409, slot := 2, constantValue := 0 }, { name := "GONE", type := (.object "com/example/tombsweep/tombsweep/io/RecordHeader$Kind"), accessFlags := 16409, slot := 3, constantValue := 0 }, { name := "UNFINISHED", type := (.object "com/example/tombsweep/tombsweep/io/RecordHeader$Kind"), accessFlags := 16409, slot := 4, constantValue := 0 }, { name := "KINDS", type := (.array (.object "com/example/tombsweep/tombsweep/io/RecordHeader$Kind")), accessFlags := 26, slot := 5, constantValue := 0 }, { name := "code", type := .byte, accessFlags := 18, slot := 3, constantValue := 0 }, { name := "$VALUES", type := (.array (.object "com/example/tombsweep/tombsweep/io/RecordHeader$Kind")), accessFlags := 4122, slot := 6, constantValue := 0 }]
  methods := #[]
  instanceTypes := #[(.object "java/lang/String"), .int, .int, .byte]
  staticTypes := #[(.object "com/example/tombsweep/tombsweep/io/RecordHeader$Kind"), (.object "com/example/tombsweep/tombsweep/io/RecordHeader$Kind"), (.object "com/example/tombsweep/tombsweep/io/RecordHeader$Kind"), (.object "com/example/tombsweep/tombsweep/io/RecordHeader$Kind"), (.object "com/example/tombsweep/tombsweep/io/RecordHeader$Kind"), (.array (.object "com/example/tombsweep/tombsweep/io/RecordHeader$Kind")), (.array (.object "com/example/tombsweep/tombsweep/io/RecordHeader$Kind"))]
  resolved := Array.replicate 103 none
  statics := some 0 }

def pool7 : Array CpInfo := pool [(1, .methodref 2 3), (0, .class_ 4), (0, .nameAndType 5 6), (0, u "java/lang/Object"), (0, u "<init>"), (0, u "()V"), (0, .class_ 8), (0, u "java/lang/Record")] 13

def k7c0 : Code := { maxStack := 1, maxLocals := 1, code := jdk_30_method_1_code, exceptionTable := #[], attributes := #[] }
def k7m0 : Method := { name := "<init>", desc := "()V", sig := { parameters := [], returnType := none }, accessFlags := 4, code := some k7c0 }
/-- java/lang/Record -/
def k7 : Class := { plain "java/lang/Record" (some 0) with
  accessFlags := 1057
  interfaces := #[]
  cf := some (fileOf pool7 7 #[] #[{ accessFlags := 4, nameIndex := 5, descriptorIndex := 6, attributes := #[] }] 1057 2 #[] #[])
  fields := #[]
  methods := #[k7m0]
  instanceTypes := #[]
  staticTypes := #[]
  resolved := Array.replicate 22 none
  statics := none }

def pool8 : Array CpInfo := pool [(1, .methodref 2 3), (0, .class_ 4), (0, .nameAndType 5 6), (0, u "java/lang/Record"), (0, u "<init>"), (0, u "()V"), (0, .string 8), (0, u "value"), (0, .methodref 10 11), (0, .class_ 12), (0, .nameAndType 13 14), (0, u "java/util/Objects"), (0, u "requireNonNull"), (0, u "(Ljava/lang/Object;Ljava/lang/String;)Ljava/lang/Object;"), (0, .methodref 16 17), (0, .class_ 18), (0, .nameAndType 19 20), (0, u "java/lang/String"), (0, u "isEmpty"), (0, u "()Z"), (0, .methodref 16 22), (0, .nameAndType 23 24), (0, u "length"), (0, u "()I"), (0, .class_ 26), (0, u "com/example/tombsweep/tombsweep/model/BlobKey"), (8, u "(Ljava/lang/String;)V"), (0, .methodref 16 37), (0, .nameAndType 38 39), (0, u "charAt"), (0, u "(I)C"), (0, .methodref 25 41), (0, .nameAndType 42 43), (0, u "isKeyCharacter"), (0, u "(C)Z"), (14, .fieldref 25 59), (0, .nameAndType 8 60), (0, u "Ljava/lang/String;"), (18, u "MAX_LENGTH"), (0, u "I")] 37

def k8c0 : Code := { maxStack := 7, maxLocals := 4, code := prog_11_method_1_code, exceptionTable := #[], attributes := #[] }
def k8m0 : Method := { name := "<init>", desc := "(Ljava/lang/String;)V", sig := { parameters := [(.object "java/lang/String")], returnType := none }, accessFlags := 1, code := some k8c0 }
def k8c1 : Code := { maxStack := 2, maxLocals := 1, code := prog_11_method_4_code, exceptionTable := #[], attributes := #[] }
def k8m1 : Method := { name := "isKeyCharacter", desc := "(C)Z", sig := { parameters := [.char], returnType := some .boolean }, accessFlags := 10, code := some k8c1 }
/-- com/example/tombsweep/tombsweep/model/BlobKey -/
def k8 : Class := { plain "com/example/tombsweep/tombsweep/model/BlobKey" (some 7) with
  accessFlags := 49
  interfaces := #[]
  cf := some (fileOf pool8 25 #[] #[{ accessFlags := 1, nameIndex := 5, descriptorIndex := 35, attributes := #[] }, { accessFlags := 10, nameIndex := 42, descriptorIndex := 43, attributes := #[] }] 49 2 #[] #[{ accessFlags := 18, nameIndex := 8, descriptorIndex := 60, attributes := #[] }, { accessFlags := 25, nameIndex := 79, descriptorIndex := 80, attributes := #[] }])
  fields := #[{ name := "value", type := (.object "java/lang/String"), accessFlags := 18, slot := 0, constantValue := 0 }, { name := "MAX_LENGTH", type := .int, accessFlags := 25, slot := 0, constantValue := 0 }]
  methods := #[k8m0, k8m1]
  instanceTypes := #[(.object "java/lang/String")]
  staticTypes := #[.int]
  resolved := Array.replicate 118 none
  statics := none }

def pool9 : Array CpInfo := pool [(2, .class_ 4), (1, u "java/lang/CharSequence"), (42, .class_ 48), (0, u "java/lang/CharSequence$1CodePointIterator"), (10, .class_ 60), (0, u "java/lang/CharSequence$1CharIterator"), (5, .class_ 67), (0, u "java/lang/Object")] 63

/-- java/lang/CharSequence -/
def k9 : Class := { plain "java/lang/CharSequence" (some 0) with
  accessFlags := 1537
  interfaces := #[]
  cf := some (fileOf pool9 2 #[.nestMembers #[47, 59]] #[] 1537 66 #[] #[])
  fields := #[]
  methods := #[]
  instanceTypes := #[]
  staticTypes := #[]
  resolved := Array.replicate 131 none
  statics := none }

def pool10 : Array CpInfo := pool [(1, .class_ 2), (0, u "java/lang/constant/ConstantDesc"), (0, .class_ 4), (0, u "java/lang/Object")] 32

/-- java/lang/constant/ConstantDesc -/
def k10 : Class := { plain "java/lang/constant/ConstantDesc" (some 0) with
  accessFlags := 1537
  interfaces := #[]
  cf := some (fileOf pool10 1 #[] #[] 1537 3 #[] #[])
  fields := #[]
  methods := #[]
  instanceTypes := #[]
  staticTypes := #[]
  resolved := Array.replicate 37 none
  statics := none }

def pool11 : Array CpInfo := pool [(1, .methodref 2 3), (0, .class_ 4), (0, .nameAndType 5 6), (0, u "java/lang/Object"), (0, u "<init>"), (0, u "()V"), (2, .fieldref 10 11), (0, .class_ 12), (0, .nameAndType 13 14), (0, u "java/lang/String"), (0, u "value"), (0, u "[B"), (0, .fieldref 10 16), (0, .nameAndType 17 18), (0, u "coder"), (0, u "B"), (2, u "hash"), (0, u "I"), (2, u "hashIsZero"), (0, u "Z"), (11, .fieldref 10 39), (0, .nameAndType 40 26), (0, u "COMPACT_STRINGS"), (12, u "toBytes"), (53, .class_ 109), (1, u "java/lang/StringLatin1"), (32, u "()Z"), (66, .methodref 10 210), (0, .nameAndType 5 211), (0, u "([BB)V"), (122, u "()I"), (0, .methodref 10 336), (0, .nameAndType 17 337), (0, u "()B"), (25, u "([BI)C"), (5, u "(C)Z"), (21, u "(II)V"), (35, u "(I)C"), (64, .methodref 10 493), (0, .nameAndType 494 142), (0, u "isLatin1"), (0, .methodref 107 496), (0, .nameAndType 497 363), (0, u "charAt"), (3, u "checkIndex"), (5, u "length"), (67, .class_ 576), (0, u "java/lang/CharSequence"), (22, u "CASE_INSENSITIVE_ORDER"), (0, u "Ljava/util/Comparator;"), (91, u "isEmpty"), (89, u "valueOf"), (0, u "(C)Ljava/lang/String;"), (231, .methodref 107 1016), (0, .nameAndType 1017 369), (0, u "canEncode"), (0, .methodref 107 1019), (0, .nameAndType 53 1020), (0, u "(C)[B"), (32, .fieldref 1054 1055), (0, .class_ 1056), (0, .nameAndType 1057 1058), (0, u "jdk/internal/util/Preconditions"), (0, u "SIOOBE_FORMATTER"), (0, u "Ljava/util/function/BiFunction;"), (0, .methodref 1054 1060), (0, .nameAndType 501 1061), (0, u "(IILjava/util/function/BiFunction;)I"), (39, u "serialPersistentFields"), (0, u "[Ljava/io/ObjectStreamField;"), (0, .class_ 1104), (0, u "java/lang/String$CaseInsensitiveComparator"), (1, .class_ 1107), (0, u "java/io/Serializable"), (0, .class_ 1109), (0, u "java/lang/Comparable"), (0, .class_ 1111), (0, u "java/lang/constant/Constable"), (0, .class_ 1113), (0, u "java/lang/constant/ConstantDesc"), (2, u "serialVersionUID"), (0, u "J"), (3, u "REPL"), (0, u "C"), (2, u "LATIN1"), (1, u "UTF16")] 323

def k11m0 : Method := { name := "<init>", desc := "()V", sig := { parameters := [], returnType := none }, accessFlags := 1, code := none }
def k11c1 : Code := { maxStack := 2, maxLocals := 1, code := jdk_42_method_54_code, exceptionTable := #[], attributes := #[] }
def k11m1 : Method := { name := "length", desc := "()I", sig := { parameters := [], returnType := some .int }, accessFlags := 1, code := some k11c1 }
def k11c2 : Code := { maxStack := 1, maxLocals := 1, code := jdk_42_method_55_code, exceptionTable := #[], attributes := #[] }
def k11m2 : Method := { name := "isEmpty", desc := "()Z", sig := { parameters := [], returnType := some .boolean }, accessFlags := 1, code := some k11c2 }
def k11c3 : Code := { maxStack := 2, maxLocals := 2, code := jdk_42_method_56_code, exceptionTable := #[], attributes := #[] }
def k11m3 : Method := { name := "charAt", desc := "(I)C", sig := { parameters := [.int], returnType := some .char }, accessFlags := 1, code := some k11c3 }
def k11c4 : Code := { maxStack := 4, maxLocals := 1, code := jdk_42_method_139_code, exceptionTable := #[], attributes := #[] }
def k11m4 : Method := { name := "valueOf", desc := "(C)Ljava/lang/String;", sig := { parameters := [.char], returnType := some (.object "java/lang/String") }, accessFlags := 9, code := some k11c4 }
def k11c5 : Code := { maxStack := 2, maxLocals := 3, code := jdk_42_method_151_code, exceptionTable := #[], attributes := #[] }
def k11m5 : Method := { name := "<init>", desc := "([BB)V", sig := { parameters := [(.array .byte), .byte], returnType := none }, accessFlags := 0, code := some k11c5 }
def k11c6 : Code := { maxStack := 1, maxLocals := 1, code := jdk_42_method_152_code, exceptionTable := #[], attributes := #[] }
def k11m6 : Method := { name := "coder", desc := "()B", sig := { parameters := [], returnType := some .byte }, accessFlags := 0, code := some k11c6 }
def k11c7 : Code := { maxStack := 1, maxLocals := 1, code := jdk_42_method_154_code, exceptionTable := #[], attributes := #[] }
def k11m7 : Method := { name := "isLatin1", desc := "()Z", sig := { parameters := [], returnType := some .boolean }, accessFlags := 0, code := some k11c7 }
def k11c8 : Code := { maxStack := 3, maxLocals := 2, code := jdk_42_method_155_code, exceptionTable := #[], attributes := #[] }
def k11m8 : Method := { name := "checkIndex", desc := "(II)V", sig := { parameters := [.int, .int], returnType := none }, accessFlags := 8, code := some k11c8 }
/-- java/lang/String -/
def k11 : Class := { plain "java/lang/String" (some 0) with
  accessFlags := 49
  interfaces := #[4, 3, 9, 2, 10]
  cf := some (fileOf pool11 10 #[.nestMembers #[1103]] #[{ accessFlags := 1, nameIndex := 5, descriptorIndex := 6, attributes := #[] }, { accessFlags := 1, nameIndex := 507, descriptorIndex := 334, attributes := #[] }, { accessFlags := 1, nameIndex := 692, descriptorIndex := 142, attributes := #[] }, { accessFlags := 1, nameIndex := 497, descriptorIndex := 427, attributes := #[] }, { accessFlags := 9, nameIndex := 782, descriptorIndex := 783, attributes := #[] }, { accessFlags := 0, nameIndex := 5, descriptorIndex := 211, attributes := #[] }, { accessFlags := 0, nameIndex := 17, descriptorIndex := 337, attributes := #[] }, { accessFlags := 0, nameIndex := 494, descriptorIndex := 142, attributes := #[] }, { accessFlags := 8, nameIndex := 501, descriptorIndex := 391, attributes := #[] }] 49 2 #[1106, 1108, 575, 1110, 1112] #[{ accessFlags := 18, nameIndex := 13, descriptorIndex := 14, attributes := #[] }, { accessFlags := 18, nameIndex := 17, descriptorIndex := 18, attributes := #[] }, { accessFlags := 2, nameIndex := 21, descriptorIndex := 22, attributes := #[] }, { accessFlags := 2, nameIndex := 25, descriptorIndex := 26, attributes := #[] }, { accessFlags := 26, nameIndex := 1116, descriptorIndex := 1117, attributes := #[] }, { accessFlags := 24, nameIndex := 40, descriptorIndex := 26, attributes := #[] }, { accessFlags := 26, nameIndex := 1101, descriptorIndex := 1102, attributes := #[] }, { accessFlags := 26, nameIndex := 1121, descriptorIndex := 1122, attributes := #[] }, { accessFlags := 25, nameIndex := 599, descriptorIndex := 600, attributes := #[] }, { accessFlags := 24, nameIndex := 1125, descriptorIndex := 18, attributes := #[] }, { accessFlags := 24, nameIndex := 1127, descriptorIndex := 18, attributes := #[] }])
  fields := #[{ name := "value", type := (.array .byte), accessFlags := 18, slot := 0, constantValue := 0 }, { name := "coder", type := .byte, accessFlags := 18, slot := 1, constantValue := 0 }, { name := "hash", type := .int, accessFlags := 2, slot := 2, constantValue := 0 }, { name := "hashIsZero", type := .boolean, accessFlags := 2, slot := 3, constantValue := 0 }, { name := "serialVersionUID", type := .long, accessFlags := 26, slot := 0, constantValue := 0 }, { name := "COMPACT_STRINGS", type := .boolean, accessFlags := 24, slot := 1, constantValue := 0 }, { name := "serialPersistentFields", type := (.array (.object "java/io/ObjectStreamField")), accessFlags := 26, slot := 2, constantValue := 0 }, { name := "REPL", type := .char, accessFlags := 26, slot := 3, constantValue := 0 }, { name := "CASE_INSENSITIVE_ORDER", type := (.object "java/util/Comparator"), accessFlags := 25, slot := 4, constantValue := 0 }, { name := "LATIN1", type := .byte, accessFlags := 24, slot := 5, constantValue := 0 }, { name := "UTF16", type := .byte, accessFlags := 24, slot := 6, constantValue := 0 }]
  methods := #[k11m0, k11m1, k11m2, k11m3, k11m4, k11m5, k11m6, k11m7, k11m8]
  instanceTypes := #[(.array .byte), .byte, .int, .boolean]
  staticTypes := #[.long, .boolean, (.array (.object "java/io/ObjectStreamField")), .char, (.object "java/util/Comparator"), .byte, .byte]
  resolved := Array.replicate 1451 none
  statics := some 1 }

def pool12 : Array CpInfo := pool [(1, .class_ 2), (0, u "java/lang/String"), (1, .class_ 6), (1, u "java/lang/Object"), (0, u "<init>"), (0, u "()V"), (0, .methodref 1 10), (0, .nameAndType 11 12), (0, u "checkIndex"), (0, u "(II)V"), (1, .class_ 16), (1, u "java/lang/StringLatin1"), (36, u "([BI)C"), (36, u "canEncode"), (14, u "(C)Z"), (15, u "$assertionsDisabled"), (0, u "Z"), (98, .class_ 223), (1, u "java/lang/StringLatin1$LinesSpliterator"), (28, u "charAt"), (127, u "toBytes"), (1, u "(C)[B"), (7, .class_ 391), (0, u "java/lang/StringLatin1$CharsSpliterator")] 3

def k12m0 : Method := { name := "<init>", desc := "()V", sig := { parameters := [], returnType := none }, accessFlags := 0, code := none }
def k12c1 : Code := { maxStack := 2, maxLocals := 2, code := jdk_43_method_2_code, exceptionTable := #[], attributes := #[] }
def k12m1 : Method := { name := "charAt", desc := "([BI)C", sig := { parameters := [(.array .byte), .int], returnType := some .char }, accessFlags := 9, code := some k12c1 }
def k12c2 : Code := { maxStack := 2, maxLocals := 1, code := jdk_43_method_3_code, exceptionTable := #[], attributes := #[] }
def k12m2 : Method := { name := "canEncode", desc := "(C)Z", sig := { parameters := [.char], returnType := some .boolean }, accessFlags := 9, code := some k12c2 }
def k12c3 : Code := { maxStack := 4, maxLocals := 1, code := jdk_43_method_46_code, exceptionTable := #[], attributes := #[] }
def k12m3 : Method := { name := "toBytes", desc := "(C)[B", sig := { parameters := [.char], returnType := some (.array .byte) }, accessFlags := 9, code := some k12c3 }
/-- java/lang/StringLatin1 -/
def k12 : Class := { plain "java/lang/StringLatin1" (some 0) with
  accessFlags := 48
  interfaces := #[]
  cf := some (fileOf pool12 14 #[.nestMembers #[390, 221]] #[{ accessFlags := 0, nameIndex := 7, descriptorIndex := 8, attributes := #[] }, { accessFlags := 9, nameIndex := 252, descriptorIndex := 53, attributes := #[] }, { accessFlags := 9, nameIndex := 90, descriptorIndex := 105, attributes := #[] }, { accessFlags := 9, nameIndex := 380, descriptorIndex := 382, attributes := #[] }] 48 4 #[] #[{ accessFlags := 4120, nameIndex := 121, descriptorIndex := 122, attributes := #[] }])
  fields := #[{ name := "$assertionsDisabled", type := .boolean, accessFlags := 4120, slot := 0, constantValue := 0 }]
  methods := #[k12m0, k12m1, k12m2, k12m3]
  instanceTypes := #[]
  staticTypes := #[.boolean]
  resolved := Array.replicate 395 none
  statics := none }

def pool13 : Array CpInfo := pool [(2, .class_ 4), (1, u "java/lang/Object"), (0, u "<init>"), (0, u "()V"), (35, .class_ 44), (1, u "java/util/Objects"), (0, u "requireNonNull"), (48, u "(Ljava/lang/Object;Ljava/lang/String;)Ljava/lang/Object;")] 89

def k13m0 : Method := { name := "<init>", desc := "()V", sig := { parameters := [], returnType := none }, accessFlags := 2, code := none }
def k13c1 : Code := { maxStack := 3, maxLocals := 2, code := jdk_31_method_11_code, exceptionTable := #[], attributes := #[] }
def k13m1 : Method := { name := "requireNonNull", desc := "(Ljava/lang/Object;Ljava/lang/String;)Ljava/lang/Object;", sig := { parameters := [(.object "java/lang/Object"), (.object "java/lang/String")], returnType := some (.object "java/lang/Object") }, accessFlags := 9, code := some k13c1 }
/-- java/util/Objects -/
def k13 : Class := { plain "java/util/Objects" (some 0) with
  accessFlags := 49
  interfaces := #[]
  cf := some (fileOf pool13 42 #[] #[{ accessFlags := 2, nameIndex := 5, descriptorIndex := 6, attributes := #[] }, { accessFlags := 9, nameIndex := 45, descriptorIndex := 94, attributes := #[] }] 49 2 #[] #[])
  fields := #[]
  methods := #[k13m0, k13m1]
  instanceTypes := #[]
  staticTypes := #[]
  resolved := Array.replicate 184 none
  statics := none }

def pool14 : Array CpInfo := pool [(2, .class_ 4), (1, u "java/lang/Object"), (0, u "<init>"), (0, u "()V"), (17, .class_ 26), (1, u "jdk/internal/util/Preconditions"), (6, u "checkIndex"), (21, .class_ 56), (0, u "jdk/internal/util/Preconditions$4"), (57, .class_ 115), (0, u "jdk/internal/util/Preconditions$1"), (7, u "SIOOBE_FORMATTER"), (0, u "Ljava/util/function/BiFunction;"), (0, .class_ 126), (0, u "jdk/internal/util/Preconditions$2"), (3, u "AIOOBE_FORMATTER"), (0, .class_ 132), (0, u "jdk/internal/util/Preconditions$3"), (3, u "IOOBE_FORMATTER"), (41, u "(IILjava/util/function/BiFunction;)I")] 15

def k14m0 : Method := { name := "<init>", desc := "()V", sig := { parameters := [], returnType := none }, accessFlags := 1, code := none }
def k14c1 : Code := { maxStack := 3, maxLocals := 3, code := jdk_41_method_11_code, exceptionTable := #[], attributes := #[] }
def k14m1 : Method := { name := "checkIndex", desc := "(IILjava/util/function/BiFunction;)I", sig := { parameters := [.int, .int, (.object "java/util/function/BiFunction")], returnType := some .int }, accessFlags := 9, code := some k14c1 }
/-- jdk/internal/util/Preconditions -/
def k14 : Class := { plain "jdk/internal/util/Preconditions" (some 0) with
  accessFlags := 33
  interfaces := #[]
  cf := some (fileOf pool14 24 #[.nestMembers #[55, 131, 125, 114]] #[{ accessFlags := 1, nameIndex := 5, descriptorIndex := 6, attributes := #[] }, { accessFlags := 9, nameIndex := 33, descriptorIndex := 178, attributes := #[] }] 33 2 #[] #[{ accessFlags := 25, nameIndex := 123, descriptorIndex := 124, attributes := #[] }, { accessFlags := 25, nameIndex := 130, descriptorIndex := 124, attributes := #[] }, { accessFlags := 25, nameIndex := 136, descriptorIndex := 124, attributes := #[] }])
  fields := #[{ name := "SIOOBE_FORMATTER", type := (.object "java/util/function/BiFunction"), accessFlags := 25, slot := 0, constantValue := 0 }, { name := "AIOOBE_FORMATTER", type := (.object "java/util/function/BiFunction"), accessFlags := 25, slot := 1, constantValue := 0 }, { name := "IOOBE_FORMATTER", type := (.object "java/util/function/BiFunction"), accessFlags := 25, slot := 2, constantValue := 0 }]
  methods := #[k14m0, k14m1]
  instanceTypes := #[]
  staticTypes := #[(.object "java/util/function/BiFunction"), (.object "java/util/function/BiFunction"), (.object "java/util/function/BiFunction")]
  resolved := Array.replicate 194 none
  statics := some 2 }

def pool15 : Array CpInfo := pool [(1, .class_ 2), (0, u "com/example/tombsweep/tombsweep/io/RecordHeader"), (2, .methodref 6 7), (0, .class_ 8), (0, .nameAndType 9 10), (0, u "java/lang/Record"), (0, u "<init>"), (0, u "()V"), (0, .fieldref 1 12), (0, .nameAndType 13 14), (0, u "kind"), (0, u "Lcom/example/tombsweep/tombsweep/io/RecordHeader$Kind;"), (0, .fieldref 1 16), (0, .nameAndType 17 18), (0, u "key"), (0, u "Lcom/example/tombsweep/tombsweep/model/BlobKey;"), (0, .fieldref 1 20), (0, .nameAndType 21 22), (0, u "metadataLength"), (0, u "I"), (0, .fieldref 1 24), (0, .nameAndType 25 26), (0, u "sequence"), (0, u "J"), (0, .fieldref 1 28), (0, .nameAndType 29 26), (0, u "time"), (0, .fieldref 1 31), (0, .nameAndType 32 26), (0, u "contentLength"), (0, .fieldref 1 34), (0, .nameAndType 35 22), (0, u "contentCheck"), (0, .fieldref 1 37), (0, .nameAndType 38 22), (0, u "metadataCheck"), (1, .class_ 42), (1, u "com/example/tombsweep/tombsweep/io/RecordHeader$Kind"), (1, .methodref 1 45), (0, .nameAndType 9 46), (0, u "(Lcom/example/tombsweep/tombsweep/io/RecordHeader$Kind;Lcom/example/tombsweep/tombsweep/model/BlobKey;IJJJII)V"), (6, .fieldref 40 54), (0, .nameAndType 55 14), (0, u "GONE"), (8, u "()I"), (26, u "()J"), (147, u "SIZE"), (2, u "MAX_SIZE_WITH_KEY"), (1, u "CHECKED_SIZE"), (10, u "gone"), (0, u "()Lcom/example/tombsweep/tombsweep/io/RecordHeader;"), (15, u "()Lcom/example/tombsweep/tombsweep/io/RecordHeader$Kind;"), (0, u "()Lcom/example/tombsweep/tombsweep/model/BlobKey;")] 39

def k15c0 : Code := { maxStack := 3, maxLocals := 12, code := prog_5_method_1_code, exceptionTable := #[], attributes := #[] }
def k15m0 : Method := { name := "<init>", desc := "(Lcom/example/tombsweep/tombsweep/io/RecordHeader$Kind;Lcom/example/tombsweep/tombsweep/model/BlobKey;IJJJII)V", sig := { parameters := [(.object "com/example/tombsweep/tombsweep/io/RecordHeader$Kind"), (.object "com/example/tombsweep/tombsweep/model/BlobKey"), .int, .long, .long, .long, .int, .int], returnType := none }, accessFlags := 1, code := some k15c0 }
def k15c1 : Code := { maxStack := 13, maxLocals := 1, code := prog_5_method_5_code, exceptionTable := #[], attributes := #[] }
def k15m1 : Method := { name := "gone", desc := "()Lcom/example/tombsweep/tombsweep/io/RecordHeader;", sig := { parameters := [], returnType := some (.object "com/example/tombsweep/tombsweep/io/RecordHeader") }, accessFlags := 1, code := some k15c1 }
def k15c2 : Code := { maxStack := 1, maxLocals := 1, code := prog_5_method_21_code, exceptionTable := #[], attributes := #[] }
def k15m2 : Method := { name := "kind", desc := "()Lcom/example/tombsweep/tombsweep/io/RecordHeader$Kind;", sig := { parameters := [], returnType := some (.object "com/example/tombsweep/tombsweep/io/RecordHeader$Kind") }, accessFlags := 1, code := some k15c2 }
def k15c3 : Code := { maxStack := 1, maxLocals := 1, code := prog_5_method_22_code, exceptionTable := #[], attributes := #[] }
def k15m3 : Method := { name := "key", desc := "()Lcom/example/tombsweep/tombsweep/model/BlobKey;", sig := { parameters := [], returnType := some (.object "com/example/tombsweep/tombsweep/model/BlobKey") }, accessFlags := 1, code := some k15c3 }
def k15c4 : Code := { maxStack := 1, maxLocals := 1, code := prog_5_method_23_code, exceptionTable := #[], attributes := #[] }
def k15m4 : Method := { name := "metadataLength", desc := "()I", sig := { parameters := [], returnType := some .int }, accessFlags := 1, code := some k15c4 }
def k15c5 : Code := { maxStack := 2, maxLocals := 1, code := prog_5_method_24_code, exceptionTable := #[], attributes := #[] }
def k15m5 : Method := { name := "sequence", desc := "()J", sig := { parameters := [], returnType := some .long }, accessFlags := 1, code := some k15c5 }
def k15c6 : Code := { maxStack := 2, maxLocals := 1, code := prog_5_method_25_code, exceptionTable := #[], attributes := #[] }
def k15m6 : Method := { name := "time", desc := "()J", sig := { parameters := [], returnType := some .long }, accessFlags := 1, code := some k15c6 }
def k15c7 : Code := { maxStack := 2, maxLocals := 1, code := prog_5_method_26_code, exceptionTable := #[], attributes := #[] }
def k15m7 : Method := { name := "contentLength", desc := "()J", sig := { parameters := [], returnType := some .long }, accessFlags := 1, code := some k15c7 }
def k15c8 : Code := { maxStack := 1, maxLocals := 1, code := prog_5_method_27_code, exceptionTable := #[], attributes := #[] }
def k15m8 : Method := { name := "contentCheck", desc := "()I", sig := { parameters := [], returnType := some .int }, accessFlags := 1, code := some k15c8 }
def k15c9 : Code := { maxStack := 1, maxLocals := 1, code := prog_5_method_28_code, exceptionTable := #[], attributes := #[] }
def k15m9 : Method := { name := "metadataCheck", desc := "()I", sig := { parameters := [], returnType := some .int }, accessFlags := 1, code := some k15c9 }
/-- com/example/tombsweep/tombsweep/io/RecordHeader -/
def k15 : Class := { plain "com/example/tombsweep/tombsweep/io/RecordHeader" (some 7) with
  accessFlags := 49
  interfaces := #[]
  cf := some (fileOf pool15 1 #[.nestMembers #[40]] #[{ accessFlags := 1, nameIndex := 9, descriptorIndex := 46, attributes := #[] }, { accessFlags := 1, nameIndex := 255, descriptorIndex := 256, attributes := #[] }, { accessFlags := 1, nameIndex := 13, descriptorIndex := 272, attributes := #[] }, { accessFlags := 1, nameIndex := 17, descriptorIndex := 273, attributes := #[] }, { accessFlags := 1, nameIndex := 21, descriptorIndex := 64, attributes := #[] }, { accessFlags := 1, nameIndex := 25, descriptorIndex := 91, attributes := #[] }, { accessFlags := 1, nameIndex := 29, descriptorIndex := 91, attributes := #[] }, { accessFlags := 1, nameIndex := 32, descriptorIndex := 91, attributes := #[] }, { accessFlags := 1, nameIndex := 35, descriptorIndex := 64, attributes := #[] }, { accessFlags := 1, nameIndex := 38, descriptorIndex := 64, attributes := #[] }] 49 6 #[] #[{ accessFlags := 18, nameIndex := 13, descriptorIndex := 14, attributes := #[] }, { accessFlags := 18, nameIndex := 17, descriptorIndex := 18, attributes := #[] }, { accessFlags := 18, nameIndex := 21, descriptorIndex := 22, attributes := #[] }, { accessFlags := 18, nameIndex := 25, descriptorIndex := 26, attributes := #[] }, { accessFlags := 18, nameIndex := 29, descriptorIndex := 26, attributes := #[] }, { accessFlags := 18, nameIndex := 32, descriptorIndex := 26, attributes := #[] }, { accessFlags := 18, nameIndex := 35, descriptorIndex := 22, attributes := #[] }, { accessFlags := 18, nameIndex := 38, descriptorIndex := 22, attributes := #[] }, { accessFlags := 25, nameIndex := 239, descriptorIndex := 22, attributes := #[] }, { accessFlags := 25, nameIndex := 242, descriptorIndex := 22, attributes := #[] }, { accessFlags := 26, nameIndex := 244, descriptorIndex := 22, attributes := #[] }])
  fields := #[{ name := "kind", type := (.object "com/example/tombsweep/tombsweep/io/RecordHeader$Kind"), accessFlags := 18, slot := 0, constantValue := 0 }, { name := "key", type := (.object "com/example/tombsweep/tombsweep/model/BlobKey"), accessFlags := 18, slot := 1, constantValue := 0 }, { name := "metadataLength", type := .int, accessFlags := 18, slot := 2, constantValue := 0 }, { name := "sequence", type := .long, accessFlags := 18, slot := 3, constantValue := 0 }, { name := "time", type := .long, accessFlags := 18, slot := 4, constantValue := 0 }, { name := "contentLength", type := .long, accessFlags := 18, slot := 5, constantValue := 0 }, { name := "contentCheck", type := .int, accessFlags := 18, slot := 6, constantValue := 0 }, { name := "metadataCheck", type := .int, accessFlags := 18, slot := 7, constantValue := 0 }, { name := "SIZE", type := .int, accessFlags := 25, slot := 0, constantValue := 0 }, { name := "MAX_SIZE_WITH_KEY", type := .int, accessFlags := 25, slot := 1, constantValue := 0 }, { name := "CHECKED_SIZE", type := .int, accessFlags := 26, slot := 2, constantValue := 0 }]
  methods := #[k15m0, k15m1, k15m2, k15m3, k15m4, k15m5, k15m6, k15m7, k15m8, k15m9]
  instanceTypes := #[(.object "com/example/tombsweep/tombsweep/io/RecordHeader$Kind"), (.object "com/example/tombsweep/tombsweep/model/BlobKey"), .int, .long, .long, .long, .int, .int]
  staticTypes := #[.int, .int, .int]
  resolved := Array.replicate 313 none
  statics := none }

def pool16 : Array CpInfo := pool [(9, u "<init>"), (6, .class_ 18), (1, u "java/lang/Object"), (0, u "()V"), (1, .class_ 23), (1, u "jdk/internal/util/ArraysSupport"), (0, u "LOG2_ARRAY_LONG_INDEX_SCALE"), (0, u "I"), (2, u "U"), (0, u "Ljdk/internal/misc/Unsafe;"), (8, u "BIG_ENDIAN"), (0, u "Z"), (8, u "LOG2_BYTE_BIT_SIZE"), (4, u "LOG2_ARRAY_INT_INDEX_SCALE"), (54, u "JLA"), (0, u "Ljdk/internal/access/JavaLangAccess;"), (11, u "LOG2_ARRAY_BOOLEAN_INDEX_SCALE"), (9, u "LOG2_ARRAY_BYTE_INDEX_SCALE"), (5, u "LOG2_ARRAY_CHAR_INDEX_SCALE"), (5, u "LOG2_ARRAY_SHORT_INDEX_SCALE"), (18, u "LOG2_ARRAY_FLOAT_INDEX_SCALE"), (24, u "LOG2_ARRAY_DOUBLE_INDEX_SCALE"), (89, u "T_BOOLEAN"), (2, u "T_CHAR"), (1, u "T_FLOAT"), (1, u "T_DOUBLE"), (1, u "T_BYTE"), (1, u "T_SHORT"), (1, u "T_INT"), (1, u "T_LONG"), (1, u "SOFT_MAX_ARRAY_LENGTH")] 83

def k16m0 : Method := { name := "<init>", desc := "()V", sig := { parameters := [], returnType := none }, accessFlags := 2, code := none }
/-- jdk/internal/util/ArraysSupport -/
def k16 : Class := { plain "jdk/internal/util/ArraysSupport" (some 0) with
  accessFlags := 33
  interfaces := #[]
  cf := some (fileOf pool16 21 #[] #[{ accessFlags := 2, nameIndex := 9, descriptorIndex := 19, attributes := #[] }] 33 16 #[] #[{ accessFlags := 24, nameIndex := 28, descriptorIndex := 29, attributes := #[] }, { accessFlags := 26, nameIndex := 38, descriptorIndex := 39, attributes := #[] }, { accessFlags := 25, nameIndex := 121, descriptorIndex := 25, attributes := #[] }, { accessFlags := 25, nameIndex := 131, descriptorIndex := 25, attributes := #[] }, { accessFlags := 25, nameIndex := 137, descriptorIndex := 25, attributes := #[] }, { accessFlags := 25, nameIndex := 143, descriptorIndex := 25, attributes := #[] }, { accessFlags := 25, nameIndex := 53, descriptorIndex := 25, attributes := #[] }, { accessFlags := 25, nameIndex := 24, descriptorIndex := 25, attributes := #[] }, { accessFlags := 25, nameIndex := 162, descriptorIndex := 25, attributes := #[] }, { accessFlags := 25, nameIndex := 187, descriptorIndex := 25, attributes := #[] }, { accessFlags := 26, nameIndex := 48, descriptorIndex := 25, attributes := #[] }, { accessFlags := 25, nameIndex := 277, descriptorIndex := 25, attributes := #[] }, { accessFlags := 25, nameIndex := 280, descriptorIndex := 25, attributes := #[] }, { accessFlags := 25, nameIndex := 282, descriptorIndex := 25, attributes := #[] }, { accessFlags := 25, nameIndex := 284, descriptorIndex := 25, attributes := #[] }, { accessFlags := 25, nameIndex := 286, descriptorIndex := 25, attributes := #[] }, { accessFlags := 25, nameIndex := 288, descriptorIndex := 25, attributes := #[] }, { accessFlags := 25, nameIndex := 290, descriptorIndex := 25, attributes := #[] }, { accessFlags := 25, nameIndex := 292, descriptorIndex := 25, attributes := #[] }, { accessFlags := 26, nameIndex := 108, descriptorIndex := 109, attributes := #[] }, { accessFlags := 25, nameIndex := 294, descriptorIndex := 25, attributes := #[] }])
  fields := #[{ name := "U", type := (.object "jdk/internal/misc/Unsafe"), accessFlags := 24, slot := 0, constantValue := 0 }, { name := "BIG_ENDIAN", type := .boolean, accessFlags := 26, slot := 1, constantValue := 0 }, { name := "LOG2_ARRAY_BOOLEAN_INDEX_SCALE", type := .int, accessFlags := 25, slot := 2, constantValue := 0 }, { name := "LOG2_ARRAY_BYTE_INDEX_SCALE", type := .int, accessFlags := 25, slot := 3, constantValue := 0 }, { name := "LOG2_ARRAY_CHAR_INDEX_SCALE", type := .int, accessFlags := 25, slot := 4, constantValue := 0 }, { name := "LOG2_ARRAY_SHORT_INDEX_SCALE", type := .int, accessFlags := 25, slot := 5, constantValue := 0 }, { name := "LOG2_ARRAY_INT_INDEX_SCALE", type := .int, accessFlags := 25, slot := 6, constantValue := 0 }, { name := "LOG2_ARRAY_LONG_INDEX_SCALE", type := .int, accessFlags := 25, slot := 7, constantValue := 0 }, { name := "LOG2_ARRAY_FLOAT_INDEX_SCALE", type := .int, accessFlags := 25, slot := 8, constantValue := 0 }, { name := "LOG2_ARRAY_DOUBLE_INDEX_SCALE", type := .int, accessFlags := 25, slot := 9, constantValue := 0 }, { name := "LOG2_BYTE_BIT_SIZE", type := .int, accessFlags := 26, slot := 10, constantValue := 0 }, { name := "T_BOOLEAN", type := .int, accessFlags := 25, slot := 11, constantValue := 0 }, { name := "T_CHAR", type := .int, accessFlags := 25, slot := 12, constantValue := 0 }, { name := "T_FLOAT", type := .int, accessFlags := 25, slot := 13, constantValue := 0 }, { name := "T_DOUBLE", type := .int, accessFlags := 25, slot := 14, constantValue := 0 }, { name := "T_BYTE", type := .int, accessFlags := 25, slot := 15, constantValue := 0 }, { name := "T_SHORT", type := .int, accessFlags := 25, slot := 16, constantValue := 0 }, { name := "T_INT", type := .int, accessFlags := 25, slot := 17, constantValue := 0 }, { name := "T_LONG", type := .int, accessFlags := 25, slot := 18, constantValue := 0 }, { name := "JLA", type := (.object "jdk/internal/access/JavaLangAccess"), accessFlags := 26, slot := 19, constantValue := 0 }, { name := "SOFT_MAX_ARRAY_LENGTH", type := .int, accessFlags := 25, slot := 20, constantValue := 0 }]
  methods := #[k16m0]
  instanceTypes := #[]
  staticTypes := #[(.object "jdk/internal/misc/Unsafe"), .boolean, .int, .int, .int, .int, .int, .int, .int, .int, .int, .int, .int, .int, .int, .int, .int, .int, .int, (.object "jdk/internal/access/JavaLangAccess"), .int]
  resolved := Array.replicate 378 none
  statics := none }

def pool17 : Array CpInfo := pool [(1, u "java/lang/Cloneable"), (0, .class_ 1), (0, u "java/lang/Object"), (0, .class_ 3)] 3

/-- java/lang/Cloneable -/
def k17 : Class := { plain "java/lang/Cloneable" (some 0) with
  accessFlags := 1537
  interfaces := #[]
  cf := some (fileOf pool17 2 #[] #[] 1537 4 #[] #[])
  fields := #[]
  methods := #[]
  instanceTypes := #[]
  staticTypes := #[]
  resolved := Array.replicate 8 none
  statics := none }

/-- the primitive byte -/
def k18 : Class := { plain "byte" none with kind := .primitive 'B', accessFlags := 0x411 }
/-- [B -/
def k19 : Class := { plain "[B" (some 0) with kind := .array 18 .byte, interfaces := #[17, 4], accessFlags := 1041 }

/-- the primitive int -/
def k20 : Class := { plain "int" none with kind := .primitive 'I', accessFlags := 0x411 }
/-- [I -/
def k21 : Class := { plain "[I" (some 0) with kind := .array 20 .int, interfaces := #[17, 4], accessFlags := 1041 }

def heap : Heap := #[{ cls := 6, slots := #[.ref 3, .ref 7, .ref 5, .ref 4, .ref 6, .null, .null], vm := .statics 6 },
  { cls := 11, slots := #[.long 0, .int 1, .null, .int 0, .null, .int 0, .int 0], vm := .statics 11 },
  { cls := 14, slots := #[.null, .null, .null], vm := .statics 14 },
  { cls := 6, slots := #[.null, .int 0, .int 0, .int 0], vm := .none },
  { cls := 6, slots := #[.null, .int 0, .int 0, .int 0], vm := .none },
  { cls := 6, slots := #[.null, .int 0, .int 0, .int 0], vm := .none },
  { cls := 6, slots := #[.null, .int 0, .int 0, .int 0], vm := .none },
  { cls := 6, slots := #[.null, .int 0, .int 0, .int 0], vm := .none }]
def classes : Array Class := #[k0, k1, k2, k3, k4, k5, k6, k7, k8, k9, k10, k11, k12, k13, k14, k15, k16, k17, k18, k19, k20, k21]
def interned : List (Array UInt16 × Addr) := []
def slotsUsed : Nat := 37
def theMethod : MethodId := ⟨1, 2⟩
def args0 : Array Value := #[.int 1, .int 2, .long 3, .long 4, .long 5, .long 6]
def aboutOver (below : List Frame) : State where
  vm := { classes := classes, interned := interned.toArray }
  heap := heap
  slotsUsed := slotsUsed
  threads := #[{ frames := .invoking theMethod args0 :: below }]
def below0 : List Frame := [.native { method := ⟨0, 0⟩, args := #[] }]
def about1 : State := aboutOver below0
def p0 : Program := .bare "" "" ""
def e0 : Env := launch0.env 0 0 0
theorem w_frames : about1.frames = Frame.invoking theMethod args0 :: below0 := rfl
set_option maxRecDepth 65536 in
theorem w_args : argsFit about1.vm theMethod args0 = true := by decide +kernel
set_option maxRecDepth 65536 in
theorem w_heap : heapFits about1 = true := by decide +kernel
set_option maxRecDepth 65536 in
theorem w_runnable : about1.curStatus? = some .runnable := by decide +kernel
set_option maxRecDepth 65536 in
theorem w_alone : about1.alone = true := by decide +kernel
set_option maxRecDepth 65536 in
theorem w_named : about1.methodNamed? x = some theMethod := by decide +kernel
set_option maxRecDepth 65536 in
theorem w_hears : about1.hears theMethod below0 = true := by decide +kernel
set_option maxRecDepth 65536 in
theorem w_ripe : about1.ripe theMethod args0 below0 = true := by decide +kernel
theorem w_running : about1.status = .running := rfl
set_option maxRecDepth 65536 in
theorem w_room : about1.hasRoom e0.platform room_1 = true :=
  launch0.hasRoom_least _ room_1 (by decide +kernel) (by decide +kernel) (by decide +kernel) (by decide +kernel) (by decide +kernel) (by decide +kernel)
theorem allAtoms_all (ts : List Jvm.Cond) (a : Array Jvm.Value) (st : Jvm.State) : (allAtoms ts).before a st = ts.all (fun c => c.before a st) := by
  induction ts with
  | nil => rfl
  | cons c t ih =>
    show (Jvm.Cond.and c (allAtoms t)).before a st = _
    rw [Jvm.Cond.before_and, ih, List.all_cons]
def words1 : List Jvm.Cond := Jvm.Cond.code x code maxLocals ret :: tables_1
/-- a 'code' word, met by the world's own term for the bytes: nothing is compared byte by byte -/
theorem code_word {y : MethodName} {bytes : ByteArray} {mx : Nat} {rt : Option FieldType} {a : Array Value} {s : State} {m : MethodId} {meth : Method} {c : Code} (h1 : s.methodNamed? y = some m) (h2 : s.vm.method? m = some meth) (h3 : meth.code = some c) (h4 : c.code = bytes)
    (h5 : (c.maxLocals == mx && c.exceptionTable.isEmpty && decide (c.maxStack ≤ mostOperands) && decide (meth.sig.returnType = rt) && !meth.locks && decide (parseMethodDescriptor y.desc = some meth.sig)) = true) : (Jvm.Cond.code y bytes mx rt).before a s = true := by
  simp only [Bool.and_eq_true, beq_iff_eq, Bool.not_eq_true', decide_eq_true_eq] at h5
  obtain ⟨⟨⟨⟨⟨g1, g2⟩, g3⟩, g4⟩, g5⟩, g6⟩ := h5
  simp [Cond.before, Cond.holds, Cond.value, h1, h2, h3, h4, g1, g2, g3, g4, g5, g6]
def isCode : Jvm.Cond → Bool
  | .code _ _ _ _ => true
  | _ => false
theorem all_split {L : List Jvm.Cond} {P : Jvm.Cond → Bool} (h1 : L.all (fun c => isCode c || P c) = true) (h2 : ∀ c ∈ L.filter isCode, P c = true) : L.all P = true := by
  refine List.all_eq_true.mpr fun c hc => ?_
  have h := List.all_eq_true.mp h1 c hc
  rcases Bool.eq_false_or_eq_true (isCode c) with hi | hi
  · exact h2 c (List.mem_filter.mpr ⟨hc, hi⟩)
  · simpa [hi] using h
set_option maxRecDepth 65536 in
theorem w_c0 : (Jvm.Cond.code x code maxLocals ret).before args0 about1 = true := code_word (m := ⟨1, 2⟩) (meth := k1m2) (c := k1c2) (by decide +kernel) rfl rfl rfl (by decide +kernel)
set_option maxRecDepth 65536 in
theorem w_c1 : (Jvm.Cond.code ({ cls := "com/example/tombsweep/tombsweep/io/RecordHeaderGonePinLaw", name := "kindOf", desc := "(I)Lcom/example/tombsweep/tombsweep/io/RecordHeader$Kind;" } : Jvm.MethodName) method_2_code (2 : Nat) (Option.some (Jvm.ClassFile.FieldType.object "com/example/tombsweep/tombsweep/io/RecordHeader$Kind"))).before args0 about1 = true := code_word (m := ⟨1, 1⟩) (meth := k1m1) (c := k1c1) (by decide +kernel) rfl rfl rfl (by decide +kernel)
set_option maxRecDepth 65536 in
theorem w_c2 : (Jvm.Cond.code ({ cls := "java/lang/String", name := "valueOf", desc := "(C)Ljava/lang/String;" } : Jvm.MethodName) jdk_42_method_139_code (1 : Nat) (Option.some (Jvm.ClassFile.FieldType.object "java/lang/String"))).before args0 about1 = true := code_word (m := ⟨11, 4⟩) (meth := k11m4) (c := k11c4) (by decide +kernel) rfl rfl rfl (by decide +kernel)
set_option maxRecDepth 65536 in
theorem w_c3 : (Jvm.Cond.code ({ cls := "java/lang/StringLatin1", name := "canEncode", desc := "(C)Z" } : Jvm.MethodName) jdk_43_method_3_code (1 : Nat) (Option.some Jvm.ClassFile.FieldType.boolean)).before args0 about1 = true := code_word (m := ⟨12, 2⟩) (meth := k12m2) (c := k12c2) (by decide +kernel) rfl rfl rfl (by decide +kernel)
set_option maxRecDepth 65536 in
theorem w_c4 : (Jvm.Cond.code ({ cls := "java/lang/StringLatin1", name := "toBytes", desc := "(C)[B" } : Jvm.MethodName) jdk_43_method_46_code (1 : Nat) (Option.some (Jvm.ClassFile.FieldType.array Jvm.ClassFile.FieldType.byte))).before args0 about1 = true := code_word (m := ⟨12, 3⟩) (meth := k12m3) (c := k12c3) (by decide +kernel) rfl rfl rfl (by decide +kernel)
set_option maxRecDepth 65536 in
theorem w_c5 : (Jvm.Cond.code ({ cls := "java/lang/String", name := "<init>", desc := "([BB)V" } : Jvm.MethodName) jdk_42_method_151_code (3 : Nat) (Option.none : Option Jvm.ClassFile.FieldType)).before args0 about1 = true := code_word (m := ⟨11, 5⟩) (meth := k11m5) (c := k11c5) (by decide +kernel) rfl rfl rfl (by decide +kernel)
set_option maxRecDepth 65536 in
theorem w_c6 : (Jvm.Cond.code ({ cls := "java/lang/Object", name := "<init>", desc := "()V" } : Jvm.MethodName) object_method_1_code (1 : Nat) (Option.none : Option Jvm.ClassFile.FieldType)).before args0 about1 = true := code_word (m := ⟨0, 0⟩) (meth := k0m0) (c := k0c0) (by decide +kernel) rfl rfl rfl (by decide +kernel)
set_option maxRecDepth 65536 in
theorem w_c7 : (Jvm.Cond.code ({ cls := "com/example/tombsweep/tombsweep/model/BlobKey", name := "<init>", desc := "(Ljava/lang/String;)V" } : Jvm.MethodName) prog_11_method_1_code (4 : Nat) (Option.none : Option Jvm.ClassFile.FieldType)).before args0 about1 = true := code_word (m := ⟨8, 0⟩) (meth := k8m0) (c := k8c0) (by decide +kernel) rfl rfl rfl (by decide +kernel)
set_option maxRecDepth 65536 in
theorem w_c8 : (Jvm.Cond.code ({ cls := "java/lang/Record", name := "<init>", desc := "()V" } : Jvm.MethodName) jdk_30_method_1_code (1 : Nat) (Option.none : Option Jvm.ClassFile.FieldType)).before args0 about1 = true := code_word (m := ⟨7, 0⟩) (meth := k7m0) (c := k7c0) (by decide +kernel) rfl rfl rfl (by decide +kernel)
set_option maxRecDepth 65536 in
theorem w_c9 : (Jvm.Cond.code ({ cls := "java/util/Objects", name := "requireNonNull", desc := "(Ljava/lang/Object;Ljava/lang/String;)Ljava/lang/Object;" } : Jvm.MethodName) jdk_31_method_11_code (2 : Nat) (Option.some (Jvm.ClassFile.FieldType.object "java/lang/Object"))).before args0 about1 = true := code_word (m := ⟨13, 1⟩) (meth := k13m1) (c := k13c1) (by decide +kernel) rfl rfl rfl (by decide +kernel)
set_option maxRecDepth 65536 in
theorem w_c10 : (Jvm.Cond.code ({ cls := "java/lang/String", name := "isEmpty", desc := "()Z" } : Jvm.MethodName) jdk_42_method_55_code (1 : Nat) (Option.some Jvm.ClassFile.FieldType.boolean)).before args0 about1 = true := code_word (m := ⟨11, 2⟩) (meth := k11m2) (c := k11c2) (by decide +kernel) rfl rfl rfl (by decide +kernel)
set_option maxRecDepth 65536 in
theorem w_c11 : (Jvm.Cond.code ({ cls := "java/lang/String", name := "length", desc := "()I" } : Jvm.MethodName) jdk_42_method_54_code (1 : Nat) (Option.some Jvm.ClassFile.FieldType.int)).before args0 about1 = true := code_word (m := ⟨11, 1⟩) (meth := k11m1) (c := k11c1) (by decide +kernel) rfl rfl rfl (by decide +kernel)
set_option maxRecDepth 65536 in
theorem w_c12 : (Jvm.Cond.code ({ cls := "java/lang/String", name := "coder", desc := "()B" } : Jvm.MethodName) jdk_42_method_152_code (1 : Nat) (Option.some Jvm.ClassFile.FieldType.byte)).before args0 about1 = true := code_word (m := ⟨11, 6⟩) (meth := k11m6) (c := k11c6) (by decide +kernel) rfl rfl rfl (by decide +kernel)
set_option maxRecDepth 65536 in
theorem w_c13 : (Jvm.Cond.code ({ cls := "java/lang/String", name := "charAt", desc := "(I)C" } : Jvm.MethodName) jdk_42_method_56_code (2 : Nat) (Option.some Jvm.ClassFile.FieldType.char)).before args0 about1 = true := code_word (m := ⟨11, 3⟩) (meth := k11m3) (c := k11c3) (by decide +kernel) rfl rfl rfl (by decide +kernel)
set_option maxRecDepth 65536 in
theorem w_c14 : (Jvm.Cond.code ({ cls := "java/lang/String", name := "isLatin1", desc := "()Z" } : Jvm.MethodName) jdk_42_method_154_code (1 : Nat) (Option.some Jvm.ClassFile.FieldType.boolean)).before args0 about1 = true := code_word (m := ⟨11, 7⟩) (meth := k11m7) (c := k11c7) (by decide +kernel) rfl rfl rfl (by decide +kernel)
set_option maxRecDepth 65536 in
theorem w_c15 : (Jvm.Cond.code ({ cls := "java/lang/StringLatin1", name := "charAt", desc := "([BI)C" } : Jvm.MethodName) jdk_43_method_2_code (2 : Nat) (Option.some Jvm.ClassFile.FieldType.char)).before args0 about1 = true := code_word (m := ⟨12, 1⟩) (meth := k12m1) (c := k12c1) (by decide +kernel) rfl rfl rfl (by decide +kernel)
set_option maxRecDepth 65536 in
theorem w_c16 : (Jvm.Cond.code ({ cls := "java/lang/String", name := "checkIndex", desc := "(II)V" } : Jvm.MethodName) jdk_42_method_155_code (2 : Nat) (Option.none : Option Jvm.ClassFile.FieldType)).before args0 about1 = true := code_word (m := ⟨11, 8⟩) (meth := k11m8) (c := k11c8) (by decide +kernel) rfl rfl rfl (by decide +kernel)
set_option maxRecDepth 65536 in
theorem w_c17 : (Jvm.Cond.code ({ cls := "jdk/internal/util/Preconditions", name := "checkIndex", desc := "(IILjava/util/function/BiFunction;)I" } : Jvm.MethodName) jdk_41_method_11_code (3 : Nat) (Option.some Jvm.ClassFile.FieldType.int)).before args0 about1 = true := code_word (m := ⟨14, 1⟩) (meth := k14m1) (c := k14c1) (by decide +kernel) rfl rfl rfl (by decide +kernel)
set_option maxRecDepth 65536 in
theorem w_c18 : (Jvm.Cond.code ({ cls := "com/example/tombsweep/tombsweep/model/BlobKey", name := "isKeyCharacter", desc := "(C)Z" } : Jvm.MethodName) prog_11_method_4_code (1 : Nat) (Option.some Jvm.ClassFile.FieldType.boolean)).before args0 about1 = true := code_word (m := ⟨8, 1⟩) (meth := k8m1) (c := k8c1) (by decide +kernel) rfl rfl rfl (by decide +kernel)
set_option maxRecDepth 65536 in
theorem w_c19 : (Jvm.Cond.code ({ cls := "com/example/tombsweep/tombsweep/io/RecordHeader", name := "<init>", desc := "(Lcom/example/tombsweep/tombsweep/io/RecordHeader$Kind;Lcom/example/tombsweep/tombsweep/model/BlobKey;IJJJII)V" } : Jvm.MethodName) prog_5_method_1_code (12 : Nat) (Option.none : Option Jvm.ClassFile.FieldType)).before args0 about1 = true := code_word (m := ⟨15, 0⟩) (meth := k15m0) (c := k15c0) (by decide +kernel) rfl rfl rfl (by decide +kernel)
set_option maxRecDepth 65536 in
theorem w_c20 : (Jvm.Cond.code ({ cls := "com/example/tombsweep/tombsweep/io/RecordHeader", name := "gone", desc := "()Lcom/example/tombsweep/tombsweep/io/RecordHeader;" } : Jvm.MethodName) prog_5_method_5_code (1 : Nat) (Option.some (Jvm.ClassFile.FieldType.object "com/example/tombsweep/tombsweep/io/RecordHeader"))).before args0 about1 = true := code_word (m := ⟨15, 1⟩) (meth := k15m1) (c := k15c1) (by decide +kernel) rfl rfl rfl (by decide +kernel)
set_option maxRecDepth 65536 in
theorem w_c21 : (Jvm.Cond.code ({ cls := "com/example/tombsweep/tombsweep/io/RecordHeader", name := "kind", desc := "()Lcom/example/tombsweep/tombsweep/io/RecordHeader$Kind;" } : Jvm.MethodName) prog_5_method_21_code (1 : Nat) (Option.some (Jvm.ClassFile.FieldType.object "com/example/tombsweep/tombsweep/io/RecordHeader$Kind"))).before args0 about1 = true := code_word (m := ⟨15, 2⟩) (meth := k15m2) (c := k15c2) (by decide +kernel) rfl rfl rfl (by decide +kernel)
set_option maxRecDepth 65536 in
theorem w_c22 : (Jvm.Cond.code ({ cls := "com/example/tombsweep/tombsweep/io/RecordHeader", name := "key", desc := "()Lcom/example/tombsweep/tombsweep/model/BlobKey;" } : Jvm.MethodName) prog_5_method_22_code (1 : Nat) (Option.some (Jvm.ClassFile.FieldType.object "com/example/tombsweep/tombsweep/model/BlobKey"))).before args0 about1 = true := code_word (m := ⟨15, 3⟩) (meth := k15m3) (c := k15c3) (by decide +kernel) rfl rfl rfl (by decide +kernel)
set_option maxRecDepth 65536 in
theorem w_c23 : (Jvm.Cond.code ({ cls := "com/example/tombsweep/tombsweep/io/RecordHeader", name := "metadataLength", desc := "()I" } : Jvm.MethodName) prog_5_method_23_code (1 : Nat) (Option.some Jvm.ClassFile.FieldType.int)).before args0 about1 = true := code_word (m := ⟨15, 4⟩) (meth := k15m4) (c := k15c4) (by decide +kernel) rfl rfl rfl (by decide +kernel)
set_option maxRecDepth 65536 in
theorem w_c24 : (Jvm.Cond.code ({ cls := "com/example/tombsweep/tombsweep/io/RecordHeader", name := "sequence", desc := "()J" } : Jvm.MethodName) prog_5_method_24_code (1 : Nat) (Option.some Jvm.ClassFile.FieldType.long)).before args0 about1 = true := code_word (m := ⟨15, 5⟩) (meth := k15m5) (c := k15c5) (by decide +kernel) rfl rfl rfl (by decide +kernel)
set_option maxRecDepth 65536 in
theorem w_c25 : (Jvm.Cond.code ({ cls := "com/example/tombsweep/tombsweep/io/RecordHeader", name := "time", desc := "()J" } : Jvm.MethodName) prog_5_method_25_code (1 : Nat) (Option.some Jvm.ClassFile.FieldType.long)).before args0 about1 = true := code_word (m := ⟨15, 6⟩) (meth := k15m6) (c := k15c6) (by decide +kernel) rfl rfl rfl (by decide +kernel)
set_option maxRecDepth 65536 in
theorem w_c26 : (Jvm.Cond.code ({ cls := "com/example/tombsweep/tombsweep/io/RecordHeader", name := "contentLength", desc := "()J" } : Jvm.MethodName) prog_5_method_26_code (1 : Nat) (Option.some Jvm.ClassFile.FieldType.long)).before args0 about1 = true := code_word (m := ⟨15, 7⟩) (meth := k15m7) (c := k15c7) (by decide +kernel) rfl rfl rfl (by decide +kernel)
set_option maxRecDepth 65536 in
theorem w_c27 : (Jvm.Cond.code ({ cls := "com/example/tombsweep/tombsweep/io/RecordHeader", name := "contentCheck", desc := "()I" } : Jvm.MethodName) prog_5_method_27_code (1 : Nat) (Option.some Jvm.ClassFile.FieldType.int)).before args0 about1 = true := code_word (m := ⟨15, 8⟩) (meth := k15m8) (c := k15c8) (by decide +kernel) rfl rfl rfl (by decide +kernel)
set_option maxRecDepth 65536 in
theorem w_c28 : (Jvm.Cond.code ({ cls := "com/example/tombsweep/tombsweep/io/RecordHeader", name := "metadataCheck", desc := "()I" } : Jvm.MethodName) prog_5_method_28_code (1 : Nat) (Option.some Jvm.ClassFile.FieldType.int)).before args0 about1 = true := code_word (m := ⟨15, 9⟩) (meth := k15m9) (c := k15c9) (by decide +kernel) rfl rfl rfl (by decide +kernel)
def codes1 : List Jvm.Cond := [Jvm.Cond.code x code maxLocals ret, Jvm.Cond.code ({ cls := "com/example/tombsweep/tombsweep/io/RecordHeaderGonePinLaw", name := "kindOf", desc := "(I)Lcom/example/tombsweep/tombsweep/io/RecordHeader$Kind;" } : Jvm.MethodName) method_2_code (2 : Nat) (Option.some (Jvm.ClassFile.FieldType.object "com/example/tombsweep/tombsweep/io/RecordHeader$Kind")), Jvm.Cond.code ({ cls := "java/lang/String", name := "valueOf", desc := "(C)Ljava/lang/String;" } : Jvm.MethodName) jdk_42_method_139_code (1 : Nat) (Option.some (Jvm.ClassFile.FieldType.object "java/lang/String")), Jvm.Cond.code ({ cls := "java/lang/StringLatin1", name := "canEncode", desc := "(C)Z" } : Jvm.MethodName) jdk_43_method_3_code (1 : Nat) (Option.some Jvm.ClassFile.FieldType.boolean), Jvm.Cond.code ({ cls := "java/lang/StringLatin1", name := "toBytes", desc := "(C)[B" } : Jvm.MethodName) jdk_43_method_46_code (1 : Nat) (Option.some (Jvm.ClassFile.FieldType.array Jvm.ClassFile.FieldType.byte)), Jvm.Cond.code ({ cls := "java/lang/String", name := "<init>", desc := "([BB)V" } : Jvm.MethodName) jdk_42_method_151_code (3 : Nat) (Option.none : Option Jvm.ClassFile.FieldType), Jvm.Cond.code ({ cls := "java/lang/Object", name := "<init>", desc := "()V" } : Jvm.MethodName) object_method_1_code (1 : Nat) (Option.none : Option Jvm.ClassFile.FieldType), Jvm.Cond.code ({ cls := "com/example/tombsweep/tombsweep/model/BlobKey", name := "<init>", desc := "(Ljava/lang/String;)V" } : Jvm.MethodName) prog_11_method_1_code (4 : Nat) (Option.none : Option Jvm.ClassFile.FieldType), Jvm.Cond.code ({ cls := "java/lang/Record", name := "<init>", desc := "()V" } : Jvm.MethodName) jdk_30_method_1_code (1 : Nat) (Option.none : Option Jvm.ClassFile.FieldType), Jvm.Cond.code ({ cls := "java/util/Objects", name := "requireNonNull", desc := "(Ljava/lang/Object;Ljava/lang/String;)Ljava/lang/Object;" } : Jvm.MethodName) jdk_31_method_11_code (2 : Nat) (Option.some (Jvm.ClassFile.FieldType.object "java/lang/Object")), Jvm.Cond.code ({ cls := "java/lang/String", name := "isEmpty", desc := "()Z" } : Jvm.MethodName) jdk_42_method_55_code (1 : Nat) (Option.some Jvm.ClassFile.FieldType.boolean), Jvm.Cond.code ({ cls := "java/lang/String", name := "length", desc := "()I" } : Jvm.MethodName) jdk_42_method_54_code (1 : Nat) (Option.some Jvm.ClassFile.FieldType.int), Jvm.Cond.code ({ cls := "java/lang/String", name := "coder", desc := "()B" } : Jvm.MethodName) jdk_42_method_152_code (1 : Nat) (Option.some Jvm.ClassFile.FieldType.byte), Jvm.Cond.code ({ cls := "java/lang/String", name := "charAt", desc := "(I)C" } : Jvm.MethodName) jdk_42_method_56_code (2 : Nat) (Option.some Jvm.ClassFile.FieldType.char), Jvm.Cond.code ({ cls := "java/lang/String", name := "isLatin1", desc := "()Z" } : Jvm.MethodName) jdk_42_method_154_code (1 : Nat) (Option.some Jvm.ClassFile.FieldType.boolean), Jvm.Cond.code ({ cls := "java/lang/StringLatin1", name := "charAt", desc := "([BI)C" } : Jvm.MethodName) jdk_43_method_2_code (2 : Nat) (Option.some Jvm.ClassFile.FieldType.char), Jvm.Cond.code ({ cls := "java/lang/String", name := "checkIndex", desc := "(II)V" } : Jvm.MethodName) jdk_42_method_155_code (2 : Nat) (Option.none : Option Jvm.ClassFile.FieldType), Jvm.Cond.code ({ cls := "jdk/internal/util/Preconditions", name := "checkIndex", desc := "(IILjava/util/function/BiFunction;)I" } : Jvm.MethodName) jdk_41_method_11_code (3 : Nat) (Option.some Jvm.ClassFile.FieldType.int), Jvm.Cond.code ({ cls := "com/example/tombsweep/tombsweep/model/BlobKey", name := "isKeyCharacter", desc := "(C)Z" } : Jvm.MethodName) prog_11_method_4_code (1 : Nat) (Option.some Jvm.ClassFile.FieldType.boolean), Jvm.Cond.code ({ cls := "com/example/tombsweep/tombsweep/io/RecordHeader", name := "<init>", desc := "(Lcom/example/tombsweep/tombsweep/io/RecordHeader$Kind;Lcom/example/tombsweep/tombsweep/model/BlobKey;IJJJII)V" } : Jvm.MethodName) prog_5_method_1_code (12 : Nat) (Option.none : Option Jvm.ClassFile.FieldType), Jvm.Cond.code ({ cls := "com/example/tombsweep/tombsweep/io/RecordHeader", name := "gone", desc := "()Lcom/example/tombsweep/tombsweep/io/RecordHeader;" } : Jvm.MethodName) prog_5_method_5_code (1 : Nat) (Option.some (Jvm.ClassFile.FieldType.object "com/example/tombsweep/tombsweep/io/RecordHeader")), Jvm.Cond.code ({ cls := "com/example/tombsweep/tombsweep/io/RecordHeader", name := "kind", desc := "()Lcom/example/tombsweep/tombsweep/io/RecordHeader$Kind;" } : Jvm.MethodName) prog_5_method_21_code (1 : Nat) (Option.some (Jvm.ClassFile.FieldType.object "com/example/tombsweep/tombsweep/io/RecordHeader$Kind")), Jvm.Cond.code ({ cls := "com/example/tombsweep/tombsweep/io/RecordHeader", name := "key", desc := "()Lcom/example/tombsweep/tombsweep/model/BlobKey;" } : Jvm.MethodName) prog_5_method_22_code (1 : Nat) (Option.some (Jvm.ClassFile.FieldType.object "com/example/tombsweep/tombsweep/model/BlobKey")), Jvm.Cond.code ({ cls := "com/example/tombsweep/tombsweep/io/RecordHeader", name := "metadataLength", desc := "()I" } : Jvm.MethodName) prog_5_method_23_code (1 : Nat) (Option.some Jvm.ClassFile.FieldType.int), Jvm.Cond.code ({ cls := "com/example/tombsweep/tombsweep/io/RecordHeader", name := "sequence", desc := "()J" } : Jvm.MethodName) prog_5_method_24_code (1 : Nat) (Option.some Jvm.ClassFile.FieldType.long), Jvm.Cond.code ({ cls := "com/example/tombsweep/tombsweep/io/RecordHeader", name := "time", desc := "()J" } : Jvm.MethodName) prog_5_method_25_code (1 : Nat) (Option.some Jvm.ClassFile.FieldType.long), Jvm.Cond.code ({ cls := "com/example/tombsweep/tombsweep/io/RecordHeader", name := "contentLength", desc := "()J" } : Jvm.MethodName) prog_5_method_26_code (1 : Nat) (Option.some Jvm.ClassFile.FieldType.long), Jvm.Cond.code ({ cls := "com/example/tombsweep/tombsweep/io/RecordHeader", name := "contentCheck", desc := "()I" } : Jvm.MethodName) prog_5_method_27_code (1 : Nat) (Option.some Jvm.ClassFile.FieldType.int), Jvm.Cond.code ({ cls := "com/example/tombsweep/tombsweep/io/RecordHeader", name := "metadataCheck", desc := "()I" } : Jvm.MethodName) prog_5_method_28_code (1 : Nat) (Option.some Jvm.ClassFile.FieldType.int)]
set_option maxRecDepth 65536 in
theorem codes_eq : words1.filter isCode = codes1 := rfl
theorem w_codes : ∀ c ∈ words1.filter isCode, c.before args0 about1 = true := by
  rw [codes_eq]
  intro c hc
  simp only [codes1, List.mem_cons, List.not_mem_nil, or_false] at hc
  rcases hc with rfl | rfl | rfl | rfl | rfl | rfl | rfl | rfl | rfl | rfl | rfl | rfl | rfl | rfl | rfl | rfl | rfl | rfl | rfl | rfl | rfl | rfl | rfl | rfl | rfl | rfl | rfl | rfl | rfl
  · exact w_c0
  · exact w_c1
  · exact w_c2
  · exact w_c3
  · exact w_c4
  · exact w_c5
  · exact w_c6
  · exact w_c7
  · exact w_c8
  · exact w_c9
  · exact w_c10
  · exact w_c11
  · exact w_c12
  · exact w_c13
  · exact w_c14
  · exact w_c15
  · exact w_c16
  · exact w_c17
  · exact w_c18
  · exact w_c19
  · exact w_c20
  · exact w_c21
  · exact w_c22
  · exact w_c23
  · exact w_c24
  · exact w_c25
  · exact w_c26
  · exact w_c27
  · exact w_c28
set_option maxRecDepth 65536 in
theorem w_t1 : (words1.take 24).all (fun c => isCode c || c.before args0 about1) = true := by decide +kernel
set_option maxRecDepth 65536 in
theorem w_t2 : ((words1.drop 24).take 24).all (fun c => isCode c || c.before args0 about1) = true := by decide +kernel
set_option maxRecDepth 65536 in
theorem w_t3 : (((words1.drop 24).drop 24).take 24).all (fun c => isCode c || c.before args0 about1) = true := by decide +kernel
set_option maxRecDepth 65536 in
theorem w_t4 : ((((words1.drop 24).drop 24).drop 24).take 24).all (fun c => isCode c || c.before args0 about1) = true := by decide +kernel
set_option maxRecDepth 65536 in
theorem w_t5 : (((((words1.drop 24).drop 24).drop 24).drop 24).take 24).all (fun c => isCode c || c.before args0 about1) = true := by decide +kernel
set_option maxRecDepth 65536 in
theorem w_t6 : ((((((words1.drop 24).drop 24).drop 24).drop 24).drop 24).take 24).all (fun c => isCode c || c.before args0 about1) = true := by decide +kernel
set_option maxRecDepth 65536 in
theorem w_t7 : (((((((words1.drop 24).drop 24).drop 24).drop 24).drop 24).drop 24).take 24).all (fun c => isCode c || c.before args0 about1) = true := by decide +kernel
set_option maxRecDepth 65536 in
theorem w_t8 : (((((((words1.drop 24).drop 24).drop 24).drop 24).drop 24).drop 24).drop 24).all (fun c => isCode c || c.before args0 about1) = true := by decide +kernel
theorem w_tables : (allAtoms (Jvm.Cond.code x code maxLocals ret :: tables_1)).before args0 about1 = true := by
  rw [allAtoms_all]
  show words1.all (fun c => c.before args0 about1) = true
  refine all_split ?_ w_codes
  rw [← List.take_append_drop 24 words1, List.all_append, w_t1, ← List.take_append_drop 24 (words1.drop 24), List.all_append, w_t2, ← List.take_append_drop 24 ((words1.drop 24).drop 24), List.all_append, w_t3, ← List.take_append_drop 24 (((words1.drop 24).drop 24).drop 24), List.all_append, w_t4, ← List.take_append_drop 24 ((((words1.drop 24).drop 24).drop 24).drop 24), List.all_append, w_t5, ← List.take_append_drop 24 (((((words1.drop 24).drop 24).drop 24).drop 24).drop 24), List.all_append, w_t6, ← List.take_append_drop 24 ((((((words1.drop 24).drop 24).drop 24).drop 24).drop 24).drop 24), List.all_append, w_t7, w_t8]
  rfl
set_option maxRecDepth 65536 in
theorem w_rest : rest_1_c.before args0 about1 = true := by decide +kernel
set_option maxRecDepth 65536 in
theorem w_case : (Jvm.Cond.and given_1 narrow_1).before args0 about1 = true := by decide +kernel
theorem w_applies : (headSpec (Jvm.Cond.code x code maxLocals ret :: tables_1) room_1).applies x e0.platform about1 = true :=
  (Spec.applies_iff w_frames).mpr ⟨w_running, w_runnable, w_alone, w_named, w_hears, w_ripe, w_room, w_tables⟩
theorem atStart : AtStart classFile x code maxLocals ret World_1 tables_1 room_1 Calls_1 rest_1 Pre_1 launch0 p0 e0 about1 theMethod args0 below0 :=
  ⟨lists_1, trivial, launch0.admits_env _ _ _, launch0.least_env, fairChoices_fair.cas, fairChoices_fair.clock, w_frames, w_args, w_heap, w_applies, trivial, w_rest, w_case⟩
end start1
theorem witness_1 : WitnessClaimed_1 := ⟨start1.p0, start1.e0, start1.about1, start1.theMethod, start1.args0, start1.below0, start1.atStart⟩
end Jvm.Pilot.@@N@@
