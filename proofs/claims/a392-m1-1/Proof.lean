import JvmDerived
import JvmDerived.Pilot.@@N@@Statement
import JvmDerived.Pilot.@@N@@Code
set_option linter.unusedVariables false
set_option linter.unusedSimpArgs false
namespace Jvm.Pilot.@@N@@
open Jvm Jvm.ClassFile Sem Op Lib Jvm.Free Jvm.Stand Jvm.LawKit Jvm.RoadKit Bundle Jvm.Pilot.@@N@@.Jvm.D
/-- from the state S the body comes to its end, and there G holds -/
def Go (p : Program) (e : Env) (below : List Frame) (G : Outcome → State → Prop) (S : State) : Prop := ∃ s₂ o, Steps p.tables e below S s₂ ∧ s₂.status = .running ∧ Ended s₂ below o ∧ G o s₂
theorem Go.step {p : Program} {e : Env} {below : List Frame} {G : Outcome → State → Prop} {S S' : State} (k : ∀ t, Steps p.tables e below S' t → Steps p.tables e below S t) (g : Go p e below G S') : Go p e below G S := by
  obtain ⟨s₂, o, h, r⟩ := g
  exact ⟨s₂, o, k _ h, r⟩
theorem Go.fin {p : Program} {e : Env} {below : List Frame} {G : Outcome → State → Prop} {S S' : State} {o : Outcome} (h : Steps p.tables e below S S') (h1 : S'.status = .running) (h2 : Ended S' below o) (h3 : G o S') : Go p e below G S := ⟨_, _, h, h1, h2, h3⟩
abbrev lv (x : Int64) : Slot := .val (.long x)
abbrev u_ : Slot := .unset
theorem own_w {Z : State} {a0 : Array Value} (hw : ∀ d ∈ tables_1, d.before a0 Z = true) (k : Nat) {d : Jvm.Cond} (h : tables_1[k]? = some d) : d.before a0 Z = true := hw d (List.mem_of_getElem? h)
theorem old_le {Z : State} {n0 : Nat} {h : Heap} (O : Old Z n0 h) : n0 ≤ h.size := O.1 ▸ O.2.1
theorem own_getR {p : Program} {l : Launch} {e : Env} {R : Room} {s : State} {m : MethodId} {args : Array Value} {below : List Frame} {meth : Method} {c : Code} {T : State} {locs : List Loc} {cells slots : Nat} {Z : State} {a0 : Array Value} {h : Heap}
    (X : Stand p l e R s m args below meth c T locs cells slots) (hx : p.tables.exec = Jvm.exec) (hZ : Z.Warmed39 s.vm) {own R0 n d : String} {index : Nat} (hown : s.vm.findClass own = some m.cls) (w : (Jvm.Cond.fieldRef own index R0 n d).before a0 Z = true)
    (eT : T.heap = h) {a : Addr} {v : Value} (F : Fld Z h a R0 n d v) {g : JFrame} (hg : g.method = m) {rest : List Value} (hs : g.stack = .ref a :: rest) (hd : decode c.code g.pc = .ok (.getfield index, 3)) : ∀ target, Steps p.tables e below (T.setTop { g with pc := g.pc + 3, stack := v :: rest }) target → Steps p.tables e below (T.setTop g) target := by
  obtain ⟨cell, cf, k, i, f, h1, h2, h3, h4, -, -, h7⟩ := F
  have hT : Z.Warmed39 T.vm := wtrans hZ X.warmed
  have w' := Cond.fieldRef_warmed39 hT w
  have ho : (Z.setVm T.vm).vm.findClass own = some m.cls := by show T.vm.findClass own = _; rw [X.warmed.alike.findClass]; exact hown
  obtain ⟨c1, k1, i1, f1, e1, hr⟩ := Cond.fieldRef_spec ho w'
  obtain ⟨k', hi, -⟩ := State.fieldFound?_setVm (s := Z) hT.alike h2
  cases e1.symm.trans hi
  intro target kk
  exact (X.getfieldR hx hg hr h3 hs (by rw [eT]; exact h1) h4 h7 hd (Steps.refl _)).trans kk
theorem own_selP {Z s : State} {a0 args : Array Value} {y : MethodName} {n : Nat} (hZ : Z.Warmed39 s.vm) (wi : (Jvm.Cond.instantiable y.cls n).before a0 Z = true) (wn : (Jvm.Cond.instanceMethod y).before a0 Z = true) (wp : (Jvm.Cond.privateMethod y).before a0 Z = true)
    (hy : y.cls ≠ "java/lang/invoke/MethodHandle" ∧ y.cls ≠ "java/lang/invoke/VarHandle") : (Jvm.Cond.selects y.cls y y).before args s = true := by
  have wi' : (Jvm.Cond.instantiable y.cls n).before args s = true := mv hZ wi
  obtain ⟨c, k, h1, h2, -, h4, -⟩ := Cond.instantiable_spec wi'
  exact Stand.selects_self_of_private h1 h2 (by simp only [Bool.or_eq_false_iff] at h4; exact h4.1) (Cond.privateMethod_at (args := args) (mvP hZ wp)) (mvT hZ wn) hy
theorem own_eqI {t : Term} {n : Int32} {args : Array Value} {s : State} (h : (Jvm.Cond.eq t (.int n)).value args s none s [] = some true) : t.eval args s none [] s = some (.int n) := by
  have hn : (Term.int n).eval args s none [] s = some (.int n) := rfl
  cases ht : t.eval args s none [] s with
  | none => simp [Cond.value, ht] at h
  | some v => cases v <;> simp [Cond.value, ht, hn] at h ⊢; exact h
theorem own_eqJ {t : Term} {n : Int64} {args : Array Value} {s : State} (h : (Jvm.Cond.eq t (.long n)).value args s none s [] = some true) : t.eval args s none [] s = some (.long n) := by
  have hn : (Term.long n).eval args s none [] s = some (.long n) := rfl
  cases ht : t.eval args s none [] s with
  | none => simp [Cond.value, ht] at h
  | some v => cases v <;> simp [Cond.value, ht, hn] at h ⊢; exact h
theorem own_wS {Z : State} {a0 : Array Value} (hw : ∀ d ∈ tables_1, d.before a0 Z = true) : ∀ a ∈ Bundle.stringAtoms, a.before a0 Z = true := by
  intro a ha
  simp only [Bundle.stringAtoms, List.mem_cons, List.not_mem_nil, or_false] at ha
  rcases ha with rfl | rfl | rfl | rfl | rfl | rfl | rfl
  · exact (own_w hw 7 rfl)
  · exact (own_w hw 6 rfl)
  · exact (own_w hw 24 rfl)
  · exact (own_w hw 34 rfl)
  · exact (own_w hw 32 rfl)
  · exact (own_w hw 59 rfl)
  · exact (own_w hw 60 rfl)
theorem own_nc {x : Int32} (h0 : ¬ (x < (0 : Int32))) (h1 : ¬ ((255 : Int32) < x)) : narrow .char (.int x) = .int x := by
  show Value.int x.toUInt32.toUInt16.toUInt32.toInt32 = _
  refine congrArg Value.int ?_
  rw [← Int32.toInt_inj]
  have := c_i2c x
  simp only [Int32.lt_iff_toInt_lt, show (0 : Int32).toInt = 0 from rfl, show (255 : Int32).toInt = 255 from rfl] at h0 h1
  omega
theorem own_char {x : Int32} (h0 : ¬ (x < (0 : Int32))) (h1 : ¬ ((255 : Int32) < x)) : ((x.toInt8.toInt32) &&& (255 : Int32)).toUInt32.toUInt16.toUInt32.toInt32 = x := by
  rw [i2c_mask, ← Int32.toInt_inj, c_mask _ 255 8 (by decide) (by decide)]
  have := (c_i2b x).1
  simp only [Int32.lt_iff_toInt_lt, show (0 : Int32).toInt = 0 from rfl, show (255 : Int32).toInt = 255 from rfl] at h0 h1
  omega
abbrev y_0 : MethodName := ⟨"java/lang/String", "coder", "()B"⟩
theorem pn_java_lang_String : plainName "java/lang/String" = true := by first | (simp [plainName, overriddenIn]; done) | decide +kernel
theorem d14_0 : decode jdk_42_method_152_code 0 = .ok (.getstatic 38, 3) := by decide +kernel
theorem d14_3 : decode jdk_42_method_152_code 3 = .ok (.ifCond .eq 10, 3) := by decide +kernel
theorem d14_6 : decode jdk_42_method_152_code 6 = .ok (.aload_n 0, 1) := by decide +kernel
theorem d14_7 : decode jdk_42_method_152_code 7 = .ok (.getfield 15, 3) := by decide +kernel
theorem d14_10 : decode jdk_42_method_152_code 10 = .ok (.goto 4, 3) := by decide +kernel
theorem d14_14 : decode jdk_42_method_152_code 14 = .ok (.ireturn, 1) := by decide +kernel
theorem ef_rmCod (m : MethodId) (so : Addr) : entryFrame m #[(.ref so)] 1 = mkF m 0 #[.val (.ref so)] [] := by first | (simp [entryFrame, mkF, argsToLocals, Value.category]; done) | rfl
abbrev rm_rmCod : Room := ({ frames := 0, cells := 0, slots := 0, locals := 0 } : Room)
def Q_rmCod (Z : State) (so : Addr) (cs : Int32) (h0 : Heap) (n0 : Nat) (v : Option Value) (h : Heap) (L : List Loc) : Prop := (v = some (.int (0 : Int32))) ∧ (Fr n0 L) ∧ (h = h0)
set_option maxRecDepth 65536 in
set_option maxHeartbeats 4000000 in
theorem rmCod (l : Launch) (Z : State) (a0 : Array Value) (hw : ∀ d ∈ tables_1, d.before a0 Z = true) (ws : List Jvm.Cond) (so : Addr) (cs : Int32) (h0 : Heap) (n0 : Nat) (O : Old Z n0 h0) (S_CS : Sta Z Z.heap "java/lang/String" "COMPACT_STRINGS" "Z" (.int cs)) (F_c : Fld Z h0 so "java/lang/String" "coder" "B" (.int (0 : Int32))) (hcs : ¬ (cs = (0 : Int32))) :
    MetFree l y_0 (head1 (Jvm.Cond.code y_0 jdk_42_method_152_code 1 (some .byte) :: ws) rm_rmCod) (fun A_ U => A_ = #[(.ref so)] ∧ Z.Warmed39 U.vm ∧ U.heap = h0) (fun _ _ _ _ _ => True) (fun _ U o U' => ∃ v L, o = .returned v ∧ Q_rmCod Z so cs h0 n0 v U'.heap L ∧ FrameEnd U o U' L rm_rmCod.cells rm_rmCod.slots) := by
 refine MetFree.of_bodySF (plainFor_of_name pn_java_lang_String) hisR ?_
 intro p e s m args below meth c s₁ Bd hml0 hP hK
 obtain ⟨rfl, hZ, hh⟩ := hP
 have hx := Bd.exec
 have hby := Bd.bytes
 have hml : c.maxLocals = 1 := hml0
 have hown : s.vm.findClass "java/lang/String" = some m.cls := findClass_of_methodNamed Bd.named
 have hnm := (name_of_methodNamed Bd.named Bd.method).1
 have X0 : Stand p l e rm_rmCod s m #[(.ref so)] below meth c s₁ [] 0 0 := Stand.of_body Bd
 have e0 : s₁.heap = h0 := by rw [← hh, Bd.state]; rfl
 have N0 := Fr.nil n0
 refine Go.step (p := p) (e := e) (below := below) (G := fun o U' => ∃ v L, o = .returned v ∧ Q_rmCod Z so cs h0 n0 v U'.heap L ∧ FrameEnd s o U' L rm_rmCod.cells rm_rmCod.slots) (S' := s₁.setTop (mkF m 0 #[rv so] [])) (fun t k => castTop (ef_rmCod m so) k) ?_
 obtain ⟨T1, X1, e1, st1⟩ := getS2 X0 hx hZ hown (host := "") (Or.inl (own_w hw 19 rfl)) Via.refl e0 (S_CS.ext O.2) (g := (mkF m 0 #[rv so] [])) rfl (hb hby d14_0)
 refine Go.step st1 ?_
 refine Go.step (S' := T1.setTop (mkF m 7 #[rv so] [(.ref so)])) (fun t k => ?_) ?_
 · refine XS.ifNo X1.here hx rfl (hb hby d14_3) rfl ((if0 _ _).trans (feq (hcs : ¬ (cs = (0 : Int32)))).1) ?_
   refine XS.aloadN X1.here hx rfl (hb hby d14_6) rfl rfl ?_
   exact k
 obtain ⟨T2, X2, e2, st2⟩ := getF X1 hx hZ hown (host := "") (Or.inl (own_w hw 31 rfl)) Via.refl e1 F_c (g := (mkF m 7 #[rv so] [(.ref so)])) rfl rfl (hb hby d14_7)
 refine Go.step st2 ?_
 refine Go.step (S' := T2.setTop (mkF m 14 #[rv so] [(.int (0 : Int32))])) (fun t k => ?_) ?_
 · refine XS.goto X2.here hx rfl (pc0 := 10) (pc' := 14) rfl (hb hby d14_10) (by decide) (by decide) ?_
   exact k
 obtain ⟨fs, hr, hrun, hended, hW, hsame⟩ := X2.leave (v := some (.int (0 : Int32))) (fun h => by rw [Bd.returns] at h; cases h)
 refine Go.fin (S' := T2.setFrames fs) ?_ hrun hended ⟨_, _, rfl, ?_, ⟨_, rfl⟩, hW, hsame.mono (by decide) (by decide)⟩
 · exact retOut X2 hx Bd.returns (by decide) (Or.inl ⟨rfl, Or.inr (Or.inr (Or.inl rfl)), _, rfl⟩) (hb hby d14_14) hr
 · show Q_rmCod Z so cs h0 n0 (some (.int (0 : Int32))) T2.heap _
   rw [e2]
   exact ⟨rfl, N0, rfl⟩
abbrev y_1 : MethodName := ⟨"java/lang/String", "isLatin1", "()Z"⟩
theorem d16_0 : decode jdk_42_method_154_code 0 = .ok (.getstatic 38, 3) := by decide +kernel
theorem d16_3 : decode jdk_42_method_154_code 3 = .ok (.ifCond .eq 14, 3) := by decide +kernel
theorem d16_6 : decode jdk_42_method_154_code 6 = .ok (.aload_n 0, 1) := by decide +kernel
theorem d16_7 : decode jdk_42_method_154_code 7 = .ok (.getfield 15, 3) := by decide +kernel
theorem d16_10 : decode jdk_42_method_154_code 10 = .ok (.ifCond .ne 7, 3) := by decide +kernel
theorem d16_13 : decode jdk_42_method_154_code 13 = .ok (.iconst 1, 1) := by decide +kernel
theorem d16_14 : decode jdk_42_method_154_code 14 = .ok (.goto 4, 3) := by decide +kernel
theorem d16_18 : decode jdk_42_method_154_code 18 = .ok (.ireturn, 1) := by decide +kernel
theorem ef_rmLat (m : MethodId) (so : Addr) : entryFrame m #[(.ref so)] 1 = mkF m 0 #[.val (.ref so)] [] := by first | (simp [entryFrame, mkF, argsToLocals, Value.category]; done) | rfl
abbrev rm_rmLat : Room := ({ frames := 0, cells := 0, slots := 0, locals := 0 } : Room)
def Q_rmLat (Z : State) (so : Addr) (cs : Int32) (h0 : Heap) (n0 : Nat) (v : Option Value) (h : Heap) (L : List Loc) : Prop := (v = some (.int (1 : Int32))) ∧ (Fr n0 L) ∧ (h = h0)
set_option maxRecDepth 65536 in
set_option maxHeartbeats 4000000 in
theorem rmLat (l : Launch) (Z : State) (a0 : Array Value) (hw : ∀ d ∈ tables_1, d.before a0 Z = true) (ws : List Jvm.Cond) (so : Addr) (cs : Int32) (h0 : Heap) (n0 : Nat) (O : Old Z n0 h0) (S_CS : Sta Z Z.heap "java/lang/String" "COMPACT_STRINGS" "Z" (.int cs)) (F_c : Fld Z h0 so "java/lang/String" "coder" "B" (.int (0 : Int32))) (hcs : ¬ (cs = (0 : Int32))) :
    MetFree l y_1 (head1 (Jvm.Cond.code y_1 jdk_42_method_154_code 1 (some .boolean) :: ws) rm_rmLat) (fun A_ U => A_ = #[(.ref so)] ∧ Z.Warmed39 U.vm ∧ U.heap = h0) (fun _ _ _ _ _ => True) (fun _ U o U' => ∃ v L, o = .returned v ∧ Q_rmLat Z so cs h0 n0 v U'.heap L ∧ FrameEnd U o U' L rm_rmLat.cells rm_rmLat.slots) := by
 refine MetFree.of_bodySF (plainFor_of_name pn_java_lang_String) hisR ?_
 intro p e s m args below meth c s₁ Bd hml0 hP hK
 obtain ⟨rfl, hZ, hh⟩ := hP
 have hx := Bd.exec
 have hby := Bd.bytes
 have hml : c.maxLocals = 1 := hml0
 have hown : s.vm.findClass "java/lang/String" = some m.cls := findClass_of_methodNamed Bd.named
 have hnm := (name_of_methodNamed Bd.named Bd.method).1
 have X0 : Stand p l e rm_rmLat s m #[(.ref so)] below meth c s₁ [] 0 0 := Stand.of_body Bd
 have e0 : s₁.heap = h0 := by rw [← hh, Bd.state]; rfl
 have N0 := Fr.nil n0
 refine Go.step (p := p) (e := e) (below := below) (G := fun o U' => ∃ v L, o = .returned v ∧ Q_rmLat Z so cs h0 n0 v U'.heap L ∧ FrameEnd s o U' L rm_rmLat.cells rm_rmLat.slots) (S' := s₁.setTop (mkF m 0 #[rv so] [])) (fun t k => castTop (ef_rmLat m so) k) ?_
 obtain ⟨T1, X1, e1, st1⟩ := getS2 X0 hx hZ hown (host := "") (Or.inl (own_w hw 19 rfl)) Via.refl e0 (S_CS.ext O.2) (g := (mkF m 0 #[rv so] [])) rfl (hb hby d16_0)
 refine Go.step st1 ?_
 refine Go.step (S' := T1.setTop (mkF m 7 #[rv so] [(.ref so)])) (fun t k => ?_) ?_
 · refine XS.ifNo X1.here hx rfl (hb hby d16_3) rfl ((if0 _ _).trans (feq (hcs : ¬ (cs = (0 : Int32)))).1) ?_
   refine XS.aloadN X1.here hx rfl (hb hby d16_6) rfl rfl ?_
   exact k
 obtain ⟨T2, X2, e2, st2⟩ := getF X1 hx hZ hown (host := "") (Or.inl (own_w hw 31 rfl)) Via.refl e1 F_c (g := (mkF m 7 #[rv so] [(.ref so)])) rfl rfl (hb hby d16_7)
 refine Go.step st2 ?_
 refine Go.step (S' := T2.setTop (mkF m 18 #[rv so] [(.int (1 : Int32))])) (fun t k => ?_) ?_
 · refine XS.ifNo X2.here hx rfl (hb hby d16_10) rfl ((if0 _ _).trans (teq ((by decide) : (0 : Int32) = (0 : Int32))).2) ?_
   refine XS.iconst X2.here hx rfl (hb hby d16_13) ?_
   refine XS.goto X2.here hx rfl (pc0 := 14) (pc' := 18) rfl (hb hby d16_14) (by decide) (by decide) ?_
   exact k
 obtain ⟨fs, hr, hrun, hended, hW, hsame⟩ := X2.leave (v := some (.int (1 : Int32))) (fun h => by rw [Bd.returns] at h; cases h)
 refine Go.fin (S' := T2.setFrames fs) ?_ hrun hended ⟨_, _, rfl, ?_, ⟨_, rfl⟩, hW, hsame.mono (by decide) (by decide)⟩
 · exact retOut X2 hx Bd.returns (by decide) (Or.inl ⟨rfl, Or.inr (Or.inl rfl), _, rfl⟩) (hb hby d16_18) hr
 · show Q_rmLat Z so cs h0 n0 (some (.int (1 : Int32))) T2.heap _
   rw [e2]
   exact ⟨rfl, N0, rfl⟩
abbrev y_2 : MethodName := ⟨"jdk/internal/util/Preconditions", "checkIndex", "(IILjava/util/function/BiFunction;)I"⟩
theorem pn_jdk_internal_util_Preconditions : plainName "jdk/internal/util/Preconditions" = true := by first | (simp [plainName, overriddenIn]; done) | decide +kernel
theorem d19_0 : decode jdk_41_method_11_code 0 = .ok (.iload_n 0, 1) := by decide +kernel
theorem d19_1 : decode jdk_41_method_11_code 1 = .ok (.ifCond .lt 8, 3) := by decide +kernel
theorem d19_4 : decode jdk_41_method_11_code 4 = .ok (.iload_n 0, 1) := by decide +kernel
theorem d19_5 : decode jdk_41_method_11_code 5 = .ok (.iload_n 1, 1) := by decide +kernel
theorem d19_6 : decode jdk_41_method_11_code 6 = .ok (.if_icmp .lt 10, 3) := by decide +kernel
theorem d19_16 : decode jdk_41_method_11_code 16 = .ok (.iload_n 0, 1) := by decide +kernel
theorem d19_17 : decode jdk_41_method_11_code 17 = .ok (.ireturn, 1) := by decide +kernel
theorem ef_rmCIn (m : MethodId) (i : Int32) (z : Int32) : entryFrame m #[(.int i), (.int z), .null] 3 = mkF m 0 #[.val (.int i), .val (.int z), .val .null] [] := by first | (simp [entryFrame, mkF, argsToLocals, Value.category]; done) | rfl
abbrev rm_rmCIn : Room := ({ frames := 0, cells := 0, slots := 0, locals := 0 } : Room)
def Q_rmCIn (Z : State) (i : Int32) (z : Int32) (h0 : Heap) (n0 : Nat) (v : Option Value) (h : Heap) (L : List Loc) : Prop := (v = some (.int i)) ∧ (Fr n0 L) ∧ (h = h0)
set_option maxRecDepth 65536 in
set_option maxHeartbeats 4000000 in
theorem rmCIn (l : Launch) (Z : State) (a0 : Array Value) (hw : ∀ d ∈ tables_1, d.before a0 Z = true) (ws : List Jvm.Cond) (i : Int32) (z : Int32) (h0 : Heap) (n0 : Nat) (O : Old Z n0 h0) (hp1 : ¬ (i < (0 : Int32))) (hp2 : i < z) :
    MetFree l y_2 (head1 (Jvm.Cond.code y_2 jdk_41_method_11_code 3 (some .int) :: ws) rm_rmCIn) (fun A_ U => A_ = #[(.int i), (.int z), .null] ∧ Z.Warmed39 U.vm ∧ U.heap = h0) (fun _ _ _ _ _ => True) (fun _ U o U' => ∃ v L, o = .returned v ∧ Q_rmCIn Z i z h0 n0 v U'.heap L ∧ FrameEnd U o U' L rm_rmCIn.cells rm_rmCIn.slots) := by
 refine MetFree.of_bodySF (plainFor_of_name pn_jdk_internal_util_Preconditions) hisR ?_
 intro p e s m args below meth c s₁ Bd hml0 hP hK
 obtain ⟨rfl, hZ, hh⟩ := hP
 have hx := Bd.exec
 have hby := Bd.bytes
 have hml : c.maxLocals = 3 := hml0
 have hown : s.vm.findClass "jdk/internal/util/Preconditions" = some m.cls := findClass_of_methodNamed Bd.named
 have hnm := (name_of_methodNamed Bd.named Bd.method).1
 have X0 : Stand p l e rm_rmCIn s m #[(.int i), (.int z), .null] below meth c s₁ [] 0 0 := Stand.of_body Bd
 have e0 : s₁.heap = h0 := by rw [← hh, Bd.state]; rfl
 have N0 := Fr.nil n0
 refine Go.step (p := p) (e := e) (below := below) (G := fun o U' => ∃ v L, o = .returned v ∧ Q_rmCIn Z i z h0 n0 v U'.heap L ∧ FrameEnd s o U' L rm_rmCIn.cells rm_rmCIn.slots) (S' := s₁.setTop (mkF m 0 #[iv i, iv z, .val .null] [])) (fun t k => castTop (ef_rmCIn m i z) k) ?_
 refine Go.step (S' := s₁.setTop (mkF m 17 #[iv i, iv z, .val .null] [(.int i)])) (fun t k => ?_) ?_
 · refine XS.iloadN X0.here hx rfl (hb hby d19_0) rfl ?_
   refine XS.ifNo X0.here hx rfl (hb hby d19_1) rfl ((if0 _ _).trans (flt (hp1 : ¬ (i < (0 : Int32)))).1) ?_
   refine XS.iloadN X0.here hx rfl (hb hby d19_4) rfl ?_
   refine XS.iloadN X0.here hx rfl (hb hby d19_5) rfl ?_
   refine XS.icmpYes X0.here hx rfl (pc0 := 6) (pc' := 16) rfl (hb hby d19_6) rfl (tlt (hp2 : i < z)).1 (by decide) (by decide) ?_
   refine XS.iloadN X0.here hx rfl (hb hby d19_16) rfl ?_
   exact k
 obtain ⟨fs, hr, hrun, hended, hW, hsame⟩ := X0.leave (v := some (.int i)) (fun h => by rw [Bd.returns] at h; cases h)
 refine Go.fin (S' := s₁.setFrames fs) ?_ hrun hended ⟨_, _, rfl, ?_, ⟨_, rfl⟩, hW, hsame.mono (by decide) (by decide)⟩
 · exact retOut X0 hx Bd.returns rfl (Or.inl ⟨rfl, Or.inl rfl, _, rfl⟩) (hb hby d19_17) hr
 · show Q_rmCIn Z i z h0 n0 (some (.int i)) s₁.heap _
   rw [e0]
   exact ⟨rfl, N0, rfl⟩
theorem ef_rmCIr (m : MethodId) (i : Int32) (z : Int32) (f : Addr) : entryFrame m #[(.int i), (.int z), (.ref f)] 3 = mkF m 0 #[.val (.int i), .val (.int z), .val (.ref f)] [] := by first | (simp [entryFrame, mkF, argsToLocals, Value.category]; done) | rfl
abbrev rm_rmCIr : Room := ({ frames := 0, cells := 0, slots := 0, locals := 0 } : Room)
def Q_rmCIr (Z : State) (i : Int32) (z : Int32) (f : Addr) (h0 : Heap) (n0 : Nat) (v : Option Value) (h : Heap) (L : List Loc) : Prop := (v = some (.int i)) ∧ (Fr n0 L) ∧ (h = h0)
set_option maxRecDepth 65536 in
set_option maxHeartbeats 4000000 in
theorem rmCIr (l : Launch) (Z : State) (a0 : Array Value) (hw : ∀ d ∈ tables_1, d.before a0 Z = true) (ws : List Jvm.Cond) (i : Int32) (z : Int32) (f : Addr) (h0 : Heap) (n0 : Nat) (O : Old Z n0 h0) (hp1 : ¬ (i < (0 : Int32))) (hp2 : i < z) :
    MetFree l y_2 (head1 (Jvm.Cond.code y_2 jdk_41_method_11_code 3 (some .int) :: ws) rm_rmCIr) (fun A_ U => A_ = #[(.int i), (.int z), (.ref f)] ∧ Z.Warmed39 U.vm ∧ U.heap = h0) (fun _ _ _ _ _ => True) (fun _ U o U' => ∃ v L, o = .returned v ∧ Q_rmCIr Z i z f h0 n0 v U'.heap L ∧ FrameEnd U o U' L rm_rmCIr.cells rm_rmCIr.slots) := by
 refine MetFree.of_bodySF (plainFor_of_name pn_jdk_internal_util_Preconditions) hisR ?_
 intro p e s m args below meth c s₁ Bd hml0 hP hK
 obtain ⟨rfl, hZ, hh⟩ := hP
 have hx := Bd.exec
 have hby := Bd.bytes
 have hml : c.maxLocals = 3 := hml0
 have hown : s.vm.findClass "jdk/internal/util/Preconditions" = some m.cls := findClass_of_methodNamed Bd.named
 have hnm := (name_of_methodNamed Bd.named Bd.method).1
 have X0 : Stand p l e rm_rmCIr s m #[(.int i), (.int z), (.ref f)] below meth c s₁ [] 0 0 := Stand.of_body Bd
 have e0 : s₁.heap = h0 := by rw [← hh, Bd.state]; rfl
 have N0 := Fr.nil n0
 refine Go.step (p := p) (e := e) (below := below) (G := fun o U' => ∃ v L, o = .returned v ∧ Q_rmCIr Z i z f h0 n0 v U'.heap L ∧ FrameEnd s o U' L rm_rmCIr.cells rm_rmCIr.slots) (S' := s₁.setTop (mkF m 0 #[iv i, iv z, rv f] [])) (fun t k => castTop (ef_rmCIr m i z f) k) ?_
 refine Go.step (S' := s₁.setTop (mkF m 17 #[iv i, iv z, rv f] [(.int i)])) (fun t k => ?_) ?_
 · refine XS.iloadN X0.here hx rfl (hb hby d19_0) rfl ?_
   refine XS.ifNo X0.here hx rfl (hb hby d19_1) rfl ((if0 _ _).trans (flt (hp1 : ¬ (i < (0 : Int32)))).1) ?_
   refine XS.iloadN X0.here hx rfl (hb hby d19_4) rfl ?_
   refine XS.iloadN X0.here hx rfl (hb hby d19_5) rfl ?_
   refine XS.icmpYes X0.here hx rfl (pc0 := 6) (pc' := 16) rfl (hb hby d19_6) rfl (tlt (hp2 : i < z)).1 (by decide) (by decide) ?_
   refine XS.iloadN X0.here hx rfl (hb hby d19_16) rfl ?_
   exact k
 obtain ⟨fs, hr, hrun, hended, hW, hsame⟩ := X0.leave (v := some (.int i)) (fun h => by rw [Bd.returns] at h; cases h)
 refine Go.fin (S' := s₁.setFrames fs) ?_ hrun hended ⟨_, _, rfl, ?_, ⟨_, rfl⟩, hW, hsame.mono (by decide) (by decide)⟩
 · exact retOut X0 hx Bd.returns rfl (Or.inl ⟨rfl, Or.inl rfl, _, rfl⟩) (hb hby d19_17) hr
 · show Q_rmCIr Z i z f h0 n0 (some (.int i)) s₁.heap _
   rw [e0]
   exact ⟨rfl, N0, rfl⟩
abbrev y_3 : MethodName := ⟨"java/lang/String", "checkIndex", "(II)V"⟩
theorem d18_0 : decode jdk_42_method_155_code 0 = .ok (.iload_n 0, 1) := by decide +kernel
theorem d18_1 : decode jdk_42_method_155_code 1 = .ok (.iload_n 1, 1) := by decide +kernel
theorem d18_2 : decode jdk_42_method_155_code 2 = .ok (.getstatic 1053, 3) := by decide +kernel
theorem d18_5 : decode jdk_42_method_155_code 5 = .ok (.invokestatic 1059, 3) := by decide +kernel
theorem pd__28IILjava_2futil_2ffunction_2fBiFunction_3b_29I : parseMethodDescriptor "(IILjava/util/function/BiFunction;)I" = some ⟨[.int, .int, (.object "java/util/function/BiFunction")], some .int⟩ := by decide +kernel
theorem d18_8 : decode jdk_42_method_155_code 8 = .ok (.pop, 1) := by decide +kernel
theorem d18_9 : decode jdk_42_method_155_code 9 = .ok (.return_, 1) := by decide +kernel
theorem ef_rmCk (m : MethodId) (i : Int32) (z : Int32) : entryFrame m #[(.int i), (.int z)] 2 = mkF m 0 #[.val (.int i), .val (.int z)] [] := by first | (simp [entryFrame, mkF, argsToLocals, Value.category]; done) | rfl
abbrev rm_rmCk : Room := ({ frames := 1, cells := 0, slots := 0, locals := 14 } : Room)
def Q_rmCk (Z : State) (i : Int32) (z : Int32) (sf : Value) (h0 : Heap) (n0 : Nat) (v : Option Value) (h : Heap) (L : List Loc) : Prop := (v = none) ∧ (Fr n0 L) ∧ (h = h0)
set_option maxRecDepth 65536 in
set_option maxHeartbeats 4000000 in
theorem rmCk (l : Launch) (Z : State) (a0 : Array Value) (hw : ∀ d ∈ tables_1, d.before a0 Z = true) (ws : List Jvm.Cond) (i : Int32) (z : Int32) (sf : Value) (h0 : Heap) (n0 : Nat) (O : Old Z n0 h0) (hp1 : ¬ (i < (0 : Int32))) (hp2 : i < z) (S_FM : Sta Z Z.heap "jdk/internal/util/Preconditions" "SIOOBE_FORMATTER" "Ljava/util/function/BiFunction;" sf) (hsf : sf.isRef = true) :
    MetFree l y_3 (head1 (Jvm.Cond.code y_3 jdk_42_method_155_code 2 none :: ws) rm_rmCk) (fun A_ U => A_ = #[(.int i), (.int z)] ∧ Z.Warmed39 U.vm ∧ U.heap = h0) (fun _ _ _ _ _ => True) (fun _ U o U' => ∃ v L, o = .returned v ∧ Q_rmCk Z i z sf h0 n0 v U'.heap L ∧ FrameEnd U o U' L rm_rmCk.cells rm_rmCk.slots) := by
 refine MetFree.of_bodySF (plainFor_of_name pn_java_lang_String) hisR ?_
 intro p e s m args below meth c s₁ Bd hml0 hP hK
 obtain ⟨rfl, hZ, hh⟩ := hP
 have hx := Bd.exec
 have hby := Bd.bytes
 have hml : c.maxLocals = 2 := hml0
 have hown : s.vm.findClass "java/lang/String" = some m.cls := findClass_of_methodNamed Bd.named
 have hnm := (name_of_methodNamed Bd.named Bd.method).1
 have X0 : Stand p l e rm_rmCk s m #[(.int i), (.int z)] below meth c s₁ [] 0 0 := Stand.of_body Bd
 have e0 : s₁.heap = h0 := by rw [← hh, Bd.state]; rfl
 have N0 := Fr.nil n0
 refine Go.step (p := p) (e := e) (below := below) (G := fun o U' => ∃ v L, o = .returned v ∧ Q_rmCk Z i z sf h0 n0 v U'.heap L ∧ FrameEnd s o U' L rm_rmCk.cells rm_rmCk.slots) (S' := s₁.setTop (mkF m 0 #[iv i, iv z] [])) (fun t k => castTop (ef_rmCk m i z) k) ?_
 rcases ref_cases hsf with hsn | ⟨wf, hsn⟩
 ·skip
  rw [hsn] at S_FM
  refine Go.step (S' := s₁.setTop (mkF m 2 #[iv i, iv z] [(.int z), (.int i)])) (fun t k => ?_) ?_
  · refine XS.iloadN X0.here hx rfl (hb hby d18_0) rfl ?_
    refine XS.iloadN X0.here hx rfl (hb hby d18_1) rfl ?_
    exact k
  obtain ⟨T1, X1, e1, st1⟩ := getS2 X0 hx hZ hown (host := "") (Or.inl (own_w hw 97 rfl)) Via.refl e0 (S_FM.ext O.2) (g := (mkF m 2 #[iv i, iv z] [(.int z), (.int i)])) rfl (hb hby d18_2)
  refine Go.step st1 ?_
  obtain ⟨_, _, ⟨T2, L2, k2, n2⟩, -, X2, ⟨Lc2, hQ2, l2, y2, z2⟩, st2⟩ := Jvm.LawKit.callS X1 hx (y := y_2) hown (mvT hZ (own_w hw 99 rfl)) (mvT hZ (own_w hw 100 rfl)) (mvT hZ (own_w hw 98 rfl)) (mvT hZ (own_w hw 101 rfl)) (by decide) (backOf (W := 0) (rmCIn l Z a0 hw [] i z h0 n0 O hp1 hp2) hZ (own_w hw 101 rfl) (own_w hw 98 rfl) (by decide) (by decide)) (g := (mkF m 5 #[iv i, iv z] [.null, (.int z), (.int i)])) rfl (by rw [hml]; rfl) (argsL := [(.int i), (.int z), .null]) (rest := []) (lenOf pd__28IILjava_2futil_2ffunction_2fBiFunction_3b_29I rfl) rfl (Nat.le_of_eq rfl) (hb hby d18_5) (fun _ _ => ⟨rfl, e1, (by decide : 0 + 0 ≤ _), (by decide : 0 + 0 ≤ _)⟩)
  dsimp only [Pt.U, Pt.locs, Pt.cells, Pt.slots] at X2 l2 y2 z2 st2 hQ2
  subst l2 y2 z2
  obtain ⟨rfl, Nq2, e2⟩ := hQ2
  have N2 := Fr.app N0 Nq2
  refine Go.step st2 ?_
  refine Go.step (S' := T2.setTop (mkF m 9 #[iv i, iv z] [])) (fun t k => ?_) ?_
  · refine XS.pop X2.here hx rfl (hb hby d18_8) rfl rfl ?_
    exact k
  obtain ⟨fs, hr, hrun, hended, hW, hsame⟩ := X2.leave (v := none) (fun _ => rfl)
  refine Go.fin (S' := T2.setFrames fs) ?_ hrun hended ⟨_, _, rfl, ?_, ⟨_, rfl⟩, hW, hsame.mono (by decide) (by decide)⟩
  · exact X2.returnOut hx Bd.returns (hb hby d18_9) hr
  · show Q_rmCk Z i z sf h0 n0 (none) T2.heap _
    rw [e2]
    exact ⟨rfl, N2, rfl⟩
 ·skip
  rw [hsn] at S_FM
  refine Go.step (S' := s₁.setTop (mkF m 2 #[iv i, iv z] [(.int z), (.int i)])) (fun t k => ?_) ?_
  · refine XS.iloadN X0.here hx rfl (hb hby d18_0) rfl ?_
    refine XS.iloadN X0.here hx rfl (hb hby d18_1) rfl ?_
    exact k
  obtain ⟨T3, X3, e3, st3⟩ := getS2 X0 hx hZ hown (host := "") (Or.inl (own_w hw 97 rfl)) Via.refl e0 (S_FM.ext O.2) (g := (mkF m 2 #[iv i, iv z] [(.int z), (.int i)])) rfl (hb hby d18_2)
  refine Go.step st3 ?_
  obtain ⟨_, _, ⟨T4, L4, k4, n4⟩, -, X4, ⟨Lc4, hQ4, l4, y4, z4⟩, st4⟩ := Jvm.LawKit.callS X3 hx (y := y_2) hown (mvT hZ (own_w hw 99 rfl)) (mvT hZ (own_w hw 100 rfl)) (mvT hZ (own_w hw 98 rfl)) (mvT hZ (own_w hw 101 rfl)) (by decide) (backOf (W := 0) (rmCIr l Z a0 hw [] i z wf h0 n0 O hp1 hp2) hZ (own_w hw 101 rfl) (own_w hw 98 rfl) (by decide) (by decide)) (g := (mkF m 5 #[iv i, iv z] [(.ref wf), (.int z), (.int i)])) rfl (by rw [hml]; rfl) (argsL := [(.int i), (.int z), (.ref wf)]) (rest := []) (lenOf pd__28IILjava_2futil_2ffunction_2fBiFunction_3b_29I rfl) rfl (Nat.le_of_eq rfl) (hb hby d18_5) (fun _ _ => ⟨rfl, e3, (by decide : 0 + 0 ≤ _), (by decide : 0 + 0 ≤ _)⟩)
  dsimp only [Pt.U, Pt.locs, Pt.cells, Pt.slots] at X4 l4 y4 z4 st4 hQ4
  subst l4 y4 z4
  obtain ⟨rfl, Nq4, e4⟩ := hQ4
  have N4 := Fr.app N0 Nq4
  refine Go.step st4 ?_
  refine Go.step (S' := T4.setTop (mkF m 9 #[iv i, iv z] [])) (fun t k => ?_) ?_
  · refine XS.pop X4.here hx rfl (hb hby d18_8) rfl rfl ?_
    exact k
  obtain ⟨fs, hr, hrun, hended, hW, hsame⟩ := X4.leave (v := none) (fun _ => rfl)
  refine Go.fin (S' := T4.setFrames fs) ?_ hrun hended ⟨_, _, rfl, ?_, ⟨_, rfl⟩, hW, hsame.mono (by decide) (by decide)⟩
  · exact X4.returnOut hx Bd.returns (hb hby d18_9) hr
  · show Q_rmCk Z i z sf h0 n0 (none) T4.heap _
    rw [e4]
    exact ⟨rfl, N4, rfl⟩
abbrev y_4 : MethodName := ⟨"java/lang/String", "isEmpty", "()Z"⟩
theorem d12_0 : decode jdk_42_method_55_code 0 = .ok (.aload_n 0, 1) := by decide +kernel
theorem d12_1 : decode jdk_42_method_55_code 1 = .ok (.getfield 9, 3) := by decide +kernel
theorem d12_4 : decode jdk_42_method_55_code 4 = .ok (.arraylength, 1) := by decide +kernel
theorem d12_5 : decode jdk_42_method_55_code 5 = .ok (.ifCond .ne 7, 3) := by decide +kernel
theorem d12_12 : decode jdk_42_method_55_code 12 = .ok (.iconst 0, 1) := by decide +kernel
theorem d12_13 : decode jdk_42_method_55_code 13 = .ok (.ireturn, 1) := by decide +kernel
theorem ef_rmEmp1 (m : MethodId) (so : Addr) : entryFrame m #[(.ref so)] 1 = mkF m 0 #[.val (.ref so)] [] := by first | (simp [entryFrame, mkF, argsToLocals, Value.category]; done) | rfl
abbrev rm_rmEmp1 : Room := ({ frames := 0, cells := 0, slots := 0, locals := 0 } : Room)
def Q_rmEmp1 (Z : State) (so : Addr) (tb : Addr) (kb : ClassId) (x0 : Int32) (h0 : Heap) (n0 : Nat) (v : Option Value) (h : Heap) (L : List Loc) : Prop := (v = some (.int (0 : Int32))) ∧ (Fr n0 L) ∧ (h = h0)
set_option maxRecDepth 65536 in
set_option maxHeartbeats 4000000 in
theorem rmEmp1 (l : Launch) (Z : State) (a0 : Array Value) (hw : ∀ d ∈ tables_1, d.before a0 Z = true) (ws : List Jvm.Cond) (so : Addr) (tb : Addr) (kb : ClassId) (x0 : Int32) (h0 : Heap) (n0 : Nat) (O : Old Z n0 h0) (F_value_so : Fld Z h0 so "java/lang/String" "value" "[B" (.ref tb)) (V_tb : Arv Z h0 tb kb .byte (1 : Int32) [(.int (x0.toInt8.toInt32))] (.int (0 : Int32))) :
    MetFree l y_4 (head1 (Jvm.Cond.code y_4 jdk_42_method_55_code 1 (some .boolean) :: ws) rm_rmEmp1) (fun A_ U => A_ = #[(.ref so)] ∧ Z.Warmed39 U.vm ∧ U.heap = h0) (fun _ _ _ _ _ => True) (fun _ U o U' => ∃ v L, o = .returned v ∧ Q_rmEmp1 Z so tb kb x0 h0 n0 v U'.heap L ∧ FrameEnd U o U' L rm_rmEmp1.cells rm_rmEmp1.slots) := by
 refine MetFree.of_bodySF (plainFor_of_name pn_java_lang_String) hisR ?_
 intro p e s m args below meth c s₁ Bd hml0 hP hK
 obtain ⟨rfl, hZ, hh⟩ := hP
 have hx := Bd.exec
 have hby := Bd.bytes
 have hml : c.maxLocals = 1 := hml0
 have hown : s.vm.findClass "java/lang/String" = some m.cls := findClass_of_methodNamed Bd.named
 have hnm := (name_of_methodNamed Bd.named Bd.method).1
 have X0 : Stand p l e rm_rmEmp1 s m #[(.ref so)] below meth c s₁ [] 0 0 := Stand.of_body Bd
 have e0 : s₁.heap = h0 := by rw [← hh, Bd.state]; rfl
 have N0 := Fr.nil n0
 refine Go.step (p := p) (e := e) (below := below) (G := fun o U' => ∃ v L, o = .returned v ∧ Q_rmEmp1 Z so tb kb x0 h0 n0 v U'.heap L ∧ FrameEnd s o U' L rm_rmEmp1.cells rm_rmEmp1.slots) (S' := s₁.setTop (mkF m 0 #[rv so] [])) (fun t k => castTop (ef_rmEmp1 m so) k) ?_
 refine Go.step (S' := s₁.setTop (mkF m 1 #[rv so] [(.ref so)])) (fun t k => ?_) ?_
 · refine XS.aloadN X0.here hx rfl (hb hby d12_0) rfl rfl ?_
   exact k
 obtain ⟨T1, X1, e1, st1⟩ := getF X0 hx hZ hown (host := "") (Or.inl (own_w hw 33 rfl)) Via.refl e0 F_value_so (g := (mkF m 1 #[rv so] [(.ref so)])) rfl rfl (hb hby d12_1)
 refine Go.step st1 ?_
 obtain ⟨cl2, Ar2, -, S2, N2_, -, -⟩ := id V_tb
 refine Go.step (S' := T1.setTop (mkF m 5 #[rv so] [(.int cl2.slots.size.toInt32)])) (fun t k => X1.arraylength hx (by rw [e1]; exact Ar2.1) (State.isArrayOf_alike hZ.alike Ar2.2.1) (g := (mkF m 4 #[rv so] [(.ref tb)])) rfl rfl (hb hby d12_4) _ k) ?_
 rw [len_of S2 N2_]
 show Go p e below _ (T1.setTop (mkF m 5 #[rv so] [(.int (1 : Int32))]))
 refine Go.step (S' := T1.setTop (mkF m 13 #[rv so] [(.int (0 : Int32))])) (fun t k => ?_) ?_
 · refine XS.ifYes X1.here hx rfl (pc0 := 5) (pc' := 12) rfl (hb hby d12_5) rfl ((if0 _ _).trans (feq ((by decide) : ¬ ((1 : Int32) = (0 : Int32)))).2) (by decide) (by decide) ?_
   refine XS.iconst X1.here hx rfl (hb hby d12_12) ?_
   exact k
 obtain ⟨fs, hr, hrun, hended, hW, hsame⟩ := X1.leave (v := some (.int (0 : Int32))) (fun h => by rw [Bd.returns] at h; cases h)
 refine Go.fin (S' := T1.setFrames fs) ?_ hrun hended ⟨_, _, rfl, ?_, ⟨_, rfl⟩, hW, hsame.mono (by decide) (by decide)⟩
 · exact retOut X1 hx Bd.returns (by decide) (Or.inl ⟨rfl, Or.inr (Or.inl rfl), _, rfl⟩) (hb hby d12_13) hr
 · show Q_rmEmp1 Z so tb kb x0 h0 n0 (some (.int (0 : Int32))) T1.heap _
   rw [e1]
   exact ⟨rfl, N0, rfl⟩
abbrev y_5 : MethodName := ⟨"java/lang/String", "length", "()I"⟩
theorem d13_0 : decode jdk_42_method_54_code 0 = .ok (.aload_n 0, 1) := by decide +kernel
theorem d13_1 : decode jdk_42_method_54_code 1 = .ok (.getfield 9, 3) := by decide +kernel
theorem d13_4 : decode jdk_42_method_54_code 4 = .ok (.arraylength, 1) := by decide +kernel
theorem d13_5 : decode jdk_42_method_54_code 5 = .ok (.aload_n 0, 1) := by decide +kernel
theorem d13_6 : decode jdk_42_method_54_code 6 = .ok (.invokevirtual 335, 3) := by decide +kernel
theorem pd__28_29B : parseMethodDescriptor "()B" = some ⟨[], some .byte⟩ := by decide +kernel
theorem d13_9 : decode jdk_42_method_54_code 9 = .ok (.ishr, 1) := by decide +kernel
theorem d13_10 : decode jdk_42_method_54_code 10 = .ok (.ireturn, 1) := by decide +kernel
theorem ef_rmLen1 (m : MethodId) (so : Addr) : entryFrame m #[(.ref so)] 1 = mkF m 0 #[.val (.ref so)] [] := by first | (simp [entryFrame, mkF, argsToLocals, Value.category]; done) | rfl
abbrev rm_rmLen1 : Room := ({ frames := 1, cells := 0, slots := 0, locals := 13 } : Room)
def Q_rmLen1 (Z : State) (so : Addr) (tb : Addr) (kb : ClassId) (x0 : Int32) (cs : Int32) (h0 : Heap) (n0 : Nat) (v : Option Value) (h : Heap) (L : List Loc) : Prop := (v = some (.int (1 : Int32))) ∧ (Fr n0 L) ∧ (h = h0)
set_option maxRecDepth 65536 in
set_option maxHeartbeats 4000000 in
theorem rmLen1 (l : Launch) (Z : State) (a0 : Array Value) (hw : ∀ d ∈ tables_1, d.before a0 Z = true) (ws : List Jvm.Cond) (so : Addr) (tb : Addr) (kb : ClassId) (x0 : Int32) (cs : Int32) (h0 : Heap) (n0 : Nat) (O : Old Z n0 h0) (S_CS : Sta Z Z.heap "java/lang/String" "COMPACT_STRINGS" "Z" (.int cs)) (E_so : Exa Z h0 so "java/lang/String") (F_value_so : Fld Z h0 so "java/lang/String" "value" "[B" (.ref tb)) (F_coder_so : Fld Z h0 so "java/lang/String" "coder" "B" (.int (0 : Int32))) (V_tb : Arv Z h0 tb kb .byte (1 : Int32) [(.int (x0.toInt8.toInt32))] (.int (0 : Int32))) (hcs : ¬ (cs = (0 : Int32))) :
    MetFree l y_5 (head1 (Jvm.Cond.code y_5 jdk_42_method_54_code 1 (some .int) :: ws) rm_rmLen1) (fun A_ U => A_ = #[(.ref so)] ∧ Z.Warmed39 U.vm ∧ U.heap = h0) (fun _ _ _ _ _ => True) (fun _ U o U' => ∃ v L, o = .returned v ∧ Q_rmLen1 Z so tb kb x0 cs h0 n0 v U'.heap L ∧ FrameEnd U o U' L rm_rmLen1.cells rm_rmLen1.slots) := by
 refine MetFree.of_bodySF (plainFor_of_name pn_java_lang_String) hisR ?_
 intro p e s m args below meth c s₁ Bd hml0 hP hK
 obtain ⟨rfl, hZ, hh⟩ := hP
 have hx := Bd.exec
 have hby := Bd.bytes
 have hml : c.maxLocals = 1 := hml0
 have hown : s.vm.findClass "java/lang/String" = some m.cls := findClass_of_methodNamed Bd.named
 have hnm := (name_of_methodNamed Bd.named Bd.method).1
 have X0 : Stand p l e rm_rmLen1 s m #[(.ref so)] below meth c s₁ [] 0 0 := Stand.of_body Bd
 have e0 : s₁.heap = h0 := by rw [← hh, Bd.state]; rfl
 have N0 := Fr.nil n0
 refine Go.step (p := p) (e := e) (below := below) (G := fun o U' => ∃ v L, o = .returned v ∧ Q_rmLen1 Z so tb kb x0 cs h0 n0 v U'.heap L ∧ FrameEnd s o U' L rm_rmLen1.cells rm_rmLen1.slots) (S' := s₁.setTop (mkF m 0 #[rv so] [])) (fun t k => castTop (ef_rmLen1 m so) k) ?_
 refine Go.step (S' := s₁.setTop (mkF m 1 #[rv so] [(.ref so)])) (fun t k => ?_) ?_
 · refine XS.aloadN X0.here hx rfl (hb hby d13_0) rfl rfl ?_
   exact k
 obtain ⟨T1, X1, e1, st1⟩ := getF X0 hx hZ hown (host := "") (Or.inl (own_w hw 33 rfl)) Via.refl e0 F_value_so (g := (mkF m 1 #[rv so] [(.ref so)])) rfl rfl (hb hby d13_1)
 refine Go.step st1 ?_
 obtain ⟨cl2, Ar2, -, S2, N2_, -, -⟩ := id V_tb
 refine Go.step (S' := T1.setTop (mkF m 5 #[rv so] [(.int cl2.slots.size.toInt32)])) (fun t k => X1.arraylength hx (by rw [e1]; exact Ar2.1) (State.isArrayOf_alike hZ.alike Ar2.2.1) (g := (mkF m 4 #[rv so] [(.ref tb)])) rfl rfl (hb hby d13_4) _ k) ?_
 rw [len_of S2 N2_]
 show Go p e below _ (T1.setTop (mkF m 5 #[rv so] [(.int (1 : Int32))]))
 refine Go.step (S' := T1.setTop (mkF m 6 #[rv so] [(.ref so), (.int (1 : Int32))])) (fun t k => ?_) ?_
 · refine XS.aloadN X1.here hx rfl (hb hby d13_5) rfl rfl ?_
   exact k
 obtain ⟨cq3, kq3, q3a, q3b, q3c⟩ := isOf hZ e1 E_so
 obtain ⟨_, _, ⟨T3, L3, k3, n3⟩, -, X3, ⟨Lc3, hQ3, l3, y3, z3⟩, st3⟩ := X1.virtualBack hx (y := y_0) (z := y_0) hown (mvT hZ (own_w hw 75 rfl)) (mvT hZ (own_w hw 76 rfl)) (notFace_of_selects (args := #[]) (mvT hZ (own_w hw 78 rfl))) (mvT hZ (own_w hw 78 rfl)) (mvT hZ (own_w hw 77 rfl)) (by decide) (backOf (W := 1) (rmCod l Z a0 hw [] so cs h0 n0 O S_CS F_coder_so hcs) hZ (own_w hw 79 rfl) (own_w hw 7 rfl) (by decide) (by decide)) q3a q3c (g := (mkF m 6 #[rv so] [(.ref so), (.int (1 : Int32))])) rfl (by rw [hml]; rfl) (Steps.refl _) (argsL := []) (rest := [(.int (1 : Int32))]) (lenOf pd__28_29B rfl) rfl (Nat.le_of_eq rfl) (hb hby d13_6) (fun _ _ => ⟨rfl, e1, (by decide : 0 + 0 ≤ _), (by decide : 0 + 0 ≤ _)⟩)
 dsimp only [Pt.U, Pt.locs, Pt.cells, Pt.slots] at X3 l3 y3 z3 st3 hQ3
 subst l3 y3 z3
 obtain ⟨rfl, Nq3, e3⟩ := hQ3
 have N3 := Fr.app N0 Nq3
 refine Go.step (fun t k => st3.trans k) ?_
 refine Go.step (S' := T3.setTop (mkF m 10 #[rv so] [(.int ((1 : Int32) >>> ((0 : Int32) &&& 31)))])) (fun t k => ?_) ?_
 · refine XS.ishr X3.here hx rfl (hb hby d13_9) rfl ?_
   exact k
 rw [show ((1 : Int32) >>> ((0 : Int32) &&& 31)) = (1 : Int32) from by decide]
 show Go p e below _ (T3.setTop (mkF m 10 #[rv so] [(.int (1 : Int32))]))
 obtain ⟨fs, hr, hrun, hended, hW, hsame⟩ := X3.leave (v := some (.int (1 : Int32))) (fun h => by rw [Bd.returns] at h; cases h)
 refine Go.fin (S' := T3.setFrames fs) ?_ hrun hended ⟨_, _, rfl, ?_, ⟨_, rfl⟩, hW, hsame.mono (by decide) (by decide)⟩
 · exact retOut X3 hx Bd.returns rfl (Or.inl ⟨rfl, Or.inl rfl, _, rfl⟩) (hb hby d13_10) hr
 · show Q_rmLen1 Z so tb kb x0 cs h0 n0 (some (.int (1 : Int32))) T3.heap _
   rw [e3]
   exact ⟨rfl, N3, rfl⟩
abbrev y_6 : MethodName := ⟨"java/lang/StringLatin1", "charAt", "([BI)C"⟩
theorem pn_java_lang_StringLatin1 : plainName "java/lang/StringLatin1" = true := by first | (simp [plainName, overriddenIn]; done) | decide +kernel
theorem d17_0 : decode jdk_43_method_2_code 0 = .ok (.iload_n 1, 1) := by decide +kernel
theorem d17_1 : decode jdk_43_method_2_code 1 = .ok (.aload_n 0, 1) := by decide +kernel
theorem d17_2 : decode jdk_43_method_2_code 2 = .ok (.arraylength, 1) := by decide +kernel
theorem d17_3 : decode jdk_43_method_2_code 3 = .ok (.invokestatic 9, 3) := by decide +kernel
theorem pd__28II_29V : parseMethodDescriptor "(II)V" = some ⟨[.int, .int], none⟩ := by decide +kernel
theorem d17_6 : decode jdk_43_method_2_code 6 = .ok (.aload_n 0, 1) := by decide +kernel
theorem d17_7 : decode jdk_43_method_2_code 7 = .ok (.iload_n 1, 1) := by decide +kernel
theorem d17_8 : decode jdk_43_method_2_code 8 = .ok (.baload, 1) := by decide +kernel
theorem d17_9 : decode jdk_43_method_2_code 9 = .ok (.sipush 255, 3) := by decide +kernel
theorem d17_12 : decode jdk_43_method_2_code 12 = .ok (.iand, 1) := by decide +kernel
theorem d17_13 : decode jdk_43_method_2_code 13 = .ok (.i2c, 1) := by decide +kernel
theorem d17_14 : decode jdk_43_method_2_code 14 = .ok (.ireturn, 1) := by decide +kernel
theorem ef_rmLC1_0 (m : MethodId) (tb : Addr) : entryFrame m #[(.ref tb), (.int (0 : Int32))] 2 = mkF m 0 #[.val (.ref tb), .val (.int (0 : Int32))] [] := by first | (simp [entryFrame, mkF, argsToLocals, Value.category]; done) | rfl
abbrev rm_rmLC1_0 : Room := ({ frames := 2, cells := 0, slots := 0, locals := 27 } : Room)
def Q_rmLC1_0 (Z : State) (tb : Addr) (kb : ClassId) (x0 : Int32) (sf : Value) (h0 : Heap) (n0 : Nat) (v : Option Value) (h : Heap) (L : List Loc) : Prop := (v = some (.int x0)) ∧ (Fr n0 L) ∧ (h = h0)
set_option maxRecDepth 65536 in
set_option maxHeartbeats 4000000 in
theorem rmLC1_0 (l : Launch) (Z : State) (a0 : Array Value) (hw : ∀ d ∈ tables_1, d.before a0 Z = true) (ws : List Jvm.Cond) (tb : Addr) (kb : ClassId) (x0 : Int32) (sf : Value) (h0 : Heap) (n0 : Nat) (O : Old Z n0 h0) (V_tb : Arv Z h0 tb kb .byte (1 : Int32) [(.int (x0.toInt8.toInt32))] (.int (0 : Int32))) (S_FM : Sta Z Z.heap "jdk/internal/util/Preconditions" "SIOOBE_FORMATTER" "Ljava/util/function/BiFunction;" sf) (hsf : sf.isRef = true) (hl0 : ¬ (x0 < (0 : Int32))) (hl1 : ¬ ((255 : Int32) < x0)) :
    MetFree l y_6 (head1 (Jvm.Cond.code y_6 jdk_43_method_2_code 2 (some .char) :: ws) rm_rmLC1_0) (fun A_ U => A_ = #[(.ref tb), (.int (0 : Int32))] ∧ Z.Warmed39 U.vm ∧ U.heap = h0) (fun _ _ _ _ _ => True) (fun _ U o U' => ∃ v L, o = .returned v ∧ Q_rmLC1_0 Z tb kb x0 sf h0 n0 v U'.heap L ∧ FrameEnd U o U' L rm_rmLC1_0.cells rm_rmLC1_0.slots) := by
 refine MetFree.of_bodySF (plainFor_of_name pn_java_lang_StringLatin1) hisR ?_
 intro p e s m args below meth c s₁ Bd hml0 hP hK
 obtain ⟨rfl, hZ, hh⟩ := hP
 have hx := Bd.exec
 have hby := Bd.bytes
 have hml : c.maxLocals = 2 := hml0
 have hown : s.vm.findClass "java/lang/StringLatin1" = some m.cls := findClass_of_methodNamed Bd.named
 have hnm := (name_of_methodNamed Bd.named Bd.method).1
 have X0 : Stand p l e rm_rmLC1_0 s m #[(.ref tb), (.int (0 : Int32))] below meth c s₁ [] 0 0 := Stand.of_body Bd
 have e0 : s₁.heap = h0 := by rw [← hh, Bd.state]; rfl
 have N0 := Fr.nil n0
 refine Go.step (p := p) (e := e) (below := below) (G := fun o U' => ∃ v L, o = .returned v ∧ Q_rmLC1_0 Z tb kb x0 sf h0 n0 v U'.heap L ∧ FrameEnd s o U' L rm_rmLC1_0.cells rm_rmLC1_0.slots) (S' := s₁.setTop (mkF m 0 #[rv tb, iv (0 : Int32)] [])) (fun t k => castTop (ef_rmLC1_0 m tb) k) ?_
 refine Go.step (S' := s₁.setTop (mkF m 2 #[rv tb, iv (0 : Int32)] [(.ref tb), (.int (0 : Int32))])) (fun t k => ?_) ?_
 · refine XS.iloadN X0.here hx rfl (hb hby d17_0) rfl ?_
   refine XS.aloadN X0.here hx rfl (hb hby d17_1) rfl rfl ?_
   exact k
 obtain ⟨cl1, Ar1, -, S1, N1_, -, -⟩ := id V_tb
 refine Go.step (S' := s₁.setTop (mkF m 3 #[rv tb, iv (0 : Int32)] [(.int cl1.slots.size.toInt32), (.int (0 : Int32))])) (fun t k => X0.arraylength hx (by rw [e0]; exact Ar1.1) (State.isArrayOf_alike hZ.alike Ar1.2.1) (g := (mkF m 2 #[rv tb, iv (0 : Int32)] [(.ref tb), (.int (0 : Int32))])) rfl rfl (hb hby d17_2) _ k) ?_
 rw [len_of S1 N1_]
 show Go p e below _ (s₁.setTop (mkF m 3 #[rv tb, iv (0 : Int32)] [(.int (1 : Int32)), (.int (0 : Int32))]))
 obtain ⟨_, _, ⟨T2, L2, k2, n2⟩, -, X2, ⟨Lc2, hQ2, l2, y2, z2⟩, st2⟩ := Jvm.LawKit.callS X0 hx (y := y_3) hown (mvT hZ (own_w hw 94 rfl)) (mvT hZ (own_w hw 95 rfl)) (mvT hZ (own_w hw 7 rfl)) (mvT hZ (own_w hw 96 rfl)) (by decide) (backOf (W := 0) (rmCk l Z a0 hw [] (0 : Int32) (1 : Int32) sf h0 n0 O (by decide) (by decide) S_FM hsf) hZ (own_w hw 96 rfl) (own_w hw 7 rfl) (by decide) (by decide)) (g := (mkF m 3 #[rv tb, iv (0 : Int32)] [(.int (1 : Int32)), (.int (0 : Int32))])) rfl (by rw [hml]; rfl) (argsL := [(.int (0 : Int32)), (.int (1 : Int32))]) (rest := []) (lenOf pd__28II_29V rfl) rfl (Nat.le_of_eq rfl) (hb hby d17_3) (fun _ _ => ⟨rfl, e0, (by decide : 0 + 0 ≤ _), (by decide : 0 + 0 ≤ _)⟩)
 dsimp only [Pt.U, Pt.locs, Pt.cells, Pt.slots] at X2 l2 y2 z2 st2 hQ2
 subst l2 y2 z2
 obtain ⟨rfl, Nq2, e2⟩ := hQ2
 have N2 := Fr.app N0 Nq2
 refine Go.step st2 ?_
 refine Go.step (S' := T2.setTop (mkF m 8 #[rv tb, iv (0 : Int32)] [(.int (0 : Int32)), (.ref tb)])) (fun t k => ?_) ?_
 · refine XS.aloadN X2.here hx rfl (hb hby d17_6) rfl rfl ?_
   refine XS.iloadN X2.here hx rfl (hb hby d17_7) rfl ?_
   exact k
 obtain ⟨cl3, Ar3, -, S3, -, H3, -⟩ := id V_tb
 have hin3 : ¬ ((0 : Int32) < 0 ∨ cl3.slots.size ≤ ((0 : Int32)).toNatClampNeg) := inb_of S3 ⟨by decide, by decide⟩
 refine Go.step (S' := T2.setTop (mkF m 9 #[rv tb, iv (0 : Int32)] [(.int (x0.toInt8.toInt32))])) (fun t k => X2.baloadBytes hx (j := (0 : Int32)) (v := (.int (x0.toInt8.toInt32))) (by rw [e2]; exact Ar3.1) (State.isArrayOf_alike hZ.alike Ar3.2.1) Ar3.2.2 hin3 (H3.at hin3 rfl) (g := (mkF m 8 #[rv tb, iv (0 : Int32)] [(.int (0 : Int32)), (.ref tb)])) rfl rfl (hb hby d17_8) _ k) ?_
 refine Go.step (S' := T2.setTop (mkF m 14 #[rv tb, iv (0 : Int32)] [(.int (((x0.toInt8.toInt32) &&& (255 : Int32)).toUInt32.toUInt16.toUInt32.toInt32))])) (fun t k => ?_) ?_
 · refine XS.sipush X2.here hx rfl (hb hby d17_9) ?_
   refine XS.iand X2.here hx rfl (hb hby d17_12) rfl ?_
   refine XS.i2c X2.here hx rfl (hb hby d17_13) rfl ?_
   exact k
 obtain ⟨fs, hr, hrun, hended, hW, hsame⟩ := X2.leave (v := some (.int (((x0.toInt8.toInt32) &&& (255 : Int32)).toUInt32.toUInt16.toUInt32.toInt32))) (fun h => by rw [Bd.returns] at h; cases h)
 refine Go.fin (S' := T2.setFrames fs) ?_ hrun hended ⟨_, _, rfl, ?_, ⟨_, rfl⟩, hW, hsame.mono (by decide) (by decide)⟩
 · exact retOut X2 hx Bd.returns (Jvm.Free.XT.narrow_c _) (Or.inl ⟨rfl, Or.inr (Or.inr (Or.inr (Or.inl rfl))), _, rfl⟩) (hb hby d17_14) hr
 · show Q_rmLC1_0 Z tb kb x0 sf h0 n0 (some (.int (((x0.toInt8.toInt32) &&& (255 : Int32)).toUInt32.toUInt16.toUInt32.toInt32))) T2.heap _
   rw [e2]
   exact ⟨(congrArg (fun z => some (Value.int z)) (own_char hl0 hl1)), N2, rfl⟩
abbrev y_7 : MethodName := ⟨"java/lang/String", "charAt", "(I)C"⟩
theorem d15_0 : decode jdk_42_method_56_code 0 = .ok (.aload_n 0, 1) := by decide +kernel
theorem d15_1 : decode jdk_42_method_56_code 1 = .ok (.invokevirtual 492, 3) := by decide +kernel
theorem pd__28_29Z : parseMethodDescriptor "()Z" = some ⟨[], some .boolean⟩ := by decide +kernel
theorem d15_4 : decode jdk_42_method_56_code 4 = .ok (.ifCond .eq 12, 3) := by decide +kernel
theorem d15_7 : decode jdk_42_method_56_code 7 = .ok (.aload_n 0, 1) := by decide +kernel
theorem d15_8 : decode jdk_42_method_56_code 8 = .ok (.getfield 9, 3) := by decide +kernel
theorem d15_11 : decode jdk_42_method_56_code 11 = .ok (.iload_n 1, 1) := by decide +kernel
theorem d15_12 : decode jdk_42_method_56_code 12 = .ok (.invokestatic 495, 3) := by decide +kernel
theorem pd__28_5bBI_29C : parseMethodDescriptor "([BI)C" = some ⟨[(.array .byte), .int], some .char⟩ := by decide +kernel
theorem d15_15 : decode jdk_42_method_56_code 15 = .ok (.ireturn, 1) := by decide +kernel
theorem ef_rmCh1_0 (m : MethodId) (so : Addr) : entryFrame m #[(.ref so), (.int (0 : Int32))] 2 = mkF m 0 #[.val (.ref so), .val (.int (0 : Int32))] [] := by first | (simp [entryFrame, mkF, argsToLocals, Value.category]; done) | rfl
abbrev rm_rmCh1_0 : Room := ({ frames := 3, cells := 0, slots := 0, locals := 40 } : Room)
def Q_rmCh1_0 (Z : State) (so : Addr) (tb : Addr) (kb : ClassId) (x0 : Int32) (cs : Int32) (sf : Value) (h0 : Heap) (n0 : Nat) (v : Option Value) (h : Heap) (L : List Loc) : Prop := (v = some (.int x0)) ∧ (Fr n0 L) ∧ (h = h0)
set_option maxRecDepth 65536 in
set_option maxHeartbeats 4000000 in
theorem rmCh1_0 (l : Launch) (Z : State) (a0 : Array Value) (hw : ∀ d ∈ tables_1, d.before a0 Z = true) (ws : List Jvm.Cond) (so : Addr) (tb : Addr) (kb : ClassId) (x0 : Int32) (cs : Int32) (sf : Value) (h0 : Heap) (n0 : Nat) (O : Old Z n0 h0) (S_CS : Sta Z Z.heap "java/lang/String" "COMPACT_STRINGS" "Z" (.int cs)) (S_FM : Sta Z Z.heap "jdk/internal/util/Preconditions" "SIOOBE_FORMATTER" "Ljava/util/function/BiFunction;" sf) (E_so : Exa Z h0 so "java/lang/String") (F_value_so : Fld Z h0 so "java/lang/String" "value" "[B" (.ref tb)) (F_coder_so : Fld Z h0 so "java/lang/String" "coder" "B" (.int (0 : Int32))) (V_tb : Arv Z h0 tb kb .byte (1 : Int32) [(.int (x0.toInt8.toInt32))] (.int (0 : Int32))) (hcs : ¬ (cs = (0 : Int32))) (hsf : sf.isRef = true) (hl0 : ¬ (x0 < (0 : Int32))) (hl1 : ¬ ((255 : Int32) < x0)) :
    MetFree l y_7 (head1 (Jvm.Cond.code y_7 jdk_42_method_56_code 2 (some .char) :: ws) rm_rmCh1_0) (fun A_ U => A_ = #[(.ref so), (.int (0 : Int32))] ∧ Z.Warmed39 U.vm ∧ U.heap = h0) (fun _ _ _ _ _ => True) (fun _ U o U' => ∃ v L, o = .returned v ∧ Q_rmCh1_0 Z so tb kb x0 cs sf h0 n0 v U'.heap L ∧ FrameEnd U o U' L rm_rmCh1_0.cells rm_rmCh1_0.slots) := by
 refine MetFree.of_bodySF (plainFor_of_name pn_java_lang_String) hisR ?_
 intro p e s m args below meth c s₁ Bd hml0 hP hK
 obtain ⟨rfl, hZ, hh⟩ := hP
 have hx := Bd.exec
 have hby := Bd.bytes
 have hml : c.maxLocals = 2 := hml0
 have hown : s.vm.findClass "java/lang/String" = some m.cls := findClass_of_methodNamed Bd.named
 have hnm := (name_of_methodNamed Bd.named Bd.method).1
 have X0 : Stand p l e rm_rmCh1_0 s m #[(.ref so), (.int (0 : Int32))] below meth c s₁ [] 0 0 := Stand.of_body Bd
 have e0 : s₁.heap = h0 := by rw [← hh, Bd.state]; rfl
 have N0 := Fr.nil n0
 refine Go.step (p := p) (e := e) (below := below) (G := fun o U' => ∃ v L, o = .returned v ∧ Q_rmCh1_0 Z so tb kb x0 cs sf h0 n0 v U'.heap L ∧ FrameEnd s o U' L rm_rmCh1_0.cells rm_rmCh1_0.slots) (S' := s₁.setTop (mkF m 0 #[rv so, iv (0 : Int32)] [])) (fun t k => castTop (ef_rmCh1_0 m so) k) ?_
 refine Go.step (S' := s₁.setTop (mkF m 1 #[rv so, iv (0 : Int32)] [(.ref so)])) (fun t k => ?_) ?_
 · refine XS.aloadN X0.here hx rfl (hb hby d15_0) rfl rfl ?_
   exact k
 obtain ⟨cq1, kq1, q1a, q1b, q1c⟩ := isOf hZ e0 E_so
 obtain ⟨_, _, ⟨T1, L1, k1, n1⟩, -, X1, ⟨Lc1, hQ1, l1, y1, z1⟩, st1⟩ := X0.virtualBack hx (y := y_1) (z := y_1) hown (mvT hZ (own_w hw 85 rfl)) (mvT hZ (own_w hw 86 rfl)) (notFace_of_selects (args := #[]) (mvT hZ (own_w hw 88 rfl))) (mvT hZ (own_w hw 88 rfl)) (mvT hZ (own_w hw 87 rfl)) (by decide) (backOf (W := 0) (rmLat l Z a0 hw [] so cs h0 n0 O S_CS F_coder_so hcs) hZ (own_w hw 89 rfl) (own_w hw 7 rfl) (by decide) (by decide)) q1a q1c (g := (mkF m 1 #[rv so, iv (0 : Int32)] [(.ref so)])) rfl (by rw [hml]; rfl) (Steps.refl _) (argsL := []) (rest := []) (lenOf pd__28_29Z rfl) rfl (Nat.le_of_eq rfl) (hb hby d15_1) (fun _ _ => ⟨rfl, e0, (by decide : 0 + 0 ≤ _), (by decide : 0 + 0 ≤ _)⟩)
 dsimp only [Pt.U, Pt.locs, Pt.cells, Pt.slots] at X1 l1 y1 z1 st1 hQ1
 subst l1 y1 z1
 obtain ⟨rfl, Nq1, e1⟩ := hQ1
 have N1 := Fr.app N0 Nq1
 refine Go.step (fun t k => st1.trans k) ?_
 refine Go.step (S' := T1.setTop (mkF m 8 #[rv so, iv (0 : Int32)] [(.ref so)])) (fun t k => ?_) ?_
 · refine XS.ifNo X1.here hx rfl (hb hby d15_4) rfl ((if0 _ _).trans (feq ((by decide) : ¬ ((1 : Int32) = (0 : Int32)))).1) ?_
   refine XS.aloadN X1.here hx rfl (hb hby d15_7) rfl rfl ?_
   exact k
 obtain ⟨T2, X2, e2, st2⟩ := getF X1 hx hZ hown (host := "") (Or.inl (own_w hw 33 rfl)) Via.refl e1 F_value_so (g := (mkF m 8 #[rv so, iv (0 : Int32)] [(.ref so)])) rfl rfl (hb hby d15_8)
 refine Go.step st2 ?_
 refine Go.step (S' := T2.setTop (mkF m 12 #[rv so, iv (0 : Int32)] [(.int (0 : Int32)), (.ref tb)])) (fun t k => ?_) ?_
 · refine XS.iloadN X2.here hx rfl (hb hby d15_11) rfl ?_
   exact k
 obtain ⟨_, _, ⟨T3, L3, k3, n3⟩, -, X3, ⟨Lc3, hQ3, l3, y3, z3⟩, st3⟩ := Jvm.LawKit.callS X2 hx (y := y_6) hown (mvT hZ (own_w hw 90 rfl)) (mvT hZ (own_w hw 91 rfl)) (mvT hZ (own_w hw 92 rfl)) (mvT hZ (own_w hw 93 rfl)) (by decide) (backOf (W := 0) (rmLC1_0 l Z a0 hw [] tb kb x0 sf h0 n0 O V_tb S_FM hsf hl0 hl1) hZ (own_w hw 93 rfl) (own_w hw 92 rfl) (by decide) (by decide)) (g := (mkF m 12 #[rv so, iv (0 : Int32)] [(.int (0 : Int32)), (.ref tb)])) rfl (by rw [hml]; rfl) (argsL := [(.ref tb), (.int (0 : Int32))]) (rest := []) (lenOf pd__28_5bBI_29C rfl) rfl (Nat.le_of_eq rfl) (hb hby d15_12) (fun _ _ => ⟨rfl, e2, (by decide : 0 + 0 ≤ _), (by decide : 0 + 0 ≤ _)⟩)
 dsimp only [Pt.U, Pt.locs, Pt.cells, Pt.slots] at X3 l3 y3 z3 st3 hQ3
 subst l3 y3 z3
 obtain ⟨rfl, Nq3, e3⟩ := hQ3
 have N3 := Fr.app N1 Nq3
 refine Go.step st3 ?_
 obtain ⟨fs, hr, hrun, hended, hW, hsame⟩ := X3.leave (v := some (.int x0)) (fun h => by rw [Bd.returns] at h; cases h)
 refine Go.fin (S' := T3.setFrames fs) ?_ hrun hended ⟨_, _, rfl, ?_, ⟨_, rfl⟩, hW, hsame.mono (by decide) (by decide)⟩
 · exact retOut X3 hx Bd.returns (own_nc hl0 hl1) (Or.inl ⟨rfl, Or.inr (Or.inr (Or.inr (Or.inl rfl))), _, rfl⟩) (hb hby d15_15) hr
 · show Q_rmCh1_0 Z so tb kb x0 cs sf h0 n0 (some (.int x0)) T3.heap _
   rw [e3]
   exact ⟨rfl, N3, rfl⟩
theorem ef_rmEmp2 (m : MethodId) (so : Addr) : entryFrame m #[(.ref so)] 1 = mkF m 0 #[.val (.ref so)] [] := by first | (simp [entryFrame, mkF, argsToLocals, Value.category]; done) | rfl
abbrev rm_rmEmp2 : Room := ({ frames := 0, cells := 0, slots := 0, locals := 0 } : Room)
def Q_rmEmp2 (Z : State) (so : Addr) (tb : Addr) (kb : ClassId) (x0 : Int32) (x1 : Int32) (h0 : Heap) (n0 : Nat) (v : Option Value) (h : Heap) (L : List Loc) : Prop := (v = some (.int (0 : Int32))) ∧ (Fr n0 L) ∧ (h = h0)
set_option maxRecDepth 65536 in
set_option maxHeartbeats 4000000 in
theorem rmEmp2 (l : Launch) (Z : State) (a0 : Array Value) (hw : ∀ d ∈ tables_1, d.before a0 Z = true) (ws : List Jvm.Cond) (so : Addr) (tb : Addr) (kb : ClassId) (x0 : Int32) (x1 : Int32) (h0 : Heap) (n0 : Nat) (O : Old Z n0 h0) (F_value_so : Fld Z h0 so "java/lang/String" "value" "[B" (.ref tb)) (V_tb : Arv Z h0 tb kb .byte (2 : Int32) [(.int (x0.toInt8.toInt32)), (.int (x1.toInt8.toInt32))] (.int (0 : Int32))) :
    MetFree l y_4 (head1 (Jvm.Cond.code y_4 jdk_42_method_55_code 1 (some .boolean) :: ws) rm_rmEmp2) (fun A_ U => A_ = #[(.ref so)] ∧ Z.Warmed39 U.vm ∧ U.heap = h0) (fun _ _ _ _ _ => True) (fun _ U o U' => ∃ v L, o = .returned v ∧ Q_rmEmp2 Z so tb kb x0 x1 h0 n0 v U'.heap L ∧ FrameEnd U o U' L rm_rmEmp2.cells rm_rmEmp2.slots) := by
 refine MetFree.of_bodySF (plainFor_of_name pn_java_lang_String) hisR ?_
 intro p e s m args below meth c s₁ Bd hml0 hP hK
 obtain ⟨rfl, hZ, hh⟩ := hP
 have hx := Bd.exec
 have hby := Bd.bytes
 have hml : c.maxLocals = 1 := hml0
 have hown : s.vm.findClass "java/lang/String" = some m.cls := findClass_of_methodNamed Bd.named
 have hnm := (name_of_methodNamed Bd.named Bd.method).1
 have X0 : Stand p l e rm_rmEmp2 s m #[(.ref so)] below meth c s₁ [] 0 0 := Stand.of_body Bd
 have e0 : s₁.heap = h0 := by rw [← hh, Bd.state]; rfl
 have N0 := Fr.nil n0
 refine Go.step (p := p) (e := e) (below := below) (G := fun o U' => ∃ v L, o = .returned v ∧ Q_rmEmp2 Z so tb kb x0 x1 h0 n0 v U'.heap L ∧ FrameEnd s o U' L rm_rmEmp2.cells rm_rmEmp2.slots) (S' := s₁.setTop (mkF m 0 #[rv so] [])) (fun t k => castTop (ef_rmEmp2 m so) k) ?_
 refine Go.step (S' := s₁.setTop (mkF m 1 #[rv so] [(.ref so)])) (fun t k => ?_) ?_
 · refine XS.aloadN X0.here hx rfl (hb hby d12_0) rfl rfl ?_
   exact k
 obtain ⟨T1, X1, e1, st1⟩ := getF X0 hx hZ hown (host := "") (Or.inl (own_w hw 33 rfl)) Via.refl e0 F_value_so (g := (mkF m 1 #[rv so] [(.ref so)])) rfl rfl (hb hby d12_1)
 refine Go.step st1 ?_
 obtain ⟨cl2, Ar2, -, S2, N2_, -, -⟩ := id V_tb
 refine Go.step (S' := T1.setTop (mkF m 5 #[rv so] [(.int cl2.slots.size.toInt32)])) (fun t k => X1.arraylength hx (by rw [e1]; exact Ar2.1) (State.isArrayOf_alike hZ.alike Ar2.2.1) (g := (mkF m 4 #[rv so] [(.ref tb)])) rfl rfl (hb hby d12_4) _ k) ?_
 rw [len_of S2 N2_]
 show Go p e below _ (T1.setTop (mkF m 5 #[rv so] [(.int (2 : Int32))]))
 refine Go.step (S' := T1.setTop (mkF m 13 #[rv so] [(.int (0 : Int32))])) (fun t k => ?_) ?_
 · refine XS.ifYes X1.here hx rfl (pc0 := 5) (pc' := 12) rfl (hb hby d12_5) rfl ((if0 _ _).trans (feq ((by decide) : ¬ ((2 : Int32) = (0 : Int32)))).2) (by decide) (by decide) ?_
   refine XS.iconst X1.here hx rfl (hb hby d12_12) ?_
   exact k
 obtain ⟨fs, hr, hrun, hended, hW, hsame⟩ := X1.leave (v := some (.int (0 : Int32))) (fun h => by rw [Bd.returns] at h; cases h)
 refine Go.fin (S' := T1.setFrames fs) ?_ hrun hended ⟨_, _, rfl, ?_, ⟨_, rfl⟩, hW, hsame.mono (by decide) (by decide)⟩
 · exact retOut X1 hx Bd.returns (by decide) (Or.inl ⟨rfl, Or.inr (Or.inl rfl), _, rfl⟩) (hb hby d12_13) hr
 · show Q_rmEmp2 Z so tb kb x0 x1 h0 n0 (some (.int (0 : Int32))) T1.heap _
   rw [e1]
   exact ⟨rfl, N0, rfl⟩
theorem ef_rmLen2 (m : MethodId) (so : Addr) : entryFrame m #[(.ref so)] 1 = mkF m 0 #[.val (.ref so)] [] := by first | (simp [entryFrame, mkF, argsToLocals, Value.category]; done) | rfl
abbrev rm_rmLen2 : Room := ({ frames := 1, cells := 0, slots := 0, locals := 13 } : Room)
def Q_rmLen2 (Z : State) (so : Addr) (tb : Addr) (kb : ClassId) (x0 : Int32) (x1 : Int32) (cs : Int32) (h0 : Heap) (n0 : Nat) (v : Option Value) (h : Heap) (L : List Loc) : Prop := (v = some (.int (2 : Int32))) ∧ (Fr n0 L) ∧ (h = h0)
set_option maxRecDepth 65536 in
set_option maxHeartbeats 4000000 in
theorem rmLen2 (l : Launch) (Z : State) (a0 : Array Value) (hw : ∀ d ∈ tables_1, d.before a0 Z = true) (ws : List Jvm.Cond) (so : Addr) (tb : Addr) (kb : ClassId) (x0 : Int32) (x1 : Int32) (cs : Int32) (h0 : Heap) (n0 : Nat) (O : Old Z n0 h0) (S_CS : Sta Z Z.heap "java/lang/String" "COMPACT_STRINGS" "Z" (.int cs)) (E_so : Exa Z h0 so "java/lang/String") (F_value_so : Fld Z h0 so "java/lang/String" "value" "[B" (.ref tb)) (F_coder_so : Fld Z h0 so "java/lang/String" "coder" "B" (.int (0 : Int32))) (V_tb : Arv Z h0 tb kb .byte (2 : Int32) [(.int (x0.toInt8.toInt32)), (.int (x1.toInt8.toInt32))] (.int (0 : Int32))) (hcs : ¬ (cs = (0 : Int32))) :
    MetFree l y_5 (head1 (Jvm.Cond.code y_5 jdk_42_method_54_code 1 (some .int) :: ws) rm_rmLen2) (fun A_ U => A_ = #[(.ref so)] ∧ Z.Warmed39 U.vm ∧ U.heap = h0) (fun _ _ _ _ _ => True) (fun _ U o U' => ∃ v L, o = .returned v ∧ Q_rmLen2 Z so tb kb x0 x1 cs h0 n0 v U'.heap L ∧ FrameEnd U o U' L rm_rmLen2.cells rm_rmLen2.slots) := by
 refine MetFree.of_bodySF (plainFor_of_name pn_java_lang_String) hisR ?_
 intro p e s m args below meth c s₁ Bd hml0 hP hK
 obtain ⟨rfl, hZ, hh⟩ := hP
 have hx := Bd.exec
 have hby := Bd.bytes
 have hml : c.maxLocals = 1 := hml0
 have hown : s.vm.findClass "java/lang/String" = some m.cls := findClass_of_methodNamed Bd.named
 have hnm := (name_of_methodNamed Bd.named Bd.method).1
 have X0 : Stand p l e rm_rmLen2 s m #[(.ref so)] below meth c s₁ [] 0 0 := Stand.of_body Bd
 have e0 : s₁.heap = h0 := by rw [← hh, Bd.state]; rfl
 have N0 := Fr.nil n0
 refine Go.step (p := p) (e := e) (below := below) (G := fun o U' => ∃ v L, o = .returned v ∧ Q_rmLen2 Z so tb kb x0 x1 cs h0 n0 v U'.heap L ∧ FrameEnd s o U' L rm_rmLen2.cells rm_rmLen2.slots) (S' := s₁.setTop (mkF m 0 #[rv so] [])) (fun t k => castTop (ef_rmLen2 m so) k) ?_
 refine Go.step (S' := s₁.setTop (mkF m 1 #[rv so] [(.ref so)])) (fun t k => ?_) ?_
 · refine XS.aloadN X0.here hx rfl (hb hby d13_0) rfl rfl ?_
   exact k
 obtain ⟨T1, X1, e1, st1⟩ := getF X0 hx hZ hown (host := "") (Or.inl (own_w hw 33 rfl)) Via.refl e0 F_value_so (g := (mkF m 1 #[rv so] [(.ref so)])) rfl rfl (hb hby d13_1)
 refine Go.step st1 ?_
 obtain ⟨cl2, Ar2, -, S2, N2_, -, -⟩ := id V_tb
 refine Go.step (S' := T1.setTop (mkF m 5 #[rv so] [(.int cl2.slots.size.toInt32)])) (fun t k => X1.arraylength hx (by rw [e1]; exact Ar2.1) (State.isArrayOf_alike hZ.alike Ar2.2.1) (g := (mkF m 4 #[rv so] [(.ref tb)])) rfl rfl (hb hby d13_4) _ k) ?_
 rw [len_of S2 N2_]
 show Go p e below _ (T1.setTop (mkF m 5 #[rv so] [(.int (2 : Int32))]))
 refine Go.step (S' := T1.setTop (mkF m 6 #[rv so] [(.ref so), (.int (2 : Int32))])) (fun t k => ?_) ?_
 · refine XS.aloadN X1.here hx rfl (hb hby d13_5) rfl rfl ?_
   exact k
 obtain ⟨cq3, kq3, q3a, q3b, q3c⟩ := isOf hZ e1 E_so
 obtain ⟨_, _, ⟨T3, L3, k3, n3⟩, -, X3, ⟨Lc3, hQ3, l3, y3, z3⟩, st3⟩ := X1.virtualBack hx (y := y_0) (z := y_0) hown (mvT hZ (own_w hw 75 rfl)) (mvT hZ (own_w hw 76 rfl)) (notFace_of_selects (args := #[]) (mvT hZ (own_w hw 78 rfl))) (mvT hZ (own_w hw 78 rfl)) (mvT hZ (own_w hw 77 rfl)) (by decide) (backOf (W := 1) (rmCod l Z a0 hw [] so cs h0 n0 O S_CS F_coder_so hcs) hZ (own_w hw 79 rfl) (own_w hw 7 rfl) (by decide) (by decide)) q3a q3c (g := (mkF m 6 #[rv so] [(.ref so), (.int (2 : Int32))])) rfl (by rw [hml]; rfl) (Steps.refl _) (argsL := []) (rest := [(.int (2 : Int32))]) (lenOf pd__28_29B rfl) rfl (Nat.le_of_eq rfl) (hb hby d13_6) (fun _ _ => ⟨rfl, e1, (by decide : 0 + 0 ≤ _), (by decide : 0 + 0 ≤ _)⟩)
 dsimp only [Pt.U, Pt.locs, Pt.cells, Pt.slots] at X3 l3 y3 z3 st3 hQ3
 subst l3 y3 z3
 obtain ⟨rfl, Nq3, e3⟩ := hQ3
 have N3 := Fr.app N0 Nq3
 refine Go.step (fun t k => st3.trans k) ?_
 refine Go.step (S' := T3.setTop (mkF m 10 #[rv so] [(.int ((2 : Int32) >>> ((0 : Int32) &&& 31)))])) (fun t k => ?_) ?_
 · refine XS.ishr X3.here hx rfl (hb hby d13_9) rfl ?_
   exact k
 rw [show ((2 : Int32) >>> ((0 : Int32) &&& 31)) = (2 : Int32) from by decide]
 show Go p e below _ (T3.setTop (mkF m 10 #[rv so] [(.int (2 : Int32))]))
 obtain ⟨fs, hr, hrun, hended, hW, hsame⟩ := X3.leave (v := some (.int (2 : Int32))) (fun h => by rw [Bd.returns] at h; cases h)
 refine Go.fin (S' := T3.setFrames fs) ?_ hrun hended ⟨_, _, rfl, ?_, ⟨_, rfl⟩, hW, hsame.mono (by decide) (by decide)⟩
 · exact retOut X3 hx Bd.returns rfl (Or.inl ⟨rfl, Or.inl rfl, _, rfl⟩) (hb hby d13_10) hr
 · show Q_rmLen2 Z so tb kb x0 x1 cs h0 n0 (some (.int (2 : Int32))) T3.heap _
   rw [e3]
   exact ⟨rfl, N3, rfl⟩
theorem ef_rmLC2_0 (m : MethodId) (tb : Addr) : entryFrame m #[(.ref tb), (.int (0 : Int32))] 2 = mkF m 0 #[.val (.ref tb), .val (.int (0 : Int32))] [] := by first | (simp [entryFrame, mkF, argsToLocals, Value.category]; done) | rfl
abbrev rm_rmLC2_0 : Room := ({ frames := 2, cells := 0, slots := 0, locals := 27 } : Room)
def Q_rmLC2_0 (Z : State) (tb : Addr) (kb : ClassId) (x0 : Int32) (x1 : Int32) (sf : Value) (h0 : Heap) (n0 : Nat) (v : Option Value) (h : Heap) (L : List Loc) : Prop := (v = some (.int x0)) ∧ (Fr n0 L) ∧ (h = h0)
set_option maxRecDepth 65536 in
set_option maxHeartbeats 4000000 in
theorem rmLC2_0 (l : Launch) (Z : State) (a0 : Array Value) (hw : ∀ d ∈ tables_1, d.before a0 Z = true) (ws : List Jvm.Cond) (tb : Addr) (kb : ClassId) (x0 : Int32) (x1 : Int32) (sf : Value) (h0 : Heap) (n0 : Nat) (O : Old Z n0 h0) (V_tb : Arv Z h0 tb kb .byte (2 : Int32) [(.int (x0.toInt8.toInt32)), (.int (x1.toInt8.toInt32))] (.int (0 : Int32))) (S_FM : Sta Z Z.heap "jdk/internal/util/Preconditions" "SIOOBE_FORMATTER" "Ljava/util/function/BiFunction;" sf) (hsf : sf.isRef = true) (hl0 : ¬ (x0 < (0 : Int32))) (hl1 : ¬ ((255 : Int32) < x0)) :
    MetFree l y_6 (head1 (Jvm.Cond.code y_6 jdk_43_method_2_code 2 (some .char) :: ws) rm_rmLC2_0) (fun A_ U => A_ = #[(.ref tb), (.int (0 : Int32))] ∧ Z.Warmed39 U.vm ∧ U.heap = h0) (fun _ _ _ _ _ => True) (fun _ U o U' => ∃ v L, o = .returned v ∧ Q_rmLC2_0 Z tb kb x0 x1 sf h0 n0 v U'.heap L ∧ FrameEnd U o U' L rm_rmLC2_0.cells rm_rmLC2_0.slots) := by
 refine MetFree.of_bodySF (plainFor_of_name pn_java_lang_StringLatin1) hisR ?_
 intro p e s m args below meth c s₁ Bd hml0 hP hK
 obtain ⟨rfl, hZ, hh⟩ := hP
 have hx := Bd.exec
 have hby := Bd.bytes
 have hml : c.maxLocals = 2 := hml0
 have hown : s.vm.findClass "java/lang/StringLatin1" = some m.cls := findClass_of_methodNamed Bd.named
 have hnm := (name_of_methodNamed Bd.named Bd.method).1
 have X0 : Stand p l e rm_rmLC2_0 s m #[(.ref tb), (.int (0 : Int32))] below meth c s₁ [] 0 0 := Stand.of_body Bd
 have e0 : s₁.heap = h0 := by rw [← hh, Bd.state]; rfl
 have N0 := Fr.nil n0
 refine Go.step (p := p) (e := e) (below := below) (G := fun o U' => ∃ v L, o = .returned v ∧ Q_rmLC2_0 Z tb kb x0 x1 sf h0 n0 v U'.heap L ∧ FrameEnd s o U' L rm_rmLC2_0.cells rm_rmLC2_0.slots) (S' := s₁.setTop (mkF m 0 #[rv tb, iv (0 : Int32)] [])) (fun t k => castTop (ef_rmLC2_0 m tb) k) ?_
 refine Go.step (S' := s₁.setTop (mkF m 2 #[rv tb, iv (0 : Int32)] [(.ref tb), (.int (0 : Int32))])) (fun t k => ?_) ?_
 · refine XS.iloadN X0.here hx rfl (hb hby d17_0) rfl ?_
   refine XS.aloadN X0.here hx rfl (hb hby d17_1) rfl rfl ?_
   exact k
 obtain ⟨cl1, Ar1, -, S1, N1_, -, -⟩ := id V_tb
 refine Go.step (S' := s₁.setTop (mkF m 3 #[rv tb, iv (0 : Int32)] [(.int cl1.slots.size.toInt32), (.int (0 : Int32))])) (fun t k => X0.arraylength hx (by rw [e0]; exact Ar1.1) (State.isArrayOf_alike hZ.alike Ar1.2.1) (g := (mkF m 2 #[rv tb, iv (0 : Int32)] [(.ref tb), (.int (0 : Int32))])) rfl rfl (hb hby d17_2) _ k) ?_
 rw [len_of S1 N1_]
 show Go p e below _ (s₁.setTop (mkF m 3 #[rv tb, iv (0 : Int32)] [(.int (2 : Int32)), (.int (0 : Int32))]))
 obtain ⟨_, _, ⟨T2, L2, k2, n2⟩, -, X2, ⟨Lc2, hQ2, l2, y2, z2⟩, st2⟩ := Jvm.LawKit.callS X0 hx (y := y_3) hown (mvT hZ (own_w hw 94 rfl)) (mvT hZ (own_w hw 95 rfl)) (mvT hZ (own_w hw 7 rfl)) (mvT hZ (own_w hw 96 rfl)) (by decide) (backOf (W := 0) (rmCk l Z a0 hw [] (0 : Int32) (2 : Int32) sf h0 n0 O (by decide) (by decide) S_FM hsf) hZ (own_w hw 96 rfl) (own_w hw 7 rfl) (by decide) (by decide)) (g := (mkF m 3 #[rv tb, iv (0 : Int32)] [(.int (2 : Int32)), (.int (0 : Int32))])) rfl (by rw [hml]; rfl) (argsL := [(.int (0 : Int32)), (.int (2 : Int32))]) (rest := []) (lenOf pd__28II_29V rfl) rfl (Nat.le_of_eq rfl) (hb hby d17_3) (fun _ _ => ⟨rfl, e0, (by decide : 0 + 0 ≤ _), (by decide : 0 + 0 ≤ _)⟩)
 dsimp only [Pt.U, Pt.locs, Pt.cells, Pt.slots] at X2 l2 y2 z2 st2 hQ2
 subst l2 y2 z2
 obtain ⟨rfl, Nq2, e2⟩ := hQ2
 have N2 := Fr.app N0 Nq2
 refine Go.step st2 ?_
 refine Go.step (S' := T2.setTop (mkF m 8 #[rv tb, iv (0 : Int32)] [(.int (0 : Int32)), (.ref tb)])) (fun t k => ?_) ?_
 · refine XS.aloadN X2.here hx rfl (hb hby d17_6) rfl rfl ?_
   refine XS.iloadN X2.here hx rfl (hb hby d17_7) rfl ?_
   exact k
 obtain ⟨cl3, Ar3, -, S3, -, H3, -⟩ := id V_tb
 have hin3 : ¬ ((0 : Int32) < 0 ∨ cl3.slots.size ≤ ((0 : Int32)).toNatClampNeg) := inb_of S3 ⟨by decide, by decide⟩
 refine Go.step (S' := T2.setTop (mkF m 9 #[rv tb, iv (0 : Int32)] [(.int (x0.toInt8.toInt32))])) (fun t k => X2.baloadBytes hx (j := (0 : Int32)) (v := (.int (x0.toInt8.toInt32))) (by rw [e2]; exact Ar3.1) (State.isArrayOf_alike hZ.alike Ar3.2.1) Ar3.2.2 hin3 (H3.at hin3 rfl) (g := (mkF m 8 #[rv tb, iv (0 : Int32)] [(.int (0 : Int32)), (.ref tb)])) rfl rfl (hb hby d17_8) _ k) ?_
 refine Go.step (S' := T2.setTop (mkF m 14 #[rv tb, iv (0 : Int32)] [(.int (((x0.toInt8.toInt32) &&& (255 : Int32)).toUInt32.toUInt16.toUInt32.toInt32))])) (fun t k => ?_) ?_
 · refine XS.sipush X2.here hx rfl (hb hby d17_9) ?_
   refine XS.iand X2.here hx rfl (hb hby d17_12) rfl ?_
   refine XS.i2c X2.here hx rfl (hb hby d17_13) rfl ?_
   exact k
 obtain ⟨fs, hr, hrun, hended, hW, hsame⟩ := X2.leave (v := some (.int (((x0.toInt8.toInt32) &&& (255 : Int32)).toUInt32.toUInt16.toUInt32.toInt32))) (fun h => by rw [Bd.returns] at h; cases h)
 refine Go.fin (S' := T2.setFrames fs) ?_ hrun hended ⟨_, _, rfl, ?_, ⟨_, rfl⟩, hW, hsame.mono (by decide) (by decide)⟩
 · exact retOut X2 hx Bd.returns (Jvm.Free.XT.narrow_c _) (Or.inl ⟨rfl, Or.inr (Or.inr (Or.inr (Or.inl rfl))), _, rfl⟩) (hb hby d17_14) hr
 · show Q_rmLC2_0 Z tb kb x0 x1 sf h0 n0 (some (.int (((x0.toInt8.toInt32) &&& (255 : Int32)).toUInt32.toUInt16.toUInt32.toInt32))) T2.heap _
   rw [e2]
   exact ⟨(congrArg (fun z => some (Value.int z)) (own_char hl0 hl1)), N2, rfl⟩
theorem ef_rmCh2_0 (m : MethodId) (so : Addr) : entryFrame m #[(.ref so), (.int (0 : Int32))] 2 = mkF m 0 #[.val (.ref so), .val (.int (0 : Int32))] [] := by first | (simp [entryFrame, mkF, argsToLocals, Value.category]; done) | rfl
abbrev rm_rmCh2_0 : Room := ({ frames := 3, cells := 0, slots := 0, locals := 40 } : Room)
def Q_rmCh2_0 (Z : State) (so : Addr) (tb : Addr) (kb : ClassId) (x0 : Int32) (x1 : Int32) (cs : Int32) (sf : Value) (h0 : Heap) (n0 : Nat) (v : Option Value) (h : Heap) (L : List Loc) : Prop := (v = some (.int x0)) ∧ (Fr n0 L) ∧ (h = h0)
set_option maxRecDepth 65536 in
set_option maxHeartbeats 4000000 in
theorem rmCh2_0 (l : Launch) (Z : State) (a0 : Array Value) (hw : ∀ d ∈ tables_1, d.before a0 Z = true) (ws : List Jvm.Cond) (so : Addr) (tb : Addr) (kb : ClassId) (x0 : Int32) (x1 : Int32) (cs : Int32) (sf : Value) (h0 : Heap) (n0 : Nat) (O : Old Z n0 h0) (S_CS : Sta Z Z.heap "java/lang/String" "COMPACT_STRINGS" "Z" (.int cs)) (S_FM : Sta Z Z.heap "jdk/internal/util/Preconditions" "SIOOBE_FORMATTER" "Ljava/util/function/BiFunction;" sf) (E_so : Exa Z h0 so "java/lang/String") (F_value_so : Fld Z h0 so "java/lang/String" "value" "[B" (.ref tb)) (F_coder_so : Fld Z h0 so "java/lang/String" "coder" "B" (.int (0 : Int32))) (V_tb : Arv Z h0 tb kb .byte (2 : Int32) [(.int (x0.toInt8.toInt32)), (.int (x1.toInt8.toInt32))] (.int (0 : Int32))) (hcs : ¬ (cs = (0 : Int32))) (hsf : sf.isRef = true) (hl0 : ¬ (x0 < (0 : Int32))) (hl1 : ¬ ((255 : Int32) < x0)) :
    MetFree l y_7 (head1 (Jvm.Cond.code y_7 jdk_42_method_56_code 2 (some .char) :: ws) rm_rmCh2_0) (fun A_ U => A_ = #[(.ref so), (.int (0 : Int32))] ∧ Z.Warmed39 U.vm ∧ U.heap = h0) (fun _ _ _ _ _ => True) (fun _ U o U' => ∃ v L, o = .returned v ∧ Q_rmCh2_0 Z so tb kb x0 x1 cs sf h0 n0 v U'.heap L ∧ FrameEnd U o U' L rm_rmCh2_0.cells rm_rmCh2_0.slots) := by
 refine MetFree.of_bodySF (plainFor_of_name pn_java_lang_String) hisR ?_
 intro p e s m args below meth c s₁ Bd hml0 hP hK
 obtain ⟨rfl, hZ, hh⟩ := hP
 have hx := Bd.exec
 have hby := Bd.bytes
 have hml : c.maxLocals = 2 := hml0
 have hown : s.vm.findClass "java/lang/String" = some m.cls := findClass_of_methodNamed Bd.named
 have hnm := (name_of_methodNamed Bd.named Bd.method).1
 have X0 : Stand p l e rm_rmCh2_0 s m #[(.ref so), (.int (0 : Int32))] below meth c s₁ [] 0 0 := Stand.of_body Bd
 have e0 : s₁.heap = h0 := by rw [← hh, Bd.state]; rfl
 have N0 := Fr.nil n0
 refine Go.step (p := p) (e := e) (below := below) (G := fun o U' => ∃ v L, o = .returned v ∧ Q_rmCh2_0 Z so tb kb x0 x1 cs sf h0 n0 v U'.heap L ∧ FrameEnd s o U' L rm_rmCh2_0.cells rm_rmCh2_0.slots) (S' := s₁.setTop (mkF m 0 #[rv so, iv (0 : Int32)] [])) (fun t k => castTop (ef_rmCh2_0 m so) k) ?_
 refine Go.step (S' := s₁.setTop (mkF m 1 #[rv so, iv (0 : Int32)] [(.ref so)])) (fun t k => ?_) ?_
 · refine XS.aloadN X0.here hx rfl (hb hby d15_0) rfl rfl ?_
   exact k
 obtain ⟨cq1, kq1, q1a, q1b, q1c⟩ := isOf hZ e0 E_so
 obtain ⟨_, _, ⟨T1, L1, k1, n1⟩, -, X1, ⟨Lc1, hQ1, l1, y1, z1⟩, st1⟩ := X0.virtualBack hx (y := y_1) (z := y_1) hown (mvT hZ (own_w hw 85 rfl)) (mvT hZ (own_w hw 86 rfl)) (notFace_of_selects (args := #[]) (mvT hZ (own_w hw 88 rfl))) (mvT hZ (own_w hw 88 rfl)) (mvT hZ (own_w hw 87 rfl)) (by decide) (backOf (W := 0) (rmLat l Z a0 hw [] so cs h0 n0 O S_CS F_coder_so hcs) hZ (own_w hw 89 rfl) (own_w hw 7 rfl) (by decide) (by decide)) q1a q1c (g := (mkF m 1 #[rv so, iv (0 : Int32)] [(.ref so)])) rfl (by rw [hml]; rfl) (Steps.refl _) (argsL := []) (rest := []) (lenOf pd__28_29Z rfl) rfl (Nat.le_of_eq rfl) (hb hby d15_1) (fun _ _ => ⟨rfl, e0, (by decide : 0 + 0 ≤ _), (by decide : 0 + 0 ≤ _)⟩)
 dsimp only [Pt.U, Pt.locs, Pt.cells, Pt.slots] at X1 l1 y1 z1 st1 hQ1
 subst l1 y1 z1
 obtain ⟨rfl, Nq1, e1⟩ := hQ1
 have N1 := Fr.app N0 Nq1
 refine Go.step (fun t k => st1.trans k) ?_
 refine Go.step (S' := T1.setTop (mkF m 8 #[rv so, iv (0 : Int32)] [(.ref so)])) (fun t k => ?_) ?_
 · refine XS.ifNo X1.here hx rfl (hb hby d15_4) rfl ((if0 _ _).trans (feq ((by decide) : ¬ ((1 : Int32) = (0 : Int32)))).1) ?_
   refine XS.aloadN X1.here hx rfl (hb hby d15_7) rfl rfl ?_
   exact k
 obtain ⟨T2, X2, e2, st2⟩ := getF X1 hx hZ hown (host := "") (Or.inl (own_w hw 33 rfl)) Via.refl e1 F_value_so (g := (mkF m 8 #[rv so, iv (0 : Int32)] [(.ref so)])) rfl rfl (hb hby d15_8)
 refine Go.step st2 ?_
 refine Go.step (S' := T2.setTop (mkF m 12 #[rv so, iv (0 : Int32)] [(.int (0 : Int32)), (.ref tb)])) (fun t k => ?_) ?_
 · refine XS.iloadN X2.here hx rfl (hb hby d15_11) rfl ?_
   exact k
 obtain ⟨_, _, ⟨T3, L3, k3, n3⟩, -, X3, ⟨Lc3, hQ3, l3, y3, z3⟩, st3⟩ := Jvm.LawKit.callS X2 hx (y := y_6) hown (mvT hZ (own_w hw 90 rfl)) (mvT hZ (own_w hw 91 rfl)) (mvT hZ (own_w hw 92 rfl)) (mvT hZ (own_w hw 93 rfl)) (by decide) (backOf (W := 0) (rmLC2_0 l Z a0 hw [] tb kb x0 x1 sf h0 n0 O V_tb S_FM hsf hl0 hl1) hZ (own_w hw 93 rfl) (own_w hw 92 rfl) (by decide) (by decide)) (g := (mkF m 12 #[rv so, iv (0 : Int32)] [(.int (0 : Int32)), (.ref tb)])) rfl (by rw [hml]; rfl) (argsL := [(.ref tb), (.int (0 : Int32))]) (rest := []) (lenOf pd__28_5bBI_29C rfl) rfl (Nat.le_of_eq rfl) (hb hby d15_12) (fun _ _ => ⟨rfl, e2, (by decide : 0 + 0 ≤ _), (by decide : 0 + 0 ≤ _)⟩)
 dsimp only [Pt.U, Pt.locs, Pt.cells, Pt.slots] at X3 l3 y3 z3 st3 hQ3
 subst l3 y3 z3
 obtain ⟨rfl, Nq3, e3⟩ := hQ3
 have N3 := Fr.app N1 Nq3
 refine Go.step st3 ?_
 obtain ⟨fs, hr, hrun, hended, hW, hsame⟩ := X3.leave (v := some (.int x0)) (fun h => by rw [Bd.returns] at h; cases h)
 refine Go.fin (S' := T3.setFrames fs) ?_ hrun hended ⟨_, _, rfl, ?_, ⟨_, rfl⟩, hW, hsame.mono (by decide) (by decide)⟩
 · exact retOut X3 hx Bd.returns (own_nc hl0 hl1) (Or.inl ⟨rfl, Or.inr (Or.inr (Or.inr (Or.inl rfl))), _, rfl⟩) (hb hby d15_15) hr
 · show Q_rmCh2_0 Z so tb kb x0 x1 cs sf h0 n0 (some (.int x0)) T3.heap _
   rw [e3]
   exact ⟨rfl, N3, rfl⟩
theorem ef_rmLC2_1 (m : MethodId) (tb : Addr) : entryFrame m #[(.ref tb), (.int (1 : Int32))] 2 = mkF m 0 #[.val (.ref tb), .val (.int (1 : Int32))] [] := by first | (simp [entryFrame, mkF, argsToLocals, Value.category]; done) | rfl
abbrev rm_rmLC2_1 : Room := ({ frames := 2, cells := 0, slots := 0, locals := 27 } : Room)
def Q_rmLC2_1 (Z : State) (tb : Addr) (kb : ClassId) (x0 : Int32) (x1 : Int32) (sf : Value) (h0 : Heap) (n0 : Nat) (v : Option Value) (h : Heap) (L : List Loc) : Prop := (v = some (.int x1)) ∧ (Fr n0 L) ∧ (h = h0)
set_option maxRecDepth 65536 in
set_option maxHeartbeats 4000000 in
theorem rmLC2_1 (l : Launch) (Z : State) (a0 : Array Value) (hw : ∀ d ∈ tables_1, d.before a0 Z = true) (ws : List Jvm.Cond) (tb : Addr) (kb : ClassId) (x0 : Int32) (x1 : Int32) (sf : Value) (h0 : Heap) (n0 : Nat) (O : Old Z n0 h0) (V_tb : Arv Z h0 tb kb .byte (2 : Int32) [(.int (x0.toInt8.toInt32)), (.int (x1.toInt8.toInt32))] (.int (0 : Int32))) (S_FM : Sta Z Z.heap "jdk/internal/util/Preconditions" "SIOOBE_FORMATTER" "Ljava/util/function/BiFunction;" sf) (hsf : sf.isRef = true) (hl0 : ¬ (x1 < (0 : Int32))) (hl1 : ¬ ((255 : Int32) < x1)) :
    MetFree l y_6 (head1 (Jvm.Cond.code y_6 jdk_43_method_2_code 2 (some .char) :: ws) rm_rmLC2_1) (fun A_ U => A_ = #[(.ref tb), (.int (1 : Int32))] ∧ Z.Warmed39 U.vm ∧ U.heap = h0) (fun _ _ _ _ _ => True) (fun _ U o U' => ∃ v L, o = .returned v ∧ Q_rmLC2_1 Z tb kb x0 x1 sf h0 n0 v U'.heap L ∧ FrameEnd U o U' L rm_rmLC2_1.cells rm_rmLC2_1.slots) := by
 refine MetFree.of_bodySF (plainFor_of_name pn_java_lang_StringLatin1) hisR ?_
 intro p e s m args below meth c s₁ Bd hml0 hP hK
 obtain ⟨rfl, hZ, hh⟩ := hP
 have hx := Bd.exec
 have hby := Bd.bytes
 have hml : c.maxLocals = 2 := hml0
 have hown : s.vm.findClass "java/lang/StringLatin1" = some m.cls := findClass_of_methodNamed Bd.named
 have hnm := (name_of_methodNamed Bd.named Bd.method).1
 have X0 : Stand p l e rm_rmLC2_1 s m #[(.ref tb), (.int (1 : Int32))] below meth c s₁ [] 0 0 := Stand.of_body Bd
 have e0 : s₁.heap = h0 := by rw [← hh, Bd.state]; rfl
 have N0 := Fr.nil n0
 refine Go.step (p := p) (e := e) (below := below) (G := fun o U' => ∃ v L, o = .returned v ∧ Q_rmLC2_1 Z tb kb x0 x1 sf h0 n0 v U'.heap L ∧ FrameEnd s o U' L rm_rmLC2_1.cells rm_rmLC2_1.slots) (S' := s₁.setTop (mkF m 0 #[rv tb, iv (1 : Int32)] [])) (fun t k => castTop (ef_rmLC2_1 m tb) k) ?_
 refine Go.step (S' := s₁.setTop (mkF m 2 #[rv tb, iv (1 : Int32)] [(.ref tb), (.int (1 : Int32))])) (fun t k => ?_) ?_
 · refine XS.iloadN X0.here hx rfl (hb hby d17_0) rfl ?_
   refine XS.aloadN X0.here hx rfl (hb hby d17_1) rfl rfl ?_
   exact k
 obtain ⟨cl1, Ar1, -, S1, N1_, -, -⟩ := id V_tb
 refine Go.step (S' := s₁.setTop (mkF m 3 #[rv tb, iv (1 : Int32)] [(.int cl1.slots.size.toInt32), (.int (1 : Int32))])) (fun t k => X0.arraylength hx (by rw [e0]; exact Ar1.1) (State.isArrayOf_alike hZ.alike Ar1.2.1) (g := (mkF m 2 #[rv tb, iv (1 : Int32)] [(.ref tb), (.int (1 : Int32))])) rfl rfl (hb hby d17_2) _ k) ?_
 rw [len_of S1 N1_]
 show Go p e below _ (s₁.setTop (mkF m 3 #[rv tb, iv (1 : Int32)] [(.int (2 : Int32)), (.int (1 : Int32))]))
 obtain ⟨_, _, ⟨T2, L2, k2, n2⟩, -, X2, ⟨Lc2, hQ2, l2, y2, z2⟩, st2⟩ := Jvm.LawKit.callS X0 hx (y := y_3) hown (mvT hZ (own_w hw 94 rfl)) (mvT hZ (own_w hw 95 rfl)) (mvT hZ (own_w hw 7 rfl)) (mvT hZ (own_w hw 96 rfl)) (by decide) (backOf (W := 0) (rmCk l Z a0 hw [] (1 : Int32) (2 : Int32) sf h0 n0 O (by decide) (by decide) S_FM hsf) hZ (own_w hw 96 rfl) (own_w hw 7 rfl) (by decide) (by decide)) (g := (mkF m 3 #[rv tb, iv (1 : Int32)] [(.int (2 : Int32)), (.int (1 : Int32))])) rfl (by rw [hml]; rfl) (argsL := [(.int (1 : Int32)), (.int (2 : Int32))]) (rest := []) (lenOf pd__28II_29V rfl) rfl (Nat.le_of_eq rfl) (hb hby d17_3) (fun _ _ => ⟨rfl, e0, (by decide : 0 + 0 ≤ _), (by decide : 0 + 0 ≤ _)⟩)
 dsimp only [Pt.U, Pt.locs, Pt.cells, Pt.slots] at X2 l2 y2 z2 st2 hQ2
 subst l2 y2 z2
 obtain ⟨rfl, Nq2, e2⟩ := hQ2
 have N2 := Fr.app N0 Nq2
 refine Go.step st2 ?_
 refine Go.step (S' := T2.setTop (mkF m 8 #[rv tb, iv (1 : Int32)] [(.int (1 : Int32)), (.ref tb)])) (fun t k => ?_) ?_
 · refine XS.aloadN X2.here hx rfl (hb hby d17_6) rfl rfl ?_
   refine XS.iloadN X2.here hx rfl (hb hby d17_7) rfl ?_
   exact k
 obtain ⟨cl3, Ar3, -, S3, -, H3, -⟩ := id V_tb
 have hin3 : ¬ ((1 : Int32) < 0 ∨ cl3.slots.size ≤ ((1 : Int32)).toNatClampNeg) := inb_of S3 ⟨by decide, by decide⟩
 refine Go.step (S' := T2.setTop (mkF m 9 #[rv tb, iv (1 : Int32)] [(.int (x1.toInt8.toInt32))])) (fun t k => X2.baloadBytes hx (j := (1 : Int32)) (v := (.int (x1.toInt8.toInt32))) (by rw [e2]; exact Ar3.1) (State.isArrayOf_alike hZ.alike Ar3.2.1) Ar3.2.2 hin3 (H3.at hin3 rfl) (g := (mkF m 8 #[rv tb, iv (1 : Int32)] [(.int (1 : Int32)), (.ref tb)])) rfl rfl (hb hby d17_8) _ k) ?_
 refine Go.step (S' := T2.setTop (mkF m 14 #[rv tb, iv (1 : Int32)] [(.int (((x1.toInt8.toInt32) &&& (255 : Int32)).toUInt32.toUInt16.toUInt32.toInt32))])) (fun t k => ?_) ?_
 · refine XS.sipush X2.here hx rfl (hb hby d17_9) ?_
   refine XS.iand X2.here hx rfl (hb hby d17_12) rfl ?_
   refine XS.i2c X2.here hx rfl (hb hby d17_13) rfl ?_
   exact k
 obtain ⟨fs, hr, hrun, hended, hW, hsame⟩ := X2.leave (v := some (.int (((x1.toInt8.toInt32) &&& (255 : Int32)).toUInt32.toUInt16.toUInt32.toInt32))) (fun h => by rw [Bd.returns] at h; cases h)
 refine Go.fin (S' := T2.setFrames fs) ?_ hrun hended ⟨_, _, rfl, ?_, ⟨_, rfl⟩, hW, hsame.mono (by decide) (by decide)⟩
 · exact retOut X2 hx Bd.returns (Jvm.Free.XT.narrow_c _) (Or.inl ⟨rfl, Or.inr (Or.inr (Or.inr (Or.inl rfl))), _, rfl⟩) (hb hby d17_14) hr
 · show Q_rmLC2_1 Z tb kb x0 x1 sf h0 n0 (some (.int (((x1.toInt8.toInt32) &&& (255 : Int32)).toUInt32.toUInt16.toUInt32.toInt32))) T2.heap _
   rw [e2]
   exact ⟨(congrArg (fun z => some (Value.int z)) (own_char hl0 hl1)), N2, rfl⟩
theorem ef_rmCh2_1 (m : MethodId) (so : Addr) : entryFrame m #[(.ref so), (.int (1 : Int32))] 2 = mkF m 0 #[.val (.ref so), .val (.int (1 : Int32))] [] := by first | (simp [entryFrame, mkF, argsToLocals, Value.category]; done) | rfl
abbrev rm_rmCh2_1 : Room := ({ frames := 3, cells := 0, slots := 0, locals := 40 } : Room)
def Q_rmCh2_1 (Z : State) (so : Addr) (tb : Addr) (kb : ClassId) (x0 : Int32) (x1 : Int32) (cs : Int32) (sf : Value) (h0 : Heap) (n0 : Nat) (v : Option Value) (h : Heap) (L : List Loc) : Prop := (v = some (.int x1)) ∧ (Fr n0 L) ∧ (h = h0)
set_option maxRecDepth 65536 in
set_option maxHeartbeats 4000000 in
theorem rmCh2_1 (l : Launch) (Z : State) (a0 : Array Value) (hw : ∀ d ∈ tables_1, d.before a0 Z = true) (ws : List Jvm.Cond) (so : Addr) (tb : Addr) (kb : ClassId) (x0 : Int32) (x1 : Int32) (cs : Int32) (sf : Value) (h0 : Heap) (n0 : Nat) (O : Old Z n0 h0) (S_CS : Sta Z Z.heap "java/lang/String" "COMPACT_STRINGS" "Z" (.int cs)) (S_FM : Sta Z Z.heap "jdk/internal/util/Preconditions" "SIOOBE_FORMATTER" "Ljava/util/function/BiFunction;" sf) (E_so : Exa Z h0 so "java/lang/String") (F_value_so : Fld Z h0 so "java/lang/String" "value" "[B" (.ref tb)) (F_coder_so : Fld Z h0 so "java/lang/String" "coder" "B" (.int (0 : Int32))) (V_tb : Arv Z h0 tb kb .byte (2 : Int32) [(.int (x0.toInt8.toInt32)), (.int (x1.toInt8.toInt32))] (.int (0 : Int32))) (hcs : ¬ (cs = (0 : Int32))) (hsf : sf.isRef = true) (hl0 : ¬ (x1 < (0 : Int32))) (hl1 : ¬ ((255 : Int32) < x1)) :
    MetFree l y_7 (head1 (Jvm.Cond.code y_7 jdk_42_method_56_code 2 (some .char) :: ws) rm_rmCh2_1) (fun A_ U => A_ = #[(.ref so), (.int (1 : Int32))] ∧ Z.Warmed39 U.vm ∧ U.heap = h0) (fun _ _ _ _ _ => True) (fun _ U o U' => ∃ v L, o = .returned v ∧ Q_rmCh2_1 Z so tb kb x0 x1 cs sf h0 n0 v U'.heap L ∧ FrameEnd U o U' L rm_rmCh2_1.cells rm_rmCh2_1.slots) := by
 refine MetFree.of_bodySF (plainFor_of_name pn_java_lang_String) hisR ?_
 intro p e s m args below meth c s₁ Bd hml0 hP hK
 obtain ⟨rfl, hZ, hh⟩ := hP
 have hx := Bd.exec
 have hby := Bd.bytes
 have hml : c.maxLocals = 2 := hml0
 have hown : s.vm.findClass "java/lang/String" = some m.cls := findClass_of_methodNamed Bd.named
 have hnm := (name_of_methodNamed Bd.named Bd.method).1
 have X0 : Stand p l e rm_rmCh2_1 s m #[(.ref so), (.int (1 : Int32))] below meth c s₁ [] 0 0 := Stand.of_body Bd
 have e0 : s₁.heap = h0 := by rw [← hh, Bd.state]; rfl
 have N0 := Fr.nil n0
 refine Go.step (p := p) (e := e) (below := below) (G := fun o U' => ∃ v L, o = .returned v ∧ Q_rmCh2_1 Z so tb kb x0 x1 cs sf h0 n0 v U'.heap L ∧ FrameEnd s o U' L rm_rmCh2_1.cells rm_rmCh2_1.slots) (S' := s₁.setTop (mkF m 0 #[rv so, iv (1 : Int32)] [])) (fun t k => castTop (ef_rmCh2_1 m so) k) ?_
 refine Go.step (S' := s₁.setTop (mkF m 1 #[rv so, iv (1 : Int32)] [(.ref so)])) (fun t k => ?_) ?_
 · refine XS.aloadN X0.here hx rfl (hb hby d15_0) rfl rfl ?_
   exact k
 obtain ⟨cq1, kq1, q1a, q1b, q1c⟩ := isOf hZ e0 E_so
 obtain ⟨_, _, ⟨T1, L1, k1, n1⟩, -, X1, ⟨Lc1, hQ1, l1, y1, z1⟩, st1⟩ := X0.virtualBack hx (y := y_1) (z := y_1) hown (mvT hZ (own_w hw 85 rfl)) (mvT hZ (own_w hw 86 rfl)) (notFace_of_selects (args := #[]) (mvT hZ (own_w hw 88 rfl))) (mvT hZ (own_w hw 88 rfl)) (mvT hZ (own_w hw 87 rfl)) (by decide) (backOf (W := 0) (rmLat l Z a0 hw [] so cs h0 n0 O S_CS F_coder_so hcs) hZ (own_w hw 89 rfl) (own_w hw 7 rfl) (by decide) (by decide)) q1a q1c (g := (mkF m 1 #[rv so, iv (1 : Int32)] [(.ref so)])) rfl (by rw [hml]; rfl) (Steps.refl _) (argsL := []) (rest := []) (lenOf pd__28_29Z rfl) rfl (Nat.le_of_eq rfl) (hb hby d15_1) (fun _ _ => ⟨rfl, e0, (by decide : 0 + 0 ≤ _), (by decide : 0 + 0 ≤ _)⟩)
 dsimp only [Pt.U, Pt.locs, Pt.cells, Pt.slots] at X1 l1 y1 z1 st1 hQ1
 subst l1 y1 z1
 obtain ⟨rfl, Nq1, e1⟩ := hQ1
 have N1 := Fr.app N0 Nq1
 refine Go.step (fun t k => st1.trans k) ?_
 refine Go.step (S' := T1.setTop (mkF m 8 #[rv so, iv (1 : Int32)] [(.ref so)])) (fun t k => ?_) ?_
 · refine XS.ifNo X1.here hx rfl (hb hby d15_4) rfl ((if0 _ _).trans (feq ((by decide) : ¬ ((1 : Int32) = (0 : Int32)))).1) ?_
   refine XS.aloadN X1.here hx rfl (hb hby d15_7) rfl rfl ?_
   exact k
 obtain ⟨T2, X2, e2, st2⟩ := getF X1 hx hZ hown (host := "") (Or.inl (own_w hw 33 rfl)) Via.refl e1 F_value_so (g := (mkF m 8 #[rv so, iv (1 : Int32)] [(.ref so)])) rfl rfl (hb hby d15_8)
 refine Go.step st2 ?_
 refine Go.step (S' := T2.setTop (mkF m 12 #[rv so, iv (1 : Int32)] [(.int (1 : Int32)), (.ref tb)])) (fun t k => ?_) ?_
 · refine XS.iloadN X2.here hx rfl (hb hby d15_11) rfl ?_
   exact k
 obtain ⟨_, _, ⟨T3, L3, k3, n3⟩, -, X3, ⟨Lc3, hQ3, l3, y3, z3⟩, st3⟩ := Jvm.LawKit.callS X2 hx (y := y_6) hown (mvT hZ (own_w hw 90 rfl)) (mvT hZ (own_w hw 91 rfl)) (mvT hZ (own_w hw 92 rfl)) (mvT hZ (own_w hw 93 rfl)) (by decide) (backOf (W := 0) (rmLC2_1 l Z a0 hw [] tb kb x0 x1 sf h0 n0 O V_tb S_FM hsf hl0 hl1) hZ (own_w hw 93 rfl) (own_w hw 92 rfl) (by decide) (by decide)) (g := (mkF m 12 #[rv so, iv (1 : Int32)] [(.int (1 : Int32)), (.ref tb)])) rfl (by rw [hml]; rfl) (argsL := [(.ref tb), (.int (1 : Int32))]) (rest := []) (lenOf pd__28_5bBI_29C rfl) rfl (Nat.le_of_eq rfl) (hb hby d15_12) (fun _ _ => ⟨rfl, e2, (by decide : 0 + 0 ≤ _), (by decide : 0 + 0 ≤ _)⟩)
 dsimp only [Pt.U, Pt.locs, Pt.cells, Pt.slots] at X3 l3 y3 z3 st3 hQ3
 subst l3 y3 z3
 obtain ⟨rfl, Nq3, e3⟩ := hQ3
 have N3 := Fr.app N1 Nq3
 refine Go.step st3 ?_
 obtain ⟨fs, hr, hrun, hended, hW, hsame⟩ := X3.leave (v := some (.int x1)) (fun h => by rw [Bd.returns] at h; cases h)
 refine Go.fin (S' := T3.setFrames fs) ?_ hrun hended ⟨_, _, rfl, ?_, ⟨_, rfl⟩, hW, hsame.mono (by decide) (by decide)⟩
 · exact retOut X3 hx Bd.returns (own_nc hl0 hl1) (Or.inl ⟨rfl, Or.inr (Or.inr (Or.inr (Or.inl rfl))), _, rfl⟩) (hb hby d15_15) hr
 · show Q_rmCh2_1 Z so tb kb x0 x1 cs sf h0 n0 (some (.int x1)) T3.heap _
   rw [e3]
   exact ⟨rfl, N3, rfl⟩
theorem ef_rmEmp3 (m : MethodId) (so : Addr) : entryFrame m #[(.ref so)] 1 = mkF m 0 #[.val (.ref so)] [] := by first | (simp [entryFrame, mkF, argsToLocals, Value.category]; done) | rfl
abbrev rm_rmEmp3 : Room := ({ frames := 0, cells := 0, slots := 0, locals := 0 } : Room)
def Q_rmEmp3 (Z : State) (so : Addr) (tb : Addr) (kb : ClassId) (x0 : Int32) (x1 : Int32) (x2 : Int32) (h0 : Heap) (n0 : Nat) (v : Option Value) (h : Heap) (L : List Loc) : Prop := (v = some (.int (0 : Int32))) ∧ (Fr n0 L) ∧ (h = h0)
set_option maxRecDepth 65536 in
set_option maxHeartbeats 4000000 in
theorem rmEmp3 (l : Launch) (Z : State) (a0 : Array Value) (hw : ∀ d ∈ tables_1, d.before a0 Z = true) (ws : List Jvm.Cond) (so : Addr) (tb : Addr) (kb : ClassId) (x0 : Int32) (x1 : Int32) (x2 : Int32) (h0 : Heap) (n0 : Nat) (O : Old Z n0 h0) (F_value_so : Fld Z h0 so "java/lang/String" "value" "[B" (.ref tb)) (V_tb : Arv Z h0 tb kb .byte (3 : Int32) [(.int (x0.toInt8.toInt32)), (.int (x1.toInt8.toInt32)), (.int (x2.toInt8.toInt32))] (.int (0 : Int32))) :
    MetFree l y_4 (head1 (Jvm.Cond.code y_4 jdk_42_method_55_code 1 (some .boolean) :: ws) rm_rmEmp3) (fun A_ U => A_ = #[(.ref so)] ∧ Z.Warmed39 U.vm ∧ U.heap = h0) (fun _ _ _ _ _ => True) (fun _ U o U' => ∃ v L, o = .returned v ∧ Q_rmEmp3 Z so tb kb x0 x1 x2 h0 n0 v U'.heap L ∧ FrameEnd U o U' L rm_rmEmp3.cells rm_rmEmp3.slots) := by
 refine MetFree.of_bodySF (plainFor_of_name pn_java_lang_String) hisR ?_
 intro p e s m args below meth c s₁ Bd hml0 hP hK
 obtain ⟨rfl, hZ, hh⟩ := hP
 have hx := Bd.exec
 have hby := Bd.bytes
 have hml : c.maxLocals = 1 := hml0
 have hown : s.vm.findClass "java/lang/String" = some m.cls := findClass_of_methodNamed Bd.named
 have hnm := (name_of_methodNamed Bd.named Bd.method).1
 have X0 : Stand p l e rm_rmEmp3 s m #[(.ref so)] below meth c s₁ [] 0 0 := Stand.of_body Bd
 have e0 : s₁.heap = h0 := by rw [← hh, Bd.state]; rfl
 have N0 := Fr.nil n0
 refine Go.step (p := p) (e := e) (below := below) (G := fun o U' => ∃ v L, o = .returned v ∧ Q_rmEmp3 Z so tb kb x0 x1 x2 h0 n0 v U'.heap L ∧ FrameEnd s o U' L rm_rmEmp3.cells rm_rmEmp3.slots) (S' := s₁.setTop (mkF m 0 #[rv so] [])) (fun t k => castTop (ef_rmEmp3 m so) k) ?_
 refine Go.step (S' := s₁.setTop (mkF m 1 #[rv so] [(.ref so)])) (fun t k => ?_) ?_
 · refine XS.aloadN X0.here hx rfl (hb hby d12_0) rfl rfl ?_
   exact k
 obtain ⟨T1, X1, e1, st1⟩ := getF X0 hx hZ hown (host := "") (Or.inl (own_w hw 33 rfl)) Via.refl e0 F_value_so (g := (mkF m 1 #[rv so] [(.ref so)])) rfl rfl (hb hby d12_1)
 refine Go.step st1 ?_
 obtain ⟨cl2, Ar2, -, S2, N2_, -, -⟩ := id V_tb
 refine Go.step (S' := T1.setTop (mkF m 5 #[rv so] [(.int cl2.slots.size.toInt32)])) (fun t k => X1.arraylength hx (by rw [e1]; exact Ar2.1) (State.isArrayOf_alike hZ.alike Ar2.2.1) (g := (mkF m 4 #[rv so] [(.ref tb)])) rfl rfl (hb hby d12_4) _ k) ?_
 rw [len_of S2 N2_]
 show Go p e below _ (T1.setTop (mkF m 5 #[rv so] [(.int (3 : Int32))]))
 refine Go.step (S' := T1.setTop (mkF m 13 #[rv so] [(.int (0 : Int32))])) (fun t k => ?_) ?_
 · refine XS.ifYes X1.here hx rfl (pc0 := 5) (pc' := 12) rfl (hb hby d12_5) rfl ((if0 _ _).trans (feq ((by decide) : ¬ ((3 : Int32) = (0 : Int32)))).2) (by decide) (by decide) ?_
   refine XS.iconst X1.here hx rfl (hb hby d12_12) ?_
   exact k
 obtain ⟨fs, hr, hrun, hended, hW, hsame⟩ := X1.leave (v := some (.int (0 : Int32))) (fun h => by rw [Bd.returns] at h; cases h)
 refine Go.fin (S' := T1.setFrames fs) ?_ hrun hended ⟨_, _, rfl, ?_, ⟨_, rfl⟩, hW, hsame.mono (by decide) (by decide)⟩
 · exact retOut X1 hx Bd.returns (by decide) (Or.inl ⟨rfl, Or.inr (Or.inl rfl), _, rfl⟩) (hb hby d12_13) hr
 · show Q_rmEmp3 Z so tb kb x0 x1 x2 h0 n0 (some (.int (0 : Int32))) T1.heap _
   rw [e1]
   exact ⟨rfl, N0, rfl⟩
theorem ef_rmLen3 (m : MethodId) (so : Addr) : entryFrame m #[(.ref so)] 1 = mkF m 0 #[.val (.ref so)] [] := by first | (simp [entryFrame, mkF, argsToLocals, Value.category]; done) | rfl
abbrev rm_rmLen3 : Room := ({ frames := 1, cells := 0, slots := 0, locals := 13 } : Room)
def Q_rmLen3 (Z : State) (so : Addr) (tb : Addr) (kb : ClassId) (x0 : Int32) (x1 : Int32) (x2 : Int32) (cs : Int32) (h0 : Heap) (n0 : Nat) (v : Option Value) (h : Heap) (L : List Loc) : Prop := (v = some (.int (3 : Int32))) ∧ (Fr n0 L) ∧ (h = h0)
set_option maxRecDepth 65536 in
set_option maxHeartbeats 4000000 in
theorem rmLen3 (l : Launch) (Z : State) (a0 : Array Value) (hw : ∀ d ∈ tables_1, d.before a0 Z = true) (ws : List Jvm.Cond) (so : Addr) (tb : Addr) (kb : ClassId) (x0 : Int32) (x1 : Int32) (x2 : Int32) (cs : Int32) (h0 : Heap) (n0 : Nat) (O : Old Z n0 h0) (S_CS : Sta Z Z.heap "java/lang/String" "COMPACT_STRINGS" "Z" (.int cs)) (E_so : Exa Z h0 so "java/lang/String") (F_value_so : Fld Z h0 so "java/lang/String" "value" "[B" (.ref tb)) (F_coder_so : Fld Z h0 so "java/lang/String" "coder" "B" (.int (0 : Int32))) (V_tb : Arv Z h0 tb kb .byte (3 : Int32) [(.int (x0.toInt8.toInt32)), (.int (x1.toInt8.toInt32)), (.int (x2.toInt8.toInt32))] (.int (0 : Int32))) (hcs : ¬ (cs = (0 : Int32))) :
    MetFree l y_5 (head1 (Jvm.Cond.code y_5 jdk_42_method_54_code 1 (some .int) :: ws) rm_rmLen3) (fun A_ U => A_ = #[(.ref so)] ∧ Z.Warmed39 U.vm ∧ U.heap = h0) (fun _ _ _ _ _ => True) (fun _ U o U' => ∃ v L, o = .returned v ∧ Q_rmLen3 Z so tb kb x0 x1 x2 cs h0 n0 v U'.heap L ∧ FrameEnd U o U' L rm_rmLen3.cells rm_rmLen3.slots) := by
 refine MetFree.of_bodySF (plainFor_of_name pn_java_lang_String) hisR ?_
 intro p e s m args below meth c s₁ Bd hml0 hP hK
 obtain ⟨rfl, hZ, hh⟩ := hP
 have hx := Bd.exec
 have hby := Bd.bytes
 have hml : c.maxLocals = 1 := hml0
 have hown : s.vm.findClass "java/lang/String" = some m.cls := findClass_of_methodNamed Bd.named
 have hnm := (name_of_methodNamed Bd.named Bd.method).1
 have X0 : Stand p l e rm_rmLen3 s m #[(.ref so)] below meth c s₁ [] 0 0 := Stand.of_body Bd
 have e0 : s₁.heap = h0 := by rw [← hh, Bd.state]; rfl
 have N0 := Fr.nil n0
 refine Go.step (p := p) (e := e) (below := below) (G := fun o U' => ∃ v L, o = .returned v ∧ Q_rmLen3 Z so tb kb x0 x1 x2 cs h0 n0 v U'.heap L ∧ FrameEnd s o U' L rm_rmLen3.cells rm_rmLen3.slots) (S' := s₁.setTop (mkF m 0 #[rv so] [])) (fun t k => castTop (ef_rmLen3 m so) k) ?_
 refine Go.step (S' := s₁.setTop (mkF m 1 #[rv so] [(.ref so)])) (fun t k => ?_) ?_
 · refine XS.aloadN X0.here hx rfl (hb hby d13_0) rfl rfl ?_
   exact k
 obtain ⟨T1, X1, e1, st1⟩ := getF X0 hx hZ hown (host := "") (Or.inl (own_w hw 33 rfl)) Via.refl e0 F_value_so (g := (mkF m 1 #[rv so] [(.ref so)])) rfl rfl (hb hby d13_1)
 refine Go.step st1 ?_
 obtain ⟨cl2, Ar2, -, S2, N2_, -, -⟩ := id V_tb
 refine Go.step (S' := T1.setTop (mkF m 5 #[rv so] [(.int cl2.slots.size.toInt32)])) (fun t k => X1.arraylength hx (by rw [e1]; exact Ar2.1) (State.isArrayOf_alike hZ.alike Ar2.2.1) (g := (mkF m 4 #[rv so] [(.ref tb)])) rfl rfl (hb hby d13_4) _ k) ?_
 rw [len_of S2 N2_]
 show Go p e below _ (T1.setTop (mkF m 5 #[rv so] [(.int (3 : Int32))]))
 refine Go.step (S' := T1.setTop (mkF m 6 #[rv so] [(.ref so), (.int (3 : Int32))])) (fun t k => ?_) ?_
 · refine XS.aloadN X1.here hx rfl (hb hby d13_5) rfl rfl ?_
   exact k
 obtain ⟨cq3, kq3, q3a, q3b, q3c⟩ := isOf hZ e1 E_so
 obtain ⟨_, _, ⟨T3, L3, k3, n3⟩, -, X3, ⟨Lc3, hQ3, l3, y3, z3⟩, st3⟩ := X1.virtualBack hx (y := y_0) (z := y_0) hown (mvT hZ (own_w hw 75 rfl)) (mvT hZ (own_w hw 76 rfl)) (notFace_of_selects (args := #[]) (mvT hZ (own_w hw 78 rfl))) (mvT hZ (own_w hw 78 rfl)) (mvT hZ (own_w hw 77 rfl)) (by decide) (backOf (W := 1) (rmCod l Z a0 hw [] so cs h0 n0 O S_CS F_coder_so hcs) hZ (own_w hw 79 rfl) (own_w hw 7 rfl) (by decide) (by decide)) q3a q3c (g := (mkF m 6 #[rv so] [(.ref so), (.int (3 : Int32))])) rfl (by rw [hml]; rfl) (Steps.refl _) (argsL := []) (rest := [(.int (3 : Int32))]) (lenOf pd__28_29B rfl) rfl (Nat.le_of_eq rfl) (hb hby d13_6) (fun _ _ => ⟨rfl, e1, (by decide : 0 + 0 ≤ _), (by decide : 0 + 0 ≤ _)⟩)
 dsimp only [Pt.U, Pt.locs, Pt.cells, Pt.slots] at X3 l3 y3 z3 st3 hQ3
 subst l3 y3 z3
 obtain ⟨rfl, Nq3, e3⟩ := hQ3
 have N3 := Fr.app N0 Nq3
 refine Go.step (fun t k => st3.trans k) ?_
 refine Go.step (S' := T3.setTop (mkF m 10 #[rv so] [(.int ((3 : Int32) >>> ((0 : Int32) &&& 31)))])) (fun t k => ?_) ?_
 · refine XS.ishr X3.here hx rfl (hb hby d13_9) rfl ?_
   exact k
 rw [show ((3 : Int32) >>> ((0 : Int32) &&& 31)) = (3 : Int32) from by decide]
 show Go p e below _ (T3.setTop (mkF m 10 #[rv so] [(.int (3 : Int32))]))
 obtain ⟨fs, hr, hrun, hended, hW, hsame⟩ := X3.leave (v := some (.int (3 : Int32))) (fun h => by rw [Bd.returns] at h; cases h)
 refine Go.fin (S' := T3.setFrames fs) ?_ hrun hended ⟨_, _, rfl, ?_, ⟨_, rfl⟩, hW, hsame.mono (by decide) (by decide)⟩
 · exact retOut X3 hx Bd.returns rfl (Or.inl ⟨rfl, Or.inl rfl, _, rfl⟩) (hb hby d13_10) hr
 · show Q_rmLen3 Z so tb kb x0 x1 x2 cs h0 n0 (some (.int (3 : Int32))) T3.heap _
   rw [e3]
   exact ⟨rfl, N3, rfl⟩
theorem ef_rmLC3_0 (m : MethodId) (tb : Addr) : entryFrame m #[(.ref tb), (.int (0 : Int32))] 2 = mkF m 0 #[.val (.ref tb), .val (.int (0 : Int32))] [] := by first | (simp [entryFrame, mkF, argsToLocals, Value.category]; done) | rfl
abbrev rm_rmLC3_0 : Room := ({ frames := 2, cells := 0, slots := 0, locals := 27 } : Room)
def Q_rmLC3_0 (Z : State) (tb : Addr) (kb : ClassId) (x0 : Int32) (x1 : Int32) (x2 : Int32) (sf : Value) (h0 : Heap) (n0 : Nat) (v : Option Value) (h : Heap) (L : List Loc) : Prop := (v = some (.int x0)) ∧ (Fr n0 L) ∧ (h = h0)
set_option maxRecDepth 65536 in
set_option maxHeartbeats 4000000 in
theorem rmLC3_0 (l : Launch) (Z : State) (a0 : Array Value) (hw : ∀ d ∈ tables_1, d.before a0 Z = true) (ws : List Jvm.Cond) (tb : Addr) (kb : ClassId) (x0 : Int32) (x1 : Int32) (x2 : Int32) (sf : Value) (h0 : Heap) (n0 : Nat) (O : Old Z n0 h0) (V_tb : Arv Z h0 tb kb .byte (3 : Int32) [(.int (x0.toInt8.toInt32)), (.int (x1.toInt8.toInt32)), (.int (x2.toInt8.toInt32))] (.int (0 : Int32))) (S_FM : Sta Z Z.heap "jdk/internal/util/Preconditions" "SIOOBE_FORMATTER" "Ljava/util/function/BiFunction;" sf) (hsf : sf.isRef = true) (hl0 : ¬ (x0 < (0 : Int32))) (hl1 : ¬ ((255 : Int32) < x0)) :
    MetFree l y_6 (head1 (Jvm.Cond.code y_6 jdk_43_method_2_code 2 (some .char) :: ws) rm_rmLC3_0) (fun A_ U => A_ = #[(.ref tb), (.int (0 : Int32))] ∧ Z.Warmed39 U.vm ∧ U.heap = h0) (fun _ _ _ _ _ => True) (fun _ U o U' => ∃ v L, o = .returned v ∧ Q_rmLC3_0 Z tb kb x0 x1 x2 sf h0 n0 v U'.heap L ∧ FrameEnd U o U' L rm_rmLC3_0.cells rm_rmLC3_0.slots) := by
 refine MetFree.of_bodySF (plainFor_of_name pn_java_lang_StringLatin1) hisR ?_
 intro p e s m args below meth c s₁ Bd hml0 hP hK
 obtain ⟨rfl, hZ, hh⟩ := hP
 have hx := Bd.exec
 have hby := Bd.bytes
 have hml : c.maxLocals = 2 := hml0
 have hown : s.vm.findClass "java/lang/StringLatin1" = some m.cls := findClass_of_methodNamed Bd.named
 have hnm := (name_of_methodNamed Bd.named Bd.method).1
 have X0 : Stand p l e rm_rmLC3_0 s m #[(.ref tb), (.int (0 : Int32))] below meth c s₁ [] 0 0 := Stand.of_body Bd
 have e0 : s₁.heap = h0 := by rw [← hh, Bd.state]; rfl
 have N0 := Fr.nil n0
 refine Go.step (p := p) (e := e) (below := below) (G := fun o U' => ∃ v L, o = .returned v ∧ Q_rmLC3_0 Z tb kb x0 x1 x2 sf h0 n0 v U'.heap L ∧ FrameEnd s o U' L rm_rmLC3_0.cells rm_rmLC3_0.slots) (S' := s₁.setTop (mkF m 0 #[rv tb, iv (0 : Int32)] [])) (fun t k => castTop (ef_rmLC3_0 m tb) k) ?_
 refine Go.step (S' := s₁.setTop (mkF m 2 #[rv tb, iv (0 : Int32)] [(.ref tb), (.int (0 : Int32))])) (fun t k => ?_) ?_
 · refine XS.iloadN X0.here hx rfl (hb hby d17_0) rfl ?_
   refine XS.aloadN X0.here hx rfl (hb hby d17_1) rfl rfl ?_
   exact k
 obtain ⟨cl1, Ar1, -, S1, N1_, -, -⟩ := id V_tb
 refine Go.step (S' := s₁.setTop (mkF m 3 #[rv tb, iv (0 : Int32)] [(.int cl1.slots.size.toInt32), (.int (0 : Int32))])) (fun t k => X0.arraylength hx (by rw [e0]; exact Ar1.1) (State.isArrayOf_alike hZ.alike Ar1.2.1) (g := (mkF m 2 #[rv tb, iv (0 : Int32)] [(.ref tb), (.int (0 : Int32))])) rfl rfl (hb hby d17_2) _ k) ?_
 rw [len_of S1 N1_]
 show Go p e below _ (s₁.setTop (mkF m 3 #[rv tb, iv (0 : Int32)] [(.int (3 : Int32)), (.int (0 : Int32))]))
 obtain ⟨_, _, ⟨T2, L2, k2, n2⟩, -, X2, ⟨Lc2, hQ2, l2, y2, z2⟩, st2⟩ := Jvm.LawKit.callS X0 hx (y := y_3) hown (mvT hZ (own_w hw 94 rfl)) (mvT hZ (own_w hw 95 rfl)) (mvT hZ (own_w hw 7 rfl)) (mvT hZ (own_w hw 96 rfl)) (by decide) (backOf (W := 0) (rmCk l Z a0 hw [] (0 : Int32) (3 : Int32) sf h0 n0 O (by decide) (by decide) S_FM hsf) hZ (own_w hw 96 rfl) (own_w hw 7 rfl) (by decide) (by decide)) (g := (mkF m 3 #[rv tb, iv (0 : Int32)] [(.int (3 : Int32)), (.int (0 : Int32))])) rfl (by rw [hml]; rfl) (argsL := [(.int (0 : Int32)), (.int (3 : Int32))]) (rest := []) (lenOf pd__28II_29V rfl) rfl (Nat.le_of_eq rfl) (hb hby d17_3) (fun _ _ => ⟨rfl, e0, (by decide : 0 + 0 ≤ _), (by decide : 0 + 0 ≤ _)⟩)
 dsimp only [Pt.U, Pt.locs, Pt.cells, Pt.slots] at X2 l2 y2 z2 st2 hQ2
 subst l2 y2 z2
 obtain ⟨rfl, Nq2, e2⟩ := hQ2
 have N2 := Fr.app N0 Nq2
 refine Go.step st2 ?_
 refine Go.step (S' := T2.setTop (mkF m 8 #[rv tb, iv (0 : Int32)] [(.int (0 : Int32)), (.ref tb)])) (fun t k => ?_) ?_
 · refine XS.aloadN X2.here hx rfl (hb hby d17_6) rfl rfl ?_
   refine XS.iloadN X2.here hx rfl (hb hby d17_7) rfl ?_
   exact k
 obtain ⟨cl3, Ar3, -, S3, -, H3, -⟩ := id V_tb
 have hin3 : ¬ ((0 : Int32) < 0 ∨ cl3.slots.size ≤ ((0 : Int32)).toNatClampNeg) := inb_of S3 ⟨by decide, by decide⟩
 refine Go.step (S' := T2.setTop (mkF m 9 #[rv tb, iv (0 : Int32)] [(.int (x0.toInt8.toInt32))])) (fun t k => X2.baloadBytes hx (j := (0 : Int32)) (v := (.int (x0.toInt8.toInt32))) (by rw [e2]; exact Ar3.1) (State.isArrayOf_alike hZ.alike Ar3.2.1) Ar3.2.2 hin3 (H3.at hin3 rfl) (g := (mkF m 8 #[rv tb, iv (0 : Int32)] [(.int (0 : Int32)), (.ref tb)])) rfl rfl (hb hby d17_8) _ k) ?_
 refine Go.step (S' := T2.setTop (mkF m 14 #[rv tb, iv (0 : Int32)] [(.int (((x0.toInt8.toInt32) &&& (255 : Int32)).toUInt32.toUInt16.toUInt32.toInt32))])) (fun t k => ?_) ?_
 · refine XS.sipush X2.here hx rfl (hb hby d17_9) ?_
   refine XS.iand X2.here hx rfl (hb hby d17_12) rfl ?_
   refine XS.i2c X2.here hx rfl (hb hby d17_13) rfl ?_
   exact k
 obtain ⟨fs, hr, hrun, hended, hW, hsame⟩ := X2.leave (v := some (.int (((x0.toInt8.toInt32) &&& (255 : Int32)).toUInt32.toUInt16.toUInt32.toInt32))) (fun h => by rw [Bd.returns] at h; cases h)
 refine Go.fin (S' := T2.setFrames fs) ?_ hrun hended ⟨_, _, rfl, ?_, ⟨_, rfl⟩, hW, hsame.mono (by decide) (by decide)⟩
 · exact retOut X2 hx Bd.returns (Jvm.Free.XT.narrow_c _) (Or.inl ⟨rfl, Or.inr (Or.inr (Or.inr (Or.inl rfl))), _, rfl⟩) (hb hby d17_14) hr
 · show Q_rmLC3_0 Z tb kb x0 x1 x2 sf h0 n0 (some (.int (((x0.toInt8.toInt32) &&& (255 : Int32)).toUInt32.toUInt16.toUInt32.toInt32))) T2.heap _
   rw [e2]
   exact ⟨(congrArg (fun z => some (Value.int z)) (own_char hl0 hl1)), N2, rfl⟩
theorem ef_rmCh3_0 (m : MethodId) (so : Addr) : entryFrame m #[(.ref so), (.int (0 : Int32))] 2 = mkF m 0 #[.val (.ref so), .val (.int (0 : Int32))] [] := by first | (simp [entryFrame, mkF, argsToLocals, Value.category]; done) | rfl
abbrev rm_rmCh3_0 : Room := ({ frames := 3, cells := 0, slots := 0, locals := 40 } : Room)
def Q_rmCh3_0 (Z : State) (so : Addr) (tb : Addr) (kb : ClassId) (x0 : Int32) (x1 : Int32) (x2 : Int32) (cs : Int32) (sf : Value) (h0 : Heap) (n0 : Nat) (v : Option Value) (h : Heap) (L : List Loc) : Prop := (v = some (.int x0)) ∧ (Fr n0 L) ∧ (h = h0)
set_option maxRecDepth 65536 in
set_option maxHeartbeats 4000000 in
theorem rmCh3_0 (l : Launch) (Z : State) (a0 : Array Value) (hw : ∀ d ∈ tables_1, d.before a0 Z = true) (ws : List Jvm.Cond) (so : Addr) (tb : Addr) (kb : ClassId) (x0 : Int32) (x1 : Int32) (x2 : Int32) (cs : Int32) (sf : Value) (h0 : Heap) (n0 : Nat) (O : Old Z n0 h0) (S_CS : Sta Z Z.heap "java/lang/String" "COMPACT_STRINGS" "Z" (.int cs)) (S_FM : Sta Z Z.heap "jdk/internal/util/Preconditions" "SIOOBE_FORMATTER" "Ljava/util/function/BiFunction;" sf) (E_so : Exa Z h0 so "java/lang/String") (F_value_so : Fld Z h0 so "java/lang/String" "value" "[B" (.ref tb)) (F_coder_so : Fld Z h0 so "java/lang/String" "coder" "B" (.int (0 : Int32))) (V_tb : Arv Z h0 tb kb .byte (3 : Int32) [(.int (x0.toInt8.toInt32)), (.int (x1.toInt8.toInt32)), (.int (x2.toInt8.toInt32))] (.int (0 : Int32))) (hcs : ¬ (cs = (0 : Int32))) (hsf : sf.isRef = true) (hl0 : ¬ (x0 < (0 : Int32))) (hl1 : ¬ ((255 : Int32) < x0)) :
    MetFree l y_7 (head1 (Jvm.Cond.code y_7 jdk_42_method_56_code 2 (some .char) :: ws) rm_rmCh3_0) (fun A_ U => A_ = #[(.ref so), (.int (0 : Int32))] ∧ Z.Warmed39 U.vm ∧ U.heap = h0) (fun _ _ _ _ _ => True) (fun _ U o U' => ∃ v L, o = .returned v ∧ Q_rmCh3_0 Z so tb kb x0 x1 x2 cs sf h0 n0 v U'.heap L ∧ FrameEnd U o U' L rm_rmCh3_0.cells rm_rmCh3_0.slots) := by
 refine MetFree.of_bodySF (plainFor_of_name pn_java_lang_String) hisR ?_
 intro p e s m args below meth c s₁ Bd hml0 hP hK
 obtain ⟨rfl, hZ, hh⟩ := hP
 have hx := Bd.exec
 have hby := Bd.bytes
 have hml : c.maxLocals = 2 := hml0
 have hown : s.vm.findClass "java/lang/String" = some m.cls := findClass_of_methodNamed Bd.named
 have hnm := (name_of_methodNamed Bd.named Bd.method).1
 have X0 : Stand p l e rm_rmCh3_0 s m #[(.ref so), (.int (0 : Int32))] below meth c s₁ [] 0 0 := Stand.of_body Bd
 have e0 : s₁.heap = h0 := by rw [← hh, Bd.state]; rfl
 have N0 := Fr.nil n0
 refine Go.step (p := p) (e := e) (below := below) (G := fun o U' => ∃ v L, o = .returned v ∧ Q_rmCh3_0 Z so tb kb x0 x1 x2 cs sf h0 n0 v U'.heap L ∧ FrameEnd s o U' L rm_rmCh3_0.cells rm_rmCh3_0.slots) (S' := s₁.setTop (mkF m 0 #[rv so, iv (0 : Int32)] [])) (fun t k => castTop (ef_rmCh3_0 m so) k) ?_
 refine Go.step (S' := s₁.setTop (mkF m 1 #[rv so, iv (0 : Int32)] [(.ref so)])) (fun t k => ?_) ?_
 · refine XS.aloadN X0.here hx rfl (hb hby d15_0) rfl rfl ?_
   exact k
 obtain ⟨cq1, kq1, q1a, q1b, q1c⟩ := isOf hZ e0 E_so
 obtain ⟨_, _, ⟨T1, L1, k1, n1⟩, -, X1, ⟨Lc1, hQ1, l1, y1, z1⟩, st1⟩ := X0.virtualBack hx (y := y_1) (z := y_1) hown (mvT hZ (own_w hw 85 rfl)) (mvT hZ (own_w hw 86 rfl)) (notFace_of_selects (args := #[]) (mvT hZ (own_w hw 88 rfl))) (mvT hZ (own_w hw 88 rfl)) (mvT hZ (own_w hw 87 rfl)) (by decide) (backOf (W := 0) (rmLat l Z a0 hw [] so cs h0 n0 O S_CS F_coder_so hcs) hZ (own_w hw 89 rfl) (own_w hw 7 rfl) (by decide) (by decide)) q1a q1c (g := (mkF m 1 #[rv so, iv (0 : Int32)] [(.ref so)])) rfl (by rw [hml]; rfl) (Steps.refl _) (argsL := []) (rest := []) (lenOf pd__28_29Z rfl) rfl (Nat.le_of_eq rfl) (hb hby d15_1) (fun _ _ => ⟨rfl, e0, (by decide : 0 + 0 ≤ _), (by decide : 0 + 0 ≤ _)⟩)
 dsimp only [Pt.U, Pt.locs, Pt.cells, Pt.slots] at X1 l1 y1 z1 st1 hQ1
 subst l1 y1 z1
 obtain ⟨rfl, Nq1, e1⟩ := hQ1
 have N1 := Fr.app N0 Nq1
 refine Go.step (fun t k => st1.trans k) ?_
 refine Go.step (S' := T1.setTop (mkF m 8 #[rv so, iv (0 : Int32)] [(.ref so)])) (fun t k => ?_) ?_
 · refine XS.ifNo X1.here hx rfl (hb hby d15_4) rfl ((if0 _ _).trans (feq ((by decide) : ¬ ((1 : Int32) = (0 : Int32)))).1) ?_
   refine XS.aloadN X1.here hx rfl (hb hby d15_7) rfl rfl ?_
   exact k
 obtain ⟨T2, X2, e2, st2⟩ := getF X1 hx hZ hown (host := "") (Or.inl (own_w hw 33 rfl)) Via.refl e1 F_value_so (g := (mkF m 8 #[rv so, iv (0 : Int32)] [(.ref so)])) rfl rfl (hb hby d15_8)
 refine Go.step st2 ?_
 refine Go.step (S' := T2.setTop (mkF m 12 #[rv so, iv (0 : Int32)] [(.int (0 : Int32)), (.ref tb)])) (fun t k => ?_) ?_
 · refine XS.iloadN X2.here hx rfl (hb hby d15_11) rfl ?_
   exact k
 obtain ⟨_, _, ⟨T3, L3, k3, n3⟩, -, X3, ⟨Lc3, hQ3, l3, y3, z3⟩, st3⟩ := Jvm.LawKit.callS X2 hx (y := y_6) hown (mvT hZ (own_w hw 90 rfl)) (mvT hZ (own_w hw 91 rfl)) (mvT hZ (own_w hw 92 rfl)) (mvT hZ (own_w hw 93 rfl)) (by decide) (backOf (W := 0) (rmLC3_0 l Z a0 hw [] tb kb x0 x1 x2 sf h0 n0 O V_tb S_FM hsf hl0 hl1) hZ (own_w hw 93 rfl) (own_w hw 92 rfl) (by decide) (by decide)) (g := (mkF m 12 #[rv so, iv (0 : Int32)] [(.int (0 : Int32)), (.ref tb)])) rfl (by rw [hml]; rfl) (argsL := [(.ref tb), (.int (0 : Int32))]) (rest := []) (lenOf pd__28_5bBI_29C rfl) rfl (Nat.le_of_eq rfl) (hb hby d15_12) (fun _ _ => ⟨rfl, e2, (by decide : 0 + 0 ≤ _), (by decide : 0 + 0 ≤ _)⟩)
 dsimp only [Pt.U, Pt.locs, Pt.cells, Pt.slots] at X3 l3 y3 z3 st3 hQ3
 subst l3 y3 z3
 obtain ⟨rfl, Nq3, e3⟩ := hQ3
 have N3 := Fr.app N1 Nq3
 refine Go.step st3 ?_
 obtain ⟨fs, hr, hrun, hended, hW, hsame⟩ := X3.leave (v := some (.int x0)) (fun h => by rw [Bd.returns] at h; cases h)
 refine Go.fin (S' := T3.setFrames fs) ?_ hrun hended ⟨_, _, rfl, ?_, ⟨_, rfl⟩, hW, hsame.mono (by decide) (by decide)⟩
 · exact retOut X3 hx Bd.returns (own_nc hl0 hl1) (Or.inl ⟨rfl, Or.inr (Or.inr (Or.inr (Or.inl rfl))), _, rfl⟩) (hb hby d15_15) hr
 · show Q_rmCh3_0 Z so tb kb x0 x1 x2 cs sf h0 n0 (some (.int x0)) T3.heap _
   rw [e3]
   exact ⟨rfl, N3, rfl⟩
theorem ef_rmLC3_1 (m : MethodId) (tb : Addr) : entryFrame m #[(.ref tb), (.int (1 : Int32))] 2 = mkF m 0 #[.val (.ref tb), .val (.int (1 : Int32))] [] := by first | (simp [entryFrame, mkF, argsToLocals, Value.category]; done) | rfl
abbrev rm_rmLC3_1 : Room := ({ frames := 2, cells := 0, slots := 0, locals := 27 } : Room)
def Q_rmLC3_1 (Z : State) (tb : Addr) (kb : ClassId) (x0 : Int32) (x1 : Int32) (x2 : Int32) (sf : Value) (h0 : Heap) (n0 : Nat) (v : Option Value) (h : Heap) (L : List Loc) : Prop := (v = some (.int x1)) ∧ (Fr n0 L) ∧ (h = h0)
set_option maxRecDepth 65536 in
set_option maxHeartbeats 4000000 in
theorem rmLC3_1 (l : Launch) (Z : State) (a0 : Array Value) (hw : ∀ d ∈ tables_1, d.before a0 Z = true) (ws : List Jvm.Cond) (tb : Addr) (kb : ClassId) (x0 : Int32) (x1 : Int32) (x2 : Int32) (sf : Value) (h0 : Heap) (n0 : Nat) (O : Old Z n0 h0) (V_tb : Arv Z h0 tb kb .byte (3 : Int32) [(.int (x0.toInt8.toInt32)), (.int (x1.toInt8.toInt32)), (.int (x2.toInt8.toInt32))] (.int (0 : Int32))) (S_FM : Sta Z Z.heap "jdk/internal/util/Preconditions" "SIOOBE_FORMATTER" "Ljava/util/function/BiFunction;" sf) (hsf : sf.isRef = true) (hl0 : ¬ (x1 < (0 : Int32))) (hl1 : ¬ ((255 : Int32) < x1)) :
    MetFree l y_6 (head1 (Jvm.Cond.code y_6 jdk_43_method_2_code 2 (some .char) :: ws) rm_rmLC3_1) (fun A_ U => A_ = #[(.ref tb), (.int (1 : Int32))] ∧ Z.Warmed39 U.vm ∧ U.heap = h0) (fun _ _ _ _ _ => True) (fun _ U o U' => ∃ v L, o = .returned v ∧ Q_rmLC3_1 Z tb kb x0 x1 x2 sf h0 n0 v U'.heap L ∧ FrameEnd U o U' L rm_rmLC3_1.cells rm_rmLC3_1.slots) := by
 refine MetFree.of_bodySF (plainFor_of_name pn_java_lang_StringLatin1) hisR ?_
 intro p e s m args below meth c s₁ Bd hml0 hP hK
 obtain ⟨rfl, hZ, hh⟩ := hP
 have hx := Bd.exec
 have hby := Bd.bytes
 have hml : c.maxLocals = 2 := hml0
 have hown : s.vm.findClass "java/lang/StringLatin1" = some m.cls := findClass_of_methodNamed Bd.named
 have hnm := (name_of_methodNamed Bd.named Bd.method).1
 have X0 : Stand p l e rm_rmLC3_1 s m #[(.ref tb), (.int (1 : Int32))] below meth c s₁ [] 0 0 := Stand.of_body Bd
 have e0 : s₁.heap = h0 := by rw [← hh, Bd.state]; rfl
 have N0 := Fr.nil n0
 refine Go.step (p := p) (e := e) (below := below) (G := fun o U' => ∃ v L, o = .returned v ∧ Q_rmLC3_1 Z tb kb x0 x1 x2 sf h0 n0 v U'.heap L ∧ FrameEnd s o U' L rm_rmLC3_1.cells rm_rmLC3_1.slots) (S' := s₁.setTop (mkF m 0 #[rv tb, iv (1 : Int32)] [])) (fun t k => castTop (ef_rmLC3_1 m tb) k) ?_
 refine Go.step (S' := s₁.setTop (mkF m 2 #[rv tb, iv (1 : Int32)] [(.ref tb), (.int (1 : Int32))])) (fun t k => ?_) ?_
 · refine XS.iloadN X0.here hx rfl (hb hby d17_0) rfl ?_
   refine XS.aloadN X0.here hx rfl (hb hby d17_1) rfl rfl ?_
   exact k
 obtain ⟨cl1, Ar1, -, S1, N1_, -, -⟩ := id V_tb
 refine Go.step (S' := s₁.setTop (mkF m 3 #[rv tb, iv (1 : Int32)] [(.int cl1.slots.size.toInt32), (.int (1 : Int32))])) (fun t k => X0.arraylength hx (by rw [e0]; exact Ar1.1) (State.isArrayOf_alike hZ.alike Ar1.2.1) (g := (mkF m 2 #[rv tb, iv (1 : Int32)] [(.ref tb), (.int (1 : Int32))])) rfl rfl (hb hby d17_2) _ k) ?_
 rw [len_of S1 N1_]
 show Go p e below _ (s₁.setTop (mkF m 3 #[rv tb, iv (1 : Int32)] [(.int (3 : Int32)), (.int (1 : Int32))]))
 obtain ⟨_, _, ⟨T2, L2, k2, n2⟩, -, X2, ⟨Lc2, hQ2, l2, y2, z2⟩, st2⟩ := Jvm.LawKit.callS X0 hx (y := y_3) hown (mvT hZ (own_w hw 94 rfl)) (mvT hZ (own_w hw 95 rfl)) (mvT hZ (own_w hw 7 rfl)) (mvT hZ (own_w hw 96 rfl)) (by decide) (backOf (W := 0) (rmCk l Z a0 hw [] (1 : Int32) (3 : Int32) sf h0 n0 O (by decide) (by decide) S_FM hsf) hZ (own_w hw 96 rfl) (own_w hw 7 rfl) (by decide) (by decide)) (g := (mkF m 3 #[rv tb, iv (1 : Int32)] [(.int (3 : Int32)), (.int (1 : Int32))])) rfl (by rw [hml]; rfl) (argsL := [(.int (1 : Int32)), (.int (3 : Int32))]) (rest := []) (lenOf pd__28II_29V rfl) rfl (Nat.le_of_eq rfl) (hb hby d17_3) (fun _ _ => ⟨rfl, e0, (by decide : 0 + 0 ≤ _), (by decide : 0 + 0 ≤ _)⟩)
 dsimp only [Pt.U, Pt.locs, Pt.cells, Pt.slots] at X2 l2 y2 z2 st2 hQ2
 subst l2 y2 z2
 obtain ⟨rfl, Nq2, e2⟩ := hQ2
 have N2 := Fr.app N0 Nq2
 refine Go.step st2 ?_
 refine Go.step (S' := T2.setTop (mkF m 8 #[rv tb, iv (1 : Int32)] [(.int (1 : Int32)), (.ref tb)])) (fun t k => ?_) ?_
 · refine XS.aloadN X2.here hx rfl (hb hby d17_6) rfl rfl ?_
   refine XS.iloadN X2.here hx rfl (hb hby d17_7) rfl ?_
   exact k
 obtain ⟨cl3, Ar3, -, S3, -, H3, -⟩ := id V_tb
 have hin3 : ¬ ((1 : Int32) < 0 ∨ cl3.slots.size ≤ ((1 : Int32)).toNatClampNeg) := inb_of S3 ⟨by decide, by decide⟩
 refine Go.step (S' := T2.setTop (mkF m 9 #[rv tb, iv (1 : Int32)] [(.int (x1.toInt8.toInt32))])) (fun t k => X2.baloadBytes hx (j := (1 : Int32)) (v := (.int (x1.toInt8.toInt32))) (by rw [e2]; exact Ar3.1) (State.isArrayOf_alike hZ.alike Ar3.2.1) Ar3.2.2 hin3 (H3.at hin3 rfl) (g := (mkF m 8 #[rv tb, iv (1 : Int32)] [(.int (1 : Int32)), (.ref tb)])) rfl rfl (hb hby d17_8) _ k) ?_
 refine Go.step (S' := T2.setTop (mkF m 14 #[rv tb, iv (1 : Int32)] [(.int (((x1.toInt8.toInt32) &&& (255 : Int32)).toUInt32.toUInt16.toUInt32.toInt32))])) (fun t k => ?_) ?_
 · refine XS.sipush X2.here hx rfl (hb hby d17_9) ?_
   refine XS.iand X2.here hx rfl (hb hby d17_12) rfl ?_
   refine XS.i2c X2.here hx rfl (hb hby d17_13) rfl ?_
   exact k
 obtain ⟨fs, hr, hrun, hended, hW, hsame⟩ := X2.leave (v := some (.int (((x1.toInt8.toInt32) &&& (255 : Int32)).toUInt32.toUInt16.toUInt32.toInt32))) (fun h => by rw [Bd.returns] at h; cases h)
 refine Go.fin (S' := T2.setFrames fs) ?_ hrun hended ⟨_, _, rfl, ?_, ⟨_, rfl⟩, hW, hsame.mono (by decide) (by decide)⟩
 · exact retOut X2 hx Bd.returns (Jvm.Free.XT.narrow_c _) (Or.inl ⟨rfl, Or.inr (Or.inr (Or.inr (Or.inl rfl))), _, rfl⟩) (hb hby d17_14) hr
 · show Q_rmLC3_1 Z tb kb x0 x1 x2 sf h0 n0 (some (.int (((x1.toInt8.toInt32) &&& (255 : Int32)).toUInt32.toUInt16.toUInt32.toInt32))) T2.heap _
   rw [e2]
   exact ⟨(congrArg (fun z => some (Value.int z)) (own_char hl0 hl1)), N2, rfl⟩
theorem ef_rmCh3_1 (m : MethodId) (so : Addr) : entryFrame m #[(.ref so), (.int (1 : Int32))] 2 = mkF m 0 #[.val (.ref so), .val (.int (1 : Int32))] [] := by first | (simp [entryFrame, mkF, argsToLocals, Value.category]; done) | rfl
abbrev rm_rmCh3_1 : Room := ({ frames := 3, cells := 0, slots := 0, locals := 40 } : Room)
def Q_rmCh3_1 (Z : State) (so : Addr) (tb : Addr) (kb : ClassId) (x0 : Int32) (x1 : Int32) (x2 : Int32) (cs : Int32) (sf : Value) (h0 : Heap) (n0 : Nat) (v : Option Value) (h : Heap) (L : List Loc) : Prop := (v = some (.int x1)) ∧ (Fr n0 L) ∧ (h = h0)
set_option maxRecDepth 65536 in
set_option maxHeartbeats 4000000 in
theorem rmCh3_1 (l : Launch) (Z : State) (a0 : Array Value) (hw : ∀ d ∈ tables_1, d.before a0 Z = true) (ws : List Jvm.Cond) (so : Addr) (tb : Addr) (kb : ClassId) (x0 : Int32) (x1 : Int32) (x2 : Int32) (cs : Int32) (sf : Value) (h0 : Heap) (n0 : Nat) (O : Old Z n0 h0) (S_CS : Sta Z Z.heap "java/lang/String" "COMPACT_STRINGS" "Z" (.int cs)) (S_FM : Sta Z Z.heap "jdk/internal/util/Preconditions" "SIOOBE_FORMATTER" "Ljava/util/function/BiFunction;" sf) (E_so : Exa Z h0 so "java/lang/String") (F_value_so : Fld Z h0 so "java/lang/String" "value" "[B" (.ref tb)) (F_coder_so : Fld Z h0 so "java/lang/String" "coder" "B" (.int (0 : Int32))) (V_tb : Arv Z h0 tb kb .byte (3 : Int32) [(.int (x0.toInt8.toInt32)), (.int (x1.toInt8.toInt32)), (.int (x2.toInt8.toInt32))] (.int (0 : Int32))) (hcs : ¬ (cs = (0 : Int32))) (hsf : sf.isRef = true) (hl0 : ¬ (x1 < (0 : Int32))) (hl1 : ¬ ((255 : Int32) < x1)) :
    MetFree l y_7 (head1 (Jvm.Cond.code y_7 jdk_42_method_56_code 2 (some .char) :: ws) rm_rmCh3_1) (fun A_ U => A_ = #[(.ref so), (.int (1 : Int32))] ∧ Z.Warmed39 U.vm ∧ U.heap = h0) (fun _ _ _ _ _ => True) (fun _ U o U' => ∃ v L, o = .returned v ∧ Q_rmCh3_1 Z so tb kb x0 x1 x2 cs sf h0 n0 v U'.heap L ∧ FrameEnd U o U' L rm_rmCh3_1.cells rm_rmCh3_1.slots) := by
 refine MetFree.of_bodySF (plainFor_of_name pn_java_lang_String) hisR ?_
 intro p e s m args below meth c s₁ Bd hml0 hP hK
 obtain ⟨rfl, hZ, hh⟩ := hP
 have hx := Bd.exec
 have hby := Bd.bytes
 have hml : c.maxLocals = 2 := hml0
 have hown : s.vm.findClass "java/lang/String" = some m.cls := findClass_of_methodNamed Bd.named
 have hnm := (name_of_methodNamed Bd.named Bd.method).1
 have X0 : Stand p l e rm_rmCh3_1 s m #[(.ref so), (.int (1 : Int32))] below meth c s₁ [] 0 0 := Stand.of_body Bd
 have e0 : s₁.heap = h0 := by rw [← hh, Bd.state]; rfl
 have N0 := Fr.nil n0
 refine Go.step (p := p) (e := e) (below := below) (G := fun o U' => ∃ v L, o = .returned v ∧ Q_rmCh3_1 Z so tb kb x0 x1 x2 cs sf h0 n0 v U'.heap L ∧ FrameEnd s o U' L rm_rmCh3_1.cells rm_rmCh3_1.slots) (S' := s₁.setTop (mkF m 0 #[rv so, iv (1 : Int32)] [])) (fun t k => castTop (ef_rmCh3_1 m so) k) ?_
 refine Go.step (S' := s₁.setTop (mkF m 1 #[rv so, iv (1 : Int32)] [(.ref so)])) (fun t k => ?_) ?_
 · refine XS.aloadN X0.here hx rfl (hb hby d15_0) rfl rfl ?_
   exact k
 obtain ⟨cq1, kq1, q1a, q1b, q1c⟩ := isOf hZ e0 E_so
 obtain ⟨_, _, ⟨T1, L1, k1, n1⟩, -, X1, ⟨Lc1, hQ1, l1, y1, z1⟩, st1⟩ := X0.virtualBack hx (y := y_1) (z := y_1) hown (mvT hZ (own_w hw 85 rfl)) (mvT hZ (own_w hw 86 rfl)) (notFace_of_selects (args := #[]) (mvT hZ (own_w hw 88 rfl))) (mvT hZ (own_w hw 88 rfl)) (mvT hZ (own_w hw 87 rfl)) (by decide) (backOf (W := 0) (rmLat l Z a0 hw [] so cs h0 n0 O S_CS F_coder_so hcs) hZ (own_w hw 89 rfl) (own_w hw 7 rfl) (by decide) (by decide)) q1a q1c (g := (mkF m 1 #[rv so, iv (1 : Int32)] [(.ref so)])) rfl (by rw [hml]; rfl) (Steps.refl _) (argsL := []) (rest := []) (lenOf pd__28_29Z rfl) rfl (Nat.le_of_eq rfl) (hb hby d15_1) (fun _ _ => ⟨rfl, e0, (by decide : 0 + 0 ≤ _), (by decide : 0 + 0 ≤ _)⟩)
 dsimp only [Pt.U, Pt.locs, Pt.cells, Pt.slots] at X1 l1 y1 z1 st1 hQ1
 subst l1 y1 z1
 obtain ⟨rfl, Nq1, e1⟩ := hQ1
 have N1 := Fr.app N0 Nq1
 refine Go.step (fun t k => st1.trans k) ?_
 refine Go.step (S' := T1.setTop (mkF m 8 #[rv so, iv (1 : Int32)] [(.ref so)])) (fun t k => ?_) ?_
 · refine XS.ifNo X1.here hx rfl (hb hby d15_4) rfl ((if0 _ _).trans (feq ((by decide) : ¬ ((1 : Int32) = (0 : Int32)))).1) ?_
   refine XS.aloadN X1.here hx rfl (hb hby d15_7) rfl rfl ?_
   exact k
 obtain ⟨T2, X2, e2, st2⟩ := getF X1 hx hZ hown (host := "") (Or.inl (own_w hw 33 rfl)) Via.refl e1 F_value_so (g := (mkF m 8 #[rv so, iv (1 : Int32)] [(.ref so)])) rfl rfl (hb hby d15_8)
 refine Go.step st2 ?_
 refine Go.step (S' := T2.setTop (mkF m 12 #[rv so, iv (1 : Int32)] [(.int (1 : Int32)), (.ref tb)])) (fun t k => ?_) ?_
 · refine XS.iloadN X2.here hx rfl (hb hby d15_11) rfl ?_
   exact k
 obtain ⟨_, _, ⟨T3, L3, k3, n3⟩, -, X3, ⟨Lc3, hQ3, l3, y3, z3⟩, st3⟩ := Jvm.LawKit.callS X2 hx (y := y_6) hown (mvT hZ (own_w hw 90 rfl)) (mvT hZ (own_w hw 91 rfl)) (mvT hZ (own_w hw 92 rfl)) (mvT hZ (own_w hw 93 rfl)) (by decide) (backOf (W := 0) (rmLC3_1 l Z a0 hw [] tb kb x0 x1 x2 sf h0 n0 O V_tb S_FM hsf hl0 hl1) hZ (own_w hw 93 rfl) (own_w hw 92 rfl) (by decide) (by decide)) (g := (mkF m 12 #[rv so, iv (1 : Int32)] [(.int (1 : Int32)), (.ref tb)])) rfl (by rw [hml]; rfl) (argsL := [(.ref tb), (.int (1 : Int32))]) (rest := []) (lenOf pd__28_5bBI_29C rfl) rfl (Nat.le_of_eq rfl) (hb hby d15_12) (fun _ _ => ⟨rfl, e2, (by decide : 0 + 0 ≤ _), (by decide : 0 + 0 ≤ _)⟩)
 dsimp only [Pt.U, Pt.locs, Pt.cells, Pt.slots] at X3 l3 y3 z3 st3 hQ3
 subst l3 y3 z3
 obtain ⟨rfl, Nq3, e3⟩ := hQ3
 have N3 := Fr.app N1 Nq3
 refine Go.step st3 ?_
 obtain ⟨fs, hr, hrun, hended, hW, hsame⟩ := X3.leave (v := some (.int x1)) (fun h => by rw [Bd.returns] at h; cases h)
 refine Go.fin (S' := T3.setFrames fs) ?_ hrun hended ⟨_, _, rfl, ?_, ⟨_, rfl⟩, hW, hsame.mono (by decide) (by decide)⟩
 · exact retOut X3 hx Bd.returns (own_nc hl0 hl1) (Or.inl ⟨rfl, Or.inr (Or.inr (Or.inr (Or.inl rfl))), _, rfl⟩) (hb hby d15_15) hr
 · show Q_rmCh3_1 Z so tb kb x0 x1 x2 cs sf h0 n0 (some (.int x1)) T3.heap _
   rw [e3]
   exact ⟨rfl, N3, rfl⟩
theorem ef_rmLC3_2 (m : MethodId) (tb : Addr) : entryFrame m #[(.ref tb), (.int (2 : Int32))] 2 = mkF m 0 #[.val (.ref tb), .val (.int (2 : Int32))] [] := by first | (simp [entryFrame, mkF, argsToLocals, Value.category]; done) | rfl
abbrev rm_rmLC3_2 : Room := ({ frames := 2, cells := 0, slots := 0, locals := 27 } : Room)
def Q_rmLC3_2 (Z : State) (tb : Addr) (kb : ClassId) (x0 : Int32) (x1 : Int32) (x2 : Int32) (sf : Value) (h0 : Heap) (n0 : Nat) (v : Option Value) (h : Heap) (L : List Loc) : Prop := (v = some (.int x2)) ∧ (Fr n0 L) ∧ (h = h0)
set_option maxRecDepth 65536 in
set_option maxHeartbeats 4000000 in
theorem rmLC3_2 (l : Launch) (Z : State) (a0 : Array Value) (hw : ∀ d ∈ tables_1, d.before a0 Z = true) (ws : List Jvm.Cond) (tb : Addr) (kb : ClassId) (x0 : Int32) (x1 : Int32) (x2 : Int32) (sf : Value) (h0 : Heap) (n0 : Nat) (O : Old Z n0 h0) (V_tb : Arv Z h0 tb kb .byte (3 : Int32) [(.int (x0.toInt8.toInt32)), (.int (x1.toInt8.toInt32)), (.int (x2.toInt8.toInt32))] (.int (0 : Int32))) (S_FM : Sta Z Z.heap "jdk/internal/util/Preconditions" "SIOOBE_FORMATTER" "Ljava/util/function/BiFunction;" sf) (hsf : sf.isRef = true) (hl0 : ¬ (x2 < (0 : Int32))) (hl1 : ¬ ((255 : Int32) < x2)) :
    MetFree l y_6 (head1 (Jvm.Cond.code y_6 jdk_43_method_2_code 2 (some .char) :: ws) rm_rmLC3_2) (fun A_ U => A_ = #[(.ref tb), (.int (2 : Int32))] ∧ Z.Warmed39 U.vm ∧ U.heap = h0) (fun _ _ _ _ _ => True) (fun _ U o U' => ∃ v L, o = .returned v ∧ Q_rmLC3_2 Z tb kb x0 x1 x2 sf h0 n0 v U'.heap L ∧ FrameEnd U o U' L rm_rmLC3_2.cells rm_rmLC3_2.slots) := by
 refine MetFree.of_bodySF (plainFor_of_name pn_java_lang_StringLatin1) hisR ?_
 intro p e s m args below meth c s₁ Bd hml0 hP hK
 obtain ⟨rfl, hZ, hh⟩ := hP
 have hx := Bd.exec
 have hby := Bd.bytes
 have hml : c.maxLocals = 2 := hml0
 have hown : s.vm.findClass "java/lang/StringLatin1" = some m.cls := findClass_of_methodNamed Bd.named
 have hnm := (name_of_methodNamed Bd.named Bd.method).1
 have X0 : Stand p l e rm_rmLC3_2 s m #[(.ref tb), (.int (2 : Int32))] below meth c s₁ [] 0 0 := Stand.of_body Bd
 have e0 : s₁.heap = h0 := by rw [← hh, Bd.state]; rfl
 have N0 := Fr.nil n0
 refine Go.step (p := p) (e := e) (below := below) (G := fun o U' => ∃ v L, o = .returned v ∧ Q_rmLC3_2 Z tb kb x0 x1 x2 sf h0 n0 v U'.heap L ∧ FrameEnd s o U' L rm_rmLC3_2.cells rm_rmLC3_2.slots) (S' := s₁.setTop (mkF m 0 #[rv tb, iv (2 : Int32)] [])) (fun t k => castTop (ef_rmLC3_2 m tb) k) ?_
 refine Go.step (S' := s₁.setTop (mkF m 2 #[rv tb, iv (2 : Int32)] [(.ref tb), (.int (2 : Int32))])) (fun t k => ?_) ?_
 · refine XS.iloadN X0.here hx rfl (hb hby d17_0) rfl ?_
   refine XS.aloadN X0.here hx rfl (hb hby d17_1) rfl rfl ?_
   exact k
 obtain ⟨cl1, Ar1, -, S1, N1_, -, -⟩ := id V_tb
 refine Go.step (S' := s₁.setTop (mkF m 3 #[rv tb, iv (2 : Int32)] [(.int cl1.slots.size.toInt32), (.int (2 : Int32))])) (fun t k => X0.arraylength hx (by rw [e0]; exact Ar1.1) (State.isArrayOf_alike hZ.alike Ar1.2.1) (g := (mkF m 2 #[rv tb, iv (2 : Int32)] [(.ref tb), (.int (2 : Int32))])) rfl rfl (hb hby d17_2) _ k) ?_
 rw [len_of S1 N1_]
 show Go p e below _ (s₁.setTop (mkF m 3 #[rv tb, iv (2 : Int32)] [(.int (3 : Int32)), (.int (2 : Int32))]))
 obtain ⟨_, _, ⟨T2, L2, k2, n2⟩, -, X2, ⟨Lc2, hQ2, l2, y2, z2⟩, st2⟩ := Jvm.LawKit.callS X0 hx (y := y_3) hown (mvT hZ (own_w hw 94 rfl)) (mvT hZ (own_w hw 95 rfl)) (mvT hZ (own_w hw 7 rfl)) (mvT hZ (own_w hw 96 rfl)) (by decide) (backOf (W := 0) (rmCk l Z a0 hw [] (2 : Int32) (3 : Int32) sf h0 n0 O (by decide) (by decide) S_FM hsf) hZ (own_w hw 96 rfl) (own_w hw 7 rfl) (by decide) (by decide)) (g := (mkF m 3 #[rv tb, iv (2 : Int32)] [(.int (3 : Int32)), (.int (2 : Int32))])) rfl (by rw [hml]; rfl) (argsL := [(.int (2 : Int32)), (.int (3 : Int32))]) (rest := []) (lenOf pd__28II_29V rfl) rfl (Nat.le_of_eq rfl) (hb hby d17_3) (fun _ _ => ⟨rfl, e0, (by decide : 0 + 0 ≤ _), (by decide : 0 + 0 ≤ _)⟩)
 dsimp only [Pt.U, Pt.locs, Pt.cells, Pt.slots] at X2 l2 y2 z2 st2 hQ2
 subst l2 y2 z2
 obtain ⟨rfl, Nq2, e2⟩ := hQ2
 have N2 := Fr.app N0 Nq2
 refine Go.step st2 ?_
 refine Go.step (S' := T2.setTop (mkF m 8 #[rv tb, iv (2 : Int32)] [(.int (2 : Int32)), (.ref tb)])) (fun t k => ?_) ?_
 · refine XS.aloadN X2.here hx rfl (hb hby d17_6) rfl rfl ?_
   refine XS.iloadN X2.here hx rfl (hb hby d17_7) rfl ?_
   exact k
 obtain ⟨cl3, Ar3, -, S3, -, H3, -⟩ := id V_tb
 have hin3 : ¬ ((2 : Int32) < 0 ∨ cl3.slots.size ≤ ((2 : Int32)).toNatClampNeg) := inb_of S3 ⟨by decide, by decide⟩
 refine Go.step (S' := T2.setTop (mkF m 9 #[rv tb, iv (2 : Int32)] [(.int (x2.toInt8.toInt32))])) (fun t k => X2.baloadBytes hx (j := (2 : Int32)) (v := (.int (x2.toInt8.toInt32))) (by rw [e2]; exact Ar3.1) (State.isArrayOf_alike hZ.alike Ar3.2.1) Ar3.2.2 hin3 (H3.at hin3 rfl) (g := (mkF m 8 #[rv tb, iv (2 : Int32)] [(.int (2 : Int32)), (.ref tb)])) rfl rfl (hb hby d17_8) _ k) ?_
 refine Go.step (S' := T2.setTop (mkF m 14 #[rv tb, iv (2 : Int32)] [(.int (((x2.toInt8.toInt32) &&& (255 : Int32)).toUInt32.toUInt16.toUInt32.toInt32))])) (fun t k => ?_) ?_
 · refine XS.sipush X2.here hx rfl (hb hby d17_9) ?_
   refine XS.iand X2.here hx rfl (hb hby d17_12) rfl ?_
   refine XS.i2c X2.here hx rfl (hb hby d17_13) rfl ?_
   exact k
 obtain ⟨fs, hr, hrun, hended, hW, hsame⟩ := X2.leave (v := some (.int (((x2.toInt8.toInt32) &&& (255 : Int32)).toUInt32.toUInt16.toUInt32.toInt32))) (fun h => by rw [Bd.returns] at h; cases h)
 refine Go.fin (S' := T2.setFrames fs) ?_ hrun hended ⟨_, _, rfl, ?_, ⟨_, rfl⟩, hW, hsame.mono (by decide) (by decide)⟩
 · exact retOut X2 hx Bd.returns (Jvm.Free.XT.narrow_c _) (Or.inl ⟨rfl, Or.inr (Or.inr (Or.inr (Or.inl rfl))), _, rfl⟩) (hb hby d17_14) hr
 · show Q_rmLC3_2 Z tb kb x0 x1 x2 sf h0 n0 (some (.int (((x2.toInt8.toInt32) &&& (255 : Int32)).toUInt32.toUInt16.toUInt32.toInt32))) T2.heap _
   rw [e2]
   exact ⟨(congrArg (fun z => some (Value.int z)) (own_char hl0 hl1)), N2, rfl⟩
theorem ef_rmCh3_2 (m : MethodId) (so : Addr) : entryFrame m #[(.ref so), (.int (2 : Int32))] 2 = mkF m 0 #[.val (.ref so), .val (.int (2 : Int32))] [] := by first | (simp [entryFrame, mkF, argsToLocals, Value.category]; done) | rfl
abbrev rm_rmCh3_2 : Room := ({ frames := 3, cells := 0, slots := 0, locals := 40 } : Room)
def Q_rmCh3_2 (Z : State) (so : Addr) (tb : Addr) (kb : ClassId) (x0 : Int32) (x1 : Int32) (x2 : Int32) (cs : Int32) (sf : Value) (h0 : Heap) (n0 : Nat) (v : Option Value) (h : Heap) (L : List Loc) : Prop := (v = some (.int x2)) ∧ (Fr n0 L) ∧ (h = h0)
set_option maxRecDepth 65536 in
set_option maxHeartbeats 4000000 in
theorem rmCh3_2 (l : Launch) (Z : State) (a0 : Array Value) (hw : ∀ d ∈ tables_1, d.before a0 Z = true) (ws : List Jvm.Cond) (so : Addr) (tb : Addr) (kb : ClassId) (x0 : Int32) (x1 : Int32) (x2 : Int32) (cs : Int32) (sf : Value) (h0 : Heap) (n0 : Nat) (O : Old Z n0 h0) (S_CS : Sta Z Z.heap "java/lang/String" "COMPACT_STRINGS" "Z" (.int cs)) (S_FM : Sta Z Z.heap "jdk/internal/util/Preconditions" "SIOOBE_FORMATTER" "Ljava/util/function/BiFunction;" sf) (E_so : Exa Z h0 so "java/lang/String") (F_value_so : Fld Z h0 so "java/lang/String" "value" "[B" (.ref tb)) (F_coder_so : Fld Z h0 so "java/lang/String" "coder" "B" (.int (0 : Int32))) (V_tb : Arv Z h0 tb kb .byte (3 : Int32) [(.int (x0.toInt8.toInt32)), (.int (x1.toInt8.toInt32)), (.int (x2.toInt8.toInt32))] (.int (0 : Int32))) (hcs : ¬ (cs = (0 : Int32))) (hsf : sf.isRef = true) (hl0 : ¬ (x2 < (0 : Int32))) (hl1 : ¬ ((255 : Int32) < x2)) :
    MetFree l y_7 (head1 (Jvm.Cond.code y_7 jdk_42_method_56_code 2 (some .char) :: ws) rm_rmCh3_2) (fun A_ U => A_ = #[(.ref so), (.int (2 : Int32))] ∧ Z.Warmed39 U.vm ∧ U.heap = h0) (fun _ _ _ _ _ => True) (fun _ U o U' => ∃ v L, o = .returned v ∧ Q_rmCh3_2 Z so tb kb x0 x1 x2 cs sf h0 n0 v U'.heap L ∧ FrameEnd U o U' L rm_rmCh3_2.cells rm_rmCh3_2.slots) := by
 refine MetFree.of_bodySF (plainFor_of_name pn_java_lang_String) hisR ?_
 intro p e s m args below meth c s₁ Bd hml0 hP hK
 obtain ⟨rfl, hZ, hh⟩ := hP
 have hx := Bd.exec
 have hby := Bd.bytes
 have hml : c.maxLocals = 2 := hml0
 have hown : s.vm.findClass "java/lang/String" = some m.cls := findClass_of_methodNamed Bd.named
 have hnm := (name_of_methodNamed Bd.named Bd.method).1
 have X0 : Stand p l e rm_rmCh3_2 s m #[(.ref so), (.int (2 : Int32))] below meth c s₁ [] 0 0 := Stand.of_body Bd
 have e0 : s₁.heap = h0 := by rw [← hh, Bd.state]; rfl
 have N0 := Fr.nil n0
 refine Go.step (p := p) (e := e) (below := below) (G := fun o U' => ∃ v L, o = .returned v ∧ Q_rmCh3_2 Z so tb kb x0 x1 x2 cs sf h0 n0 v U'.heap L ∧ FrameEnd s o U' L rm_rmCh3_2.cells rm_rmCh3_2.slots) (S' := s₁.setTop (mkF m 0 #[rv so, iv (2 : Int32)] [])) (fun t k => castTop (ef_rmCh3_2 m so) k) ?_
 refine Go.step (S' := s₁.setTop (mkF m 1 #[rv so, iv (2 : Int32)] [(.ref so)])) (fun t k => ?_) ?_
 · refine XS.aloadN X0.here hx rfl (hb hby d15_0) rfl rfl ?_
   exact k
 obtain ⟨cq1, kq1, q1a, q1b, q1c⟩ := isOf hZ e0 E_so
 obtain ⟨_, _, ⟨T1, L1, k1, n1⟩, -, X1, ⟨Lc1, hQ1, l1, y1, z1⟩, st1⟩ := X0.virtualBack hx (y := y_1) (z := y_1) hown (mvT hZ (own_w hw 85 rfl)) (mvT hZ (own_w hw 86 rfl)) (notFace_of_selects (args := #[]) (mvT hZ (own_w hw 88 rfl))) (mvT hZ (own_w hw 88 rfl)) (mvT hZ (own_w hw 87 rfl)) (by decide) (backOf (W := 0) (rmLat l Z a0 hw [] so cs h0 n0 O S_CS F_coder_so hcs) hZ (own_w hw 89 rfl) (own_w hw 7 rfl) (by decide) (by decide)) q1a q1c (g := (mkF m 1 #[rv so, iv (2 : Int32)] [(.ref so)])) rfl (by rw [hml]; rfl) (Steps.refl _) (argsL := []) (rest := []) (lenOf pd__28_29Z rfl) rfl (Nat.le_of_eq rfl) (hb hby d15_1) (fun _ _ => ⟨rfl, e0, (by decide : 0 + 0 ≤ _), (by decide : 0 + 0 ≤ _)⟩)
 dsimp only [Pt.U, Pt.locs, Pt.cells, Pt.slots] at X1 l1 y1 z1 st1 hQ1
 subst l1 y1 z1
 obtain ⟨rfl, Nq1, e1⟩ := hQ1
 have N1 := Fr.app N0 Nq1
 refine Go.step (fun t k => st1.trans k) ?_
 refine Go.step (S' := T1.setTop (mkF m 8 #[rv so, iv (2 : Int32)] [(.ref so)])) (fun t k => ?_) ?_
 · refine XS.ifNo X1.here hx rfl (hb hby d15_4) rfl ((if0 _ _).trans (feq ((by decide) : ¬ ((1 : Int32) = (0 : Int32)))).1) ?_
   refine XS.aloadN X1.here hx rfl (hb hby d15_7) rfl rfl ?_
   exact k
 obtain ⟨T2, X2, e2, st2⟩ := getF X1 hx hZ hown (host := "") (Or.inl (own_w hw 33 rfl)) Via.refl e1 F_value_so (g := (mkF m 8 #[rv so, iv (2 : Int32)] [(.ref so)])) rfl rfl (hb hby d15_8)
 refine Go.step st2 ?_
 refine Go.step (S' := T2.setTop (mkF m 12 #[rv so, iv (2 : Int32)] [(.int (2 : Int32)), (.ref tb)])) (fun t k => ?_) ?_
 · refine XS.iloadN X2.here hx rfl (hb hby d15_11) rfl ?_
   exact k
 obtain ⟨_, _, ⟨T3, L3, k3, n3⟩, -, X3, ⟨Lc3, hQ3, l3, y3, z3⟩, st3⟩ := Jvm.LawKit.callS X2 hx (y := y_6) hown (mvT hZ (own_w hw 90 rfl)) (mvT hZ (own_w hw 91 rfl)) (mvT hZ (own_w hw 92 rfl)) (mvT hZ (own_w hw 93 rfl)) (by decide) (backOf (W := 0) (rmLC3_2 l Z a0 hw [] tb kb x0 x1 x2 sf h0 n0 O V_tb S_FM hsf hl0 hl1) hZ (own_w hw 93 rfl) (own_w hw 92 rfl) (by decide) (by decide)) (g := (mkF m 12 #[rv so, iv (2 : Int32)] [(.int (2 : Int32)), (.ref tb)])) rfl (by rw [hml]; rfl) (argsL := [(.ref tb), (.int (2 : Int32))]) (rest := []) (lenOf pd__28_5bBI_29C rfl) rfl (Nat.le_of_eq rfl) (hb hby d15_12) (fun _ _ => ⟨rfl, e2, (by decide : 0 + 0 ≤ _), (by decide : 0 + 0 ≤ _)⟩)
 dsimp only [Pt.U, Pt.locs, Pt.cells, Pt.slots] at X3 l3 y3 z3 st3 hQ3
 subst l3 y3 z3
 obtain ⟨rfl, Nq3, e3⟩ := hQ3
 have N3 := Fr.app N1 Nq3
 refine Go.step st3 ?_
 obtain ⟨fs, hr, hrun, hended, hW, hsame⟩ := X3.leave (v := some (.int x2)) (fun h => by rw [Bd.returns] at h; cases h)
 refine Go.fin (S' := T3.setFrames fs) ?_ hrun hended ⟨_, _, rfl, ?_, ⟨_, rfl⟩, hW, hsame.mono (by decide) (by decide)⟩
 · exact retOut X3 hx Bd.returns (own_nc hl0 hl1) (Or.inl ⟨rfl, Or.inr (Or.inr (Or.inr (Or.inl rfl))), _, rfl⟩) (hb hby d15_15) hr
 · show Q_rmCh3_2 Z so tb kb x0 x1 x2 cs sf h0 n0 (some (.int x2)) T3.heap _
   rw [e3]
   exact ⟨rfl, N3, rfl⟩
theorem ef_rmEmp4 (m : MethodId) (so : Addr) : entryFrame m #[(.ref so)] 1 = mkF m 0 #[.val (.ref so)] [] := by first | (simp [entryFrame, mkF, argsToLocals, Value.category]; done) | rfl
abbrev rm_rmEmp4 : Room := ({ frames := 0, cells := 0, slots := 0, locals := 0 } : Room)
def Q_rmEmp4 (Z : State) (so : Addr) (tb : Addr) (kb : ClassId) (x0 : Int32) (x1 : Int32) (x2 : Int32) (x3 : Int32) (h0 : Heap) (n0 : Nat) (v : Option Value) (h : Heap) (L : List Loc) : Prop := (v = some (.int (0 : Int32))) ∧ (Fr n0 L) ∧ (h = h0)
set_option maxRecDepth 65536 in
set_option maxHeartbeats 4000000 in
theorem rmEmp4 (l : Launch) (Z : State) (a0 : Array Value) (hw : ∀ d ∈ tables_1, d.before a0 Z = true) (ws : List Jvm.Cond) (so : Addr) (tb : Addr) (kb : ClassId) (x0 : Int32) (x1 : Int32) (x2 : Int32) (x3 : Int32) (h0 : Heap) (n0 : Nat) (O : Old Z n0 h0) (F_value_so : Fld Z h0 so "java/lang/String" "value" "[B" (.ref tb)) (V_tb : Arv Z h0 tb kb .byte (4 : Int32) [(.int (x0.toInt8.toInt32)), (.int (x1.toInt8.toInt32)), (.int (x2.toInt8.toInt32)), (.int (x3.toInt8.toInt32))] (.int (0 : Int32))) :
    MetFree l y_4 (head1 (Jvm.Cond.code y_4 jdk_42_method_55_code 1 (some .boolean) :: ws) rm_rmEmp4) (fun A_ U => A_ = #[(.ref so)] ∧ Z.Warmed39 U.vm ∧ U.heap = h0) (fun _ _ _ _ _ => True) (fun _ U o U' => ∃ v L, o = .returned v ∧ Q_rmEmp4 Z so tb kb x0 x1 x2 x3 h0 n0 v U'.heap L ∧ FrameEnd U o U' L rm_rmEmp4.cells rm_rmEmp4.slots) := by
 refine MetFree.of_bodySF (plainFor_of_name pn_java_lang_String) hisR ?_
 intro p e s m args below meth c s₁ Bd hml0 hP hK
 obtain ⟨rfl, hZ, hh⟩ := hP
 have hx := Bd.exec
 have hby := Bd.bytes
 have hml : c.maxLocals = 1 := hml0
 have hown : s.vm.findClass "java/lang/String" = some m.cls := findClass_of_methodNamed Bd.named
 have hnm := (name_of_methodNamed Bd.named Bd.method).1
 have X0 : Stand p l e rm_rmEmp4 s m #[(.ref so)] below meth c s₁ [] 0 0 := Stand.of_body Bd
 have e0 : s₁.heap = h0 := by rw [← hh, Bd.state]; rfl
 have N0 := Fr.nil n0
 refine Go.step (p := p) (e := e) (below := below) (G := fun o U' => ∃ v L, o = .returned v ∧ Q_rmEmp4 Z so tb kb x0 x1 x2 x3 h0 n0 v U'.heap L ∧ FrameEnd s o U' L rm_rmEmp4.cells rm_rmEmp4.slots) (S' := s₁.setTop (mkF m 0 #[rv so] [])) (fun t k => castTop (ef_rmEmp4 m so) k) ?_
 refine Go.step (S' := s₁.setTop (mkF m 1 #[rv so] [(.ref so)])) (fun t k => ?_) ?_
 · refine XS.aloadN X0.here hx rfl (hb hby d12_0) rfl rfl ?_
   exact k
 obtain ⟨T1, X1, e1, st1⟩ := getF X0 hx hZ hown (host := "") (Or.inl (own_w hw 33 rfl)) Via.refl e0 F_value_so (g := (mkF m 1 #[rv so] [(.ref so)])) rfl rfl (hb hby d12_1)
 refine Go.step st1 ?_
 obtain ⟨cl2, Ar2, -, S2, N2_, -, -⟩ := id V_tb
 refine Go.step (S' := T1.setTop (mkF m 5 #[rv so] [(.int cl2.slots.size.toInt32)])) (fun t k => X1.arraylength hx (by rw [e1]; exact Ar2.1) (State.isArrayOf_alike hZ.alike Ar2.2.1) (g := (mkF m 4 #[rv so] [(.ref tb)])) rfl rfl (hb hby d12_4) _ k) ?_
 rw [len_of S2 N2_]
 show Go p e below _ (T1.setTop (mkF m 5 #[rv so] [(.int (4 : Int32))]))
 refine Go.step (S' := T1.setTop (mkF m 13 #[rv so] [(.int (0 : Int32))])) (fun t k => ?_) ?_
 · refine XS.ifYes X1.here hx rfl (pc0 := 5) (pc' := 12) rfl (hb hby d12_5) rfl ((if0 _ _).trans (feq ((by decide) : ¬ ((4 : Int32) = (0 : Int32)))).2) (by decide) (by decide) ?_
   refine XS.iconst X1.here hx rfl (hb hby d12_12) ?_
   exact k
 obtain ⟨fs, hr, hrun, hended, hW, hsame⟩ := X1.leave (v := some (.int (0 : Int32))) (fun h => by rw [Bd.returns] at h; cases h)
 refine Go.fin (S' := T1.setFrames fs) ?_ hrun hended ⟨_, _, rfl, ?_, ⟨_, rfl⟩, hW, hsame.mono (by decide) (by decide)⟩
 · exact retOut X1 hx Bd.returns (by decide) (Or.inl ⟨rfl, Or.inr (Or.inl rfl), _, rfl⟩) (hb hby d12_13) hr
 · show Q_rmEmp4 Z so tb kb x0 x1 x2 x3 h0 n0 (some (.int (0 : Int32))) T1.heap _
   rw [e1]
   exact ⟨rfl, N0, rfl⟩
theorem ef_rmLen4 (m : MethodId) (so : Addr) : entryFrame m #[(.ref so)] 1 = mkF m 0 #[.val (.ref so)] [] := by first | (simp [entryFrame, mkF, argsToLocals, Value.category]; done) | rfl
abbrev rm_rmLen4 : Room := ({ frames := 1, cells := 0, slots := 0, locals := 13 } : Room)
def Q_rmLen4 (Z : State) (so : Addr) (tb : Addr) (kb : ClassId) (x0 : Int32) (x1 : Int32) (x2 : Int32) (x3 : Int32) (cs : Int32) (h0 : Heap) (n0 : Nat) (v : Option Value) (h : Heap) (L : List Loc) : Prop := (v = some (.int (4 : Int32))) ∧ (Fr n0 L) ∧ (h = h0)
set_option maxRecDepth 65536 in
set_option maxHeartbeats 4000000 in
theorem rmLen4 (l : Launch) (Z : State) (a0 : Array Value) (hw : ∀ d ∈ tables_1, d.before a0 Z = true) (ws : List Jvm.Cond) (so : Addr) (tb : Addr) (kb : ClassId) (x0 : Int32) (x1 : Int32) (x2 : Int32) (x3 : Int32) (cs : Int32) (h0 : Heap) (n0 : Nat) (O : Old Z n0 h0) (S_CS : Sta Z Z.heap "java/lang/String" "COMPACT_STRINGS" "Z" (.int cs)) (E_so : Exa Z h0 so "java/lang/String") (F_value_so : Fld Z h0 so "java/lang/String" "value" "[B" (.ref tb)) (F_coder_so : Fld Z h0 so "java/lang/String" "coder" "B" (.int (0 : Int32))) (V_tb : Arv Z h0 tb kb .byte (4 : Int32) [(.int (x0.toInt8.toInt32)), (.int (x1.toInt8.toInt32)), (.int (x2.toInt8.toInt32)), (.int (x3.toInt8.toInt32))] (.int (0 : Int32))) (hcs : ¬ (cs = (0 : Int32))) :
    MetFree l y_5 (head1 (Jvm.Cond.code y_5 jdk_42_method_54_code 1 (some .int) :: ws) rm_rmLen4) (fun A_ U => A_ = #[(.ref so)] ∧ Z.Warmed39 U.vm ∧ U.heap = h0) (fun _ _ _ _ _ => True) (fun _ U o U' => ∃ v L, o = .returned v ∧ Q_rmLen4 Z so tb kb x0 x1 x2 x3 cs h0 n0 v U'.heap L ∧ FrameEnd U o U' L rm_rmLen4.cells rm_rmLen4.slots) := by
 refine MetFree.of_bodySF (plainFor_of_name pn_java_lang_String) hisR ?_
 intro p e s m args below meth c s₁ Bd hml0 hP hK
 obtain ⟨rfl, hZ, hh⟩ := hP
 have hx := Bd.exec
 have hby := Bd.bytes
 have hml : c.maxLocals = 1 := hml0
 have hown : s.vm.findClass "java/lang/String" = some m.cls := findClass_of_methodNamed Bd.named
 have hnm := (name_of_methodNamed Bd.named Bd.method).1
 have X0 : Stand p l e rm_rmLen4 s m #[(.ref so)] below meth c s₁ [] 0 0 := Stand.of_body Bd
 have e0 : s₁.heap = h0 := by rw [← hh, Bd.state]; rfl
 have N0 := Fr.nil n0
 refine Go.step (p := p) (e := e) (below := below) (G := fun o U' => ∃ v L, o = .returned v ∧ Q_rmLen4 Z so tb kb x0 x1 x2 x3 cs h0 n0 v U'.heap L ∧ FrameEnd s o U' L rm_rmLen4.cells rm_rmLen4.slots) (S' := s₁.setTop (mkF m 0 #[rv so] [])) (fun t k => castTop (ef_rmLen4 m so) k) ?_
 refine Go.step (S' := s₁.setTop (mkF m 1 #[rv so] [(.ref so)])) (fun t k => ?_) ?_
 · refine XS.aloadN X0.here hx rfl (hb hby d13_0) rfl rfl ?_
   exact k
 obtain ⟨T1, X1, e1, st1⟩ := getF X0 hx hZ hown (host := "") (Or.inl (own_w hw 33 rfl)) Via.refl e0 F_value_so (g := (mkF m 1 #[rv so] [(.ref so)])) rfl rfl (hb hby d13_1)
 refine Go.step st1 ?_
 obtain ⟨cl2, Ar2, -, S2, N2_, -, -⟩ := id V_tb
 refine Go.step (S' := T1.setTop (mkF m 5 #[rv so] [(.int cl2.slots.size.toInt32)])) (fun t k => X1.arraylength hx (by rw [e1]; exact Ar2.1) (State.isArrayOf_alike hZ.alike Ar2.2.1) (g := (mkF m 4 #[rv so] [(.ref tb)])) rfl rfl (hb hby d13_4) _ k) ?_
 rw [len_of S2 N2_]
 show Go p e below _ (T1.setTop (mkF m 5 #[rv so] [(.int (4 : Int32))]))
 refine Go.step (S' := T1.setTop (mkF m 6 #[rv so] [(.ref so), (.int (4 : Int32))])) (fun t k => ?_) ?_
 · refine XS.aloadN X1.here hx rfl (hb hby d13_5) rfl rfl ?_
   exact k
 obtain ⟨cq3, kq3, q3a, q3b, q3c⟩ := isOf hZ e1 E_so
 obtain ⟨_, _, ⟨T3, L3, k3, n3⟩, -, X3, ⟨Lc3, hQ3, l3, y3, z3⟩, st3⟩ := X1.virtualBack hx (y := y_0) (z := y_0) hown (mvT hZ (own_w hw 75 rfl)) (mvT hZ (own_w hw 76 rfl)) (notFace_of_selects (args := #[]) (mvT hZ (own_w hw 78 rfl))) (mvT hZ (own_w hw 78 rfl)) (mvT hZ (own_w hw 77 rfl)) (by decide) (backOf (W := 1) (rmCod l Z a0 hw [] so cs h0 n0 O S_CS F_coder_so hcs) hZ (own_w hw 79 rfl) (own_w hw 7 rfl) (by decide) (by decide)) q3a q3c (g := (mkF m 6 #[rv so] [(.ref so), (.int (4 : Int32))])) rfl (by rw [hml]; rfl) (Steps.refl _) (argsL := []) (rest := [(.int (4 : Int32))]) (lenOf pd__28_29B rfl) rfl (Nat.le_of_eq rfl) (hb hby d13_6) (fun _ _ => ⟨rfl, e1, (by decide : 0 + 0 ≤ _), (by decide : 0 + 0 ≤ _)⟩)
 dsimp only [Pt.U, Pt.locs, Pt.cells, Pt.slots] at X3 l3 y3 z3 st3 hQ3
 subst l3 y3 z3
 obtain ⟨rfl, Nq3, e3⟩ := hQ3
 have N3 := Fr.app N0 Nq3
 refine Go.step (fun t k => st3.trans k) ?_
 refine Go.step (S' := T3.setTop (mkF m 10 #[rv so] [(.int ((4 : Int32) >>> ((0 : Int32) &&& 31)))])) (fun t k => ?_) ?_
 · refine XS.ishr X3.here hx rfl (hb hby d13_9) rfl ?_
   exact k
 rw [show ((4 : Int32) >>> ((0 : Int32) &&& 31)) = (4 : Int32) from by decide]
 show Go p e below _ (T3.setTop (mkF m 10 #[rv so] [(.int (4 : Int32))]))
 obtain ⟨fs, hr, hrun, hended, hW, hsame⟩ := X3.leave (v := some (.int (4 : Int32))) (fun h => by rw [Bd.returns] at h; cases h)
 refine Go.fin (S' := T3.setFrames fs) ?_ hrun hended ⟨_, _, rfl, ?_, ⟨_, rfl⟩, hW, hsame.mono (by decide) (by decide)⟩
 · exact retOut X3 hx Bd.returns rfl (Or.inl ⟨rfl, Or.inl rfl, _, rfl⟩) (hb hby d13_10) hr
 · show Q_rmLen4 Z so tb kb x0 x1 x2 x3 cs h0 n0 (some (.int (4 : Int32))) T3.heap _
   rw [e3]
   exact ⟨rfl, N3, rfl⟩
theorem ef_rmLC4_0 (m : MethodId) (tb : Addr) : entryFrame m #[(.ref tb), (.int (0 : Int32))] 2 = mkF m 0 #[.val (.ref tb), .val (.int (0 : Int32))] [] := by first | (simp [entryFrame, mkF, argsToLocals, Value.category]; done) | rfl
abbrev rm_rmLC4_0 : Room := ({ frames := 2, cells := 0, slots := 0, locals := 27 } : Room)
def Q_rmLC4_0 (Z : State) (tb : Addr) (kb : ClassId) (x0 : Int32) (x1 : Int32) (x2 : Int32) (x3 : Int32) (sf : Value) (h0 : Heap) (n0 : Nat) (v : Option Value) (h : Heap) (L : List Loc) : Prop := (v = some (.int x0)) ∧ (Fr n0 L) ∧ (h = h0)
set_option maxRecDepth 65536 in
set_option maxHeartbeats 4000000 in
theorem rmLC4_0 (l : Launch) (Z : State) (a0 : Array Value) (hw : ∀ d ∈ tables_1, d.before a0 Z = true) (ws : List Jvm.Cond) (tb : Addr) (kb : ClassId) (x0 : Int32) (x1 : Int32) (x2 : Int32) (x3 : Int32) (sf : Value) (h0 : Heap) (n0 : Nat) (O : Old Z n0 h0) (V_tb : Arv Z h0 tb kb .byte (4 : Int32) [(.int (x0.toInt8.toInt32)), (.int (x1.toInt8.toInt32)), (.int (x2.toInt8.toInt32)), (.int (x3.toInt8.toInt32))] (.int (0 : Int32))) (S_FM : Sta Z Z.heap "jdk/internal/util/Preconditions" "SIOOBE_FORMATTER" "Ljava/util/function/BiFunction;" sf) (hsf : sf.isRef = true) (hl0 : ¬ (x0 < (0 : Int32))) (hl1 : ¬ ((255 : Int32) < x0)) :
    MetFree l y_6 (head1 (Jvm.Cond.code y_6 jdk_43_method_2_code 2 (some .char) :: ws) rm_rmLC4_0) (fun A_ U => A_ = #[(.ref tb), (.int (0 : Int32))] ∧ Z.Warmed39 U.vm ∧ U.heap = h0) (fun _ _ _ _ _ => True) (fun _ U o U' => ∃ v L, o = .returned v ∧ Q_rmLC4_0 Z tb kb x0 x1 x2 x3 sf h0 n0 v U'.heap L ∧ FrameEnd U o U' L rm_rmLC4_0.cells rm_rmLC4_0.slots) := by
 refine MetFree.of_bodySF (plainFor_of_name pn_java_lang_StringLatin1) hisR ?_
 intro p e s m args below meth c s₁ Bd hml0 hP hK
 obtain ⟨rfl, hZ, hh⟩ := hP
 have hx := Bd.exec
 have hby := Bd.bytes
 have hml : c.maxLocals = 2 := hml0
 have hown : s.vm.findClass "java/lang/StringLatin1" = some m.cls := findClass_of_methodNamed Bd.named
 have hnm := (name_of_methodNamed Bd.named Bd.method).1
 have X0 : Stand p l e rm_rmLC4_0 s m #[(.ref tb), (.int (0 : Int32))] below meth c s₁ [] 0 0 := Stand.of_body Bd
 have e0 : s₁.heap = h0 := by rw [← hh, Bd.state]; rfl
 have N0 := Fr.nil n0
 refine Go.step (p := p) (e := e) (below := below) (G := fun o U' => ∃ v L, o = .returned v ∧ Q_rmLC4_0 Z tb kb x0 x1 x2 x3 sf h0 n0 v U'.heap L ∧ FrameEnd s o U' L rm_rmLC4_0.cells rm_rmLC4_0.slots) (S' := s₁.setTop (mkF m 0 #[rv tb, iv (0 : Int32)] [])) (fun t k => castTop (ef_rmLC4_0 m tb) k) ?_
 refine Go.step (S' := s₁.setTop (mkF m 2 #[rv tb, iv (0 : Int32)] [(.ref tb), (.int (0 : Int32))])) (fun t k => ?_) ?_
 · refine XS.iloadN X0.here hx rfl (hb hby d17_0) rfl ?_
   refine XS.aloadN X0.here hx rfl (hb hby d17_1) rfl rfl ?_
   exact k
 obtain ⟨cl1, Ar1, -, S1, N1_, -, -⟩ := id V_tb
 refine Go.step (S' := s₁.setTop (mkF m 3 #[rv tb, iv (0 : Int32)] [(.int cl1.slots.size.toInt32), (.int (0 : Int32))])) (fun t k => X0.arraylength hx (by rw [e0]; exact Ar1.1) (State.isArrayOf_alike hZ.alike Ar1.2.1) (g := (mkF m 2 #[rv tb, iv (0 : Int32)] [(.ref tb), (.int (0 : Int32))])) rfl rfl (hb hby d17_2) _ k) ?_
 rw [len_of S1 N1_]
 show Go p e below _ (s₁.setTop (mkF m 3 #[rv tb, iv (0 : Int32)] [(.int (4 : Int32)), (.int (0 : Int32))]))
 obtain ⟨_, _, ⟨T2, L2, k2, n2⟩, -, X2, ⟨Lc2, hQ2, l2, y2, z2⟩, st2⟩ := Jvm.LawKit.callS X0 hx (y := y_3) hown (mvT hZ (own_w hw 94 rfl)) (mvT hZ (own_w hw 95 rfl)) (mvT hZ (own_w hw 7 rfl)) (mvT hZ (own_w hw 96 rfl)) (by decide) (backOf (W := 0) (rmCk l Z a0 hw [] (0 : Int32) (4 : Int32) sf h0 n0 O (by decide) (by decide) S_FM hsf) hZ (own_w hw 96 rfl) (own_w hw 7 rfl) (by decide) (by decide)) (g := (mkF m 3 #[rv tb, iv (0 : Int32)] [(.int (4 : Int32)), (.int (0 : Int32))])) rfl (by rw [hml]; rfl) (argsL := [(.int (0 : Int32)), (.int (4 : Int32))]) (rest := []) (lenOf pd__28II_29V rfl) rfl (Nat.le_of_eq rfl) (hb hby d17_3) (fun _ _ => ⟨rfl, e0, (by decide : 0 + 0 ≤ _), (by decide : 0 + 0 ≤ _)⟩)
 dsimp only [Pt.U, Pt.locs, Pt.cells, Pt.slots] at X2 l2 y2 z2 st2 hQ2
 subst l2 y2 z2
 obtain ⟨rfl, Nq2, e2⟩ := hQ2
 have N2 := Fr.app N0 Nq2
 refine Go.step st2 ?_
 refine Go.step (S' := T2.setTop (mkF m 8 #[rv tb, iv (0 : Int32)] [(.int (0 : Int32)), (.ref tb)])) (fun t k => ?_) ?_
 · refine XS.aloadN X2.here hx rfl (hb hby d17_6) rfl rfl ?_
   refine XS.iloadN X2.here hx rfl (hb hby d17_7) rfl ?_
   exact k
 obtain ⟨cl3, Ar3, -, S3, -, H3, -⟩ := id V_tb
 have hin3 : ¬ ((0 : Int32) < 0 ∨ cl3.slots.size ≤ ((0 : Int32)).toNatClampNeg) := inb_of S3 ⟨by decide, by decide⟩
 refine Go.step (S' := T2.setTop (mkF m 9 #[rv tb, iv (0 : Int32)] [(.int (x0.toInt8.toInt32))])) (fun t k => X2.baloadBytes hx (j := (0 : Int32)) (v := (.int (x0.toInt8.toInt32))) (by rw [e2]; exact Ar3.1) (State.isArrayOf_alike hZ.alike Ar3.2.1) Ar3.2.2 hin3 (H3.at hin3 rfl) (g := (mkF m 8 #[rv tb, iv (0 : Int32)] [(.int (0 : Int32)), (.ref tb)])) rfl rfl (hb hby d17_8) _ k) ?_
 refine Go.step (S' := T2.setTop (mkF m 14 #[rv tb, iv (0 : Int32)] [(.int (((x0.toInt8.toInt32) &&& (255 : Int32)).toUInt32.toUInt16.toUInt32.toInt32))])) (fun t k => ?_) ?_
 · refine XS.sipush X2.here hx rfl (hb hby d17_9) ?_
   refine XS.iand X2.here hx rfl (hb hby d17_12) rfl ?_
   refine XS.i2c X2.here hx rfl (hb hby d17_13) rfl ?_
   exact k
 obtain ⟨fs, hr, hrun, hended, hW, hsame⟩ := X2.leave (v := some (.int (((x0.toInt8.toInt32) &&& (255 : Int32)).toUInt32.toUInt16.toUInt32.toInt32))) (fun h => by rw [Bd.returns] at h; cases h)
 refine Go.fin (S' := T2.setFrames fs) ?_ hrun hended ⟨_, _, rfl, ?_, ⟨_, rfl⟩, hW, hsame.mono (by decide) (by decide)⟩
 · exact retOut X2 hx Bd.returns (Jvm.Free.XT.narrow_c _) (Or.inl ⟨rfl, Or.inr (Or.inr (Or.inr (Or.inl rfl))), _, rfl⟩) (hb hby d17_14) hr
 · show Q_rmLC4_0 Z tb kb x0 x1 x2 x3 sf h0 n0 (some (.int (((x0.toInt8.toInt32) &&& (255 : Int32)).toUInt32.toUInt16.toUInt32.toInt32))) T2.heap _
   rw [e2]
   exact ⟨(congrArg (fun z => some (Value.int z)) (own_char hl0 hl1)), N2, rfl⟩
theorem ef_rmCh4_0 (m : MethodId) (so : Addr) : entryFrame m #[(.ref so), (.int (0 : Int32))] 2 = mkF m 0 #[.val (.ref so), .val (.int (0 : Int32))] [] := by first | (simp [entryFrame, mkF, argsToLocals, Value.category]; done) | rfl
abbrev rm_rmCh4_0 : Room := ({ frames := 3, cells := 0, slots := 0, locals := 40 } : Room)
def Q_rmCh4_0 (Z : State) (so : Addr) (tb : Addr) (kb : ClassId) (x0 : Int32) (x1 : Int32) (x2 : Int32) (x3 : Int32) (cs : Int32) (sf : Value) (h0 : Heap) (n0 : Nat) (v : Option Value) (h : Heap) (L : List Loc) : Prop := (v = some (.int x0)) ∧ (Fr n0 L) ∧ (h = h0)
set_option maxRecDepth 65536 in
set_option maxHeartbeats 4000000 in
theorem rmCh4_0 (l : Launch) (Z : State) (a0 : Array Value) (hw : ∀ d ∈ tables_1, d.before a0 Z = true) (ws : List Jvm.Cond) (so : Addr) (tb : Addr) (kb : ClassId) (x0 : Int32) (x1 : Int32) (x2 : Int32) (x3 : Int32) (cs : Int32) (sf : Value) (h0 : Heap) (n0 : Nat) (O : Old Z n0 h0) (S_CS : Sta Z Z.heap "java/lang/String" "COMPACT_STRINGS" "Z" (.int cs)) (S_FM : Sta Z Z.heap "jdk/internal/util/Preconditions" "SIOOBE_FORMATTER" "Ljava/util/function/BiFunction;" sf) (E_so : Exa Z h0 so "java/lang/String") (F_value_so : Fld Z h0 so "java/lang/String" "value" "[B" (.ref tb)) (F_coder_so : Fld Z h0 so "java/lang/String" "coder" "B" (.int (0 : Int32))) (V_tb : Arv Z h0 tb kb .byte (4 : Int32) [(.int (x0.toInt8.toInt32)), (.int (x1.toInt8.toInt32)), (.int (x2.toInt8.toInt32)), (.int (x3.toInt8.toInt32))] (.int (0 : Int32))) (hcs : ¬ (cs = (0 : Int32))) (hsf : sf.isRef = true) (hl0 : ¬ (x0 < (0 : Int32))) (hl1 : ¬ ((255 : Int32) < x0)) :
    MetFree l y_7 (head1 (Jvm.Cond.code y_7 jdk_42_method_56_code 2 (some .char) :: ws) rm_rmCh4_0) (fun A_ U => A_ = #[(.ref so), (.int (0 : Int32))] ∧ Z.Warmed39 U.vm ∧ U.heap = h0) (fun _ _ _ _ _ => True) (fun _ U o U' => ∃ v L, o = .returned v ∧ Q_rmCh4_0 Z so tb kb x0 x1 x2 x3 cs sf h0 n0 v U'.heap L ∧ FrameEnd U o U' L rm_rmCh4_0.cells rm_rmCh4_0.slots) := by
 refine MetFree.of_bodySF (plainFor_of_name pn_java_lang_String) hisR ?_
 intro p e s m args below meth c s₁ Bd hml0 hP hK
 obtain ⟨rfl, hZ, hh⟩ := hP
 have hx := Bd.exec
 have hby := Bd.bytes
 have hml : c.maxLocals = 2 := hml0
 have hown : s.vm.findClass "java/lang/String" = some m.cls := findClass_of_methodNamed Bd.named
 have hnm := (name_of_methodNamed Bd.named Bd.method).1
 have X0 : Stand p l e rm_rmCh4_0 s m #[(.ref so), (.int (0 : Int32))] below meth c s₁ [] 0 0 := Stand.of_body Bd
 have e0 : s₁.heap = h0 := by rw [← hh, Bd.state]; rfl
 have N0 := Fr.nil n0
 refine Go.step (p := p) (e := e) (below := below) (G := fun o U' => ∃ v L, o = .returned v ∧ Q_rmCh4_0 Z so tb kb x0 x1 x2 x3 cs sf h0 n0 v U'.heap L ∧ FrameEnd s o U' L rm_rmCh4_0.cells rm_rmCh4_0.slots) (S' := s₁.setTop (mkF m 0 #[rv so, iv (0 : Int32)] [])) (fun t k => castTop (ef_rmCh4_0 m so) k) ?_
 refine Go.step (S' := s₁.setTop (mkF m 1 #[rv so, iv (0 : Int32)] [(.ref so)])) (fun t k => ?_) ?_
 · refine XS.aloadN X0.here hx rfl (hb hby d15_0) rfl rfl ?_
   exact k
 obtain ⟨cq1, kq1, q1a, q1b, q1c⟩ := isOf hZ e0 E_so
 obtain ⟨_, _, ⟨T1, L1, k1, n1⟩, -, X1, ⟨Lc1, hQ1, l1, y1, z1⟩, st1⟩ := X0.virtualBack hx (y := y_1) (z := y_1) hown (mvT hZ (own_w hw 85 rfl)) (mvT hZ (own_w hw 86 rfl)) (notFace_of_selects (args := #[]) (mvT hZ (own_w hw 88 rfl))) (mvT hZ (own_w hw 88 rfl)) (mvT hZ (own_w hw 87 rfl)) (by decide) (backOf (W := 0) (rmLat l Z a0 hw [] so cs h0 n0 O S_CS F_coder_so hcs) hZ (own_w hw 89 rfl) (own_w hw 7 rfl) (by decide) (by decide)) q1a q1c (g := (mkF m 1 #[rv so, iv (0 : Int32)] [(.ref so)])) rfl (by rw [hml]; rfl) (Steps.refl _) (argsL := []) (rest := []) (lenOf pd__28_29Z rfl) rfl (Nat.le_of_eq rfl) (hb hby d15_1) (fun _ _ => ⟨rfl, e0, (by decide : 0 + 0 ≤ _), (by decide : 0 + 0 ≤ _)⟩)
 dsimp only [Pt.U, Pt.locs, Pt.cells, Pt.slots] at X1 l1 y1 z1 st1 hQ1
 subst l1 y1 z1
 obtain ⟨rfl, Nq1, e1⟩ := hQ1
 have N1 := Fr.app N0 Nq1
 refine Go.step (fun t k => st1.trans k) ?_
 refine Go.step (S' := T1.setTop (mkF m 8 #[rv so, iv (0 : Int32)] [(.ref so)])) (fun t k => ?_) ?_
 · refine XS.ifNo X1.here hx rfl (hb hby d15_4) rfl ((if0 _ _).trans (feq ((by decide) : ¬ ((1 : Int32) = (0 : Int32)))).1) ?_
   refine XS.aloadN X1.here hx rfl (hb hby d15_7) rfl rfl ?_
   exact k
 obtain ⟨T2, X2, e2, st2⟩ := getF X1 hx hZ hown (host := "") (Or.inl (own_w hw 33 rfl)) Via.refl e1 F_value_so (g := (mkF m 8 #[rv so, iv (0 : Int32)] [(.ref so)])) rfl rfl (hb hby d15_8)
 refine Go.step st2 ?_
 refine Go.step (S' := T2.setTop (mkF m 12 #[rv so, iv (0 : Int32)] [(.int (0 : Int32)), (.ref tb)])) (fun t k => ?_) ?_
 · refine XS.iloadN X2.here hx rfl (hb hby d15_11) rfl ?_
   exact k
 obtain ⟨_, _, ⟨T3, L3, k3, n3⟩, -, X3, ⟨Lc3, hQ3, l3, y3, z3⟩, st3⟩ := Jvm.LawKit.callS X2 hx (y := y_6) hown (mvT hZ (own_w hw 90 rfl)) (mvT hZ (own_w hw 91 rfl)) (mvT hZ (own_w hw 92 rfl)) (mvT hZ (own_w hw 93 rfl)) (by decide) (backOf (W := 0) (rmLC4_0 l Z a0 hw [] tb kb x0 x1 x2 x3 sf h0 n0 O V_tb S_FM hsf hl0 hl1) hZ (own_w hw 93 rfl) (own_w hw 92 rfl) (by decide) (by decide)) (g := (mkF m 12 #[rv so, iv (0 : Int32)] [(.int (0 : Int32)), (.ref tb)])) rfl (by rw [hml]; rfl) (argsL := [(.ref tb), (.int (0 : Int32))]) (rest := []) (lenOf pd__28_5bBI_29C rfl) rfl (Nat.le_of_eq rfl) (hb hby d15_12) (fun _ _ => ⟨rfl, e2, (by decide : 0 + 0 ≤ _), (by decide : 0 + 0 ≤ _)⟩)
 dsimp only [Pt.U, Pt.locs, Pt.cells, Pt.slots] at X3 l3 y3 z3 st3 hQ3
 subst l3 y3 z3
 obtain ⟨rfl, Nq3, e3⟩ := hQ3
 have N3 := Fr.app N1 Nq3
 refine Go.step st3 ?_
 obtain ⟨fs, hr, hrun, hended, hW, hsame⟩ := X3.leave (v := some (.int x0)) (fun h => by rw [Bd.returns] at h; cases h)
 refine Go.fin (S' := T3.setFrames fs) ?_ hrun hended ⟨_, _, rfl, ?_, ⟨_, rfl⟩, hW, hsame.mono (by decide) (by decide)⟩
 · exact retOut X3 hx Bd.returns (own_nc hl0 hl1) (Or.inl ⟨rfl, Or.inr (Or.inr (Or.inr (Or.inl rfl))), _, rfl⟩) (hb hby d15_15) hr
 · show Q_rmCh4_0 Z so tb kb x0 x1 x2 x3 cs sf h0 n0 (some (.int x0)) T3.heap _
   rw [e3]
   exact ⟨rfl, N3, rfl⟩
theorem ef_rmLC4_1 (m : MethodId) (tb : Addr) : entryFrame m #[(.ref tb), (.int (1 : Int32))] 2 = mkF m 0 #[.val (.ref tb), .val (.int (1 : Int32))] [] := by first | (simp [entryFrame, mkF, argsToLocals, Value.category]; done) | rfl
abbrev rm_rmLC4_1 : Room := ({ frames := 2, cells := 0, slots := 0, locals := 27 } : Room)
def Q_rmLC4_1 (Z : State) (tb : Addr) (kb : ClassId) (x0 : Int32) (x1 : Int32) (x2 : Int32) (x3 : Int32) (sf : Value) (h0 : Heap) (n0 : Nat) (v : Option Value) (h : Heap) (L : List Loc) : Prop := (v = some (.int x1)) ∧ (Fr n0 L) ∧ (h = h0)
set_option maxRecDepth 65536 in
set_option maxHeartbeats 4000000 in
theorem rmLC4_1 (l : Launch) (Z : State) (a0 : Array Value) (hw : ∀ d ∈ tables_1, d.before a0 Z = true) (ws : List Jvm.Cond) (tb : Addr) (kb : ClassId) (x0 : Int32) (x1 : Int32) (x2 : Int32) (x3 : Int32) (sf : Value) (h0 : Heap) (n0 : Nat) (O : Old Z n0 h0) (V_tb : Arv Z h0 tb kb .byte (4 : Int32) [(.int (x0.toInt8.toInt32)), (.int (x1.toInt8.toInt32)), (.int (x2.toInt8.toInt32)), (.int (x3.toInt8.toInt32))] (.int (0 : Int32))) (S_FM : Sta Z Z.heap "jdk/internal/util/Preconditions" "SIOOBE_FORMATTER" "Ljava/util/function/BiFunction;" sf) (hsf : sf.isRef = true) (hl0 : ¬ (x1 < (0 : Int32))) (hl1 : ¬ ((255 : Int32) < x1)) :
    MetFree l y_6 (head1 (Jvm.Cond.code y_6 jdk_43_method_2_code 2 (some .char) :: ws) rm_rmLC4_1) (fun A_ U => A_ = #[(.ref tb), (.int (1 : Int32))] ∧ Z.Warmed39 U.vm ∧ U.heap = h0) (fun _ _ _ _ _ => True) (fun _ U o U' => ∃ v L, o = .returned v ∧ Q_rmLC4_1 Z tb kb x0 x1 x2 x3 sf h0 n0 v U'.heap L ∧ FrameEnd U o U' L rm_rmLC4_1.cells rm_rmLC4_1.slots) := by
 refine MetFree.of_bodySF (plainFor_of_name pn_java_lang_StringLatin1) hisR ?_
 intro p e s m args below meth c s₁ Bd hml0 hP hK
 obtain ⟨rfl, hZ, hh⟩ := hP
 have hx := Bd.exec
 have hby := Bd.bytes
 have hml : c.maxLocals = 2 := hml0
 have hown : s.vm.findClass "java/lang/StringLatin1" = some m.cls := findClass_of_methodNamed Bd.named
 have hnm := (name_of_methodNamed Bd.named Bd.method).1
 have X0 : Stand p l e rm_rmLC4_1 s m #[(.ref tb), (.int (1 : Int32))] below meth c s₁ [] 0 0 := Stand.of_body Bd
 have e0 : s₁.heap = h0 := by rw [← hh, Bd.state]; rfl
 have N0 := Fr.nil n0
 refine Go.step (p := p) (e := e) (below := below) (G := fun o U' => ∃ v L, o = .returned v ∧ Q_rmLC4_1 Z tb kb x0 x1 x2 x3 sf h0 n0 v U'.heap L ∧ FrameEnd s o U' L rm_rmLC4_1.cells rm_rmLC4_1.slots) (S' := s₁.setTop (mkF m 0 #[rv tb, iv (1 : Int32)] [])) (fun t k => castTop (ef_rmLC4_1 m tb) k) ?_
 refine Go.step (S' := s₁.setTop (mkF m 2 #[rv tb, iv (1 : Int32)] [(.ref tb), (.int (1 : Int32))])) (fun t k => ?_) ?_
 · refine XS.iloadN X0.here hx rfl (hb hby d17_0) rfl ?_
   refine XS.aloadN X0.here hx rfl (hb hby d17_1) rfl rfl ?_
   exact k
 obtain ⟨cl1, Ar1, -, S1, N1_, -, -⟩ := id V_tb
 refine Go.step (S' := s₁.setTop (mkF m 3 #[rv tb, iv (1 : Int32)] [(.int cl1.slots.size.toInt32), (.int (1 : Int32))])) (fun t k => X0.arraylength hx (by rw [e0]; exact Ar1.1) (State.isArrayOf_alike hZ.alike Ar1.2.1) (g := (mkF m 2 #[rv tb, iv (1 : Int32)] [(.ref tb), (.int (1 : Int32))])) rfl rfl (hb hby d17_2) _ k) ?_
 rw [len_of S1 N1_]
 show Go p e below _ (s₁.setTop (mkF m 3 #[rv tb, iv (1 : Int32)] [(.int (4 : Int32)), (.int (1 : Int32))]))
 obtain ⟨_, _, ⟨T2, L2, k2, n2⟩, -, X2, ⟨Lc2, hQ2, l2, y2, z2⟩, st2⟩ := Jvm.LawKit.callS X0 hx (y := y_3) hown (mvT hZ (own_w hw 94 rfl)) (mvT hZ (own_w hw 95 rfl)) (mvT hZ (own_w hw 7 rfl)) (mvT hZ (own_w hw 96 rfl)) (by decide) (backOf (W := 0) (rmCk l Z a0 hw [] (1 : Int32) (4 : Int32) sf h0 n0 O (by decide) (by decide) S_FM hsf) hZ (own_w hw 96 rfl) (own_w hw 7 rfl) (by decide) (by decide)) (g := (mkF m 3 #[rv tb, iv (1 : Int32)] [(.int (4 : Int32)), (.int (1 : Int32))])) rfl (by rw [hml]; rfl) (argsL := [(.int (1 : Int32)), (.int (4 : Int32))]) (rest := []) (lenOf pd__28II_29V rfl) rfl (Nat.le_of_eq rfl) (hb hby d17_3) (fun _ _ => ⟨rfl, e0, (by decide : 0 + 0 ≤ _), (by decide : 0 + 0 ≤ _)⟩)
 dsimp only [Pt.U, Pt.locs, Pt.cells, Pt.slots] at X2 l2 y2 z2 st2 hQ2
 subst l2 y2 z2
 obtain ⟨rfl, Nq2, e2⟩ := hQ2
 have N2 := Fr.app N0 Nq2
 refine Go.step st2 ?_
 refine Go.step (S' := T2.setTop (mkF m 8 #[rv tb, iv (1 : Int32)] [(.int (1 : Int32)), (.ref tb)])) (fun t k => ?_) ?_
 · refine XS.aloadN X2.here hx rfl (hb hby d17_6) rfl rfl ?_
   refine XS.iloadN X2.here hx rfl (hb hby d17_7) rfl ?_
   exact k
 obtain ⟨cl3, Ar3, -, S3, -, H3, -⟩ := id V_tb
 have hin3 : ¬ ((1 : Int32) < 0 ∨ cl3.slots.size ≤ ((1 : Int32)).toNatClampNeg) := inb_of S3 ⟨by decide, by decide⟩
 refine Go.step (S' := T2.setTop (mkF m 9 #[rv tb, iv (1 : Int32)] [(.int (x1.toInt8.toInt32))])) (fun t k => X2.baloadBytes hx (j := (1 : Int32)) (v := (.int (x1.toInt8.toInt32))) (by rw [e2]; exact Ar3.1) (State.isArrayOf_alike hZ.alike Ar3.2.1) Ar3.2.2 hin3 (H3.at hin3 rfl) (g := (mkF m 8 #[rv tb, iv (1 : Int32)] [(.int (1 : Int32)), (.ref tb)])) rfl rfl (hb hby d17_8) _ k) ?_
 refine Go.step (S' := T2.setTop (mkF m 14 #[rv tb, iv (1 : Int32)] [(.int (((x1.toInt8.toInt32) &&& (255 : Int32)).toUInt32.toUInt16.toUInt32.toInt32))])) (fun t k => ?_) ?_
 · refine XS.sipush X2.here hx rfl (hb hby d17_9) ?_
   refine XS.iand X2.here hx rfl (hb hby d17_12) rfl ?_
   refine XS.i2c X2.here hx rfl (hb hby d17_13) rfl ?_
   exact k
 obtain ⟨fs, hr, hrun, hended, hW, hsame⟩ := X2.leave (v := some (.int (((x1.toInt8.toInt32) &&& (255 : Int32)).toUInt32.toUInt16.toUInt32.toInt32))) (fun h => by rw [Bd.returns] at h; cases h)
 refine Go.fin (S' := T2.setFrames fs) ?_ hrun hended ⟨_, _, rfl, ?_, ⟨_, rfl⟩, hW, hsame.mono (by decide) (by decide)⟩
 · exact retOut X2 hx Bd.returns (Jvm.Free.XT.narrow_c _) (Or.inl ⟨rfl, Or.inr (Or.inr (Or.inr (Or.inl rfl))), _, rfl⟩) (hb hby d17_14) hr
 · show Q_rmLC4_1 Z tb kb x0 x1 x2 x3 sf h0 n0 (some (.int (((x1.toInt8.toInt32) &&& (255 : Int32)).toUInt32.toUInt16.toUInt32.toInt32))) T2.heap _
   rw [e2]
   exact ⟨(congrArg (fun z => some (Value.int z)) (own_char hl0 hl1)), N2, rfl⟩
theorem ef_rmCh4_1 (m : MethodId) (so : Addr) : entryFrame m #[(.ref so), (.int (1 : Int32))] 2 = mkF m 0 #[.val (.ref so), .val (.int (1 : Int32))] [] := by first | (simp [entryFrame, mkF, argsToLocals, Value.category]; done) | rfl
abbrev rm_rmCh4_1 : Room := ({ frames := 3, cells := 0, slots := 0, locals := 40 } : Room)
def Q_rmCh4_1 (Z : State) (so : Addr) (tb : Addr) (kb : ClassId) (x0 : Int32) (x1 : Int32) (x2 : Int32) (x3 : Int32) (cs : Int32) (sf : Value) (h0 : Heap) (n0 : Nat) (v : Option Value) (h : Heap) (L : List Loc) : Prop := (v = some (.int x1)) ∧ (Fr n0 L) ∧ (h = h0)
set_option maxRecDepth 65536 in
set_option maxHeartbeats 4000000 in
theorem rmCh4_1 (l : Launch) (Z : State) (a0 : Array Value) (hw : ∀ d ∈ tables_1, d.before a0 Z = true) (ws : List Jvm.Cond) (so : Addr) (tb : Addr) (kb : ClassId) (x0 : Int32) (x1 : Int32) (x2 : Int32) (x3 : Int32) (cs : Int32) (sf : Value) (h0 : Heap) (n0 : Nat) (O : Old Z n0 h0) (S_CS : Sta Z Z.heap "java/lang/String" "COMPACT_STRINGS" "Z" (.int cs)) (S_FM : Sta Z Z.heap "jdk/internal/util/Preconditions" "SIOOBE_FORMATTER" "Ljava/util/function/BiFunction;" sf) (E_so : Exa Z h0 so "java/lang/String") (F_value_so : Fld Z h0 so "java/lang/String" "value" "[B" (.ref tb)) (F_coder_so : Fld Z h0 so "java/lang/String" "coder" "B" (.int (0 : Int32))) (V_tb : Arv Z h0 tb kb .byte (4 : Int32) [(.int (x0.toInt8.toInt32)), (.int (x1.toInt8.toInt32)), (.int (x2.toInt8.toInt32)), (.int (x3.toInt8.toInt32))] (.int (0 : Int32))) (hcs : ¬ (cs = (0 : Int32))) (hsf : sf.isRef = true) (hl0 : ¬ (x1 < (0 : Int32))) (hl1 : ¬ ((255 : Int32) < x1)) :
    MetFree l y_7 (head1 (Jvm.Cond.code y_7 jdk_42_method_56_code 2 (some .char) :: ws) rm_rmCh4_1) (fun A_ U => A_ = #[(.ref so), (.int (1 : Int32))] ∧ Z.Warmed39 U.vm ∧ U.heap = h0) (fun _ _ _ _ _ => True) (fun _ U o U' => ∃ v L, o = .returned v ∧ Q_rmCh4_1 Z so tb kb x0 x1 x2 x3 cs sf h0 n0 v U'.heap L ∧ FrameEnd U o U' L rm_rmCh4_1.cells rm_rmCh4_1.slots) := by
 refine MetFree.of_bodySF (plainFor_of_name pn_java_lang_String) hisR ?_
 intro p e s m args below meth c s₁ Bd hml0 hP hK
 obtain ⟨rfl, hZ, hh⟩ := hP
 have hx := Bd.exec
 have hby := Bd.bytes
 have hml : c.maxLocals = 2 := hml0
 have hown : s.vm.findClass "java/lang/String" = some m.cls := findClass_of_methodNamed Bd.named
 have hnm := (name_of_methodNamed Bd.named Bd.method).1
 have X0 : Stand p l e rm_rmCh4_1 s m #[(.ref so), (.int (1 : Int32))] below meth c s₁ [] 0 0 := Stand.of_body Bd
 have e0 : s₁.heap = h0 := by rw [← hh, Bd.state]; rfl
 have N0 := Fr.nil n0
 refine Go.step (p := p) (e := e) (below := below) (G := fun o U' => ∃ v L, o = .returned v ∧ Q_rmCh4_1 Z so tb kb x0 x1 x2 x3 cs sf h0 n0 v U'.heap L ∧ FrameEnd s o U' L rm_rmCh4_1.cells rm_rmCh4_1.slots) (S' := s₁.setTop (mkF m 0 #[rv so, iv (1 : Int32)] [])) (fun t k => castTop (ef_rmCh4_1 m so) k) ?_
 refine Go.step (S' := s₁.setTop (mkF m 1 #[rv so, iv (1 : Int32)] [(.ref so)])) (fun t k => ?_) ?_
 · refine XS.aloadN X0.here hx rfl (hb hby d15_0) rfl rfl ?_
   exact k
 obtain ⟨cq1, kq1, q1a, q1b, q1c⟩ := isOf hZ e0 E_so
 obtain ⟨_, _, ⟨T1, L1, k1, n1⟩, -, X1, ⟨Lc1, hQ1, l1, y1, z1⟩, st1⟩ := X0.virtualBack hx (y := y_1) (z := y_1) hown (mvT hZ (own_w hw 85 rfl)) (mvT hZ (own_w hw 86 rfl)) (notFace_of_selects (args := #[]) (mvT hZ (own_w hw 88 rfl))) (mvT hZ (own_w hw 88 rfl)) (mvT hZ (own_w hw 87 rfl)) (by decide) (backOf (W := 0) (rmLat l Z a0 hw [] so cs h0 n0 O S_CS F_coder_so hcs) hZ (own_w hw 89 rfl) (own_w hw 7 rfl) (by decide) (by decide)) q1a q1c (g := (mkF m 1 #[rv so, iv (1 : Int32)] [(.ref so)])) rfl (by rw [hml]; rfl) (Steps.refl _) (argsL := []) (rest := []) (lenOf pd__28_29Z rfl) rfl (Nat.le_of_eq rfl) (hb hby d15_1) (fun _ _ => ⟨rfl, e0, (by decide : 0 + 0 ≤ _), (by decide : 0 + 0 ≤ _)⟩)
 dsimp only [Pt.U, Pt.locs, Pt.cells, Pt.slots] at X1 l1 y1 z1 st1 hQ1
 subst l1 y1 z1
 obtain ⟨rfl, Nq1, e1⟩ := hQ1
 have N1 := Fr.app N0 Nq1
 refine Go.step (fun t k => st1.trans k) ?_
 refine Go.step (S' := T1.setTop (mkF m 8 #[rv so, iv (1 : Int32)] [(.ref so)])) (fun t k => ?_) ?_
 · refine XS.ifNo X1.here hx rfl (hb hby d15_4) rfl ((if0 _ _).trans (feq ((by decide) : ¬ ((1 : Int32) = (0 : Int32)))).1) ?_
   refine XS.aloadN X1.here hx rfl (hb hby d15_7) rfl rfl ?_
   exact k
 obtain ⟨T2, X2, e2, st2⟩ := getF X1 hx hZ hown (host := "") (Or.inl (own_w hw 33 rfl)) Via.refl e1 F_value_so (g := (mkF m 8 #[rv so, iv (1 : Int32)] [(.ref so)])) rfl rfl (hb hby d15_8)
 refine Go.step st2 ?_
 refine Go.step (S' := T2.setTop (mkF m 12 #[rv so, iv (1 : Int32)] [(.int (1 : Int32)), (.ref tb)])) (fun t k => ?_) ?_
 · refine XS.iloadN X2.here hx rfl (hb hby d15_11) rfl ?_
   exact k
 obtain ⟨_, _, ⟨T3, L3, k3, n3⟩, -, X3, ⟨Lc3, hQ3, l3, y3, z3⟩, st3⟩ := Jvm.LawKit.callS X2 hx (y := y_6) hown (mvT hZ (own_w hw 90 rfl)) (mvT hZ (own_w hw 91 rfl)) (mvT hZ (own_w hw 92 rfl)) (mvT hZ (own_w hw 93 rfl)) (by decide) (backOf (W := 0) (rmLC4_1 l Z a0 hw [] tb kb x0 x1 x2 x3 sf h0 n0 O V_tb S_FM hsf hl0 hl1) hZ (own_w hw 93 rfl) (own_w hw 92 rfl) (by decide) (by decide)) (g := (mkF m 12 #[rv so, iv (1 : Int32)] [(.int (1 : Int32)), (.ref tb)])) rfl (by rw [hml]; rfl) (argsL := [(.ref tb), (.int (1 : Int32))]) (rest := []) (lenOf pd__28_5bBI_29C rfl) rfl (Nat.le_of_eq rfl) (hb hby d15_12) (fun _ _ => ⟨rfl, e2, (by decide : 0 + 0 ≤ _), (by decide : 0 + 0 ≤ _)⟩)
 dsimp only [Pt.U, Pt.locs, Pt.cells, Pt.slots] at X3 l3 y3 z3 st3 hQ3
 subst l3 y3 z3
 obtain ⟨rfl, Nq3, e3⟩ := hQ3
 have N3 := Fr.app N1 Nq3
 refine Go.step st3 ?_
 obtain ⟨fs, hr, hrun, hended, hW, hsame⟩ := X3.leave (v := some (.int x1)) (fun h => by rw [Bd.returns] at h; cases h)
 refine Go.fin (S' := T3.setFrames fs) ?_ hrun hended ⟨_, _, rfl, ?_, ⟨_, rfl⟩, hW, hsame.mono (by decide) (by decide)⟩
 · exact retOut X3 hx Bd.returns (own_nc hl0 hl1) (Or.inl ⟨rfl, Or.inr (Or.inr (Or.inr (Or.inl rfl))), _, rfl⟩) (hb hby d15_15) hr
 · show Q_rmCh4_1 Z so tb kb x0 x1 x2 x3 cs sf h0 n0 (some (.int x1)) T3.heap _
   rw [e3]
   exact ⟨rfl, N3, rfl⟩
theorem ef_rmLC4_2 (m : MethodId) (tb : Addr) : entryFrame m #[(.ref tb), (.int (2 : Int32))] 2 = mkF m 0 #[.val (.ref tb), .val (.int (2 : Int32))] [] := by first | (simp [entryFrame, mkF, argsToLocals, Value.category]; done) | rfl
abbrev rm_rmLC4_2 : Room := ({ frames := 2, cells := 0, slots := 0, locals := 27 } : Room)
def Q_rmLC4_2 (Z : State) (tb : Addr) (kb : ClassId) (x0 : Int32) (x1 : Int32) (x2 : Int32) (x3 : Int32) (sf : Value) (h0 : Heap) (n0 : Nat) (v : Option Value) (h : Heap) (L : List Loc) : Prop := (v = some (.int x2)) ∧ (Fr n0 L) ∧ (h = h0)
set_option maxRecDepth 65536 in
set_option maxHeartbeats 4000000 in
theorem rmLC4_2 (l : Launch) (Z : State) (a0 : Array Value) (hw : ∀ d ∈ tables_1, d.before a0 Z = true) (ws : List Jvm.Cond) (tb : Addr) (kb : ClassId) (x0 : Int32) (x1 : Int32) (x2 : Int32) (x3 : Int32) (sf : Value) (h0 : Heap) (n0 : Nat) (O : Old Z n0 h0) (V_tb : Arv Z h0 tb kb .byte (4 : Int32) [(.int (x0.toInt8.toInt32)), (.int (x1.toInt8.toInt32)), (.int (x2.toInt8.toInt32)), (.int (x3.toInt8.toInt32))] (.int (0 : Int32))) (S_FM : Sta Z Z.heap "jdk/internal/util/Preconditions" "SIOOBE_FORMATTER" "Ljava/util/function/BiFunction;" sf) (hsf : sf.isRef = true) (hl0 : ¬ (x2 < (0 : Int32))) (hl1 : ¬ ((255 : Int32) < x2)) :
    MetFree l y_6 (head1 (Jvm.Cond.code y_6 jdk_43_method_2_code 2 (some .char) :: ws) rm_rmLC4_2) (fun A_ U => A_ = #[(.ref tb), (.int (2 : Int32))] ∧ Z.Warmed39 U.vm ∧ U.heap = h0) (fun _ _ _ _ _ => True) (fun _ U o U' => ∃ v L, o = .returned v ∧ Q_rmLC4_2 Z tb kb x0 x1 x2 x3 sf h0 n0 v U'.heap L ∧ FrameEnd U o U' L rm_rmLC4_2.cells rm_rmLC4_2.slots) := by
 refine MetFree.of_bodySF (plainFor_of_name pn_java_lang_StringLatin1) hisR ?_
 intro p e s m args below meth c s₁ Bd hml0 hP hK
 obtain ⟨rfl, hZ, hh⟩ := hP
 have hx := Bd.exec
 have hby := Bd.bytes
 have hml : c.maxLocals = 2 := hml0
 have hown : s.vm.findClass "java/lang/StringLatin1" = some m.cls := findClass_of_methodNamed Bd.named
 have hnm := (name_of_methodNamed Bd.named Bd.method).1
 have X0 : Stand p l e rm_rmLC4_2 s m #[(.ref tb), (.int (2 : Int32))] below meth c s₁ [] 0 0 := Stand.of_body Bd
 have e0 : s₁.heap = h0 := by rw [← hh, Bd.state]; rfl
 have N0 := Fr.nil n0
 refine Go.step (p := p) (e := e) (below := below) (G := fun o U' => ∃ v L, o = .returned v ∧ Q_rmLC4_2 Z tb kb x0 x1 x2 x3 sf h0 n0 v U'.heap L ∧ FrameEnd s o U' L rm_rmLC4_2.cells rm_rmLC4_2.slots) (S' := s₁.setTop (mkF m 0 #[rv tb, iv (2 : Int32)] [])) (fun t k => castTop (ef_rmLC4_2 m tb) k) ?_
 refine Go.step (S' := s₁.setTop (mkF m 2 #[rv tb, iv (2 : Int32)] [(.ref tb), (.int (2 : Int32))])) (fun t k => ?_) ?_
 · refine XS.iloadN X0.here hx rfl (hb hby d17_0) rfl ?_
   refine XS.aloadN X0.here hx rfl (hb hby d17_1) rfl rfl ?_
   exact k
 obtain ⟨cl1, Ar1, -, S1, N1_, -, -⟩ := id V_tb
 refine Go.step (S' := s₁.setTop (mkF m 3 #[rv tb, iv (2 : Int32)] [(.int cl1.slots.size.toInt32), (.int (2 : Int32))])) (fun t k => X0.arraylength hx (by rw [e0]; exact Ar1.1) (State.isArrayOf_alike hZ.alike Ar1.2.1) (g := (mkF m 2 #[rv tb, iv (2 : Int32)] [(.ref tb), (.int (2 : Int32))])) rfl rfl (hb hby d17_2) _ k) ?_
 rw [len_of S1 N1_]
 show Go p e below _ (s₁.setTop (mkF m 3 #[rv tb, iv (2 : Int32)] [(.int (4 : Int32)), (.int (2 : Int32))]))
 obtain ⟨_, _, ⟨T2, L2, k2, n2⟩, -, X2, ⟨Lc2, hQ2, l2, y2, z2⟩, st2⟩ := Jvm.LawKit.callS X0 hx (y := y_3) hown (mvT hZ (own_w hw 94 rfl)) (mvT hZ (own_w hw 95 rfl)) (mvT hZ (own_w hw 7 rfl)) (mvT hZ (own_w hw 96 rfl)) (by decide) (backOf (W := 0) (rmCk l Z a0 hw [] (2 : Int32) (4 : Int32) sf h0 n0 O (by decide) (by decide) S_FM hsf) hZ (own_w hw 96 rfl) (own_w hw 7 rfl) (by decide) (by decide)) (g := (mkF m 3 #[rv tb, iv (2 : Int32)] [(.int (4 : Int32)), (.int (2 : Int32))])) rfl (by rw [hml]; rfl) (argsL := [(.int (2 : Int32)), (.int (4 : Int32))]) (rest := []) (lenOf pd__28II_29V rfl) rfl (Nat.le_of_eq rfl) (hb hby d17_3) (fun _ _ => ⟨rfl, e0, (by decide : 0 + 0 ≤ _), (by decide : 0 + 0 ≤ _)⟩)
 dsimp only [Pt.U, Pt.locs, Pt.cells, Pt.slots] at X2 l2 y2 z2 st2 hQ2
 subst l2 y2 z2
 obtain ⟨rfl, Nq2, e2⟩ := hQ2
 have N2 := Fr.app N0 Nq2
 refine Go.step st2 ?_
 refine Go.step (S' := T2.setTop (mkF m 8 #[rv tb, iv (2 : Int32)] [(.int (2 : Int32)), (.ref tb)])) (fun t k => ?_) ?_
 · refine XS.aloadN X2.here hx rfl (hb hby d17_6) rfl rfl ?_
   refine XS.iloadN X2.here hx rfl (hb hby d17_7) rfl ?_
   exact k
 obtain ⟨cl3, Ar3, -, S3, -, H3, -⟩ := id V_tb
 have hin3 : ¬ ((2 : Int32) < 0 ∨ cl3.slots.size ≤ ((2 : Int32)).toNatClampNeg) := inb_of S3 ⟨by decide, by decide⟩
 refine Go.step (S' := T2.setTop (mkF m 9 #[rv tb, iv (2 : Int32)] [(.int (x2.toInt8.toInt32))])) (fun t k => X2.baloadBytes hx (j := (2 : Int32)) (v := (.int (x2.toInt8.toInt32))) (by rw [e2]; exact Ar3.1) (State.isArrayOf_alike hZ.alike Ar3.2.1) Ar3.2.2 hin3 (H3.at hin3 rfl) (g := (mkF m 8 #[rv tb, iv (2 : Int32)] [(.int (2 : Int32)), (.ref tb)])) rfl rfl (hb hby d17_8) _ k) ?_
 refine Go.step (S' := T2.setTop (mkF m 14 #[rv tb, iv (2 : Int32)] [(.int (((x2.toInt8.toInt32) &&& (255 : Int32)).toUInt32.toUInt16.toUInt32.toInt32))])) (fun t k => ?_) ?_
 · refine XS.sipush X2.here hx rfl (hb hby d17_9) ?_
   refine XS.iand X2.here hx rfl (hb hby d17_12) rfl ?_
   refine XS.i2c X2.here hx rfl (hb hby d17_13) rfl ?_
   exact k
 obtain ⟨fs, hr, hrun, hended, hW, hsame⟩ := X2.leave (v := some (.int (((x2.toInt8.toInt32) &&& (255 : Int32)).toUInt32.toUInt16.toUInt32.toInt32))) (fun h => by rw [Bd.returns] at h; cases h)
 refine Go.fin (S' := T2.setFrames fs) ?_ hrun hended ⟨_, _, rfl, ?_, ⟨_, rfl⟩, hW, hsame.mono (by decide) (by decide)⟩
 · exact retOut X2 hx Bd.returns (Jvm.Free.XT.narrow_c _) (Or.inl ⟨rfl, Or.inr (Or.inr (Or.inr (Or.inl rfl))), _, rfl⟩) (hb hby d17_14) hr
 · show Q_rmLC4_2 Z tb kb x0 x1 x2 x3 sf h0 n0 (some (.int (((x2.toInt8.toInt32) &&& (255 : Int32)).toUInt32.toUInt16.toUInt32.toInt32))) T2.heap _
   rw [e2]
   exact ⟨(congrArg (fun z => some (Value.int z)) (own_char hl0 hl1)), N2, rfl⟩
theorem ef_rmCh4_2 (m : MethodId) (so : Addr) : entryFrame m #[(.ref so), (.int (2 : Int32))] 2 = mkF m 0 #[.val (.ref so), .val (.int (2 : Int32))] [] := by first | (simp [entryFrame, mkF, argsToLocals, Value.category]; done) | rfl
abbrev rm_rmCh4_2 : Room := ({ frames := 3, cells := 0, slots := 0, locals := 40 } : Room)
def Q_rmCh4_2 (Z : State) (so : Addr) (tb : Addr) (kb : ClassId) (x0 : Int32) (x1 : Int32) (x2 : Int32) (x3 : Int32) (cs : Int32) (sf : Value) (h0 : Heap) (n0 : Nat) (v : Option Value) (h : Heap) (L : List Loc) : Prop := (v = some (.int x2)) ∧ (Fr n0 L) ∧ (h = h0)
set_option maxRecDepth 65536 in
set_option maxHeartbeats 4000000 in
theorem rmCh4_2 (l : Launch) (Z : State) (a0 : Array Value) (hw : ∀ d ∈ tables_1, d.before a0 Z = true) (ws : List Jvm.Cond) (so : Addr) (tb : Addr) (kb : ClassId) (x0 : Int32) (x1 : Int32) (x2 : Int32) (x3 : Int32) (cs : Int32) (sf : Value) (h0 : Heap) (n0 : Nat) (O : Old Z n0 h0) (S_CS : Sta Z Z.heap "java/lang/String" "COMPACT_STRINGS" "Z" (.int cs)) (S_FM : Sta Z Z.heap "jdk/internal/util/Preconditions" "SIOOBE_FORMATTER" "Ljava/util/function/BiFunction;" sf) (E_so : Exa Z h0 so "java/lang/String") (F_value_so : Fld Z h0 so "java/lang/String" "value" "[B" (.ref tb)) (F_coder_so : Fld Z h0 so "java/lang/String" "coder" "B" (.int (0 : Int32))) (V_tb : Arv Z h0 tb kb .byte (4 : Int32) [(.int (x0.toInt8.toInt32)), (.int (x1.toInt8.toInt32)), (.int (x2.toInt8.toInt32)), (.int (x3.toInt8.toInt32))] (.int (0 : Int32))) (hcs : ¬ (cs = (0 : Int32))) (hsf : sf.isRef = true) (hl0 : ¬ (x2 < (0 : Int32))) (hl1 : ¬ ((255 : Int32) < x2)) :
    MetFree l y_7 (head1 (Jvm.Cond.code y_7 jdk_42_method_56_code 2 (some .char) :: ws) rm_rmCh4_2) (fun A_ U => A_ = #[(.ref so), (.int (2 : Int32))] ∧ Z.Warmed39 U.vm ∧ U.heap = h0) (fun _ _ _ _ _ => True) (fun _ U o U' => ∃ v L, o = .returned v ∧ Q_rmCh4_2 Z so tb kb x0 x1 x2 x3 cs sf h0 n0 v U'.heap L ∧ FrameEnd U o U' L rm_rmCh4_2.cells rm_rmCh4_2.slots) := by
 refine MetFree.of_bodySF (plainFor_of_name pn_java_lang_String) hisR ?_
 intro p e s m args below meth c s₁ Bd hml0 hP hK
 obtain ⟨rfl, hZ, hh⟩ := hP
 have hx := Bd.exec
 have hby := Bd.bytes
 have hml : c.maxLocals = 2 := hml0
 have hown : s.vm.findClass "java/lang/String" = some m.cls := findClass_of_methodNamed Bd.named
 have hnm := (name_of_methodNamed Bd.named Bd.method).1
 have X0 : Stand p l e rm_rmCh4_2 s m #[(.ref so), (.int (2 : Int32))] below meth c s₁ [] 0 0 := Stand.of_body Bd
 have e0 : s₁.heap = h0 := by rw [← hh, Bd.state]; rfl
 have N0 := Fr.nil n0
 refine Go.step (p := p) (e := e) (below := below) (G := fun o U' => ∃ v L, o = .returned v ∧ Q_rmCh4_2 Z so tb kb x0 x1 x2 x3 cs sf h0 n0 v U'.heap L ∧ FrameEnd s o U' L rm_rmCh4_2.cells rm_rmCh4_2.slots) (S' := s₁.setTop (mkF m 0 #[rv so, iv (2 : Int32)] [])) (fun t k => castTop (ef_rmCh4_2 m so) k) ?_
 refine Go.step (S' := s₁.setTop (mkF m 1 #[rv so, iv (2 : Int32)] [(.ref so)])) (fun t k => ?_) ?_
 · refine XS.aloadN X0.here hx rfl (hb hby d15_0) rfl rfl ?_
   exact k
 obtain ⟨cq1, kq1, q1a, q1b, q1c⟩ := isOf hZ e0 E_so
 obtain ⟨_, _, ⟨T1, L1, k1, n1⟩, -, X1, ⟨Lc1, hQ1, l1, y1, z1⟩, st1⟩ := X0.virtualBack hx (y := y_1) (z := y_1) hown (mvT hZ (own_w hw 85 rfl)) (mvT hZ (own_w hw 86 rfl)) (notFace_of_selects (args := #[]) (mvT hZ (own_w hw 88 rfl))) (mvT hZ (own_w hw 88 rfl)) (mvT hZ (own_w hw 87 rfl)) (by decide) (backOf (W := 0) (rmLat l Z a0 hw [] so cs h0 n0 O S_CS F_coder_so hcs) hZ (own_w hw 89 rfl) (own_w hw 7 rfl) (by decide) (by decide)) q1a q1c (g := (mkF m 1 #[rv so, iv (2 : Int32)] [(.ref so)])) rfl (by rw [hml]; rfl) (Steps.refl _) (argsL := []) (rest := []) (lenOf pd__28_29Z rfl) rfl (Nat.le_of_eq rfl) (hb hby d15_1) (fun _ _ => ⟨rfl, e0, (by decide : 0 + 0 ≤ _), (by decide : 0 + 0 ≤ _)⟩)
 dsimp only [Pt.U, Pt.locs, Pt.cells, Pt.slots] at X1 l1 y1 z1 st1 hQ1
 subst l1 y1 z1
 obtain ⟨rfl, Nq1, e1⟩ := hQ1
 have N1 := Fr.app N0 Nq1
 refine Go.step (fun t k => st1.trans k) ?_
 refine Go.step (S' := T1.setTop (mkF m 8 #[rv so, iv (2 : Int32)] [(.ref so)])) (fun t k => ?_) ?_
 · refine XS.ifNo X1.here hx rfl (hb hby d15_4) rfl ((if0 _ _).trans (feq ((by decide) : ¬ ((1 : Int32) = (0 : Int32)))).1) ?_
   refine XS.aloadN X1.here hx rfl (hb hby d15_7) rfl rfl ?_
   exact k
 obtain ⟨T2, X2, e2, st2⟩ := getF X1 hx hZ hown (host := "") (Or.inl (own_w hw 33 rfl)) Via.refl e1 F_value_so (g := (mkF m 8 #[rv so, iv (2 : Int32)] [(.ref so)])) rfl rfl (hb hby d15_8)
 refine Go.step st2 ?_
 refine Go.step (S' := T2.setTop (mkF m 12 #[rv so, iv (2 : Int32)] [(.int (2 : Int32)), (.ref tb)])) (fun t k => ?_) ?_
 · refine XS.iloadN X2.here hx rfl (hb hby d15_11) rfl ?_
   exact k
 obtain ⟨_, _, ⟨T3, L3, k3, n3⟩, -, X3, ⟨Lc3, hQ3, l3, y3, z3⟩, st3⟩ := Jvm.LawKit.callS X2 hx (y := y_6) hown (mvT hZ (own_w hw 90 rfl)) (mvT hZ (own_w hw 91 rfl)) (mvT hZ (own_w hw 92 rfl)) (mvT hZ (own_w hw 93 rfl)) (by decide) (backOf (W := 0) (rmLC4_2 l Z a0 hw [] tb kb x0 x1 x2 x3 sf h0 n0 O V_tb S_FM hsf hl0 hl1) hZ (own_w hw 93 rfl) (own_w hw 92 rfl) (by decide) (by decide)) (g := (mkF m 12 #[rv so, iv (2 : Int32)] [(.int (2 : Int32)), (.ref tb)])) rfl (by rw [hml]; rfl) (argsL := [(.ref tb), (.int (2 : Int32))]) (rest := []) (lenOf pd__28_5bBI_29C rfl) rfl (Nat.le_of_eq rfl) (hb hby d15_12) (fun _ _ => ⟨rfl, e2, (by decide : 0 + 0 ≤ _), (by decide : 0 + 0 ≤ _)⟩)
 dsimp only [Pt.U, Pt.locs, Pt.cells, Pt.slots] at X3 l3 y3 z3 st3 hQ3
 subst l3 y3 z3
 obtain ⟨rfl, Nq3, e3⟩ := hQ3
 have N3 := Fr.app N1 Nq3
 refine Go.step st3 ?_
 obtain ⟨fs, hr, hrun, hended, hW, hsame⟩ := X3.leave (v := some (.int x2)) (fun h => by rw [Bd.returns] at h; cases h)
 refine Go.fin (S' := T3.setFrames fs) ?_ hrun hended ⟨_, _, rfl, ?_, ⟨_, rfl⟩, hW, hsame.mono (by decide) (by decide)⟩
 · exact retOut X3 hx Bd.returns (own_nc hl0 hl1) (Or.inl ⟨rfl, Or.inr (Or.inr (Or.inr (Or.inl rfl))), _, rfl⟩) (hb hby d15_15) hr
 · show Q_rmCh4_2 Z so tb kb x0 x1 x2 x3 cs sf h0 n0 (some (.int x2)) T3.heap _
   rw [e3]
   exact ⟨rfl, N3, rfl⟩
theorem ef_rmLC4_3 (m : MethodId) (tb : Addr) : entryFrame m #[(.ref tb), (.int (3 : Int32))] 2 = mkF m 0 #[.val (.ref tb), .val (.int (3 : Int32))] [] := by first | (simp [entryFrame, mkF, argsToLocals, Value.category]; done) | rfl
abbrev rm_rmLC4_3 : Room := ({ frames := 2, cells := 0, slots := 0, locals := 27 } : Room)
def Q_rmLC4_3 (Z : State) (tb : Addr) (kb : ClassId) (x0 : Int32) (x1 : Int32) (x2 : Int32) (x3 : Int32) (sf : Value) (h0 : Heap) (n0 : Nat) (v : Option Value) (h : Heap) (L : List Loc) : Prop := (v = some (.int x3)) ∧ (Fr n0 L) ∧ (h = h0)
set_option maxRecDepth 65536 in
set_option maxHeartbeats 4000000 in
theorem rmLC4_3 (l : Launch) (Z : State) (a0 : Array Value) (hw : ∀ d ∈ tables_1, d.before a0 Z = true) (ws : List Jvm.Cond) (tb : Addr) (kb : ClassId) (x0 : Int32) (x1 : Int32) (x2 : Int32) (x3 : Int32) (sf : Value) (h0 : Heap) (n0 : Nat) (O : Old Z n0 h0) (V_tb : Arv Z h0 tb kb .byte (4 : Int32) [(.int (x0.toInt8.toInt32)), (.int (x1.toInt8.toInt32)), (.int (x2.toInt8.toInt32)), (.int (x3.toInt8.toInt32))] (.int (0 : Int32))) (S_FM : Sta Z Z.heap "jdk/internal/util/Preconditions" "SIOOBE_FORMATTER" "Ljava/util/function/BiFunction;" sf) (hsf : sf.isRef = true) (hl0 : ¬ (x3 < (0 : Int32))) (hl1 : ¬ ((255 : Int32) < x3)) :
    MetFree l y_6 (head1 (Jvm.Cond.code y_6 jdk_43_method_2_code 2 (some .char) :: ws) rm_rmLC4_3) (fun A_ U => A_ = #[(.ref tb), (.int (3 : Int32))] ∧ Z.Warmed39 U.vm ∧ U.heap = h0) (fun _ _ _ _ _ => True) (fun _ U o U' => ∃ v L, o = .returned v ∧ Q_rmLC4_3 Z tb kb x0 x1 x2 x3 sf h0 n0 v U'.heap L ∧ FrameEnd U o U' L rm_rmLC4_3.cells rm_rmLC4_3.slots) := by
 refine MetFree.of_bodySF (plainFor_of_name pn_java_lang_StringLatin1) hisR ?_
 intro p e s m args below meth c s₁ Bd hml0 hP hK
 obtain ⟨rfl, hZ, hh⟩ := hP
 have hx := Bd.exec
 have hby := Bd.bytes
 have hml : c.maxLocals = 2 := hml0
 have hown : s.vm.findClass "java/lang/StringLatin1" = some m.cls := findClass_of_methodNamed Bd.named
 have hnm := (name_of_methodNamed Bd.named Bd.method).1
 have X0 : Stand p l e rm_rmLC4_3 s m #[(.ref tb), (.int (3 : Int32))] below meth c s₁ [] 0 0 := Stand.of_body Bd
 have e0 : s₁.heap = h0 := by rw [← hh, Bd.state]; rfl
 have N0 := Fr.nil n0
 refine Go.step (p := p) (e := e) (below := below) (G := fun o U' => ∃ v L, o = .returned v ∧ Q_rmLC4_3 Z tb kb x0 x1 x2 x3 sf h0 n0 v U'.heap L ∧ FrameEnd s o U' L rm_rmLC4_3.cells rm_rmLC4_3.slots) (S' := s₁.setTop (mkF m 0 #[rv tb, iv (3 : Int32)] [])) (fun t k => castTop (ef_rmLC4_3 m tb) k) ?_
 refine Go.step (S' := s₁.setTop (mkF m 2 #[rv tb, iv (3 : Int32)] [(.ref tb), (.int (3 : Int32))])) (fun t k => ?_) ?_
 · refine XS.iloadN X0.here hx rfl (hb hby d17_0) rfl ?_
   refine XS.aloadN X0.here hx rfl (hb hby d17_1) rfl rfl ?_
   exact k
 obtain ⟨cl1, Ar1, -, S1, N1_, -, -⟩ := id V_tb
 refine Go.step (S' := s₁.setTop (mkF m 3 #[rv tb, iv (3 : Int32)] [(.int cl1.slots.size.toInt32), (.int (3 : Int32))])) (fun t k => X0.arraylength hx (by rw [e0]; exact Ar1.1) (State.isArrayOf_alike hZ.alike Ar1.2.1) (g := (mkF m 2 #[rv tb, iv (3 : Int32)] [(.ref tb), (.int (3 : Int32))])) rfl rfl (hb hby d17_2) _ k) ?_
 rw [len_of S1 N1_]
 show Go p e below _ (s₁.setTop (mkF m 3 #[rv tb, iv (3 : Int32)] [(.int (4 : Int32)), (.int (3 : Int32))]))
 obtain ⟨_, _, ⟨T2, L2, k2, n2⟩, -, X2, ⟨Lc2, hQ2, l2, y2, z2⟩, st2⟩ := Jvm.LawKit.callS X0 hx (y := y_3) hown (mvT hZ (own_w hw 94 rfl)) (mvT hZ (own_w hw 95 rfl)) (mvT hZ (own_w hw 7 rfl)) (mvT hZ (own_w hw 96 rfl)) (by decide) (backOf (W := 0) (rmCk l Z a0 hw [] (3 : Int32) (4 : Int32) sf h0 n0 O (by decide) (by decide) S_FM hsf) hZ (own_w hw 96 rfl) (own_w hw 7 rfl) (by decide) (by decide)) (g := (mkF m 3 #[rv tb, iv (3 : Int32)] [(.int (4 : Int32)), (.int (3 : Int32))])) rfl (by rw [hml]; rfl) (argsL := [(.int (3 : Int32)), (.int (4 : Int32))]) (rest := []) (lenOf pd__28II_29V rfl) rfl (Nat.le_of_eq rfl) (hb hby d17_3) (fun _ _ => ⟨rfl, e0, (by decide : 0 + 0 ≤ _), (by decide : 0 + 0 ≤ _)⟩)
 dsimp only [Pt.U, Pt.locs, Pt.cells, Pt.slots] at X2 l2 y2 z2 st2 hQ2
 subst l2 y2 z2
 obtain ⟨rfl, Nq2, e2⟩ := hQ2
 have N2 := Fr.app N0 Nq2
 refine Go.step st2 ?_
 refine Go.step (S' := T2.setTop (mkF m 8 #[rv tb, iv (3 : Int32)] [(.int (3 : Int32)), (.ref tb)])) (fun t k => ?_) ?_
 · refine XS.aloadN X2.here hx rfl (hb hby d17_6) rfl rfl ?_
   refine XS.iloadN X2.here hx rfl (hb hby d17_7) rfl ?_
   exact k
 obtain ⟨cl3, Ar3, -, S3, -, H3, -⟩ := id V_tb
 have hin3 : ¬ ((3 : Int32) < 0 ∨ cl3.slots.size ≤ ((3 : Int32)).toNatClampNeg) := inb_of S3 ⟨by decide, by decide⟩
 refine Go.step (S' := T2.setTop (mkF m 9 #[rv tb, iv (3 : Int32)] [(.int (x3.toInt8.toInt32))])) (fun t k => X2.baloadBytes hx (j := (3 : Int32)) (v := (.int (x3.toInt8.toInt32))) (by rw [e2]; exact Ar3.1) (State.isArrayOf_alike hZ.alike Ar3.2.1) Ar3.2.2 hin3 (H3.at hin3 rfl) (g := (mkF m 8 #[rv tb, iv (3 : Int32)] [(.int (3 : Int32)), (.ref tb)])) rfl rfl (hb hby d17_8) _ k) ?_
 refine Go.step (S' := T2.setTop (mkF m 14 #[rv tb, iv (3 : Int32)] [(.int (((x3.toInt8.toInt32) &&& (255 : Int32)).toUInt32.toUInt16.toUInt32.toInt32))])) (fun t k => ?_) ?_
 · refine XS.sipush X2.here hx rfl (hb hby d17_9) ?_
   refine XS.iand X2.here hx rfl (hb hby d17_12) rfl ?_
   refine XS.i2c X2.here hx rfl (hb hby d17_13) rfl ?_
   exact k
 obtain ⟨fs, hr, hrun, hended, hW, hsame⟩ := X2.leave (v := some (.int (((x3.toInt8.toInt32) &&& (255 : Int32)).toUInt32.toUInt16.toUInt32.toInt32))) (fun h => by rw [Bd.returns] at h; cases h)
 refine Go.fin (S' := T2.setFrames fs) ?_ hrun hended ⟨_, _, rfl, ?_, ⟨_, rfl⟩, hW, hsame.mono (by decide) (by decide)⟩
 · exact retOut X2 hx Bd.returns (Jvm.Free.XT.narrow_c _) (Or.inl ⟨rfl, Or.inr (Or.inr (Or.inr (Or.inl rfl))), _, rfl⟩) (hb hby d17_14) hr
 · show Q_rmLC4_3 Z tb kb x0 x1 x2 x3 sf h0 n0 (some (.int (((x3.toInt8.toInt32) &&& (255 : Int32)).toUInt32.toUInt16.toUInt32.toInt32))) T2.heap _
   rw [e2]
   exact ⟨(congrArg (fun z => some (Value.int z)) (own_char hl0 hl1)), N2, rfl⟩
theorem ef_rmCh4_3 (m : MethodId) (so : Addr) : entryFrame m #[(.ref so), (.int (3 : Int32))] 2 = mkF m 0 #[.val (.ref so), .val (.int (3 : Int32))] [] := by first | (simp [entryFrame, mkF, argsToLocals, Value.category]; done) | rfl
abbrev rm_rmCh4_3 : Room := ({ frames := 3, cells := 0, slots := 0, locals := 40 } : Room)
def Q_rmCh4_3 (Z : State) (so : Addr) (tb : Addr) (kb : ClassId) (x0 : Int32) (x1 : Int32) (x2 : Int32) (x3 : Int32) (cs : Int32) (sf : Value) (h0 : Heap) (n0 : Nat) (v : Option Value) (h : Heap) (L : List Loc) : Prop := (v = some (.int x3)) ∧ (Fr n0 L) ∧ (h = h0)
set_option maxRecDepth 65536 in
set_option maxHeartbeats 4000000 in
theorem rmCh4_3 (l : Launch) (Z : State) (a0 : Array Value) (hw : ∀ d ∈ tables_1, d.before a0 Z = true) (ws : List Jvm.Cond) (so : Addr) (tb : Addr) (kb : ClassId) (x0 : Int32) (x1 : Int32) (x2 : Int32) (x3 : Int32) (cs : Int32) (sf : Value) (h0 : Heap) (n0 : Nat) (O : Old Z n0 h0) (S_CS : Sta Z Z.heap "java/lang/String" "COMPACT_STRINGS" "Z" (.int cs)) (S_FM : Sta Z Z.heap "jdk/internal/util/Preconditions" "SIOOBE_FORMATTER" "Ljava/util/function/BiFunction;" sf) (E_so : Exa Z h0 so "java/lang/String") (F_value_so : Fld Z h0 so "java/lang/String" "value" "[B" (.ref tb)) (F_coder_so : Fld Z h0 so "java/lang/String" "coder" "B" (.int (0 : Int32))) (V_tb : Arv Z h0 tb kb .byte (4 : Int32) [(.int (x0.toInt8.toInt32)), (.int (x1.toInt8.toInt32)), (.int (x2.toInt8.toInt32)), (.int (x3.toInt8.toInt32))] (.int (0 : Int32))) (hcs : ¬ (cs = (0 : Int32))) (hsf : sf.isRef = true) (hl0 : ¬ (x3 < (0 : Int32))) (hl1 : ¬ ((255 : Int32) < x3)) :
    MetFree l y_7 (head1 (Jvm.Cond.code y_7 jdk_42_method_56_code 2 (some .char) :: ws) rm_rmCh4_3) (fun A_ U => A_ = #[(.ref so), (.int (3 : Int32))] ∧ Z.Warmed39 U.vm ∧ U.heap = h0) (fun _ _ _ _ _ => True) (fun _ U o U' => ∃ v L, o = .returned v ∧ Q_rmCh4_3 Z so tb kb x0 x1 x2 x3 cs sf h0 n0 v U'.heap L ∧ FrameEnd U o U' L rm_rmCh4_3.cells rm_rmCh4_3.slots) := by
 refine MetFree.of_bodySF (plainFor_of_name pn_java_lang_String) hisR ?_
 intro p e s m args below meth c s₁ Bd hml0 hP hK
 obtain ⟨rfl, hZ, hh⟩ := hP
 have hx := Bd.exec
 have hby := Bd.bytes
 have hml : c.maxLocals = 2 := hml0
 have hown : s.vm.findClass "java/lang/String" = some m.cls := findClass_of_methodNamed Bd.named
 have hnm := (name_of_methodNamed Bd.named Bd.method).1
 have X0 : Stand p l e rm_rmCh4_3 s m #[(.ref so), (.int (3 : Int32))] below meth c s₁ [] 0 0 := Stand.of_body Bd
 have e0 : s₁.heap = h0 := by rw [← hh, Bd.state]; rfl
 have N0 := Fr.nil n0
 refine Go.step (p := p) (e := e) (below := below) (G := fun o U' => ∃ v L, o = .returned v ∧ Q_rmCh4_3 Z so tb kb x0 x1 x2 x3 cs sf h0 n0 v U'.heap L ∧ FrameEnd s o U' L rm_rmCh4_3.cells rm_rmCh4_3.slots) (S' := s₁.setTop (mkF m 0 #[rv so, iv (3 : Int32)] [])) (fun t k => castTop (ef_rmCh4_3 m so) k) ?_
 refine Go.step (S' := s₁.setTop (mkF m 1 #[rv so, iv (3 : Int32)] [(.ref so)])) (fun t k => ?_) ?_
 · refine XS.aloadN X0.here hx rfl (hb hby d15_0) rfl rfl ?_
   exact k
 obtain ⟨cq1, kq1, q1a, q1b, q1c⟩ := isOf hZ e0 E_so
 obtain ⟨_, _, ⟨T1, L1, k1, n1⟩, -, X1, ⟨Lc1, hQ1, l1, y1, z1⟩, st1⟩ := X0.virtualBack hx (y := y_1) (z := y_1) hown (mvT hZ (own_w hw 85 rfl)) (mvT hZ (own_w hw 86 rfl)) (notFace_of_selects (args := #[]) (mvT hZ (own_w hw 88 rfl))) (mvT hZ (own_w hw 88 rfl)) (mvT hZ (own_w hw 87 rfl)) (by decide) (backOf (W := 0) (rmLat l Z a0 hw [] so cs h0 n0 O S_CS F_coder_so hcs) hZ (own_w hw 89 rfl) (own_w hw 7 rfl) (by decide) (by decide)) q1a q1c (g := (mkF m 1 #[rv so, iv (3 : Int32)] [(.ref so)])) rfl (by rw [hml]; rfl) (Steps.refl _) (argsL := []) (rest := []) (lenOf pd__28_29Z rfl) rfl (Nat.le_of_eq rfl) (hb hby d15_1) (fun _ _ => ⟨rfl, e0, (by decide : 0 + 0 ≤ _), (by decide : 0 + 0 ≤ _)⟩)
 dsimp only [Pt.U, Pt.locs, Pt.cells, Pt.slots] at X1 l1 y1 z1 st1 hQ1
 subst l1 y1 z1
 obtain ⟨rfl, Nq1, e1⟩ := hQ1
 have N1 := Fr.app N0 Nq1
 refine Go.step (fun t k => st1.trans k) ?_
 refine Go.step (S' := T1.setTop (mkF m 8 #[rv so, iv (3 : Int32)] [(.ref so)])) (fun t k => ?_) ?_
 · refine XS.ifNo X1.here hx rfl (hb hby d15_4) rfl ((if0 _ _).trans (feq ((by decide) : ¬ ((1 : Int32) = (0 : Int32)))).1) ?_
   refine XS.aloadN X1.here hx rfl (hb hby d15_7) rfl rfl ?_
   exact k
 obtain ⟨T2, X2, e2, st2⟩ := getF X1 hx hZ hown (host := "") (Or.inl (own_w hw 33 rfl)) Via.refl e1 F_value_so (g := (mkF m 8 #[rv so, iv (3 : Int32)] [(.ref so)])) rfl rfl (hb hby d15_8)
 refine Go.step st2 ?_
 refine Go.step (S' := T2.setTop (mkF m 12 #[rv so, iv (3 : Int32)] [(.int (3 : Int32)), (.ref tb)])) (fun t k => ?_) ?_
 · refine XS.iloadN X2.here hx rfl (hb hby d15_11) rfl ?_
   exact k
 obtain ⟨_, _, ⟨T3, L3, k3, n3⟩, -, X3, ⟨Lc3, hQ3, l3, y3, z3⟩, st3⟩ := Jvm.LawKit.callS X2 hx (y := y_6) hown (mvT hZ (own_w hw 90 rfl)) (mvT hZ (own_w hw 91 rfl)) (mvT hZ (own_w hw 92 rfl)) (mvT hZ (own_w hw 93 rfl)) (by decide) (backOf (W := 0) (rmLC4_3 l Z a0 hw [] tb kb x0 x1 x2 x3 sf h0 n0 O V_tb S_FM hsf hl0 hl1) hZ (own_w hw 93 rfl) (own_w hw 92 rfl) (by decide) (by decide)) (g := (mkF m 12 #[rv so, iv (3 : Int32)] [(.int (3 : Int32)), (.ref tb)])) rfl (by rw [hml]; rfl) (argsL := [(.ref tb), (.int (3 : Int32))]) (rest := []) (lenOf pd__28_5bBI_29C rfl) rfl (Nat.le_of_eq rfl) (hb hby d15_12) (fun _ _ => ⟨rfl, e2, (by decide : 0 + 0 ≤ _), (by decide : 0 + 0 ≤ _)⟩)
 dsimp only [Pt.U, Pt.locs, Pt.cells, Pt.slots] at X3 l3 y3 z3 st3 hQ3
 subst l3 y3 z3
 obtain ⟨rfl, Nq3, e3⟩ := hQ3
 have N3 := Fr.app N1 Nq3
 refine Go.step st3 ?_
 obtain ⟨fs, hr, hrun, hended, hW, hsame⟩ := X3.leave (v := some (.int x3)) (fun h => by rw [Bd.returns] at h; cases h)
 refine Go.fin (S' := T3.setFrames fs) ?_ hrun hended ⟨_, _, rfl, ?_, ⟨_, rfl⟩, hW, hsame.mono (by decide) (by decide)⟩
 · exact retOut X3 hx Bd.returns (own_nc hl0 hl1) (Or.inl ⟨rfl, Or.inr (Or.inr (Or.inr (Or.inl rfl))), _, rfl⟩) (hb hby d15_15) hr
 · show Q_rmCh4_3 Z so tb kb x0 x1 x2 x3 cs sf h0 n0 (some (.int x3)) T3.heap _
   rw [e3]
   exact ⟨rfl, N3, rfl⟩
theorem own_b2 (x : Int32) : ((x.toInt8.toInt32).toInt8.toInt32) = (x.toInt8.toInt32) := by
  rw [← Int32.toInt_inj]
  have h1 := c_i2b x
  have h2 := c_i2b x.toInt8.toInt32
  omega
theorem own_i2c {x : Int32} (h0 : ¬ (x < (0 : Int32))) (h1 : ¬ ((255 : Int32) < x)) : (x.toUInt32.toUInt16.toUInt32.toInt32) = x := by
  rw [← Int32.toInt_inj]
  have := c_i2c x
  simp only [Int32.lt_iff_toInt_lt, show (0 : Int32).toInt = 0 from rfl, show (255 : Int32).toInt = 255 from rfl] at h0 h1
  omega
abbrev y_8 : MethodName := ⟨"java/lang/StringUTF16", "compress", "([CI[BII)I"⟩
theorem pn_java_lang_StringUTF16 : plainName "java/lang/StringUTF16" = true := by first | (simp [plainName, overriddenIn]; done) | decide +kernel
theorem d6_0 : decode jdk_52_method_21_code 0 = .ok (.iconst 0, 1) := by decide +kernel
theorem d6_1 : decode jdk_52_method_21_code 1 = .ok (.istore 5, 2) := by decide +kernel
theorem d6_3 : decode jdk_52_method_21_code 3 = .ok (.iload 5, 2) := by decide +kernel
theorem d6_5 : decode jdk_52_method_21_code 5 = .ok (.iload 4, 2) := by decide +kernel
theorem d6_7 : decode jdk_52_method_21_code 7 = .ok (.if_icmp .ge 37, 3) := by decide +kernel
theorem d6_10 : decode jdk_52_method_21_code 10 = .ok (.aload_n 0, 1) := by decide +kernel
theorem d6_11 : decode jdk_52_method_21_code 11 = .ok (.iload_n 1, 1) := by decide +kernel
theorem d6_12 : decode jdk_52_method_21_code 12 = .ok (.caload, 1) := by decide +kernel
theorem d6_13 : decode jdk_52_method_21_code 13 = .ok (.istore 6, 2) := by decide +kernel
theorem d6_15 : decode jdk_52_method_21_code 15 = .ok (.iload 6, 2) := by decide +kernel
theorem d6_17 : decode jdk_52_method_21_code 17 = .ok (.sipush 255, 3) := by decide +kernel
theorem d6_20 : decode jdk_52_method_21_code 20 = .ok (.if_icmp .le 6, 3) := by decide +kernel
theorem d6_26 : decode jdk_52_method_21_code 26 = .ok (.aload_n 2, 1) := by decide +kernel
theorem d6_27 : decode jdk_52_method_21_code 27 = .ok (.iload_n 3, 1) := by decide +kernel
theorem d6_28 : decode jdk_52_method_21_code 28 = .ok (.iload 6, 2) := by decide +kernel
theorem d6_30 : decode jdk_52_method_21_code 30 = .ok (.i2b, 1) := by decide +kernel
theorem d6_31 : decode jdk_52_method_21_code 31 = .ok (.bastore, 1) := by decide +kernel
theorem d6_32 : decode jdk_52_method_21_code 32 = .ok (.iinc 1 1, 3) := by decide +kernel
theorem d6_35 : decode jdk_52_method_21_code 35 = .ok (.iinc 3 1, 3) := by decide +kernel
theorem d6_38 : decode jdk_52_method_21_code 38 = .ok (.iinc 5 1, 3) := by decide +kernel
theorem d6_41 : decode jdk_52_method_21_code 41 = .ok (.goto (-38), 3) := by decide +kernel
theorem d6_44 : decode jdk_52_method_21_code 44 = .ok (.iload 4, 2) := by decide +kernel
theorem d6_46 : decode jdk_52_method_21_code 46 = .ok (.ireturn, 1) := by decide +kernel
theorem ef_rmCl1 (m : MethodId) (vc : Addr) (db : Addr) : entryFrame m #[(.ref vc), (.int (0 : Int32)), (.ref db), (.int (0 : Int32)), (.int (1 : Int32))] 7 = mkF m 0 #[.val (.ref vc), .val (.int (0 : Int32)), .val (.ref db), .val (.int (0 : Int32)), .val (.int (1 : Int32)), .unset, .unset] [] := by first | (simp [entryFrame, mkF, argsToLocals, Value.category]; done) | rfl
abbrev rm_rmCl1 : Room := ({ frames := 0, cells := 0, slots := 0, locals := 0 } : Room)
def Q_rmCl1 (Z : State) (vc : Addr) (db : Addr) (kc : ClassId) (kb : ClassId) (x0 : Int32) (h0 : Heap) (n0 : Nat) (v : Option Value) (h : Heap) (L : List Loc) : Prop := (v = some (.int (1 : Int32))) ∧ (Fr n0 L) ∧ (Keep h0 h [db]) ∧ (Arv Z h db kb .byte (1 : Int32) [(.int (x0.toInt8.toInt32))] (.int (0 : Int32)))
set_option maxRecDepth 65536 in
set_option maxHeartbeats 4000000 in
theorem rmCl1 (l : Launch) (Z : State) (a0 : Array Value) (hw : ∀ d ∈ tables_1, d.before a0 Z = true) (ws : List Jvm.Cond) (vc : Addr) (db : Addr) (kc : ClassId) (kb : ClassId) (x0 : Int32) (h0 : Heap) (n0 : Nat) (O : Old Z n0 h0) (V_vc : Arv Z h0 vc kc .char (1 : Int32) [(.int x0)] (.int (0 : Int32))) (V_db : Arv Z h0 db kb .byte (1 : Int32) [(.int (0 : Int32))] (.int (0 : Int32))) (g_db : n0 ≤ db) (ne_vc_db : vc ≠ db) (u0 : ¬ ((255 : Int32) < x0)) :
    MetFree l y_8 (head1 (Jvm.Cond.code y_8 jdk_52_method_21_code 7 (some .int) :: ws) rm_rmCl1) (fun A_ U => A_ = #[(.ref vc), (.int (0 : Int32)), (.ref db), (.int (0 : Int32)), (.int (1 : Int32))] ∧ Z.Warmed39 U.vm ∧ U.heap = h0) (fun _ _ _ _ _ => True) (fun _ U o U' => ∃ v L, o = .returned v ∧ Q_rmCl1 Z vc db kc kb x0 h0 n0 v U'.heap L ∧ FrameEnd U o U' L rm_rmCl1.cells rm_rmCl1.slots) := by
 refine MetFree.of_bodySF (plainFor_of_name pn_java_lang_StringUTF16) hisR ?_
 intro p e s m args below meth c s₁ Bd hml0 hP hK
 obtain ⟨rfl, hZ, hh⟩ := hP
 have hx := Bd.exec
 have hby := Bd.bytes
 have hml : c.maxLocals = 7 := hml0
 have hown : s.vm.findClass "java/lang/StringUTF16" = some m.cls := findClass_of_methodNamed Bd.named
 have hnm := (name_of_methodNamed Bd.named Bd.method).1
 have X0 : Stand p l e rm_rmCl1 s m #[(.ref vc), (.int (0 : Int32)), (.ref db), (.int (0 : Int32)), (.int (1 : Int32))] below meth c s₁ [] 0 0 := Stand.of_body Bd
 have e0 : s₁.heap = h0 := by rw [← hh, Bd.state]; rfl
 have N0 := Fr.nil n0
 have K := Keep.refl h0 [db]
 refine Go.step (p := p) (e := e) (below := below) (G := fun o U' => ∃ v L, o = .returned v ∧ Q_rmCl1 Z vc db kc kb x0 h0 n0 v U'.heap L ∧ FrameEnd s o U' L rm_rmCl1.cells rm_rmCl1.slots) (S' := s₁.setTop (mkF m 0 #[rv vc, iv (0 : Int32), rv db, iv (0 : Int32), iv (1 : Int32), u_, u_] [])) (fun t k => castTop (ef_rmCl1 m vc db) k) ?_
 refine Go.step (S' := s₁.setTop (mkF m 12 #[rv vc, iv (0 : Int32), rv db, iv (0 : Int32), iv (1 : Int32), iv (0 : Int32), u_] [(.int (0 : Int32)), (.ref vc)])) (fun t k => ?_) ?_
 · refine XS.iconst X0.here hx rfl (hb hby d6_0) ?_
   refine XS.istore X0.here hx rfl (hb hby d6_1) rfl (l' := #[rv vc, iv (0 : Int32), rv db, iv (0 : Int32), iv (1 : Int32), iv (0 : Int32), u_]) rfl ?_
   refine XS.iload X0.here hx rfl (hb hby d6_3) rfl ?_
   refine XS.iload X0.here hx rfl (hb hby d6_5) rfl ?_
   refine XS.icmpNo X0.here hx rfl (hb hby d6_7) rfl (tlt ((by decide) : (0 : Int32) < (1 : Int32))).2.1 ?_
   refine XS.aloadN X0.here hx rfl (hb hby d6_10) rfl rfl ?_
   show Steps p.tables e below (s₁.setTop (mkF m 11 #[rv vc, iv (0 : Int32), rv db, iv (0 : Int32), iv (1 : Int32), iv (0 : Int32), u_] [(.ref vc)])) _
   refine XS.iloadN X0.here hx rfl (hb hby d6_11) rfl ?_
   exact k
 obtain ⟨cl1, Ar1, -, S1, -, H1, -⟩ := id V_vc
 have hin1 : ¬ ((0 : Int32) < 0 ∨ cl1.slots.size ≤ ((0 : Int32)).toNatClampNeg) := inb_of S1 ⟨by decide, by decide⟩
 refine Go.step (S' := s₁.setTop (mkF m 13 #[rv vc, iv (0 : Int32), rv db, iv (0 : Int32), iv (1 : Int32), iv (0 : Int32), u_] [(.int x0)])) (fun t k => X0.caload hx (j := (0 : Int32)) (v := (.int x0)) (by rw [e0]; exact Ar1.1) (State.isArrayOf_alike hZ.alike Ar1.2.1) Ar1.2.2 hin1 (H1.at hin1 rfl) (g := (mkF m 12 #[rv vc, iv (0 : Int32), rv db, iv (0 : Int32), iv (1 : Int32), iv (0 : Int32), u_] [(.int (0 : Int32)), (.ref vc)])) rfl rfl (hb hby d6_12) _ k) ?_
 refine Go.step (S' := s₁.setTop (mkF m 31 #[rv vc, iv (0 : Int32), rv db, iv (0 : Int32), iv (1 : Int32), iv (0 : Int32), iv x0] [(.int (x0.toInt8.toInt32)), (.int (0 : Int32)), (.ref db)])) (fun t k => ?_) ?_
 · refine XS.istore X0.here hx rfl (hb hby d6_13) rfl (l' := #[rv vc, iv (0 : Int32), rv db, iv (0 : Int32), iv (1 : Int32), iv (0 : Int32), iv x0]) rfl ?_
   refine XS.iload X0.here hx rfl (hb hby d6_15) rfl ?_
   refine XS.sipush X0.here hx rfl (hb hby d6_17) ?_
   refine XS.icmpYes X0.here hx rfl (pc0 := 20) (pc' := 26) rfl (hb hby d6_20) rfl (flt (u0 : ¬ ((255 : Int32) < x0))).2.2.2 (by decide) (by decide) ?_
   refine XS.aloadN X0.here hx rfl (hb hby d6_26) rfl rfl ?_
   refine XS.iloadN X0.here hx rfl (hb hby d6_27) rfl ?_
   show Steps p.tables e below (s₁.setTop (mkF m 28 #[rv vc, iv (0 : Int32), rv db, iv (0 : Int32), iv (1 : Int32), iv (0 : Int32), iv x0] [(.int (0 : Int32)), (.ref db)])) _
   refine XS.iload X0.here hx rfl (hb hby d6_28) rfl ?_
   refine XS.i2b X0.here hx rfl (hb hby d6_30) rfl ?_
   exact k
 obtain ⟨cl2, Ar2, q2, S2, N2_, H2, G2⟩ := V_db
 have hin2 : ¬ ((0 : Int32) < 0 ∨ cl2.slots.size ≤ ((0 : Int32)).toNatClampNeg) := inb_of S2 ⟨by decide, by decide⟩
 obtain ⟨T2, h2, X2, e2, W2, st2⟩ := stB X0 hx hZ e0 Ar2 (j := (0 : Int32)) hin2 (g := (mkF m 31 #[rv vc, iv (0 : Int32), rv db, iv (0 : Int32), iv (1 : Int32), iv (0 : Int32), iv x0] [(.int (x0.toInt8.toInt32)), (.int (0 : Int32)), (.ref db)])) rfl rfl (hb hby d6_31)
 have O := O.wr W2 g_db
 have V_vc := V_vc.other W2 ne_vc_db
 have K := K.wr W2 (Or.inl (List.mem_of_getElem? (i := 0) rfl))
 have V_db : Arv Z h2 db kb .byte (1 : Int32) [(.int ((x0.toInt8.toInt32).toInt8.toInt32))] (.int (0 : Int32)) := Arv.set Ar2 q2 S2 N2_ H2 G2 (fits_nar_byte _) W2 0 rfl (Nat.le_of_ble_eq_true rfl)
 rw [(own_b2 x0 : ((x0.toInt8.toInt32).toInt8.toInt32) = (x0.toInt8.toInt32))] at V_db
 have N2 := Fr.snoc X2 N0 g_db
 refine Go.step st2 ?_
 refine Go.step (S' := T2.setTop (mkF m 35 #[rv vc, iv ((0 : Int32) + (1 : Int32)), rv db, iv (0 : Int32), iv (1 : Int32), iv (0 : Int32), iv x0] [])) (fun t k => ?_) ?_
 · refine XS.iinc X2.here hx rfl (hb hby d6_32) rfl (l' := #[rv vc, iv ((0 : Int32) + (1 : Int32)), rv db, iv (0 : Int32), iv (1 : Int32), iv (0 : Int32), iv x0]) rfl ?_
   exact k
 rw [show ((0 : Int32) + (1 : Int32)) = (1 : Int32) from by decide]
 show Go p e below _ (T2.setTop (mkF m 35 #[rv vc, iv (1 : Int32), rv db, iv (0 : Int32), iv (1 : Int32), iv (0 : Int32), iv x0] []))
 refine Go.step (S' := T2.setTop (mkF m 38 #[rv vc, iv (1 : Int32), rv db, iv ((0 : Int32) + (1 : Int32)), iv (1 : Int32), iv (0 : Int32), iv x0] [])) (fun t k => ?_) ?_
 · refine XS.iinc X2.here hx rfl (hb hby d6_35) rfl (l' := #[rv vc, iv (1 : Int32), rv db, iv ((0 : Int32) + (1 : Int32)), iv (1 : Int32), iv (0 : Int32), iv x0]) rfl ?_
   exact k
 rw [show ((0 : Int32) + (1 : Int32)) = (1 : Int32) from by decide]
 show Go p e below _ (T2.setTop (mkF m 38 #[rv vc, iv (1 : Int32), rv db, iv (1 : Int32), iv (1 : Int32), iv (0 : Int32), iv x0] []))
 refine Go.step (S' := T2.setTop (mkF m 41 #[rv vc, iv (1 : Int32), rv db, iv (1 : Int32), iv (1 : Int32), iv ((0 : Int32) + (1 : Int32)), iv x0] [])) (fun t k => ?_) ?_
 · refine XS.iinc X2.here hx rfl (hb hby d6_38) rfl (l' := #[rv vc, iv (1 : Int32), rv db, iv (1 : Int32), iv (1 : Int32), iv ((0 : Int32) + (1 : Int32)), iv x0]) rfl ?_
   exact k
 rw [show ((0 : Int32) + (1 : Int32)) = (1 : Int32) from by decide]
 show Go p e below _ (T2.setTop (mkF m 41 #[rv vc, iv (1 : Int32), rv db, iv (1 : Int32), iv (1 : Int32), iv (1 : Int32), iv x0] []))
 refine Go.step (S' := T2.setTop (mkF m 46 #[rv vc, iv (1 : Int32), rv db, iv (1 : Int32), iv (1 : Int32), iv (1 : Int32), iv x0] [(.int (1 : Int32))])) (fun t k => ?_) ?_
 · refine XS.goto X2.here hx rfl (pc0 := 41) (pc' := 3) rfl (hb hby d6_41) (by decide) (by decide) ?_
   refine XS.iload X2.here hx rfl (hb hby d6_3) rfl ?_
   refine XS.iload X2.here hx rfl (hb hby d6_5) rfl ?_
   refine XS.icmpYes X2.here hx rfl (pc0 := 7) (pc' := 44) rfl (hb hby d6_7) rfl (flt ((by decide) : ¬ ((1 : Int32) < (1 : Int32)))).2.1 (by decide) (by decide) ?_
   refine XS.iload X2.here hx rfl (hb hby d6_44) rfl ?_
   exact k
 obtain ⟨fs, hr, hrun, hended, hW, hsame⟩ := X2.leave (v := some (.int (1 : Int32))) (fun h => by rw [Bd.returns] at h; cases h)
 refine Go.fin (S' := T2.setFrames fs) ?_ hrun hended ⟨_, _, rfl, ?_, ⟨_, rfl⟩, hW, hsame.mono (by decide) (by decide)⟩
 · exact retOut X2 hx Bd.returns rfl (Or.inl ⟨rfl, Or.inl rfl, _, rfl⟩) (hb hby d6_46) hr
 · show Q_rmCl1 Z vc db kc kb x0 h0 n0 (some (.int (1 : Int32))) T2.heap _
   rw [e2]
   exact ⟨rfl, N2, K, V_db⟩
abbrev y_9 : MethodName := ⟨"java/lang/StringUTF16", "compress", "([CII)[B"⟩
theorem d5_0 : decode jdk_52_method_16_code 0 = .ok (.iload_n 2, 1) := by decide +kernel
theorem d5_1 : decode jdk_52_method_16_code 1 = .ok (.newarray .byte, 2) := by decide +kernel
theorem d5_3 : decode jdk_52_method_16_code 3 = .ok (.astore_n 3, 1) := by decide +kernel
theorem d5_4 : decode jdk_52_method_16_code 4 = .ok (.aload_n 0, 1) := by decide +kernel
theorem d5_5 : decode jdk_52_method_16_code 5 = .ok (.iload_n 1, 1) := by decide +kernel
theorem d5_6 : decode jdk_52_method_16_code 6 = .ok (.aload_n 3, 1) := by decide +kernel
theorem d5_7 : decode jdk_52_method_16_code 7 = .ok (.iconst 0, 1) := by decide +kernel
theorem d5_8 : decode jdk_52_method_16_code 8 = .ok (.iload_n 2, 1) := by decide +kernel
theorem d5_9 : decode jdk_52_method_16_code 9 = .ok (.invokestatic 115, 3) := by decide +kernel
theorem pd__28_5bCI_5bBII_29I : parseMethodDescriptor "([CI[BII)I" = some ⟨[(.array .char), .int, (.array .byte), .int, .int], some .int⟩ := by decide +kernel
theorem d5_12 : decode jdk_52_method_16_code 12 = .ok (.istore 4, 2) := by decide +kernel
theorem d5_14 : decode jdk_52_method_16_code 14 = .ok (.iload 4, 2) := by decide +kernel
theorem d5_16 : decode jdk_52_method_16_code 16 = .ok (.iload_n 2, 1) := by decide +kernel
theorem d5_17 : decode jdk_52_method_16_code 17 = .ok (.if_icmp .eq 40, 3) := by decide +kernel
theorem d5_57 : decode jdk_52_method_16_code 57 = .ok (.aload_n 3, 1) := by decide +kernel
theorem d5_58 : decode jdk_52_method_16_code 58 = .ok (.areturn, 1) := by decide +kernel
theorem ef_rmCm1 (m : MethodId) (vc : Addr) : entryFrame m #[(.ref vc), (.int (0 : Int32)), (.int (1 : Int32))] 6 = mkF m 0 #[.val (.ref vc), .val (.int (0 : Int32)), .val (.int (1 : Int32)), .unset, .unset, .unset] [] := by first | (simp [entryFrame, mkF, argsToLocals, Value.category]; done) | rfl
abbrev rm_rmCm1 : Room := ({ frames := 1, cells := 1, slots := 1, locals := 18 } : Room)
def Q_rmCm1 (Z : State) (vc : Addr) (kc : ClassId) (x0 : Int32) (h0 : Heap) (n0 : Nat) (v : Option Value) (h : Heap) (L : List Loc) : Prop := ∃ b : Addr, ∃ kb : ClassId, (v = some (.ref b)) ∧ (Fr n0 L) ∧ (Keep h0 h []) ∧ (Arv Z h b kb .byte (1 : Int32) [(.int (x0.toInt8.toInt32))] (.int (0 : Int32)))
set_option maxRecDepth 65536 in
set_option maxHeartbeats 4000000 in
theorem rmCm1 (l : Launch) (Z : State) (a0 : Array Value) (hw : ∀ d ∈ tables_1, d.before a0 Z = true) (ws : List Jvm.Cond) (vc : Addr) (kc : ClassId) (x0 : Int32) (h0 : Heap) (n0 : Nat) (O : Old Z n0 h0) (V_vc : Arv Z h0 vc kc .char (1 : Int32) [(.int x0)] (.int (0 : Int32))) (u0 : ¬ ((255 : Int32) < x0)) :
    MetFree l y_9 (head1 (Jvm.Cond.code y_9 jdk_52_method_16_code 6 (some (.array .byte)) :: ws) rm_rmCm1) (fun A_ U => A_ = #[(.ref vc), (.int (0 : Int32)), (.int (1 : Int32))] ∧ Z.Warmed39 U.vm ∧ U.heap = h0) (fun _ _ _ _ _ => True) (fun _ U o U' => ∃ v L, o = .returned v ∧ Q_rmCm1 Z vc kc x0 h0 n0 v U'.heap L ∧ FrameEnd U o U' L rm_rmCm1.cells rm_rmCm1.slots) := by
 refine MetFree.of_bodySF (plainFor_of_name pn_java_lang_StringUTF16) hisR ?_
 intro p e s m args below meth c s₁ Bd hml0 hP hK
 obtain ⟨rfl, hZ, hh⟩ := hP
 have hx := Bd.exec
 have hby := Bd.bytes
 have hml : c.maxLocals = 6 := hml0
 have hown : s.vm.findClass "java/lang/StringUTF16" = some m.cls := findClass_of_methodNamed Bd.named
 have hnm := (name_of_methodNamed Bd.named Bd.method).1
 have X0 : Stand p l e rm_rmCm1 s m #[(.ref vc), (.int (0 : Int32)), (.int (1 : Int32))] below meth c s₁ [] 0 0 := Stand.of_body Bd
 have e0 : s₁.heap = h0 := by rw [← hh, Bd.state]; rfl
 have N0 := Fr.nil n0
 have K := Keep.refl h0 []
 refine Go.step (p := p) (e := e) (below := below) (G := fun o U' => ∃ v L, o = .returned v ∧ Q_rmCm1 Z vc kc x0 h0 n0 v U'.heap L ∧ FrameEnd s o U' L rm_rmCm1.cells rm_rmCm1.slots) (S' := s₁.setTop (mkF m 0 #[rv vc, iv (0 : Int32), iv (1 : Int32), u_, u_, u_] [])) (fun t k => castTop (ef_rmCm1 m vc) k) ?_
 refine Go.step (S' := s₁.setTop (mkF m 1 #[rv vc, iv (0 : Int32), iv (1 : Int32), u_, u_, u_] [(.int (1 : Int32))])) (fun t k => ?_) ?_
 · refine XS.iloadN X0.here hx rfl (hb hby d5_0) rfl ?_
   exact k
 obtain ⟨T1, h1, k1, X1, e1, E1, A1, st1⟩ := newP X0 hx hZ (own_w hw 24 rfl) e0 (g := (mkF m 1 #[rv vc, iv (0 : Int32), iv (1 : Int32), u_, u_, u_] [(.int (1 : Int32))])) rfl (hb hby d5_1) rfl (by decide) (cap := 1) (by decide) (by decide) (by decide) (by decide)
 obtain ⟨b1, g1⟩ : ∃ z, z = Array.size h0 := ⟨_, rfl⟩
 have g_b1 : n0 ≤ b1 := Nat.le_trans (old_le O) (Nat.le_of_eq g1.symm)
 have sz_b1 : h0.size ≤ b1 := Nat.le_trans K.1 (Nat.le_of_eq g1.symm)
 have ne_vc_b1 : vc ≠ b1 := Nat.ne_of_lt (Nat.lt_of_lt_of_le V_vc.lt (Nat.le_of_eq g1.symm))
 rw [← g1] at A1 st1
 have O := O.ext E1
 have V_vc := V_vc.ext E1
 have K := K.ext E1
 have V_b1 : Arv Z h1 b1 k1 .byte (1 : Int32) [(.int (0 : Int32))] (.int (0 : Int32)) := (Arv.new A1 (by decide)).pad (pad_rep [] (.int (0 : Int32)) 1)
 refine Go.step st1 ?_
 refine Go.step (S' := T1.setTop (mkF m 9 #[rv vc, iv (0 : Int32), iv (1 : Int32), rv b1, u_, u_] [(.int (1 : Int32)), (.int (0 : Int32)), (.ref b1), (.int (0 : Int32)), (.ref vc)])) (fun t k => ?_) ?_
 · refine XS.astoreN X1.here hx rfl (hb hby d5_3) rfl rfl (l' := #[rv vc, iv (0 : Int32), iv (1 : Int32), rv b1, u_, u_]) rfl ?_
   refine XS.aloadN X1.here hx rfl (hb hby d5_4) rfl rfl ?_
   refine XS.iloadN X1.here hx rfl (hb hby d5_5) rfl ?_
   refine XS.aloadN X1.here hx rfl (hb hby d5_6) rfl rfl ?_
   refine XS.iconst X1.here hx rfl (hb hby d5_7) ?_
   refine XS.iloadN X1.here hx rfl (hb hby d5_8) rfl ?_
   exact k
 obtain ⟨_, _, ⟨T2, L2, k2, n2⟩, -, X2, ⟨Lc2, hQ2, l2, y2, z2⟩, st2⟩ := Jvm.LawKit.callS X1 hx (y := y_8) hown (mvT hZ (own_w hw 25 rfl)) (mvT hZ (own_w hw 26 rfl)) (mvT hZ (own_w hw 22 rfl)) (mvT hZ (own_w hw 27 rfl)) (by decide) (backOf (W := 0) (rmCl1 l Z a0 hw [] vc b1 kc k1 x0 h1 n0 O V_vc V_b1 (by assumption) ne_vc_b1 u0) hZ (own_w hw 27 rfl) (own_w hw 22 rfl) (by decide) (by decide)) (g := (mkF m 9 #[rv vc, iv (0 : Int32), iv (1 : Int32), rv b1, u_, u_] [(.int (1 : Int32)), (.int (0 : Int32)), (.ref b1), (.int (0 : Int32)), (.ref vc)])) rfl (by rw [hml]; rfl) (argsL := [(.ref vc), (.int (0 : Int32)), (.ref b1), (.int (0 : Int32)), (.int (1 : Int32))]) (rest := []) (lenOf pd__28_5bCI_5bBII_29I rfl) rfl (Nat.le_of_eq rfl) (hb hby d5_9) (fun _ _ => ⟨rfl, e1, (by decide : 1 + 0 ≤ _), (by decide : 1 + 0 ≤ _)⟩)
 dsimp only [Pt.U, Pt.locs, Pt.cells, Pt.slots] at X2 l2 y2 z2 st2 hQ2
 subst l2 y2 z2
 obtain ⟨rfl, Nq2, K2, P2_V⟩ := hQ2
 have N2 := Fr.app N0 Nq2
 have O := O.keep K2 (allS g_b1 all0)
 have V_vc := V_vc.keep K2 (ninS ne_vc_b1 nin0)
 have K := K.trans K2 (allS (Or.inr sz_b1) all0)
 have V_2 := P2_V
 refine Go.step st2 ?_
 refine Go.step (S' := T2.setTop (mkF m 58 #[rv vc, iv (0 : Int32), iv (1 : Int32), rv b1, iv (1 : Int32), u_] [(.ref b1)])) (fun t k => ?_) ?_
 · refine XS.istore X2.here hx rfl (hb hby d5_12) rfl (l' := #[rv vc, iv (0 : Int32), iv (1 : Int32), rv b1, iv (1 : Int32), u_]) rfl ?_
   refine XS.iload X2.here hx rfl (hb hby d5_14) rfl ?_
   refine XS.iloadN X2.here hx rfl (hb hby d5_16) rfl ?_
   refine XS.icmpYes X2.here hx rfl (pc0 := 17) (pc' := 57) rfl (hb hby d5_17) rfl (teq ((by decide) : (1 : Int32) = (1 : Int32))).1 (by decide) (by decide) ?_
   refine XS.aloadN X2.here hx rfl (hb hby d5_57) rfl rfl ?_
   exact k
 obtain ⟨fs, hr, hrun, hended, hW, hsame⟩ := X2.leave (v := some (.ref b1)) (fun h => by rw [Bd.returns] at h; cases h)
 refine Go.fin (S' := T2.setFrames fs) ?_ hrun hended ⟨_, _, rfl, ?_, ⟨_, rfl⟩, hW, hsame.mono (by decide) (by decide)⟩
 · exact retOut X2 hx Bd.returns rfl (Or.inr (Or.inr (Or.inr (Or.inr ⟨rfl, rfl, rfl⟩)))) (hb hby d5_58) hr
 · show Q_rmCm1 Z vc kc x0 h0 n0 (some (.ref b1)) T2.heap _
   exact ⟨b1, k1, rfl, N2, K, V_2⟩
abbrev y_10 : MethodName := ⟨"java/lang/StringUTF16", "coderFromArrayLen", "([BI)B"⟩
theorem d7_0 : decode jdk_52_method_15_code 0 = .ok (.iload_n 1, 1) := by decide +kernel
theorem d7_1 : decode jdk_52_method_15_code 1 = .ok (.aload_n 0, 1) := by decide +kernel
theorem d7_2 : decode jdk_52_method_15_code 2 = .ok (.arraylength, 1) := by decide +kernel
theorem d7_3 : decode jdk_52_method_15_code 3 = .ok (.isub, 1) := by decide +kernel
theorem d7_4 : decode jdk_52_method_15_code 4 = .ok (.bipush 31, 2) := by decide +kernel
theorem d7_6 : decode jdk_52_method_15_code 6 = .ok (.iushr, 1) := by decide +kernel
theorem d7_7 : decode jdk_52_method_15_code 7 = .ok (.i2b, 1) := by decide +kernel
theorem d7_8 : decode jdk_52_method_15_code 8 = .ok (.ireturn, 1) := by decide +kernel
theorem ef_rmCf1 (m : MethodId) (tb : Addr) : entryFrame m #[(.ref tb), (.int (1 : Int32))] 2 = mkF m 0 #[.val (.ref tb), .val (.int (1 : Int32))] [] := by first | (simp [entryFrame, mkF, argsToLocals, Value.category]; done) | rfl
abbrev rm_rmCf1 : Room := ({ frames := 0, cells := 0, slots := 0, locals := 0 } : Room)
def Q_rmCf1 (Z : State) (tb : Addr) (kb : ClassId) (x0 : Int32) (h0 : Heap) (n0 : Nat) (v : Option Value) (h : Heap) (L : List Loc) : Prop := (v = some (.int (0 : Int32))) ∧ (Fr n0 L) ∧ (h = h0)
set_option maxRecDepth 65536 in
set_option maxHeartbeats 4000000 in
theorem rmCf1 (l : Launch) (Z : State) (a0 : Array Value) (hw : ∀ d ∈ tables_1, d.before a0 Z = true) (ws : List Jvm.Cond) (tb : Addr) (kb : ClassId) (x0 : Int32) (h0 : Heap) (n0 : Nat) (O : Old Z n0 h0) (V_tb : Arv Z h0 tb kb .byte (1 : Int32) [(.int (x0.toInt8.toInt32))] (.int (0 : Int32))) :
    MetFree l y_10 (head1 (Jvm.Cond.code y_10 jdk_52_method_15_code 2 (some .byte) :: ws) rm_rmCf1) (fun A_ U => A_ = #[(.ref tb), (.int (1 : Int32))] ∧ Z.Warmed39 U.vm ∧ U.heap = h0) (fun _ _ _ _ _ => True) (fun _ U o U' => ∃ v L, o = .returned v ∧ Q_rmCf1 Z tb kb x0 h0 n0 v U'.heap L ∧ FrameEnd U o U' L rm_rmCf1.cells rm_rmCf1.slots) := by
 refine MetFree.of_bodySF (plainFor_of_name pn_java_lang_StringUTF16) hisR ?_
 intro p e s m args below meth c s₁ Bd hml0 hP hK
 obtain ⟨rfl, hZ, hh⟩ := hP
 have hx := Bd.exec
 have hby := Bd.bytes
 have hml : c.maxLocals = 2 := hml0
 have hown : s.vm.findClass "java/lang/StringUTF16" = some m.cls := findClass_of_methodNamed Bd.named
 have hnm := (name_of_methodNamed Bd.named Bd.method).1
 have X0 : Stand p l e rm_rmCf1 s m #[(.ref tb), (.int (1 : Int32))] below meth c s₁ [] 0 0 := Stand.of_body Bd
 have e0 : s₁.heap = h0 := by rw [← hh, Bd.state]; rfl
 have N0 := Fr.nil n0
 refine Go.step (p := p) (e := e) (below := below) (G := fun o U' => ∃ v L, o = .returned v ∧ Q_rmCf1 Z tb kb x0 h0 n0 v U'.heap L ∧ FrameEnd s o U' L rm_rmCf1.cells rm_rmCf1.slots) (S' := s₁.setTop (mkF m 0 #[rv tb, iv (1 : Int32)] [])) (fun t k => castTop (ef_rmCf1 m tb) k) ?_
 refine Go.step (S' := s₁.setTop (mkF m 2 #[rv tb, iv (1 : Int32)] [(.ref tb), (.int (1 : Int32))])) (fun t k => ?_) ?_
 · refine XS.iloadN X0.here hx rfl (hb hby d7_0) rfl ?_
   refine XS.aloadN X0.here hx rfl (hb hby d7_1) rfl rfl ?_
   exact k
 obtain ⟨cl1, Ar1, -, S1, N1_, -, -⟩ := id V_tb
 refine Go.step (S' := s₁.setTop (mkF m 3 #[rv tb, iv (1 : Int32)] [(.int cl1.slots.size.toInt32), (.int (1 : Int32))])) (fun t k => X0.arraylength hx (by rw [e0]; exact Ar1.1) (State.isArrayOf_alike hZ.alike Ar1.2.1) (g := (mkF m 2 #[rv tb, iv (1 : Int32)] [(.ref tb), (.int (1 : Int32))])) rfl rfl (hb hby d7_2) _ k) ?_
 rw [len_of S1 N1_]
 show Go p e below _ (s₁.setTop (mkF m 3 #[rv tb, iv (1 : Int32)] [(.int (1 : Int32)), (.int (1 : Int32))]))
 refine Go.step (S' := s₁.setTop (mkF m 4 #[rv tb, iv (1 : Int32)] [(.int ((1 : Int32) - (1 : Int32)))])) (fun t k => ?_) ?_
 · refine XS.isub X0.here hx rfl (hb hby d7_3) rfl ?_
   exact k
 rw [show ((1 : Int32) - (1 : Int32)) = (0 : Int32) from by decide]
 show Go p e below _ (s₁.setTop (mkF m 4 #[rv tb, iv (1 : Int32)] [(.int (0 : Int32))]))
 refine Go.step (S' := s₁.setTop (mkF m 7 #[rv tb, iv (1 : Int32)] [(.int (((0 : Int32).toUInt32 >>> ((31 : Int32) &&& 31).toUInt32).toInt32))])) (fun t k => ?_) ?_
 · refine XS.bipush X0.here hx rfl (hb hby d7_4) ?_
   refine XS.iushr X0.here hx rfl (hb hby d7_6) rfl ?_
   exact k
 rw [show (((0 : Int32).toUInt32 >>> ((31 : Int32) &&& 31).toUInt32).toInt32) = (0 : Int32) from by decide]
 show Go p e below _ (s₁.setTop (mkF m 7 #[rv tb, iv (1 : Int32)] [(.int (0 : Int32))]))
 refine Go.step (S' := s₁.setTop (mkF m 8 #[rv tb, iv (1 : Int32)] [(.int ((0 : Int32).toInt8.toInt32))])) (fun t k => ?_) ?_
 · refine XS.i2b X0.here hx rfl (hb hby d7_7) rfl ?_
   exact k
 rw [show ((0 : Int32).toInt8.toInt32) = (0 : Int32) from by decide]
 show Go p e below _ (s₁.setTop (mkF m 8 #[rv tb, iv (1 : Int32)] [(.int (0 : Int32))]))
 obtain ⟨fs, hr, hrun, hended, hW, hsame⟩ := X0.leave (v := some (.int (0 : Int32))) (fun h => by rw [Bd.returns] at h; cases h)
 refine Go.fin (S' := s₁.setFrames fs) ?_ hrun hended ⟨_, _, rfl, ?_, ⟨_, rfl⟩, hW, hsame.mono (by decide) (by decide)⟩
 · exact retOut X0 hx Bd.returns (by decide) (Or.inl ⟨rfl, Or.inr (Or.inr (Or.inl rfl)), _, rfl⟩) (hb hby d7_8) hr
 · show Q_rmCf1 Z tb kb x0 h0 n0 (some (.int (0 : Int32))) s₁.heap _
   rw [e0]
   exact ⟨rfl, N0, rfl⟩
abbrev y_11 : MethodName := ⟨"java/lang/String", "<init>", "([CIILjava/lang/Void;)V"⟩
theorem d3_0 : decode jdk_42_method_149_code 0 = .ok (.aload_n 0, 1) := by decide +kernel
theorem d3_1 : decode jdk_42_method_149_code 1 = .ok (.invokespecial 1, 3) := by decide +kernel
theorem d3_4 : decode jdk_42_method_149_code 4 = .ok (.iload_n 3, 1) := by decide +kernel
theorem d3_5 : decode jdk_42_method_149_code 5 = .ok (.ifCond .ne 22, 3) := by decide +kernel
theorem d3_27 : decode jdk_42_method_149_code 27 = .ok (.getstatic 38, 3) := by decide +kernel
theorem d3_30 : decode jdk_42_method_149_code 30 = .ok (.ifCond .eq 28, 3) := by decide +kernel
theorem d3_33 : decode jdk_42_method_149_code 33 = .ok (.aload_n 1, 1) := by decide +kernel
theorem d3_34 : decode jdk_42_method_149_code 34 = .ok (.iload_n 2, 1) := by decide +kernel
theorem d3_35 : decode jdk_42_method_149_code 35 = .ok (.iload_n 3, 1) := by decide +kernel
theorem d3_36 : decode jdk_42_method_149_code 36 = .ok (.invokestatic 177, 3) := by decide +kernel
theorem pd__28_5bCII_29_5bB : parseMethodDescriptor "([CII)[B" = some ⟨[(.array .char), .int, .int], some (.array .byte)⟩ := by decide +kernel
theorem d3_39 : decode jdk_42_method_149_code 39 = .ok (.astore 5, 2) := by decide +kernel
theorem d3_41 : decode jdk_42_method_149_code 41 = .ok (.aload_n 0, 1) := by decide +kernel
theorem d3_42 : decode jdk_42_method_149_code 42 = .ok (.aload 5, 2) := by decide +kernel
theorem d3_44 : decode jdk_42_method_149_code 44 = .ok (.iload_n 3, 1) := by decide +kernel
theorem d3_45 : decode jdk_42_method_149_code 45 = .ok (.invokestatic 47, 3) := by decide +kernel
theorem pd__28_5bBI_29B : parseMethodDescriptor "([BI)B" = some ⟨[(.array .byte), .int], some .byte⟩ := by decide +kernel
theorem d3_48 : decode jdk_42_method_149_code 48 = .ok (.putfield 15, 3) := by decide +kernel
theorem d3_51 : decode jdk_42_method_149_code 51 = .ok (.aload_n 0, 1) := by decide +kernel
theorem d3_52 : decode jdk_42_method_149_code 52 = .ok (.aload 5, 2) := by decide +kernel
theorem d3_54 : decode jdk_42_method_149_code 54 = .ok (.putfield 9, 3) := by decide +kernel
theorem d3_57 : decode jdk_42_method_149_code 57 = .ok (.return_, 1) := by decide +kernel
theorem ef_rmN4_1 (m : MethodId) (so : Addr) (vc : Addr) : entryFrame m #[(.ref so), (.ref vc), (.int (0 : Int32)), (.int (1 : Int32)), .null] 6 = mkF m 0 #[.val (.ref so), .val (.ref vc), .val (.int (0 : Int32)), .val (.int (1 : Int32)), .val .null, .unset] [] := by first | (simp [entryFrame, mkF, argsToLocals, Value.category]; done) | rfl
abbrev rm_rmN4_1 : Room := ({ frames := 2, cells := 1, slots := 1, locals := 35 } : Room)
def Q_rmN4_1 (Z : State) (so : Addr) (vc : Addr) (kc : ClassId) (cs : Int32) (x0 : Int32) (h0 : Heap) (n0 : Nat) (v : Option Value) (h : Heap) (L : List Loc) : Prop := ∃ tb : Addr, ∃ kb : ClassId, (v = none) ∧ (Fr n0 L) ∧ (Keep h0 h [so]) ∧ (Exa Z h so "java/lang/String") ∧ (Fld Z h so "java/lang/String" "value" "[B" (.ref tb)) ∧ (Fld Z h so "java/lang/String" "coder" "B" (.int (0 : Int32))) ∧ (Arv Z h tb kb .byte (1 : Int32) [(.int (x0.toInt8.toInt32))] (.int (0 : Int32)))
set_option maxRecDepth 65536 in
set_option maxHeartbeats 4000000 in
theorem rmN4_1 (l : Launch) (Z : State) (a0 : Array Value) (hw : ∀ d ∈ tables_1, d.before a0 Z = true) (ws : List Jvm.Cond) (so : Addr) (vc : Addr) (kc : ClassId) (cs : Int32) (x0 : Int32) (h0 : Heap) (n0 : Nat) (O : Old Z n0 h0) (S_CS : Sta Z Z.heap "java/lang/String" "COMPACT_STRINGS" "Z" (.int cs)) (E_so : Exa Z h0 so "java/lang/String") (F_v : Fld Z h0 so "java/lang/String" "value" "[B" .null) (F_c : Fld Z h0 so "java/lang/String" "coder" "B" (.int (0 : Int32))) (V_vc : Arv Z h0 vc kc .char (1 : Int32) [(.int x0)] (.int (0 : Int32))) (g_so : n0 ≤ so) (hcs : ¬ (cs = (0 : Int32))) (u0 : ¬ ((255 : Int32) < x0)) :
    MetFree l y_11 (head1 (Jvm.Cond.code y_11 jdk_42_method_149_code 6 none :: ws) rm_rmN4_1) (fun A_ U => A_ = #[(.ref so), (.ref vc), (.int (0 : Int32)), (.int (1 : Int32)), .null] ∧ Z.Warmed39 U.vm ∧ U.heap = h0) (fun _ _ _ _ _ => True) (fun _ U o U' => ∃ v L, o = .returned v ∧ Q_rmN4_1 Z so vc kc cs x0 h0 n0 v U'.heap L ∧ FrameEnd U o U' L rm_rmN4_1.cells rm_rmN4_1.slots) := by
 refine MetFree.of_bodySF (plainFor_of_name pn_java_lang_String) hisR ?_
 intro p e s m args below meth c s₁ Bd hml0 hP hK
 obtain ⟨rfl, hZ, hh⟩ := hP
 have hx := Bd.exec
 have hby := Bd.bytes
 have hml : c.maxLocals = 6 := hml0
 have hown : s.vm.findClass "java/lang/String" = some m.cls := findClass_of_methodNamed Bd.named
 have hnm := (name_of_methodNamed Bd.named Bd.method).1
 have X0 : Stand p l e rm_rmN4_1 s m #[(.ref so), (.ref vc), (.int (0 : Int32)), (.int (1 : Int32)), .null] below meth c s₁ [] 0 0 := Stand.of_body Bd
 have e0 : s₁.heap = h0 := by rw [← hh, Bd.state]; rfl
 have N0 := Fr.nil n0
 have K := Keep.refl h0 [so]
 refine Go.step (p := p) (e := e) (below := below) (G := fun o U' => ∃ v L, o = .returned v ∧ Q_rmN4_1 Z so vc kc cs x0 h0 n0 v U'.heap L ∧ FrameEnd s o U' L rm_rmN4_1.cells rm_rmN4_1.slots) (S' := s₁.setTop (mkF m 0 #[rv so, rv vc, iv (0 : Int32), iv (1 : Int32), .val .null, u_] [])) (fun t k => castTop (ef_rmN4_1 m so vc) k) ?_
 refine Go.step (S' := s₁.setTop (mkF m 1 #[rv so, rv vc, iv (0 : Int32), iv (1 : Int32), .val .null, u_] [(.ref so)])) (fun t k => ?_) ?_
 · refine XS.aloadN X0.here hx rfl (hb hby d3_0) rfl rfl ?_
   exact k
 obtain ⟨T1, X1, e1, st1⟩ := initO X0 hx hZ hown (own_w hw 16 rfl) (own_w hw 17 rfl) (own_w hw 18 rfl) e0 (g := (mkF m 1 #[rv so, rv vc, iv (0 : Int32), iv (1 : Int32), .val .null, u_] [(.ref so)])) rfl (by rw [hml]; rfl) rfl (hb hby d3_1) (by decide) (W := 0) (by show 2 * 0 + _ ≤ _; exact Nat.le_of_eq rfl) (by decide)
 refine Go.step st1 ?_
 refine Go.step (S' := T1.setTop (mkF m 27 #[rv so, rv vc, iv (0 : Int32), iv (1 : Int32), .val .null, u_] [])) (fun t k => ?_) ?_
 · refine XS.iloadN X1.here hx rfl (hb hby d3_4) rfl ?_
   refine XS.ifYes X1.here hx rfl (pc0 := 5) (pc' := 27) rfl (hb hby d3_5) rfl ((if0 _ _).trans (feq ((by decide) : ¬ ((1 : Int32) = (0 : Int32)))).2) (by decide) (by decide) ?_
   exact k
 obtain ⟨T2, X2, e2, st2⟩ := getS2 X1 hx hZ hown (host := "") (Or.inl (own_w hw 19 rfl)) Via.refl e1 (S_CS.ext O.2) (g := (mkF m 27 #[rv so, rv vc, iv (0 : Int32), iv (1 : Int32), .val .null, u_] [])) rfl (hb hby d3_27)
 refine Go.step st2 ?_
 refine Go.step (S' := T2.setTop (mkF m 36 #[rv so, rv vc, iv (0 : Int32), iv (1 : Int32), .val .null, u_] [(.int (1 : Int32)), (.int (0 : Int32)), (.ref vc)])) (fun t k => ?_) ?_
 · refine XS.ifNo X2.here hx rfl (hb hby d3_30) rfl ((if0 _ _).trans (feq (hcs : ¬ (cs = (0 : Int32)))).1) ?_
   refine XS.aloadN X2.here hx rfl (hb hby d3_33) rfl rfl ?_
   refine XS.iloadN X2.here hx rfl (hb hby d3_34) rfl ?_
   refine XS.iloadN X2.here hx rfl (hb hby d3_35) rfl ?_
   exact k
 obtain ⟨_, _, ⟨T3, L3, k3, n3⟩, -, X3, ⟨Lc3, hQ3, l3, y3, z3⟩, st3⟩ := Jvm.LawKit.callS X2 hx (y := y_9) hown (mvT hZ (own_w hw 20 rfl)) (mvT hZ (own_w hw 21 rfl)) (mvT hZ (own_w hw 22 rfl)) (mvT hZ (own_w hw 23 rfl)) (by decide) (backOf (W := 0) (rmCm1 l Z a0 hw [] vc kc x0 h0 n0 O V_vc u0) hZ (own_w hw 23 rfl) (own_w hw 22 rfl) (by decide) (by decide)) (g := (mkF m 36 #[rv so, rv vc, iv (0 : Int32), iv (1 : Int32), .val .null, u_] [(.int (1 : Int32)), (.int (0 : Int32)), (.ref vc)])) rfl (by rw [hml]; rfl) (argsL := [(.ref vc), (.int (0 : Int32)), (.int (1 : Int32))]) (rest := []) (lenOf pd__28_5bCII_29_5bB rfl) rfl (Nat.le_of_eq rfl) (hb hby d3_36) (fun _ _ => ⟨rfl, e2, (by decide : 0 + 1 ≤ _), (by decide : 0 + 1 ≤ _)⟩)
 dsimp only [Pt.U, Pt.locs, Pt.cells, Pt.slots] at X3 l3 y3 z3 st3 hQ3
 subst l3 y3 z3
 obtain ⟨b_3, kb_3, rfl, Nq3, K3, P3_V⟩ := hQ3
 have N3 := Fr.app N0 Nq3
 have O := O.keep K3 all0
 have E_so := E_so.keep K3
 have F_v := F_v.keep K3 nin0
 have F_c := F_c.keep K3 nin0
 have V_vc := V_vc.keep K3 nin0
 have K := K.trans K3 all0
 have V_3 := P3_V
 refine Go.step st3 ?_
 refine Go.step (S' := T3.setTop (mkF m 45 #[rv so, rv vc, iv (0 : Int32), iv (1 : Int32), .val .null, rv b_3] [(.int (1 : Int32)), (.ref b_3), (.ref so)])) (fun t k => ?_) ?_
 · refine XS.astore X3.here hx rfl (hb hby d3_39) rfl rfl (l' := #[rv so, rv vc, iv (0 : Int32), iv (1 : Int32), .val .null, rv b_3]) rfl ?_
   refine XS.aloadN X3.here hx rfl (hb hby d3_41) rfl rfl ?_
   refine XS.aload X3.here hx rfl (hb hby d3_42) rfl rfl ?_
   refine XS.iloadN X3.here hx rfl (hb hby d3_44) rfl ?_
   exact k
 obtain ⟨_, _, ⟨T4, L4, k4, n4⟩, -, X4, ⟨Lc4, hQ4, l4, y4, z4⟩, st4⟩ := Jvm.LawKit.callS X3 hx (y := y_10) hown (mvT hZ (own_w hw 28 rfl)) (mvT hZ (own_w hw 29 rfl)) (mvT hZ (own_w hw 22 rfl)) (mvT hZ (own_w hw 30 rfl)) (by decide) (backOf (W := 1) (rmCf1 l Z a0 hw [] b_3 kb_3 x0 T3.heap n0 O V_3) hZ (own_w hw 30 rfl) (own_w hw 22 rfl) (by decide) (by decide)) (g := (mkF m 45 #[rv so, rv vc, iv (0 : Int32), iv (1 : Int32), .val .null, rv b_3] [(.int (1 : Int32)), (.ref b_3), (.ref so)])) rfl (by rw [hml]; rfl) (argsL := [(.ref b_3), (.int (1 : Int32))]) (rest := [(.ref so)]) (lenOf pd__28_5bBI_29B rfl) rfl (Nat.le_of_eq rfl) (hb hby d3_45) (fun _ _ => ⟨rfl, (Eq.refl T3.heap), (by decide : 1 + 0 ≤ _), (by decide : 1 + 0 ≤ _)⟩)
 dsimp only [Pt.U, Pt.locs, Pt.cells, Pt.slots] at X4 l4 y4 z4 st4 hQ4
 subst l4 y4 z4
 obtain ⟨rfl, Nq4, e4⟩ := hQ4
 have N4 := Fr.app N3 Nq4
 refine Go.step st4 ?_
 obtain ⟨T5, h5, X5, e5, W5, st5⟩ := putFN X4 hx hZ hown (own_w hw 31 rfl) Via.refl e4 F_c E_so (Or.inr ⟨(own_w hw 32 rfl), rfl, hnm⟩) (own_w hw 6 rfl) (ty := .byte) (v' := (.int (0 : Int32))) (by decide) rfl rfl (g := (mkF m 48 #[rv so, rv vc, iv (0 : Int32), iv (1 : Int32), .val .null, rv b_3] [(.int (0 : Int32)), (.ref so)])) rfl rfl (hb hby d3_48)
 have ne_vc_so : vc ≠ so := Ne.symm (Exa.neArv E_so V_vc (own_w hw 6 rfl))
 have ne_b_3_so : b_3 ≠ so := Ne.symm (Exa.neArv E_so V_3 (own_w hw 6 rfl))
 have O := O.wr W5 g_so
 have E_so := E_so.wr W5
 have F_v := F_v.other W5 (Or.inr (slot_ne (Or.inr (own_w hw 34 rfl)) (Or.inr (own_w hw 32 rfl)) (by decide) (t := (.array .byte)) (t' := .byte) (by decide) (by decide)))
 have F_c := F_c.same W5
 have V_vc := V_vc.other W5 ne_vc_so
 have K := K.wr W5 (Or.inl (List.mem_of_getElem? (i := 0) rfl))
 have V_3 := V_3.other W5 ne_b_3_so
 have N5 := Fr.snoc X5 N4 g_so
 refine Go.step st5 ?_
 refine Go.step (S' := T5.setTop (mkF m 54 #[rv so, rv vc, iv (0 : Int32), iv (1 : Int32), .val .null, rv b_3] [(.ref b_3), (.ref so)])) (fun t k => ?_) ?_
 · refine XS.aloadN X5.here hx rfl (hb hby d3_51) rfl rfl ?_
   refine XS.aload X5.here hx rfl (hb hby d3_52) rfl rfl ?_
   exact k
 obtain ⟨T6, h6, X6, e6, W6, st6⟩ := putF X5 hx hZ hown (host := "") (Or.inl (own_w hw 33 rfl)) Via.refl e5 F_v E_so (Or.inr ⟨(own_w hw 34 rfl), rfl, hnm⟩) (own_w hw 6 rfl) (ty := (.array .byte)) (by decide) rfl rfl (g := (mkF m 54 #[rv so, rv vc, iv (0 : Int32), iv (1 : Int32), .val .null, rv b_3] [(.ref b_3), (.ref so)])) rfl rfl (hb hby d3_54)
 have O := O.wr W6 g_so
 have E_so := E_so.wr W6
 have F_v := F_v.same W6
 have F_c := F_c.other W6 (Or.inr (slot_ne (Or.inr (own_w hw 32 rfl)) (Or.inr (own_w hw 34 rfl)) (by decide) (t := .byte) (t' := (.array .byte)) (by decide) (by decide)))
 have V_vc := V_vc.other W6 ne_vc_so
 have K := K.wr W6 (Or.inl (List.mem_of_getElem? (i := 0) rfl))
 have V_3 := V_3.other W6 ne_b_3_so
 have N6 := Fr.snoc X6 N5 g_so
 refine Go.step st6 ?_
 obtain ⟨fs, hr, hrun, hended, hW, hsame⟩ := X6.leave (v := none) (fun _ => rfl)
 refine Go.fin (S' := T6.setFrames fs) ?_ hrun hended ⟨_, _, rfl, ?_, ⟨_, rfl⟩, hW, hsame.mono (by decide) (by decide)⟩
 · exact X6.returnOut hx Bd.returns (hb hby d3_57) hr
 · show Q_rmN4_1 Z so vc kc cs x0 h0 n0 (none) T6.heap _
   rw [e6]
   exact ⟨b_3, kb_3, rfl, N6, K, E_so, F_v, F_c, V_3⟩
abbrev y_12 : MethodName := ⟨"java/lang/String", "<init>", "([C)V"⟩
theorem d2_0 : decode jdk_42_method_3_code 0 = .ok (.aload_n 0, 1) := by decide +kernel
theorem d2_1 : decode jdk_42_method_3_code 1 = .ok (.aload_n 1, 1) := by decide +kernel
theorem d2_2 : decode jdk_42_method_3_code 2 = .ok (.iconst 0, 1) := by decide +kernel
theorem d2_3 : decode jdk_42_method_3_code 3 = .ok (.aload_n 1, 1) := by decide +kernel
theorem d2_4 : decode jdk_42_method_3_code 4 = .ok (.arraylength, 1) := by decide +kernel
theorem d2_5 : decode jdk_42_method_3_code 5 = .ok (.aconst_null, 1) := by decide +kernel
theorem d2_6 : decode jdk_42_method_3_code 6 = .ok (.invokespecial 27, 3) := by decide +kernel
theorem pd__28_5bCIILjava_2flang_2fVoid_3b_29V : parseMethodDescriptor "([CIILjava/lang/Void;)V" = some ⟨[(.array .char), .int, .int, (.object "java/lang/Void")], none⟩ := by decide +kernel
theorem d2_9 : decode jdk_42_method_3_code 9 = .ok (.return_, 1) := by decide +kernel
theorem ef_rmNS1 (m : MethodId) (so : Addr) (vc : Addr) : entryFrame m #[(.ref so), (.ref vc)] 2 = mkF m 0 #[.val (.ref so), .val (.ref vc)] [] := by first | (simp [entryFrame, mkF, argsToLocals, Value.category]; done) | rfl
abbrev rm_rmNS1 : Room := ({ frames := 3, cells := 1, slots := 1, locals := 52 } : Room)
def Q_rmNS1 (Z : State) (so : Addr) (vc : Addr) (kc : ClassId) (cs : Int32) (x0 : Int32) (h0 : Heap) (n0 : Nat) (v : Option Value) (h : Heap) (L : List Loc) : Prop := ∃ tb : Addr, ∃ kb : ClassId, (v = none) ∧ (Fr n0 L) ∧ (Keep h0 h [so]) ∧ (Exa Z h so "java/lang/String") ∧ (Fld Z h so "java/lang/String" "value" "[B" (.ref tb)) ∧ (Fld Z h so "java/lang/String" "coder" "B" (.int (0 : Int32))) ∧ (Arv Z h tb kb .byte (1 : Int32) [(.int (x0.toInt8.toInt32))] (.int (0 : Int32)))
set_option maxRecDepth 65536 in
set_option maxHeartbeats 4000000 in
theorem rmNS1 (l : Launch) (Z : State) (a0 : Array Value) (hw : ∀ d ∈ tables_1, d.before a0 Z = true) (ws : List Jvm.Cond) (so : Addr) (vc : Addr) (kc : ClassId) (cs : Int32) (x0 : Int32) (h0 : Heap) (n0 : Nat) (O : Old Z n0 h0) (S_CS : Sta Z Z.heap "java/lang/String" "COMPACT_STRINGS" "Z" (.int cs)) (E_so : Exa Z h0 so "java/lang/String") (F_v : Fld Z h0 so "java/lang/String" "value" "[B" .null) (F_c : Fld Z h0 so "java/lang/String" "coder" "B" (.int (0 : Int32))) (V_vc : Arv Z h0 vc kc .char (1 : Int32) [(.int x0)] (.int (0 : Int32))) (g_so : n0 ≤ so) (hcs : ¬ (cs = (0 : Int32))) (u0 : ¬ ((255 : Int32) < x0)) :
    MetFree l y_12 (head1 (Jvm.Cond.code y_12 jdk_42_method_3_code 2 none :: ws) rm_rmNS1) (fun A_ U => A_ = #[(.ref so), (.ref vc)] ∧ Z.Warmed39 U.vm ∧ U.heap = h0) (fun _ _ _ _ _ => True) (fun _ U o U' => ∃ v L, o = .returned v ∧ Q_rmNS1 Z so vc kc cs x0 h0 n0 v U'.heap L ∧ FrameEnd U o U' L rm_rmNS1.cells rm_rmNS1.slots) := by
 refine MetFree.of_bodySF (plainFor_of_name pn_java_lang_String) hisR ?_
 intro p e s m args below meth c s₁ Bd hml0 hP hK
 obtain ⟨rfl, hZ, hh⟩ := hP
 have hx := Bd.exec
 have hby := Bd.bytes
 have hml : c.maxLocals = 2 := hml0
 have hown : s.vm.findClass "java/lang/String" = some m.cls := findClass_of_methodNamed Bd.named
 have hnm := (name_of_methodNamed Bd.named Bd.method).1
 have X0 : Stand p l e rm_rmNS1 s m #[(.ref so), (.ref vc)] below meth c s₁ [] 0 0 := Stand.of_body Bd
 have e0 : s₁.heap = h0 := by rw [← hh, Bd.state]; rfl
 have N0 := Fr.nil n0
 have K := Keep.refl h0 [so]
 refine Go.step (p := p) (e := e) (below := below) (G := fun o U' => ∃ v L, o = .returned v ∧ Q_rmNS1 Z so vc kc cs x0 h0 n0 v U'.heap L ∧ FrameEnd s o U' L rm_rmNS1.cells rm_rmNS1.slots) (S' := s₁.setTop (mkF m 0 #[rv so, rv vc] [])) (fun t k => castTop (ef_rmNS1 m so vc) k) ?_
 refine Go.step (S' := s₁.setTop (mkF m 4 #[rv so, rv vc] [(.ref vc), (.int (0 : Int32)), (.ref vc), (.ref so)])) (fun t k => ?_) ?_
 · refine XS.aloadN X0.here hx rfl (hb hby d2_0) rfl rfl ?_
   refine XS.aloadN X0.here hx rfl (hb hby d2_1) rfl rfl ?_
   refine XS.iconst X0.here hx rfl (hb hby d2_2) ?_
   refine XS.aloadN X0.here hx rfl (hb hby d2_3) rfl rfl ?_
   exact k
 obtain ⟨cl1, Ar1, -, S1, N1_, -, -⟩ := id V_vc
 refine Go.step (S' := s₁.setTop (mkF m 5 #[rv so, rv vc] [(.int cl1.slots.size.toInt32), (.int (0 : Int32)), (.ref vc), (.ref so)])) (fun t k => X0.arraylength hx (by rw [e0]; exact Ar1.1) (State.isArrayOf_alike hZ.alike Ar1.2.1) (g := (mkF m 4 #[rv so, rv vc] [(.ref vc), (.int (0 : Int32)), (.ref vc), (.ref so)])) rfl rfl (hb hby d2_4) _ k) ?_
 rw [len_of S1 N1_]
 show Go p e below _ (s₁.setTop (mkF m 5 #[rv so, rv vc] [(.int (1 : Int32)), (.int (0 : Int32)), (.ref vc), (.ref so)]))
 refine Go.step (S' := s₁.setTop (mkF m 6 #[rv so, rv vc] [.null, (.int (1 : Int32)), (.int (0 : Int32)), (.ref vc), (.ref so)])) (fun t k => ?_) ?_
 · refine XS.aconstNull X0.here hx rfl (hb hby d2_5) ?_
   exact k
 obtain ⟨_, _, ⟨T2, L2, k2, n2⟩, -, X2, ⟨Lc2, hQ2, l2, y2, z2⟩, st2⟩ := X0.specialBack hx (y := y_11) rfl hown (mvT hZ (own_w hw 12 rfl)) (mvT hZ (own_w hw 13 rfl)) (mvT hZ (own_w hw 15 rfl)) (by decide) (backOf (W := 0) (rmN4_1 l Z a0 hw [] so vc kc cs x0 h0 n0 O S_CS E_so F_v F_c V_vc (by assumption) hcs u0) hZ (own_w hw 15 rfl) (own_w hw 7 rfl) (by decide) (by decide)) (g := (mkF m 6 #[rv so, rv vc] [.null, (.int (1 : Int32)), (.int (0 : Int32)), (.ref vc), (.ref so)])) rfl (by rw [hml]; rfl) (Steps.refl _) (a := so) (argsL := [(.ref vc), (.int (0 : Int32)), (.int (1 : Int32)), .null]) (rest := []) (lenOf pd__28_5bCIILjava_2flang_2fVoid_3b_29V rfl) rfl (Nat.le_of_eq rfl) (hb hby d2_6) (fun _ _ => ⟨rfl, e0, (by decide : 0 + 1 ≤ _), (by decide : 0 + 1 ≤ _)⟩)
 dsimp only [Pt.U, Pt.locs, Pt.cells, Pt.slots] at X2 l2 y2 z2 st2 hQ2
 subst l2 y2 z2
 obtain ⟨tb_2, kb_2, rfl, Nq2, K2, P2_E, P2_Fv, P2_Fc, P2_V⟩ := hQ2
 have N2 := Fr.app N0 Nq2
 have ne_vc_so : vc ≠ so := Ne.symm (Exa.neArv E_so V_vc (own_w hw 6 rfl))
 have O := O.keep K2 (allS g_so all0)
 have E_so := E_so.keep K2
 have V_vc := V_vc.keep K2 (ninS ne_vc_so nin0)
 have K := K.trans K2 (allS (Or.inl (List.mem_of_getElem? (i := 0) rfl)) all0)
 have E_2 := P2_E
 have Fv_2 := P2_Fv
 have Fc_2 := P2_Fc
 have V_2 := P2_V
 refine Go.step (fun t k => st2.trans k) ?_
 obtain ⟨fs, hr, hrun, hended, hW, hsame⟩ := X2.leave (v := none) (fun _ => rfl)
 refine Go.fin (S' := T2.setFrames fs) ?_ hrun hended ⟨_, _, rfl, ?_, ⟨_, rfl⟩, hW, hsame.mono (by decide) (by decide)⟩
 · exact X2.returnOut hx Bd.returns (hb hby d2_9) hr
 · show Q_rmNS1 Z so vc kc cs x0 h0 n0 (none) T2.heap _
   exact ⟨tb_2, kb_2, rfl, N2, K, E_so, Fv_2, Fc_2, V_2⟩
theorem ef_rmCl2 (m : MethodId) (vc : Addr) (db : Addr) : entryFrame m #[(.ref vc), (.int (0 : Int32)), (.ref db), (.int (0 : Int32)), (.int (2 : Int32))] 7 = mkF m 0 #[.val (.ref vc), .val (.int (0 : Int32)), .val (.ref db), .val (.int (0 : Int32)), .val (.int (2 : Int32)), .unset, .unset] [] := by first | (simp [entryFrame, mkF, argsToLocals, Value.category]; done) | rfl
abbrev rm_rmCl2 : Room := ({ frames := 0, cells := 0, slots := 0, locals := 0 } : Room)
def Q_rmCl2 (Z : State) (vc : Addr) (db : Addr) (kc : ClassId) (kb : ClassId) (x0 : Int32) (x1 : Int32) (h0 : Heap) (n0 : Nat) (v : Option Value) (h : Heap) (L : List Loc) : Prop := (v = some (.int (2 : Int32))) ∧ (Fr n0 L) ∧ (Keep h0 h [db]) ∧ (Arv Z h db kb .byte (2 : Int32) [(.int (x0.toInt8.toInt32)), (.int (x1.toInt8.toInt32))] (.int (0 : Int32)))
set_option maxRecDepth 65536 in
set_option maxHeartbeats 4000000 in
theorem rmCl2 (l : Launch) (Z : State) (a0 : Array Value) (hw : ∀ d ∈ tables_1, d.before a0 Z = true) (ws : List Jvm.Cond) (vc : Addr) (db : Addr) (kc : ClassId) (kb : ClassId) (x0 : Int32) (x1 : Int32) (h0 : Heap) (n0 : Nat) (O : Old Z n0 h0) (V_vc : Arv Z h0 vc kc .char (2 : Int32) [(.int x0), (.int x1)] (.int (0 : Int32))) (V_db : Arv Z h0 db kb .byte (2 : Int32) [(.int (0 : Int32)), (.int (0 : Int32))] (.int (0 : Int32))) (g_db : n0 ≤ db) (ne_vc_db : vc ≠ db) (u0 : ¬ ((255 : Int32) < x0)) (u1 : ¬ ((255 : Int32) < x1)) :
    MetFree l y_8 (head1 (Jvm.Cond.code y_8 jdk_52_method_21_code 7 (some .int) :: ws) rm_rmCl2) (fun A_ U => A_ = #[(.ref vc), (.int (0 : Int32)), (.ref db), (.int (0 : Int32)), (.int (2 : Int32))] ∧ Z.Warmed39 U.vm ∧ U.heap = h0) (fun _ _ _ _ _ => True) (fun _ U o U' => ∃ v L, o = .returned v ∧ Q_rmCl2 Z vc db kc kb x0 x1 h0 n0 v U'.heap L ∧ FrameEnd U o U' L rm_rmCl2.cells rm_rmCl2.slots) := by
 refine MetFree.of_bodySF (plainFor_of_name pn_java_lang_StringUTF16) hisR ?_
 intro p e s m args below meth c s₁ Bd hml0 hP hK
 obtain ⟨rfl, hZ, hh⟩ := hP
 have hx := Bd.exec
 have hby := Bd.bytes
 have hml : c.maxLocals = 7 := hml0
 have hown : s.vm.findClass "java/lang/StringUTF16" = some m.cls := findClass_of_methodNamed Bd.named
 have hnm := (name_of_methodNamed Bd.named Bd.method).1
 have X0 : Stand p l e rm_rmCl2 s m #[(.ref vc), (.int (0 : Int32)), (.ref db), (.int (0 : Int32)), (.int (2 : Int32))] below meth c s₁ [] 0 0 := Stand.of_body Bd
 have e0 : s₁.heap = h0 := by rw [← hh, Bd.state]; rfl
 have N0 := Fr.nil n0
 have K := Keep.refl h0 [db]
 refine Go.step (p := p) (e := e) (below := below) (G := fun o U' => ∃ v L, o = .returned v ∧ Q_rmCl2 Z vc db kc kb x0 x1 h0 n0 v U'.heap L ∧ FrameEnd s o U' L rm_rmCl2.cells rm_rmCl2.slots) (S' := s₁.setTop (mkF m 0 #[rv vc, iv (0 : Int32), rv db, iv (0 : Int32), iv (2 : Int32), u_, u_] [])) (fun t k => castTop (ef_rmCl2 m vc db) k) ?_
 refine Go.step (S' := s₁.setTop (mkF m 12 #[rv vc, iv (0 : Int32), rv db, iv (0 : Int32), iv (2 : Int32), iv (0 : Int32), u_] [(.int (0 : Int32)), (.ref vc)])) (fun t k => ?_) ?_
 · refine XS.iconst X0.here hx rfl (hb hby d6_0) ?_
   refine XS.istore X0.here hx rfl (hb hby d6_1) rfl (l' := #[rv vc, iv (0 : Int32), rv db, iv (0 : Int32), iv (2 : Int32), iv (0 : Int32), u_]) rfl ?_
   refine XS.iload X0.here hx rfl (hb hby d6_3) rfl ?_
   refine XS.iload X0.here hx rfl (hb hby d6_5) rfl ?_
   refine XS.icmpNo X0.here hx rfl (hb hby d6_7) rfl (tlt ((by decide) : (0 : Int32) < (2 : Int32))).2.1 ?_
   refine XS.aloadN X0.here hx rfl (hb hby d6_10) rfl rfl ?_
   show Steps p.tables e below (s₁.setTop (mkF m 11 #[rv vc, iv (0 : Int32), rv db, iv (0 : Int32), iv (2 : Int32), iv (0 : Int32), u_] [(.ref vc)])) _
   refine XS.iloadN X0.here hx rfl (hb hby d6_11) rfl ?_
   exact k
 obtain ⟨cl1, Ar1, -, S1, -, H1, -⟩ := id V_vc
 have hin1 : ¬ ((0 : Int32) < 0 ∨ cl1.slots.size ≤ ((0 : Int32)).toNatClampNeg) := inb_of S1 ⟨by decide, by decide⟩
 refine Go.step (S' := s₁.setTop (mkF m 13 #[rv vc, iv (0 : Int32), rv db, iv (0 : Int32), iv (2 : Int32), iv (0 : Int32), u_] [(.int x0)])) (fun t k => X0.caload hx (j := (0 : Int32)) (v := (.int x0)) (by rw [e0]; exact Ar1.1) (State.isArrayOf_alike hZ.alike Ar1.2.1) Ar1.2.2 hin1 (H1.at hin1 rfl) (g := (mkF m 12 #[rv vc, iv (0 : Int32), rv db, iv (0 : Int32), iv (2 : Int32), iv (0 : Int32), u_] [(.int (0 : Int32)), (.ref vc)])) rfl rfl (hb hby d6_12) _ k) ?_
 refine Go.step (S' := s₁.setTop (mkF m 31 #[rv vc, iv (0 : Int32), rv db, iv (0 : Int32), iv (2 : Int32), iv (0 : Int32), iv x0] [(.int (x0.toInt8.toInt32)), (.int (0 : Int32)), (.ref db)])) (fun t k => ?_) ?_
 · refine XS.istore X0.here hx rfl (hb hby d6_13) rfl (l' := #[rv vc, iv (0 : Int32), rv db, iv (0 : Int32), iv (2 : Int32), iv (0 : Int32), iv x0]) rfl ?_
   refine XS.iload X0.here hx rfl (hb hby d6_15) rfl ?_
   refine XS.sipush X0.here hx rfl (hb hby d6_17) ?_
   refine XS.icmpYes X0.here hx rfl (pc0 := 20) (pc' := 26) rfl (hb hby d6_20) rfl (flt (u0 : ¬ ((255 : Int32) < x0))).2.2.2 (by decide) (by decide) ?_
   refine XS.aloadN X0.here hx rfl (hb hby d6_26) rfl rfl ?_
   refine XS.iloadN X0.here hx rfl (hb hby d6_27) rfl ?_
   show Steps p.tables e below (s₁.setTop (mkF m 28 #[rv vc, iv (0 : Int32), rv db, iv (0 : Int32), iv (2 : Int32), iv (0 : Int32), iv x0] [(.int (0 : Int32)), (.ref db)])) _
   refine XS.iload X0.here hx rfl (hb hby d6_28) rfl ?_
   refine XS.i2b X0.here hx rfl (hb hby d6_30) rfl ?_
   exact k
 obtain ⟨cl2, Ar2, q2, S2, N2_, H2, G2⟩ := V_db
 have hin2 : ¬ ((0 : Int32) < 0 ∨ cl2.slots.size ≤ ((0 : Int32)).toNatClampNeg) := inb_of S2 ⟨by decide, by decide⟩
 obtain ⟨T2, h2, X2, e2, W2, st2⟩ := stB X0 hx hZ e0 Ar2 (j := (0 : Int32)) hin2 (g := (mkF m 31 #[rv vc, iv (0 : Int32), rv db, iv (0 : Int32), iv (2 : Int32), iv (0 : Int32), iv x0] [(.int (x0.toInt8.toInt32)), (.int (0 : Int32)), (.ref db)])) rfl rfl (hb hby d6_31)
 have O := O.wr W2 g_db
 have V_vc := V_vc.other W2 ne_vc_db
 have K := K.wr W2 (Or.inl (List.mem_of_getElem? (i := 0) rfl))
 have V_db : Arv Z h2 db kb .byte (2 : Int32) [(.int ((x0.toInt8.toInt32).toInt8.toInt32)), (.int (0 : Int32))] (.int (0 : Int32)) := Arv.set Ar2 q2 S2 N2_ H2 G2 (fits_nar_byte _) W2 0 rfl (Nat.le_of_ble_eq_true rfl)
 rw [(own_b2 x0 : ((x0.toInt8.toInt32).toInt8.toInt32) = (x0.toInt8.toInt32))] at V_db
 have N2 := Fr.snoc X2 N0 g_db
 refine Go.step st2 ?_
 refine Go.step (S' := T2.setTop (mkF m 35 #[rv vc, iv ((0 : Int32) + (1 : Int32)), rv db, iv (0 : Int32), iv (2 : Int32), iv (0 : Int32), iv x0] [])) (fun t k => ?_) ?_
 · refine XS.iinc X2.here hx rfl (hb hby d6_32) rfl (l' := #[rv vc, iv ((0 : Int32) + (1 : Int32)), rv db, iv (0 : Int32), iv (2 : Int32), iv (0 : Int32), iv x0]) rfl ?_
   exact k
 rw [show ((0 : Int32) + (1 : Int32)) = (1 : Int32) from by decide]
 show Go p e below _ (T2.setTop (mkF m 35 #[rv vc, iv (1 : Int32), rv db, iv (0 : Int32), iv (2 : Int32), iv (0 : Int32), iv x0] []))
 refine Go.step (S' := T2.setTop (mkF m 38 #[rv vc, iv (1 : Int32), rv db, iv ((0 : Int32) + (1 : Int32)), iv (2 : Int32), iv (0 : Int32), iv x0] [])) (fun t k => ?_) ?_
 · refine XS.iinc X2.here hx rfl (hb hby d6_35) rfl (l' := #[rv vc, iv (1 : Int32), rv db, iv ((0 : Int32) + (1 : Int32)), iv (2 : Int32), iv (0 : Int32), iv x0]) rfl ?_
   exact k
 rw [show ((0 : Int32) + (1 : Int32)) = (1 : Int32) from by decide]
 show Go p e below _ (T2.setTop (mkF m 38 #[rv vc, iv (1 : Int32), rv db, iv (1 : Int32), iv (2 : Int32), iv (0 : Int32), iv x0] []))
 refine Go.step (S' := T2.setTop (mkF m 41 #[rv vc, iv (1 : Int32), rv db, iv (1 : Int32), iv (2 : Int32), iv ((0 : Int32) + (1 : Int32)), iv x0] [])) (fun t k => ?_) ?_
 · refine XS.iinc X2.here hx rfl (hb hby d6_38) rfl (l' := #[rv vc, iv (1 : Int32), rv db, iv (1 : Int32), iv (2 : Int32), iv ((0 : Int32) + (1 : Int32)), iv x0]) rfl ?_
   exact k
 rw [show ((0 : Int32) + (1 : Int32)) = (1 : Int32) from by decide]
 show Go p e below _ (T2.setTop (mkF m 41 #[rv vc, iv (1 : Int32), rv db, iv (1 : Int32), iv (2 : Int32), iv (1 : Int32), iv x0] []))
 refine Go.step (S' := T2.setTop (mkF m 12 #[rv vc, iv (1 : Int32), rv db, iv (1 : Int32), iv (2 : Int32), iv (1 : Int32), iv x0] [(.int (1 : Int32)), (.ref vc)])) (fun t k => ?_) ?_
 · refine XS.goto X2.here hx rfl (pc0 := 41) (pc' := 3) rfl (hb hby d6_41) (by decide) (by decide) ?_
   refine XS.iload X2.here hx rfl (hb hby d6_3) rfl ?_
   refine XS.iload X2.here hx rfl (hb hby d6_5) rfl ?_
   refine XS.icmpNo X2.here hx rfl (hb hby d6_7) rfl (tlt ((by decide) : (1 : Int32) < (2 : Int32))).2.1 ?_
   refine XS.aloadN X2.here hx rfl (hb hby d6_10) rfl rfl ?_
   refine XS.iloadN X2.here hx rfl (hb hby d6_11) rfl ?_
   exact k
 obtain ⟨cl3, Ar3, -, S3, -, H3, -⟩ := id V_vc
 have hin3 : ¬ ((1 : Int32) < 0 ∨ cl3.slots.size ≤ ((1 : Int32)).toNatClampNeg) := inb_of S3 ⟨by decide, by decide⟩
 refine Go.step (S' := T2.setTop (mkF m 13 #[rv vc, iv (1 : Int32), rv db, iv (1 : Int32), iv (2 : Int32), iv (1 : Int32), iv x0] [(.int x1)])) (fun t k => X2.caload hx (j := (1 : Int32)) (v := (.int x1)) (by rw [e2]; exact Ar3.1) (State.isArrayOf_alike hZ.alike Ar3.2.1) Ar3.2.2 hin3 (H3.at hin3 rfl) (g := (mkF m 12 #[rv vc, iv (1 : Int32), rv db, iv (1 : Int32), iv (2 : Int32), iv (1 : Int32), iv x0] [(.int (1 : Int32)), (.ref vc)])) rfl rfl (hb hby d6_12) _ k) ?_
 refine Go.step (S' := T2.setTop (mkF m 31 #[rv vc, iv (1 : Int32), rv db, iv (1 : Int32), iv (2 : Int32), iv (1 : Int32), iv x1] [(.int (x1.toInt8.toInt32)), (.int (1 : Int32)), (.ref db)])) (fun t k => ?_) ?_
 · refine XS.istore X2.here hx rfl (hb hby d6_13) rfl (l' := #[rv vc, iv (1 : Int32), rv db, iv (1 : Int32), iv (2 : Int32), iv (1 : Int32), iv x1]) rfl ?_
   refine XS.iload X2.here hx rfl (hb hby d6_15) rfl ?_
   refine XS.sipush X2.here hx rfl (hb hby d6_17) ?_
   refine XS.icmpYes X2.here hx rfl (pc0 := 20) (pc' := 26) rfl (hb hby d6_20) rfl (flt (u1 : ¬ ((255 : Int32) < x1))).2.2.2 (by decide) (by decide) ?_
   refine XS.aloadN X2.here hx rfl (hb hby d6_26) rfl rfl ?_
   refine XS.iloadN X2.here hx rfl (hb hby d6_27) rfl ?_
   show Steps p.tables e below (T2.setTop (mkF m 28 #[rv vc, iv (1 : Int32), rv db, iv (1 : Int32), iv (2 : Int32), iv (1 : Int32), iv x1] [(.int (1 : Int32)), (.ref db)])) _
   refine XS.iload X2.here hx rfl (hb hby d6_28) rfl ?_
   refine XS.i2b X2.here hx rfl (hb hby d6_30) rfl ?_
   exact k
 obtain ⟨cl4, Ar4, q4, S4, N4_, H4, G4⟩ := V_db
 have hin4 : ¬ ((1 : Int32) < 0 ∨ cl4.slots.size ≤ ((1 : Int32)).toNatClampNeg) := inb_of S4 ⟨by decide, by decide⟩
 obtain ⟨T4, h4, X4, e4, W4, st4⟩ := stB X2 hx hZ e2 Ar4 (j := (1 : Int32)) hin4 (g := (mkF m 31 #[rv vc, iv (1 : Int32), rv db, iv (1 : Int32), iv (2 : Int32), iv (1 : Int32), iv x1] [(.int (x1.toInt8.toInt32)), (.int (1 : Int32)), (.ref db)])) rfl rfl (hb hby d6_31)
 have O := O.wr W4 g_db
 have V_vc := V_vc.other W4 ne_vc_db
 have K := K.wr W4 (Or.inl (List.mem_of_getElem? (i := 0) rfl))
 have V_db : Arv Z h4 db kb .byte (2 : Int32) [(.int (x0.toInt8.toInt32)), (.int ((x1.toInt8.toInt32).toInt8.toInt32))] (.int (0 : Int32)) := Arv.set Ar4 q4 S4 N4_ H4 G4 (fits_nar_byte _) W4 1 rfl (Nat.le_of_ble_eq_true rfl)
 rw [(own_b2 x1 : ((x1.toInt8.toInt32).toInt8.toInt32) = (x1.toInt8.toInt32))] at V_db
 have N4 := Fr.snoc X4 N2 g_db
 refine Go.step st4 ?_
 refine Go.step (S' := T4.setTop (mkF m 35 #[rv vc, iv ((1 : Int32) + (1 : Int32)), rv db, iv (1 : Int32), iv (2 : Int32), iv (1 : Int32), iv x1] [])) (fun t k => ?_) ?_
 · refine XS.iinc X4.here hx rfl (hb hby d6_32) rfl (l' := #[rv vc, iv ((1 : Int32) + (1 : Int32)), rv db, iv (1 : Int32), iv (2 : Int32), iv (1 : Int32), iv x1]) rfl ?_
   exact k
 rw [show ((1 : Int32) + (1 : Int32)) = (2 : Int32) from by decide]
 show Go p e below _ (T4.setTop (mkF m 35 #[rv vc, iv (2 : Int32), rv db, iv (1 : Int32), iv (2 : Int32), iv (1 : Int32), iv x1] []))
 refine Go.step (S' := T4.setTop (mkF m 38 #[rv vc, iv (2 : Int32), rv db, iv ((1 : Int32) + (1 : Int32)), iv (2 : Int32), iv (1 : Int32), iv x1] [])) (fun t k => ?_) ?_
 · refine XS.iinc X4.here hx rfl (hb hby d6_35) rfl (l' := #[rv vc, iv (2 : Int32), rv db, iv ((1 : Int32) + (1 : Int32)), iv (2 : Int32), iv (1 : Int32), iv x1]) rfl ?_
   exact k
 rw [show ((1 : Int32) + (1 : Int32)) = (2 : Int32) from by decide]
 show Go p e below _ (T4.setTop (mkF m 38 #[rv vc, iv (2 : Int32), rv db, iv (2 : Int32), iv (2 : Int32), iv (1 : Int32), iv x1] []))
 refine Go.step (S' := T4.setTop (mkF m 41 #[rv vc, iv (2 : Int32), rv db, iv (2 : Int32), iv (2 : Int32), iv ((1 : Int32) + (1 : Int32)), iv x1] [])) (fun t k => ?_) ?_
 · refine XS.iinc X4.here hx rfl (hb hby d6_38) rfl (l' := #[rv vc, iv (2 : Int32), rv db, iv (2 : Int32), iv (2 : Int32), iv ((1 : Int32) + (1 : Int32)), iv x1]) rfl ?_
   exact k
 rw [show ((1 : Int32) + (1 : Int32)) = (2 : Int32) from by decide]
 show Go p e below _ (T4.setTop (mkF m 41 #[rv vc, iv (2 : Int32), rv db, iv (2 : Int32), iv (2 : Int32), iv (2 : Int32), iv x1] []))
 refine Go.step (S' := T4.setTop (mkF m 46 #[rv vc, iv (2 : Int32), rv db, iv (2 : Int32), iv (2 : Int32), iv (2 : Int32), iv x1] [(.int (2 : Int32))])) (fun t k => ?_) ?_
 · refine XS.goto X4.here hx rfl (pc0 := 41) (pc' := 3) rfl (hb hby d6_41) (by decide) (by decide) ?_
   refine XS.iload X4.here hx rfl (hb hby d6_3) rfl ?_
   refine XS.iload X4.here hx rfl (hb hby d6_5) rfl ?_
   refine XS.icmpYes X4.here hx rfl (pc0 := 7) (pc' := 44) rfl (hb hby d6_7) rfl (flt ((by decide) : ¬ ((2 : Int32) < (2 : Int32)))).2.1 (by decide) (by decide) ?_
   refine XS.iload X4.here hx rfl (hb hby d6_44) rfl ?_
   exact k
 obtain ⟨fs, hr, hrun, hended, hW, hsame⟩ := X4.leave (v := some (.int (2 : Int32))) (fun h => by rw [Bd.returns] at h; cases h)
 refine Go.fin (S' := T4.setFrames fs) ?_ hrun hended ⟨_, _, rfl, ?_, ⟨_, rfl⟩, hW, hsame.mono (by decide) (by decide)⟩
 · exact retOut X4 hx Bd.returns rfl (Or.inl ⟨rfl, Or.inl rfl, _, rfl⟩) (hb hby d6_46) hr
 · show Q_rmCl2 Z vc db kc kb x0 x1 h0 n0 (some (.int (2 : Int32))) T4.heap _
   rw [e4]
   exact ⟨rfl, N4, K, V_db⟩
theorem ef_rmCm2 (m : MethodId) (vc : Addr) : entryFrame m #[(.ref vc), (.int (0 : Int32)), (.int (2 : Int32))] 6 = mkF m 0 #[.val (.ref vc), .val (.int (0 : Int32)), .val (.int (2 : Int32)), .unset, .unset, .unset] [] := by first | (simp [entryFrame, mkF, argsToLocals, Value.category]; done) | rfl
abbrev rm_rmCm2 : Room := ({ frames := 1, cells := 1, slots := 2, locals := 18 } : Room)
def Q_rmCm2 (Z : State) (vc : Addr) (kc : ClassId) (x0 : Int32) (x1 : Int32) (h0 : Heap) (n0 : Nat) (v : Option Value) (h : Heap) (L : List Loc) : Prop := ∃ b : Addr, ∃ kb : ClassId, (v = some (.ref b)) ∧ (Fr n0 L) ∧ (Keep h0 h []) ∧ (Arv Z h b kb .byte (2 : Int32) [(.int (x0.toInt8.toInt32)), (.int (x1.toInt8.toInt32))] (.int (0 : Int32)))
set_option maxRecDepth 65536 in
set_option maxHeartbeats 4000000 in
theorem rmCm2 (l : Launch) (Z : State) (a0 : Array Value) (hw : ∀ d ∈ tables_1, d.before a0 Z = true) (ws : List Jvm.Cond) (vc : Addr) (kc : ClassId) (x0 : Int32) (x1 : Int32) (h0 : Heap) (n0 : Nat) (O : Old Z n0 h0) (V_vc : Arv Z h0 vc kc .char (2 : Int32) [(.int x0), (.int x1)] (.int (0 : Int32))) (u0 : ¬ ((255 : Int32) < x0)) (u1 : ¬ ((255 : Int32) < x1)) :
    MetFree l y_9 (head1 (Jvm.Cond.code y_9 jdk_52_method_16_code 6 (some (.array .byte)) :: ws) rm_rmCm2) (fun A_ U => A_ = #[(.ref vc), (.int (0 : Int32)), (.int (2 : Int32))] ∧ Z.Warmed39 U.vm ∧ U.heap = h0) (fun _ _ _ _ _ => True) (fun _ U o U' => ∃ v L, o = .returned v ∧ Q_rmCm2 Z vc kc x0 x1 h0 n0 v U'.heap L ∧ FrameEnd U o U' L rm_rmCm2.cells rm_rmCm2.slots) := by
 refine MetFree.of_bodySF (plainFor_of_name pn_java_lang_StringUTF16) hisR ?_
 intro p e s m args below meth c s₁ Bd hml0 hP hK
 obtain ⟨rfl, hZ, hh⟩ := hP
 have hx := Bd.exec
 have hby := Bd.bytes
 have hml : c.maxLocals = 6 := hml0
 have hown : s.vm.findClass "java/lang/StringUTF16" = some m.cls := findClass_of_methodNamed Bd.named
 have hnm := (name_of_methodNamed Bd.named Bd.method).1
 have X0 : Stand p l e rm_rmCm2 s m #[(.ref vc), (.int (0 : Int32)), (.int (2 : Int32))] below meth c s₁ [] 0 0 := Stand.of_body Bd
 have e0 : s₁.heap = h0 := by rw [← hh, Bd.state]; rfl
 have N0 := Fr.nil n0
 have K := Keep.refl h0 []
 refine Go.step (p := p) (e := e) (below := below) (G := fun o U' => ∃ v L, o = .returned v ∧ Q_rmCm2 Z vc kc x0 x1 h0 n0 v U'.heap L ∧ FrameEnd s o U' L rm_rmCm2.cells rm_rmCm2.slots) (S' := s₁.setTop (mkF m 0 #[rv vc, iv (0 : Int32), iv (2 : Int32), u_, u_, u_] [])) (fun t k => castTop (ef_rmCm2 m vc) k) ?_
 refine Go.step (S' := s₁.setTop (mkF m 1 #[rv vc, iv (0 : Int32), iv (2 : Int32), u_, u_, u_] [(.int (2 : Int32))])) (fun t k => ?_) ?_
 · refine XS.iloadN X0.here hx rfl (hb hby d5_0) rfl ?_
   exact k
 obtain ⟨T1, h1, k1, X1, e1, E1, A1, st1⟩ := newP X0 hx hZ (own_w hw 24 rfl) e0 (g := (mkF m 1 #[rv vc, iv (0 : Int32), iv (2 : Int32), u_, u_, u_] [(.int (2 : Int32))])) rfl (hb hby d5_1) rfl (by decide) (cap := 2) (by decide) (by decide) (by decide) (by decide)
 obtain ⟨b1, g1⟩ : ∃ z, z = Array.size h0 := ⟨_, rfl⟩
 have g_b1 : n0 ≤ b1 := Nat.le_trans (old_le O) (Nat.le_of_eq g1.symm)
 have sz_b1 : h0.size ≤ b1 := Nat.le_trans K.1 (Nat.le_of_eq g1.symm)
 have ne_vc_b1 : vc ≠ b1 := Nat.ne_of_lt (Nat.lt_of_lt_of_le V_vc.lt (Nat.le_of_eq g1.symm))
 rw [← g1] at A1 st1
 have O := O.ext E1
 have V_vc := V_vc.ext E1
 have K := K.ext E1
 have V_b1 : Arv Z h1 b1 k1 .byte (2 : Int32) [(.int (0 : Int32)), (.int (0 : Int32))] (.int (0 : Int32)) := (Arv.new A1 (by decide)).pad (pad_rep [] (.int (0 : Int32)) 2)
 refine Go.step st1 ?_
 refine Go.step (S' := T1.setTop (mkF m 9 #[rv vc, iv (0 : Int32), iv (2 : Int32), rv b1, u_, u_] [(.int (2 : Int32)), (.int (0 : Int32)), (.ref b1), (.int (0 : Int32)), (.ref vc)])) (fun t k => ?_) ?_
 · refine XS.astoreN X1.here hx rfl (hb hby d5_3) rfl rfl (l' := #[rv vc, iv (0 : Int32), iv (2 : Int32), rv b1, u_, u_]) rfl ?_
   refine XS.aloadN X1.here hx rfl (hb hby d5_4) rfl rfl ?_
   refine XS.iloadN X1.here hx rfl (hb hby d5_5) rfl ?_
   refine XS.aloadN X1.here hx rfl (hb hby d5_6) rfl rfl ?_
   refine XS.iconst X1.here hx rfl (hb hby d5_7) ?_
   refine XS.iloadN X1.here hx rfl (hb hby d5_8) rfl ?_
   exact k
 obtain ⟨_, _, ⟨T2, L2, k2, n2⟩, -, X2, ⟨Lc2, hQ2, l2, y2, z2⟩, st2⟩ := Jvm.LawKit.callS X1 hx (y := y_8) hown (mvT hZ (own_w hw 25 rfl)) (mvT hZ (own_w hw 26 rfl)) (mvT hZ (own_w hw 22 rfl)) (mvT hZ (own_w hw 27 rfl)) (by decide) (backOf (W := 0) (rmCl2 l Z a0 hw [] vc b1 kc k1 x0 x1 h1 n0 O V_vc V_b1 (by assumption) ne_vc_b1 u0 u1) hZ (own_w hw 27 rfl) (own_w hw 22 rfl) (by decide) (by decide)) (g := (mkF m 9 #[rv vc, iv (0 : Int32), iv (2 : Int32), rv b1, u_, u_] [(.int (2 : Int32)), (.int (0 : Int32)), (.ref b1), (.int (0 : Int32)), (.ref vc)])) rfl (by rw [hml]; rfl) (argsL := [(.ref vc), (.int (0 : Int32)), (.ref b1), (.int (0 : Int32)), (.int (2 : Int32))]) (rest := []) (lenOf pd__28_5bCI_5bBII_29I rfl) rfl (Nat.le_of_eq rfl) (hb hby d5_9) (fun _ _ => ⟨rfl, e1, (by decide : 1 + 0 ≤ _), (by decide : 2 + 0 ≤ _)⟩)
 dsimp only [Pt.U, Pt.locs, Pt.cells, Pt.slots] at X2 l2 y2 z2 st2 hQ2
 subst l2 y2 z2
 obtain ⟨rfl, Nq2, K2, P2_V⟩ := hQ2
 have N2 := Fr.app N0 Nq2
 have O := O.keep K2 (allS g_b1 all0)
 have V_vc := V_vc.keep K2 (ninS ne_vc_b1 nin0)
 have K := K.trans K2 (allS (Or.inr sz_b1) all0)
 have V_2 := P2_V
 refine Go.step st2 ?_
 refine Go.step (S' := T2.setTop (mkF m 58 #[rv vc, iv (0 : Int32), iv (2 : Int32), rv b1, iv (2 : Int32), u_] [(.ref b1)])) (fun t k => ?_) ?_
 · refine XS.istore X2.here hx rfl (hb hby d5_12) rfl (l' := #[rv vc, iv (0 : Int32), iv (2 : Int32), rv b1, iv (2 : Int32), u_]) rfl ?_
   refine XS.iload X2.here hx rfl (hb hby d5_14) rfl ?_
   refine XS.iloadN X2.here hx rfl (hb hby d5_16) rfl ?_
   refine XS.icmpYes X2.here hx rfl (pc0 := 17) (pc' := 57) rfl (hb hby d5_17) rfl (teq ((by decide) : (2 : Int32) = (2 : Int32))).1 (by decide) (by decide) ?_
   refine XS.aloadN X2.here hx rfl (hb hby d5_57) rfl rfl ?_
   exact k
 obtain ⟨fs, hr, hrun, hended, hW, hsame⟩ := X2.leave (v := some (.ref b1)) (fun h => by rw [Bd.returns] at h; cases h)
 refine Go.fin (S' := T2.setFrames fs) ?_ hrun hended ⟨_, _, rfl, ?_, ⟨_, rfl⟩, hW, hsame.mono (by decide) (by decide)⟩
 · exact retOut X2 hx Bd.returns rfl (Or.inr (Or.inr (Or.inr (Or.inr ⟨rfl, rfl, rfl⟩)))) (hb hby d5_58) hr
 · show Q_rmCm2 Z vc kc x0 x1 h0 n0 (some (.ref b1)) T2.heap _
   exact ⟨b1, k1, rfl, N2, K, V_2⟩
theorem ef_rmCf2 (m : MethodId) (tb : Addr) : entryFrame m #[(.ref tb), (.int (2 : Int32))] 2 = mkF m 0 #[.val (.ref tb), .val (.int (2 : Int32))] [] := by first | (simp [entryFrame, mkF, argsToLocals, Value.category]; done) | rfl
abbrev rm_rmCf2 : Room := ({ frames := 0, cells := 0, slots := 0, locals := 0 } : Room)
def Q_rmCf2 (Z : State) (tb : Addr) (kb : ClassId) (x0 : Int32) (x1 : Int32) (h0 : Heap) (n0 : Nat) (v : Option Value) (h : Heap) (L : List Loc) : Prop := (v = some (.int (0 : Int32))) ∧ (Fr n0 L) ∧ (h = h0)
set_option maxRecDepth 65536 in
set_option maxHeartbeats 4000000 in
theorem rmCf2 (l : Launch) (Z : State) (a0 : Array Value) (hw : ∀ d ∈ tables_1, d.before a0 Z = true) (ws : List Jvm.Cond) (tb : Addr) (kb : ClassId) (x0 : Int32) (x1 : Int32) (h0 : Heap) (n0 : Nat) (O : Old Z n0 h0) (V_tb : Arv Z h0 tb kb .byte (2 : Int32) [(.int (x0.toInt8.toInt32)), (.int (x1.toInt8.toInt32))] (.int (0 : Int32))) :
    MetFree l y_10 (head1 (Jvm.Cond.code y_10 jdk_52_method_15_code 2 (some .byte) :: ws) rm_rmCf2) (fun A_ U => A_ = #[(.ref tb), (.int (2 : Int32))] ∧ Z.Warmed39 U.vm ∧ U.heap = h0) (fun _ _ _ _ _ => True) (fun _ U o U' => ∃ v L, o = .returned v ∧ Q_rmCf2 Z tb kb x0 x1 h0 n0 v U'.heap L ∧ FrameEnd U o U' L rm_rmCf2.cells rm_rmCf2.slots) := by
 refine MetFree.of_bodySF (plainFor_of_name pn_java_lang_StringUTF16) hisR ?_
 intro p e s m args below meth c s₁ Bd hml0 hP hK
 obtain ⟨rfl, hZ, hh⟩ := hP
 have hx := Bd.exec
 have hby := Bd.bytes
 have hml : c.maxLocals = 2 := hml0
 have hown : s.vm.findClass "java/lang/StringUTF16" = some m.cls := findClass_of_methodNamed Bd.named
 have hnm := (name_of_methodNamed Bd.named Bd.method).1
 have X0 : Stand p l e rm_rmCf2 s m #[(.ref tb), (.int (2 : Int32))] below meth c s₁ [] 0 0 := Stand.of_body Bd
 have e0 : s₁.heap = h0 := by rw [← hh, Bd.state]; rfl
 have N0 := Fr.nil n0
 refine Go.step (p := p) (e := e) (below := below) (G := fun o U' => ∃ v L, o = .returned v ∧ Q_rmCf2 Z tb kb x0 x1 h0 n0 v U'.heap L ∧ FrameEnd s o U' L rm_rmCf2.cells rm_rmCf2.slots) (S' := s₁.setTop (mkF m 0 #[rv tb, iv (2 : Int32)] [])) (fun t k => castTop (ef_rmCf2 m tb) k) ?_
 refine Go.step (S' := s₁.setTop (mkF m 2 #[rv tb, iv (2 : Int32)] [(.ref tb), (.int (2 : Int32))])) (fun t k => ?_) ?_
 · refine XS.iloadN X0.here hx rfl (hb hby d7_0) rfl ?_
   refine XS.aloadN X0.here hx rfl (hb hby d7_1) rfl rfl ?_
   exact k
 obtain ⟨cl1, Ar1, -, S1, N1_, -, -⟩ := id V_tb
 refine Go.step (S' := s₁.setTop (mkF m 3 #[rv tb, iv (2 : Int32)] [(.int cl1.slots.size.toInt32), (.int (2 : Int32))])) (fun t k => X0.arraylength hx (by rw [e0]; exact Ar1.1) (State.isArrayOf_alike hZ.alike Ar1.2.1) (g := (mkF m 2 #[rv tb, iv (2 : Int32)] [(.ref tb), (.int (2 : Int32))])) rfl rfl (hb hby d7_2) _ k) ?_
 rw [len_of S1 N1_]
 show Go p e below _ (s₁.setTop (mkF m 3 #[rv tb, iv (2 : Int32)] [(.int (2 : Int32)), (.int (2 : Int32))]))
 refine Go.step (S' := s₁.setTop (mkF m 4 #[rv tb, iv (2 : Int32)] [(.int ((2 : Int32) - (2 : Int32)))])) (fun t k => ?_) ?_
 · refine XS.isub X0.here hx rfl (hb hby d7_3) rfl ?_
   exact k
 rw [show ((2 : Int32) - (2 : Int32)) = (0 : Int32) from by decide]
 show Go p e below _ (s₁.setTop (mkF m 4 #[rv tb, iv (2 : Int32)] [(.int (0 : Int32))]))
 refine Go.step (S' := s₁.setTop (mkF m 7 #[rv tb, iv (2 : Int32)] [(.int (((0 : Int32).toUInt32 >>> ((31 : Int32) &&& 31).toUInt32).toInt32))])) (fun t k => ?_) ?_
 · refine XS.bipush X0.here hx rfl (hb hby d7_4) ?_
   refine XS.iushr X0.here hx rfl (hb hby d7_6) rfl ?_
   exact k
 rw [show (((0 : Int32).toUInt32 >>> ((31 : Int32) &&& 31).toUInt32).toInt32) = (0 : Int32) from by decide]
 show Go p e below _ (s₁.setTop (mkF m 7 #[rv tb, iv (2 : Int32)] [(.int (0 : Int32))]))
 refine Go.step (S' := s₁.setTop (mkF m 8 #[rv tb, iv (2 : Int32)] [(.int ((0 : Int32).toInt8.toInt32))])) (fun t k => ?_) ?_
 · refine XS.i2b X0.here hx rfl (hb hby d7_7) rfl ?_
   exact k
 rw [show ((0 : Int32).toInt8.toInt32) = (0 : Int32) from by decide]
 show Go p e below _ (s₁.setTop (mkF m 8 #[rv tb, iv (2 : Int32)] [(.int (0 : Int32))]))
 obtain ⟨fs, hr, hrun, hended, hW, hsame⟩ := X0.leave (v := some (.int (0 : Int32))) (fun h => by rw [Bd.returns] at h; cases h)
 refine Go.fin (S' := s₁.setFrames fs) ?_ hrun hended ⟨_, _, rfl, ?_, ⟨_, rfl⟩, hW, hsame.mono (by decide) (by decide)⟩
 · exact retOut X0 hx Bd.returns (by decide) (Or.inl ⟨rfl, Or.inr (Or.inr (Or.inl rfl)), _, rfl⟩) (hb hby d7_8) hr
 · show Q_rmCf2 Z tb kb x0 x1 h0 n0 (some (.int (0 : Int32))) s₁.heap _
   rw [e0]
   exact ⟨rfl, N0, rfl⟩
theorem ef_rmN4_2 (m : MethodId) (so : Addr) (vc : Addr) : entryFrame m #[(.ref so), (.ref vc), (.int (0 : Int32)), (.int (2 : Int32)), .null] 6 = mkF m 0 #[.val (.ref so), .val (.ref vc), .val (.int (0 : Int32)), .val (.int (2 : Int32)), .val .null, .unset] [] := by first | (simp [entryFrame, mkF, argsToLocals, Value.category]; done) | rfl
abbrev rm_rmN4_2 : Room := ({ frames := 2, cells := 1, slots := 2, locals := 35 } : Room)
def Q_rmN4_2 (Z : State) (so : Addr) (vc : Addr) (kc : ClassId) (cs : Int32) (x0 : Int32) (x1 : Int32) (h0 : Heap) (n0 : Nat) (v : Option Value) (h : Heap) (L : List Loc) : Prop := ∃ tb : Addr, ∃ kb : ClassId, (v = none) ∧ (Fr n0 L) ∧ (Keep h0 h [so]) ∧ (Exa Z h so "java/lang/String") ∧ (Fld Z h so "java/lang/String" "value" "[B" (.ref tb)) ∧ (Fld Z h so "java/lang/String" "coder" "B" (.int (0 : Int32))) ∧ (Arv Z h tb kb .byte (2 : Int32) [(.int (x0.toInt8.toInt32)), (.int (x1.toInt8.toInt32))] (.int (0 : Int32)))
set_option maxRecDepth 65536 in
set_option maxHeartbeats 4000000 in
theorem rmN4_2 (l : Launch) (Z : State) (a0 : Array Value) (hw : ∀ d ∈ tables_1, d.before a0 Z = true) (ws : List Jvm.Cond) (so : Addr) (vc : Addr) (kc : ClassId) (cs : Int32) (x0 : Int32) (x1 : Int32) (h0 : Heap) (n0 : Nat) (O : Old Z n0 h0) (S_CS : Sta Z Z.heap "java/lang/String" "COMPACT_STRINGS" "Z" (.int cs)) (E_so : Exa Z h0 so "java/lang/String") (F_v : Fld Z h0 so "java/lang/String" "value" "[B" .null) (F_c : Fld Z h0 so "java/lang/String" "coder" "B" (.int (0 : Int32))) (V_vc : Arv Z h0 vc kc .char (2 : Int32) [(.int x0), (.int x1)] (.int (0 : Int32))) (g_so : n0 ≤ so) (hcs : ¬ (cs = (0 : Int32))) (u0 : ¬ ((255 : Int32) < x0)) (u1 : ¬ ((255 : Int32) < x1)) :
    MetFree l y_11 (head1 (Jvm.Cond.code y_11 jdk_42_method_149_code 6 none :: ws) rm_rmN4_2) (fun A_ U => A_ = #[(.ref so), (.ref vc), (.int (0 : Int32)), (.int (2 : Int32)), .null] ∧ Z.Warmed39 U.vm ∧ U.heap = h0) (fun _ _ _ _ _ => True) (fun _ U o U' => ∃ v L, o = .returned v ∧ Q_rmN4_2 Z so vc kc cs x0 x1 h0 n0 v U'.heap L ∧ FrameEnd U o U' L rm_rmN4_2.cells rm_rmN4_2.slots) := by
 refine MetFree.of_bodySF (plainFor_of_name pn_java_lang_String) hisR ?_
 intro p e s m args below meth c s₁ Bd hml0 hP hK
 obtain ⟨rfl, hZ, hh⟩ := hP
 have hx := Bd.exec
 have hby := Bd.bytes
 have hml : c.maxLocals = 6 := hml0
 have hown : s.vm.findClass "java/lang/String" = some m.cls := findClass_of_methodNamed Bd.named
 have hnm := (name_of_methodNamed Bd.named Bd.method).1
 have X0 : Stand p l e rm_rmN4_2 s m #[(.ref so), (.ref vc), (.int (0 : Int32)), (.int (2 : Int32)), .null] below meth c s₁ [] 0 0 := Stand.of_body Bd
 have e0 : s₁.heap = h0 := by rw [← hh, Bd.state]; rfl
 have N0 := Fr.nil n0
 have K := Keep.refl h0 [so]
 refine Go.step (p := p) (e := e) (below := below) (G := fun o U' => ∃ v L, o = .returned v ∧ Q_rmN4_2 Z so vc kc cs x0 x1 h0 n0 v U'.heap L ∧ FrameEnd s o U' L rm_rmN4_2.cells rm_rmN4_2.slots) (S' := s₁.setTop (mkF m 0 #[rv so, rv vc, iv (0 : Int32), iv (2 : Int32), .val .null, u_] [])) (fun t k => castTop (ef_rmN4_2 m so vc) k) ?_
 refine Go.step (S' := s₁.setTop (mkF m 1 #[rv so, rv vc, iv (0 : Int32), iv (2 : Int32), .val .null, u_] [(.ref so)])) (fun t k => ?_) ?_
 · refine XS.aloadN X0.here hx rfl (hb hby d3_0) rfl rfl ?_
   exact k
 obtain ⟨T1, X1, e1, st1⟩ := initO X0 hx hZ hown (own_w hw 16 rfl) (own_w hw 17 rfl) (own_w hw 18 rfl) e0 (g := (mkF m 1 #[rv so, rv vc, iv (0 : Int32), iv (2 : Int32), .val .null, u_] [(.ref so)])) rfl (by rw [hml]; rfl) rfl (hb hby d3_1) (by decide) (W := 0) (by show 2 * 0 + _ ≤ _; exact Nat.le_of_eq rfl) (by decide)
 refine Go.step st1 ?_
 refine Go.step (S' := T1.setTop (mkF m 27 #[rv so, rv vc, iv (0 : Int32), iv (2 : Int32), .val .null, u_] [])) (fun t k => ?_) ?_
 · refine XS.iloadN X1.here hx rfl (hb hby d3_4) rfl ?_
   refine XS.ifYes X1.here hx rfl (pc0 := 5) (pc' := 27) rfl (hb hby d3_5) rfl ((if0 _ _).trans (feq ((by decide) : ¬ ((2 : Int32) = (0 : Int32)))).2) (by decide) (by decide) ?_
   exact k
 obtain ⟨T2, X2, e2, st2⟩ := getS2 X1 hx hZ hown (host := "") (Or.inl (own_w hw 19 rfl)) Via.refl e1 (S_CS.ext O.2) (g := (mkF m 27 #[rv so, rv vc, iv (0 : Int32), iv (2 : Int32), .val .null, u_] [])) rfl (hb hby d3_27)
 refine Go.step st2 ?_
 refine Go.step (S' := T2.setTop (mkF m 36 #[rv so, rv vc, iv (0 : Int32), iv (2 : Int32), .val .null, u_] [(.int (2 : Int32)), (.int (0 : Int32)), (.ref vc)])) (fun t k => ?_) ?_
 · refine XS.ifNo X2.here hx rfl (hb hby d3_30) rfl ((if0 _ _).trans (feq (hcs : ¬ (cs = (0 : Int32)))).1) ?_
   refine XS.aloadN X2.here hx rfl (hb hby d3_33) rfl rfl ?_
   refine XS.iloadN X2.here hx rfl (hb hby d3_34) rfl ?_
   refine XS.iloadN X2.here hx rfl (hb hby d3_35) rfl ?_
   exact k
 obtain ⟨_, _, ⟨T3, L3, k3, n3⟩, -, X3, ⟨Lc3, hQ3, l3, y3, z3⟩, st3⟩ := Jvm.LawKit.callS X2 hx (y := y_9) hown (mvT hZ (own_w hw 20 rfl)) (mvT hZ (own_w hw 21 rfl)) (mvT hZ (own_w hw 22 rfl)) (mvT hZ (own_w hw 23 rfl)) (by decide) (backOf (W := 0) (rmCm2 l Z a0 hw [] vc kc x0 x1 h0 n0 O V_vc u0 u1) hZ (own_w hw 23 rfl) (own_w hw 22 rfl) (by decide) (by decide)) (g := (mkF m 36 #[rv so, rv vc, iv (0 : Int32), iv (2 : Int32), .val .null, u_] [(.int (2 : Int32)), (.int (0 : Int32)), (.ref vc)])) rfl (by rw [hml]; rfl) (argsL := [(.ref vc), (.int (0 : Int32)), (.int (2 : Int32))]) (rest := []) (lenOf pd__28_5bCII_29_5bB rfl) rfl (Nat.le_of_eq rfl) (hb hby d3_36) (fun _ _ => ⟨rfl, e2, (by decide : 0 + 1 ≤ _), (by decide : 0 + 2 ≤ _)⟩)
 dsimp only [Pt.U, Pt.locs, Pt.cells, Pt.slots] at X3 l3 y3 z3 st3 hQ3
 subst l3 y3 z3
 obtain ⟨b_3, kb_3, rfl, Nq3, K3, P3_V⟩ := hQ3
 have N3 := Fr.app N0 Nq3
 have O := O.keep K3 all0
 have E_so := E_so.keep K3
 have F_v := F_v.keep K3 nin0
 have F_c := F_c.keep K3 nin0
 have V_vc := V_vc.keep K3 nin0
 have K := K.trans K3 all0
 have V_3 := P3_V
 refine Go.step st3 ?_
 refine Go.step (S' := T3.setTop (mkF m 45 #[rv so, rv vc, iv (0 : Int32), iv (2 : Int32), .val .null, rv b_3] [(.int (2 : Int32)), (.ref b_3), (.ref so)])) (fun t k => ?_) ?_
 · refine XS.astore X3.here hx rfl (hb hby d3_39) rfl rfl (l' := #[rv so, rv vc, iv (0 : Int32), iv (2 : Int32), .val .null, rv b_3]) rfl ?_
   refine XS.aloadN X3.here hx rfl (hb hby d3_41) rfl rfl ?_
   refine XS.aload X3.here hx rfl (hb hby d3_42) rfl rfl ?_
   refine XS.iloadN X3.here hx rfl (hb hby d3_44) rfl ?_
   exact k
 obtain ⟨_, _, ⟨T4, L4, k4, n4⟩, -, X4, ⟨Lc4, hQ4, l4, y4, z4⟩, st4⟩ := Jvm.LawKit.callS X3 hx (y := y_10) hown (mvT hZ (own_w hw 28 rfl)) (mvT hZ (own_w hw 29 rfl)) (mvT hZ (own_w hw 22 rfl)) (mvT hZ (own_w hw 30 rfl)) (by decide) (backOf (W := 1) (rmCf2 l Z a0 hw [] b_3 kb_3 x0 x1 T3.heap n0 O V_3) hZ (own_w hw 30 rfl) (own_w hw 22 rfl) (by decide) (by decide)) (g := (mkF m 45 #[rv so, rv vc, iv (0 : Int32), iv (2 : Int32), .val .null, rv b_3] [(.int (2 : Int32)), (.ref b_3), (.ref so)])) rfl (by rw [hml]; rfl) (argsL := [(.ref b_3), (.int (2 : Int32))]) (rest := [(.ref so)]) (lenOf pd__28_5bBI_29B rfl) rfl (Nat.le_of_eq rfl) (hb hby d3_45) (fun _ _ => ⟨rfl, (Eq.refl T3.heap), (by decide : 1 + 0 ≤ _), (by decide : 2 + 0 ≤ _)⟩)
 dsimp only [Pt.U, Pt.locs, Pt.cells, Pt.slots] at X4 l4 y4 z4 st4 hQ4
 subst l4 y4 z4
 obtain ⟨rfl, Nq4, e4⟩ := hQ4
 have N4 := Fr.app N3 Nq4
 refine Go.step st4 ?_
 obtain ⟨T5, h5, X5, e5, W5, st5⟩ := putFN X4 hx hZ hown (own_w hw 31 rfl) Via.refl e4 F_c E_so (Or.inr ⟨(own_w hw 32 rfl), rfl, hnm⟩) (own_w hw 6 rfl) (ty := .byte) (v' := (.int (0 : Int32))) (by decide) rfl rfl (g := (mkF m 48 #[rv so, rv vc, iv (0 : Int32), iv (2 : Int32), .val .null, rv b_3] [(.int (0 : Int32)), (.ref so)])) rfl rfl (hb hby d3_48)
 have ne_vc_so : vc ≠ so := Ne.symm (Exa.neArv E_so V_vc (own_w hw 6 rfl))
 have ne_b_3_so : b_3 ≠ so := Ne.symm (Exa.neArv E_so V_3 (own_w hw 6 rfl))
 have O := O.wr W5 g_so
 have E_so := E_so.wr W5
 have F_v := F_v.other W5 (Or.inr (slot_ne (Or.inr (own_w hw 34 rfl)) (Or.inr (own_w hw 32 rfl)) (by decide) (t := (.array .byte)) (t' := .byte) (by decide) (by decide)))
 have F_c := F_c.same W5
 have V_vc := V_vc.other W5 ne_vc_so
 have K := K.wr W5 (Or.inl (List.mem_of_getElem? (i := 0) rfl))
 have V_3 := V_3.other W5 ne_b_3_so
 have N5 := Fr.snoc X5 N4 g_so
 refine Go.step st5 ?_
 refine Go.step (S' := T5.setTop (mkF m 54 #[rv so, rv vc, iv (0 : Int32), iv (2 : Int32), .val .null, rv b_3] [(.ref b_3), (.ref so)])) (fun t k => ?_) ?_
 · refine XS.aloadN X5.here hx rfl (hb hby d3_51) rfl rfl ?_
   refine XS.aload X5.here hx rfl (hb hby d3_52) rfl rfl ?_
   exact k
 obtain ⟨T6, h6, X6, e6, W6, st6⟩ := putF X5 hx hZ hown (host := "") (Or.inl (own_w hw 33 rfl)) Via.refl e5 F_v E_so (Or.inr ⟨(own_w hw 34 rfl), rfl, hnm⟩) (own_w hw 6 rfl) (ty := (.array .byte)) (by decide) rfl rfl (g := (mkF m 54 #[rv so, rv vc, iv (0 : Int32), iv (2 : Int32), .val .null, rv b_3] [(.ref b_3), (.ref so)])) rfl rfl (hb hby d3_54)
 have O := O.wr W6 g_so
 have E_so := E_so.wr W6
 have F_v := F_v.same W6
 have F_c := F_c.other W6 (Or.inr (slot_ne (Or.inr (own_w hw 32 rfl)) (Or.inr (own_w hw 34 rfl)) (by decide) (t := .byte) (t' := (.array .byte)) (by decide) (by decide)))
 have V_vc := V_vc.other W6 ne_vc_so
 have K := K.wr W6 (Or.inl (List.mem_of_getElem? (i := 0) rfl))
 have V_3 := V_3.other W6 ne_b_3_so
 have N6 := Fr.snoc X6 N5 g_so
 refine Go.step st6 ?_
 obtain ⟨fs, hr, hrun, hended, hW, hsame⟩ := X6.leave (v := none) (fun _ => rfl)
 refine Go.fin (S' := T6.setFrames fs) ?_ hrun hended ⟨_, _, rfl, ?_, ⟨_, rfl⟩, hW, hsame.mono (by decide) (by decide)⟩
 · exact X6.returnOut hx Bd.returns (hb hby d3_57) hr
 · show Q_rmN4_2 Z so vc kc cs x0 x1 h0 n0 (none) T6.heap _
   rw [e6]
   exact ⟨b_3, kb_3, rfl, N6, K, E_so, F_v, F_c, V_3⟩
theorem ef_rmNS2 (m : MethodId) (so : Addr) (vc : Addr) : entryFrame m #[(.ref so), (.ref vc)] 2 = mkF m 0 #[.val (.ref so), .val (.ref vc)] [] := by first | (simp [entryFrame, mkF, argsToLocals, Value.category]; done) | rfl
abbrev rm_rmNS2 : Room := ({ frames := 3, cells := 1, slots := 2, locals := 52 } : Room)
def Q_rmNS2 (Z : State) (so : Addr) (vc : Addr) (kc : ClassId) (cs : Int32) (x0 : Int32) (x1 : Int32) (h0 : Heap) (n0 : Nat) (v : Option Value) (h : Heap) (L : List Loc) : Prop := ∃ tb : Addr, ∃ kb : ClassId, (v = none) ∧ (Fr n0 L) ∧ (Keep h0 h [so]) ∧ (Exa Z h so "java/lang/String") ∧ (Fld Z h so "java/lang/String" "value" "[B" (.ref tb)) ∧ (Fld Z h so "java/lang/String" "coder" "B" (.int (0 : Int32))) ∧ (Arv Z h tb kb .byte (2 : Int32) [(.int (x0.toInt8.toInt32)), (.int (x1.toInt8.toInt32))] (.int (0 : Int32)))
set_option maxRecDepth 65536 in
set_option maxHeartbeats 4000000 in
theorem rmNS2 (l : Launch) (Z : State) (a0 : Array Value) (hw : ∀ d ∈ tables_1, d.before a0 Z = true) (ws : List Jvm.Cond) (so : Addr) (vc : Addr) (kc : ClassId) (cs : Int32) (x0 : Int32) (x1 : Int32) (h0 : Heap) (n0 : Nat) (O : Old Z n0 h0) (S_CS : Sta Z Z.heap "java/lang/String" "COMPACT_STRINGS" "Z" (.int cs)) (E_so : Exa Z h0 so "java/lang/String") (F_v : Fld Z h0 so "java/lang/String" "value" "[B" .null) (F_c : Fld Z h0 so "java/lang/String" "coder" "B" (.int (0 : Int32))) (V_vc : Arv Z h0 vc kc .char (2 : Int32) [(.int x0), (.int x1)] (.int (0 : Int32))) (g_so : n0 ≤ so) (hcs : ¬ (cs = (0 : Int32))) (u0 : ¬ ((255 : Int32) < x0)) (u1 : ¬ ((255 : Int32) < x1)) :
    MetFree l y_12 (head1 (Jvm.Cond.code y_12 jdk_42_method_3_code 2 none :: ws) rm_rmNS2) (fun A_ U => A_ = #[(.ref so), (.ref vc)] ∧ Z.Warmed39 U.vm ∧ U.heap = h0) (fun _ _ _ _ _ => True) (fun _ U o U' => ∃ v L, o = .returned v ∧ Q_rmNS2 Z so vc kc cs x0 x1 h0 n0 v U'.heap L ∧ FrameEnd U o U' L rm_rmNS2.cells rm_rmNS2.slots) := by
 refine MetFree.of_bodySF (plainFor_of_name pn_java_lang_String) hisR ?_
 intro p e s m args below meth c s₁ Bd hml0 hP hK
 obtain ⟨rfl, hZ, hh⟩ := hP
 have hx := Bd.exec
 have hby := Bd.bytes
 have hml : c.maxLocals = 2 := hml0
 have hown : s.vm.findClass "java/lang/String" = some m.cls := findClass_of_methodNamed Bd.named
 have hnm := (name_of_methodNamed Bd.named Bd.method).1
 have X0 : Stand p l e rm_rmNS2 s m #[(.ref so), (.ref vc)] below meth c s₁ [] 0 0 := Stand.of_body Bd
 have e0 : s₁.heap = h0 := by rw [← hh, Bd.state]; rfl
 have N0 := Fr.nil n0
 have K := Keep.refl h0 [so]
 refine Go.step (p := p) (e := e) (below := below) (G := fun o U' => ∃ v L, o = .returned v ∧ Q_rmNS2 Z so vc kc cs x0 x1 h0 n0 v U'.heap L ∧ FrameEnd s o U' L rm_rmNS2.cells rm_rmNS2.slots) (S' := s₁.setTop (mkF m 0 #[rv so, rv vc] [])) (fun t k => castTop (ef_rmNS2 m so vc) k) ?_
 refine Go.step (S' := s₁.setTop (mkF m 4 #[rv so, rv vc] [(.ref vc), (.int (0 : Int32)), (.ref vc), (.ref so)])) (fun t k => ?_) ?_
 · refine XS.aloadN X0.here hx rfl (hb hby d2_0) rfl rfl ?_
   refine XS.aloadN X0.here hx rfl (hb hby d2_1) rfl rfl ?_
   refine XS.iconst X0.here hx rfl (hb hby d2_2) ?_
   refine XS.aloadN X0.here hx rfl (hb hby d2_3) rfl rfl ?_
   exact k
 obtain ⟨cl1, Ar1, -, S1, N1_, -, -⟩ := id V_vc
 refine Go.step (S' := s₁.setTop (mkF m 5 #[rv so, rv vc] [(.int cl1.slots.size.toInt32), (.int (0 : Int32)), (.ref vc), (.ref so)])) (fun t k => X0.arraylength hx (by rw [e0]; exact Ar1.1) (State.isArrayOf_alike hZ.alike Ar1.2.1) (g := (mkF m 4 #[rv so, rv vc] [(.ref vc), (.int (0 : Int32)), (.ref vc), (.ref so)])) rfl rfl (hb hby d2_4) _ k) ?_
 rw [len_of S1 N1_]
 show Go p e below _ (s₁.setTop (mkF m 5 #[rv so, rv vc] [(.int (2 : Int32)), (.int (0 : Int32)), (.ref vc), (.ref so)]))
 refine Go.step (S' := s₁.setTop (mkF m 6 #[rv so, rv vc] [.null, (.int (2 : Int32)), (.int (0 : Int32)), (.ref vc), (.ref so)])) (fun t k => ?_) ?_
 · refine XS.aconstNull X0.here hx rfl (hb hby d2_5) ?_
   exact k
 obtain ⟨_, _, ⟨T2, L2, k2, n2⟩, -, X2, ⟨Lc2, hQ2, l2, y2, z2⟩, st2⟩ := X0.specialBack hx (y := y_11) rfl hown (mvT hZ (own_w hw 12 rfl)) (mvT hZ (own_w hw 13 rfl)) (mvT hZ (own_w hw 15 rfl)) (by decide) (backOf (W := 0) (rmN4_2 l Z a0 hw [] so vc kc cs x0 x1 h0 n0 O S_CS E_so F_v F_c V_vc (by assumption) hcs u0 u1) hZ (own_w hw 15 rfl) (own_w hw 7 rfl) (by decide) (by decide)) (g := (mkF m 6 #[rv so, rv vc] [.null, (.int (2 : Int32)), (.int (0 : Int32)), (.ref vc), (.ref so)])) rfl (by rw [hml]; rfl) (Steps.refl _) (a := so) (argsL := [(.ref vc), (.int (0 : Int32)), (.int (2 : Int32)), .null]) (rest := []) (lenOf pd__28_5bCIILjava_2flang_2fVoid_3b_29V rfl) rfl (Nat.le_of_eq rfl) (hb hby d2_6) (fun _ _ => ⟨rfl, e0, (by decide : 0 + 1 ≤ _), (by decide : 0 + 2 ≤ _)⟩)
 dsimp only [Pt.U, Pt.locs, Pt.cells, Pt.slots] at X2 l2 y2 z2 st2 hQ2
 subst l2 y2 z2
 obtain ⟨tb_2, kb_2, rfl, Nq2, K2, P2_E, P2_Fv, P2_Fc, P2_V⟩ := hQ2
 have N2 := Fr.app N0 Nq2
 have ne_vc_so : vc ≠ so := Ne.symm (Exa.neArv E_so V_vc (own_w hw 6 rfl))
 have O := O.keep K2 (allS g_so all0)
 have E_so := E_so.keep K2
 have V_vc := V_vc.keep K2 (ninS ne_vc_so nin0)
 have K := K.trans K2 (allS (Or.inl (List.mem_of_getElem? (i := 0) rfl)) all0)
 have E_2 := P2_E
 have Fv_2 := P2_Fv
 have Fc_2 := P2_Fc
 have V_2 := P2_V
 refine Go.step (fun t k => st2.trans k) ?_
 obtain ⟨fs, hr, hrun, hended, hW, hsame⟩ := X2.leave (v := none) (fun _ => rfl)
 refine Go.fin (S' := T2.setFrames fs) ?_ hrun hended ⟨_, _, rfl, ?_, ⟨_, rfl⟩, hW, hsame.mono (by decide) (by decide)⟩
 · exact X2.returnOut hx Bd.returns (hb hby d2_9) hr
 · show Q_rmNS2 Z so vc kc cs x0 x1 h0 n0 (none) T2.heap _
   exact ⟨tb_2, kb_2, rfl, N2, K, E_so, Fv_2, Fc_2, V_2⟩
theorem ef_rmCl3 (m : MethodId) (vc : Addr) (db : Addr) : entryFrame m #[(.ref vc), (.int (0 : Int32)), (.ref db), (.int (0 : Int32)), (.int (3 : Int32))] 7 = mkF m 0 #[.val (.ref vc), .val (.int (0 : Int32)), .val (.ref db), .val (.int (0 : Int32)), .val (.int (3 : Int32)), .unset, .unset] [] := by first | (simp [entryFrame, mkF, argsToLocals, Value.category]; done) | rfl
abbrev rm_rmCl3 : Room := ({ frames := 0, cells := 0, slots := 0, locals := 0 } : Room)
def Q_rmCl3 (Z : State) (vc : Addr) (db : Addr) (kc : ClassId) (kb : ClassId) (x0 : Int32) (x1 : Int32) (x2 : Int32) (h0 : Heap) (n0 : Nat) (v : Option Value) (h : Heap) (L : List Loc) : Prop := (v = some (.int (3 : Int32))) ∧ (Fr n0 L) ∧ (Keep h0 h [db]) ∧ (Arv Z h db kb .byte (3 : Int32) [(.int (x0.toInt8.toInt32)), (.int (x1.toInt8.toInt32)), (.int (x2.toInt8.toInt32))] (.int (0 : Int32)))
set_option maxRecDepth 65536 in
set_option maxHeartbeats 4000000 in
theorem rmCl3 (l : Launch) (Z : State) (a0 : Array Value) (hw : ∀ d ∈ tables_1, d.before a0 Z = true) (ws : List Jvm.Cond) (vc : Addr) (db : Addr) (kc : ClassId) (kb : ClassId) (x0 : Int32) (x1 : Int32) (x2 : Int32) (h0 : Heap) (n0 : Nat) (O : Old Z n0 h0) (V_vc : Arv Z h0 vc kc .char (3 : Int32) [(.int x0), (.int x1), (.int x2)] (.int (0 : Int32))) (V_db : Arv Z h0 db kb .byte (3 : Int32) [(.int (0 : Int32)), (.int (0 : Int32)), (.int (0 : Int32))] (.int (0 : Int32))) (g_db : n0 ≤ db) (ne_vc_db : vc ≠ db) (u0 : ¬ ((255 : Int32) < x0)) (u1 : ¬ ((255 : Int32) < x1)) (u2 : ¬ ((255 : Int32) < x2)) :
    MetFree l y_8 (head1 (Jvm.Cond.code y_8 jdk_52_method_21_code 7 (some .int) :: ws) rm_rmCl3) (fun A_ U => A_ = #[(.ref vc), (.int (0 : Int32)), (.ref db), (.int (0 : Int32)), (.int (3 : Int32))] ∧ Z.Warmed39 U.vm ∧ U.heap = h0) (fun _ _ _ _ _ => True) (fun _ U o U' => ∃ v L, o = .returned v ∧ Q_rmCl3 Z vc db kc kb x0 x1 x2 h0 n0 v U'.heap L ∧ FrameEnd U o U' L rm_rmCl3.cells rm_rmCl3.slots) := by
 refine MetFree.of_bodySF (plainFor_of_name pn_java_lang_StringUTF16) hisR ?_
 intro p e s m args below meth c s₁ Bd hml0 hP hK
 obtain ⟨rfl, hZ, hh⟩ := hP
 have hx := Bd.exec
 have hby := Bd.bytes
 have hml : c.maxLocals = 7 := hml0
 have hown : s.vm.findClass "java/lang/StringUTF16" = some m.cls := findClass_of_methodNamed Bd.named
 have hnm := (name_of_methodNamed Bd.named Bd.method).1
 have X0 : Stand p l e rm_rmCl3 s m #[(.ref vc), (.int (0 : Int32)), (.ref db), (.int (0 : Int32)), (.int (3 : Int32))] below meth c s₁ [] 0 0 := Stand.of_body Bd
 have e0 : s₁.heap = h0 := by rw [← hh, Bd.state]; rfl
 have N0 := Fr.nil n0
 have K := Keep.refl h0 [db]
 refine Go.step (p := p) (e := e) (below := below) (G := fun o U' => ∃ v L, o = .returned v ∧ Q_rmCl3 Z vc db kc kb x0 x1 x2 h0 n0 v U'.heap L ∧ FrameEnd s o U' L rm_rmCl3.cells rm_rmCl3.slots) (S' := s₁.setTop (mkF m 0 #[rv vc, iv (0 : Int32), rv db, iv (0 : Int32), iv (3 : Int32), u_, u_] [])) (fun t k => castTop (ef_rmCl3 m vc db) k) ?_
 refine Go.step (S' := s₁.setTop (mkF m 12 #[rv vc, iv (0 : Int32), rv db, iv (0 : Int32), iv (3 : Int32), iv (0 : Int32), u_] [(.int (0 : Int32)), (.ref vc)])) (fun t k => ?_) ?_
 · refine XS.iconst X0.here hx rfl (hb hby d6_0) ?_
   refine XS.istore X0.here hx rfl (hb hby d6_1) rfl (l' := #[rv vc, iv (0 : Int32), rv db, iv (0 : Int32), iv (3 : Int32), iv (0 : Int32), u_]) rfl ?_
   refine XS.iload X0.here hx rfl (hb hby d6_3) rfl ?_
   refine XS.iload X0.here hx rfl (hb hby d6_5) rfl ?_
   refine XS.icmpNo X0.here hx rfl (hb hby d6_7) rfl (tlt ((by decide) : (0 : Int32) < (3 : Int32))).2.1 ?_
   refine XS.aloadN X0.here hx rfl (hb hby d6_10) rfl rfl ?_
   show Steps p.tables e below (s₁.setTop (mkF m 11 #[rv vc, iv (0 : Int32), rv db, iv (0 : Int32), iv (3 : Int32), iv (0 : Int32), u_] [(.ref vc)])) _
   refine XS.iloadN X0.here hx rfl (hb hby d6_11) rfl ?_
   exact k
 obtain ⟨cl1, Ar1, -, S1, -, H1, -⟩ := id V_vc
 have hin1 : ¬ ((0 : Int32) < 0 ∨ cl1.slots.size ≤ ((0 : Int32)).toNatClampNeg) := inb_of S1 ⟨by decide, by decide⟩
 refine Go.step (S' := s₁.setTop (mkF m 13 #[rv vc, iv (0 : Int32), rv db, iv (0 : Int32), iv (3 : Int32), iv (0 : Int32), u_] [(.int x0)])) (fun t k => X0.caload hx (j := (0 : Int32)) (v := (.int x0)) (by rw [e0]; exact Ar1.1) (State.isArrayOf_alike hZ.alike Ar1.2.1) Ar1.2.2 hin1 (H1.at hin1 rfl) (g := (mkF m 12 #[rv vc, iv (0 : Int32), rv db, iv (0 : Int32), iv (3 : Int32), iv (0 : Int32), u_] [(.int (0 : Int32)), (.ref vc)])) rfl rfl (hb hby d6_12) _ k) ?_
 refine Go.step (S' := s₁.setTop (mkF m 31 #[rv vc, iv (0 : Int32), rv db, iv (0 : Int32), iv (3 : Int32), iv (0 : Int32), iv x0] [(.int (x0.toInt8.toInt32)), (.int (0 : Int32)), (.ref db)])) (fun t k => ?_) ?_
 · refine XS.istore X0.here hx rfl (hb hby d6_13) rfl (l' := #[rv vc, iv (0 : Int32), rv db, iv (0 : Int32), iv (3 : Int32), iv (0 : Int32), iv x0]) rfl ?_
   refine XS.iload X0.here hx rfl (hb hby d6_15) rfl ?_
   refine XS.sipush X0.here hx rfl (hb hby d6_17) ?_
   refine XS.icmpYes X0.here hx rfl (pc0 := 20) (pc' := 26) rfl (hb hby d6_20) rfl (flt (u0 : ¬ ((255 : Int32) < x0))).2.2.2 (by decide) (by decide) ?_
   refine XS.aloadN X0.here hx rfl (hb hby d6_26) rfl rfl ?_
   refine XS.iloadN X0.here hx rfl (hb hby d6_27) rfl ?_
   show Steps p.tables e below (s₁.setTop (mkF m 28 #[rv vc, iv (0 : Int32), rv db, iv (0 : Int32), iv (3 : Int32), iv (0 : Int32), iv x0] [(.int (0 : Int32)), (.ref db)])) _
   refine XS.iload X0.here hx rfl (hb hby d6_28) rfl ?_
   refine XS.i2b X0.here hx rfl (hb hby d6_30) rfl ?_
   exact k
 obtain ⟨cl2, Ar2, q2, S2, N2_, H2, G2⟩ := V_db
 have hin2 : ¬ ((0 : Int32) < 0 ∨ cl2.slots.size ≤ ((0 : Int32)).toNatClampNeg) := inb_of S2 ⟨by decide, by decide⟩
 obtain ⟨T2, h2, X2, e2, W2, st2⟩ := stB X0 hx hZ e0 Ar2 (j := (0 : Int32)) hin2 (g := (mkF m 31 #[rv vc, iv (0 : Int32), rv db, iv (0 : Int32), iv (3 : Int32), iv (0 : Int32), iv x0] [(.int (x0.toInt8.toInt32)), (.int (0 : Int32)), (.ref db)])) rfl rfl (hb hby d6_31)
 have O := O.wr W2 g_db
 have V_vc := V_vc.other W2 ne_vc_db
 have K := K.wr W2 (Or.inl (List.mem_of_getElem? (i := 0) rfl))
 have V_db : Arv Z h2 db kb .byte (3 : Int32) [(.int ((x0.toInt8.toInt32).toInt8.toInt32)), (.int (0 : Int32)), (.int (0 : Int32))] (.int (0 : Int32)) := Arv.set Ar2 q2 S2 N2_ H2 G2 (fits_nar_byte _) W2 0 rfl (Nat.le_of_ble_eq_true rfl)
 rw [(own_b2 x0 : ((x0.toInt8.toInt32).toInt8.toInt32) = (x0.toInt8.toInt32))] at V_db
 have N2 := Fr.snoc X2 N0 g_db
 refine Go.step st2 ?_
 refine Go.step (S' := T2.setTop (mkF m 35 #[rv vc, iv ((0 : Int32) + (1 : Int32)), rv db, iv (0 : Int32), iv (3 : Int32), iv (0 : Int32), iv x0] [])) (fun t k => ?_) ?_
 · refine XS.iinc X2.here hx rfl (hb hby d6_32) rfl (l' := #[rv vc, iv ((0 : Int32) + (1 : Int32)), rv db, iv (0 : Int32), iv (3 : Int32), iv (0 : Int32), iv x0]) rfl ?_
   exact k
 rw [show ((0 : Int32) + (1 : Int32)) = (1 : Int32) from by decide]
 show Go p e below _ (T2.setTop (mkF m 35 #[rv vc, iv (1 : Int32), rv db, iv (0 : Int32), iv (3 : Int32), iv (0 : Int32), iv x0] []))
 refine Go.step (S' := T2.setTop (mkF m 38 #[rv vc, iv (1 : Int32), rv db, iv ((0 : Int32) + (1 : Int32)), iv (3 : Int32), iv (0 : Int32), iv x0] [])) (fun t k => ?_) ?_
 · refine XS.iinc X2.here hx rfl (hb hby d6_35) rfl (l' := #[rv vc, iv (1 : Int32), rv db, iv ((0 : Int32) + (1 : Int32)), iv (3 : Int32), iv (0 : Int32), iv x0]) rfl ?_
   exact k
 rw [show ((0 : Int32) + (1 : Int32)) = (1 : Int32) from by decide]
 show Go p e below _ (T2.setTop (mkF m 38 #[rv vc, iv (1 : Int32), rv db, iv (1 : Int32), iv (3 : Int32), iv (0 : Int32), iv x0] []))
 refine Go.step (S' := T2.setTop (mkF m 41 #[rv vc, iv (1 : Int32), rv db, iv (1 : Int32), iv (3 : Int32), iv ((0 : Int32) + (1 : Int32)), iv x0] [])) (fun t k => ?_) ?_
 · refine XS.iinc X2.here hx rfl (hb hby d6_38) rfl (l' := #[rv vc, iv (1 : Int32), rv db, iv (1 : Int32), iv (3 : Int32), iv ((0 : Int32) + (1 : Int32)), iv x0]) rfl ?_
   exact k
 rw [show ((0 : Int32) + (1 : Int32)) = (1 : Int32) from by decide]
 show Go p e below _ (T2.setTop (mkF m 41 #[rv vc, iv (1 : Int32), rv db, iv (1 : Int32), iv (3 : Int32), iv (1 : Int32), iv x0] []))
 refine Go.step (S' := T2.setTop (mkF m 12 #[rv vc, iv (1 : Int32), rv db, iv (1 : Int32), iv (3 : Int32), iv (1 : Int32), iv x0] [(.int (1 : Int32)), (.ref vc)])) (fun t k => ?_) ?_
 · refine XS.goto X2.here hx rfl (pc0 := 41) (pc' := 3) rfl (hb hby d6_41) (by decide) (by decide) ?_
   refine XS.iload X2.here hx rfl (hb hby d6_3) rfl ?_
   refine XS.iload X2.here hx rfl (hb hby d6_5) rfl ?_
   refine XS.icmpNo X2.here hx rfl (hb hby d6_7) rfl (tlt ((by decide) : (1 : Int32) < (3 : Int32))).2.1 ?_
   refine XS.aloadN X2.here hx rfl (hb hby d6_10) rfl rfl ?_
   refine XS.iloadN X2.here hx rfl (hb hby d6_11) rfl ?_
   exact k
 obtain ⟨cl3, Ar3, -, S3, -, H3, -⟩ := id V_vc
 have hin3 : ¬ ((1 : Int32) < 0 ∨ cl3.slots.size ≤ ((1 : Int32)).toNatClampNeg) := inb_of S3 ⟨by decide, by decide⟩
 refine Go.step (S' := T2.setTop (mkF m 13 #[rv vc, iv (1 : Int32), rv db, iv (1 : Int32), iv (3 : Int32), iv (1 : Int32), iv x0] [(.int x1)])) (fun t k => X2.caload hx (j := (1 : Int32)) (v := (.int x1)) (by rw [e2]; exact Ar3.1) (State.isArrayOf_alike hZ.alike Ar3.2.1) Ar3.2.2 hin3 (H3.at hin3 rfl) (g := (mkF m 12 #[rv vc, iv (1 : Int32), rv db, iv (1 : Int32), iv (3 : Int32), iv (1 : Int32), iv x0] [(.int (1 : Int32)), (.ref vc)])) rfl rfl (hb hby d6_12) _ k) ?_
 refine Go.step (S' := T2.setTop (mkF m 31 #[rv vc, iv (1 : Int32), rv db, iv (1 : Int32), iv (3 : Int32), iv (1 : Int32), iv x1] [(.int (x1.toInt8.toInt32)), (.int (1 : Int32)), (.ref db)])) (fun t k => ?_) ?_
 · refine XS.istore X2.here hx rfl (hb hby d6_13) rfl (l' := #[rv vc, iv (1 : Int32), rv db, iv (1 : Int32), iv (3 : Int32), iv (1 : Int32), iv x1]) rfl ?_
   refine XS.iload X2.here hx rfl (hb hby d6_15) rfl ?_
   refine XS.sipush X2.here hx rfl (hb hby d6_17) ?_
   refine XS.icmpYes X2.here hx rfl (pc0 := 20) (pc' := 26) rfl (hb hby d6_20) rfl (flt (u1 : ¬ ((255 : Int32) < x1))).2.2.2 (by decide) (by decide) ?_
   refine XS.aloadN X2.here hx rfl (hb hby d6_26) rfl rfl ?_
   refine XS.iloadN X2.here hx rfl (hb hby d6_27) rfl ?_
   show Steps p.tables e below (T2.setTop (mkF m 28 #[rv vc, iv (1 : Int32), rv db, iv (1 : Int32), iv (3 : Int32), iv (1 : Int32), iv x1] [(.int (1 : Int32)), (.ref db)])) _
   refine XS.iload X2.here hx rfl (hb hby d6_28) rfl ?_
   refine XS.i2b X2.here hx rfl (hb hby d6_30) rfl ?_
   exact k
 obtain ⟨cl4, Ar4, q4, S4, N4_, H4, G4⟩ := V_db
 have hin4 : ¬ ((1 : Int32) < 0 ∨ cl4.slots.size ≤ ((1 : Int32)).toNatClampNeg) := inb_of S4 ⟨by decide, by decide⟩
 obtain ⟨T4, h4, X4, e4, W4, st4⟩ := stB X2 hx hZ e2 Ar4 (j := (1 : Int32)) hin4 (g := (mkF m 31 #[rv vc, iv (1 : Int32), rv db, iv (1 : Int32), iv (3 : Int32), iv (1 : Int32), iv x1] [(.int (x1.toInt8.toInt32)), (.int (1 : Int32)), (.ref db)])) rfl rfl (hb hby d6_31)
 have O := O.wr W4 g_db
 have V_vc := V_vc.other W4 ne_vc_db
 have K := K.wr W4 (Or.inl (List.mem_of_getElem? (i := 0) rfl))
 have V_db : Arv Z h4 db kb .byte (3 : Int32) [(.int (x0.toInt8.toInt32)), (.int ((x1.toInt8.toInt32).toInt8.toInt32)), (.int (0 : Int32))] (.int (0 : Int32)) := Arv.set Ar4 q4 S4 N4_ H4 G4 (fits_nar_byte _) W4 1 rfl (Nat.le_of_ble_eq_true rfl)
 rw [(own_b2 x1 : ((x1.toInt8.toInt32).toInt8.toInt32) = (x1.toInt8.toInt32))] at V_db
 have N4 := Fr.snoc X4 N2 g_db
 refine Go.step st4 ?_
 refine Go.step (S' := T4.setTop (mkF m 35 #[rv vc, iv ((1 : Int32) + (1 : Int32)), rv db, iv (1 : Int32), iv (3 : Int32), iv (1 : Int32), iv x1] [])) (fun t k => ?_) ?_
 · refine XS.iinc X4.here hx rfl (hb hby d6_32) rfl (l' := #[rv vc, iv ((1 : Int32) + (1 : Int32)), rv db, iv (1 : Int32), iv (3 : Int32), iv (1 : Int32), iv x1]) rfl ?_
   exact k
 rw [show ((1 : Int32) + (1 : Int32)) = (2 : Int32) from by decide]
 show Go p e below _ (T4.setTop (mkF m 35 #[rv vc, iv (2 : Int32), rv db, iv (1 : Int32), iv (3 : Int32), iv (1 : Int32), iv x1] []))
 refine Go.step (S' := T4.setTop (mkF m 38 #[rv vc, iv (2 : Int32), rv db, iv ((1 : Int32) + (1 : Int32)), iv (3 : Int32), iv (1 : Int32), iv x1] [])) (fun t k => ?_) ?_
 · refine XS.iinc X4.here hx rfl (hb hby d6_35) rfl (l' := #[rv vc, iv (2 : Int32), rv db, iv ((1 : Int32) + (1 : Int32)), iv (3 : Int32), iv (1 : Int32), iv x1]) rfl ?_
   exact k
 rw [show ((1 : Int32) + (1 : Int32)) = (2 : Int32) from by decide]
 show Go p e below _ (T4.setTop (mkF m 38 #[rv vc, iv (2 : Int32), rv db, iv (2 : Int32), iv (3 : Int32), iv (1 : Int32), iv x1] []))
 refine Go.step (S' := T4.setTop (mkF m 41 #[rv vc, iv (2 : Int32), rv db, iv (2 : Int32), iv (3 : Int32), iv ((1 : Int32) + (1 : Int32)), iv x1] [])) (fun t k => ?_) ?_
 · refine XS.iinc X4.here hx rfl (hb hby d6_38) rfl (l' := #[rv vc, iv (2 : Int32), rv db, iv (2 : Int32), iv (3 : Int32), iv ((1 : Int32) + (1 : Int32)), iv x1]) rfl ?_
   exact k
 rw [show ((1 : Int32) + (1 : Int32)) = (2 : Int32) from by decide]
 show Go p e below _ (T4.setTop (mkF m 41 #[rv vc, iv (2 : Int32), rv db, iv (2 : Int32), iv (3 : Int32), iv (2 : Int32), iv x1] []))
 refine Go.step (S' := T4.setTop (mkF m 12 #[rv vc, iv (2 : Int32), rv db, iv (2 : Int32), iv (3 : Int32), iv (2 : Int32), iv x1] [(.int (2 : Int32)), (.ref vc)])) (fun t k => ?_) ?_
 · refine XS.goto X4.here hx rfl (pc0 := 41) (pc' := 3) rfl (hb hby d6_41) (by decide) (by decide) ?_
   refine XS.iload X4.here hx rfl (hb hby d6_3) rfl ?_
   refine XS.iload X4.here hx rfl (hb hby d6_5) rfl ?_
   refine XS.icmpNo X4.here hx rfl (hb hby d6_7) rfl (tlt ((by decide) : (2 : Int32) < (3 : Int32))).2.1 ?_
   refine XS.aloadN X4.here hx rfl (hb hby d6_10) rfl rfl ?_
   refine XS.iloadN X4.here hx rfl (hb hby d6_11) rfl ?_
   exact k
 obtain ⟨cl5, Ar5, -, S5, -, H5, -⟩ := id V_vc
 have hin5 : ¬ ((2 : Int32) < 0 ∨ cl5.slots.size ≤ ((2 : Int32)).toNatClampNeg) := inb_of S5 ⟨by decide, by decide⟩
 refine Go.step (S' := T4.setTop (mkF m 13 #[rv vc, iv (2 : Int32), rv db, iv (2 : Int32), iv (3 : Int32), iv (2 : Int32), iv x1] [(.int x2)])) (fun t k => X4.caload hx (j := (2 : Int32)) (v := (.int x2)) (by rw [e4]; exact Ar5.1) (State.isArrayOf_alike hZ.alike Ar5.2.1) Ar5.2.2 hin5 (H5.at hin5 rfl) (g := (mkF m 12 #[rv vc, iv (2 : Int32), rv db, iv (2 : Int32), iv (3 : Int32), iv (2 : Int32), iv x1] [(.int (2 : Int32)), (.ref vc)])) rfl rfl (hb hby d6_12) _ k) ?_
 refine Go.step (S' := T4.setTop (mkF m 31 #[rv vc, iv (2 : Int32), rv db, iv (2 : Int32), iv (3 : Int32), iv (2 : Int32), iv x2] [(.int (x2.toInt8.toInt32)), (.int (2 : Int32)), (.ref db)])) (fun t k => ?_) ?_
 · refine XS.istore X4.here hx rfl (hb hby d6_13) rfl (l' := #[rv vc, iv (2 : Int32), rv db, iv (2 : Int32), iv (3 : Int32), iv (2 : Int32), iv x2]) rfl ?_
   refine XS.iload X4.here hx rfl (hb hby d6_15) rfl ?_
   refine XS.sipush X4.here hx rfl (hb hby d6_17) ?_
   refine XS.icmpYes X4.here hx rfl (pc0 := 20) (pc' := 26) rfl (hb hby d6_20) rfl (flt (u2 : ¬ ((255 : Int32) < x2))).2.2.2 (by decide) (by decide) ?_
   refine XS.aloadN X4.here hx rfl (hb hby d6_26) rfl rfl ?_
   refine XS.iloadN X4.here hx rfl (hb hby d6_27) rfl ?_
   show Steps p.tables e below (T4.setTop (mkF m 28 #[rv vc, iv (2 : Int32), rv db, iv (2 : Int32), iv (3 : Int32), iv (2 : Int32), iv x2] [(.int (2 : Int32)), (.ref db)])) _
   refine XS.iload X4.here hx rfl (hb hby d6_28) rfl ?_
   refine XS.i2b X4.here hx rfl (hb hby d6_30) rfl ?_
   exact k
 obtain ⟨cl6, Ar6, q6, S6, N6_, H6, G6⟩ := V_db
 have hin6 : ¬ ((2 : Int32) < 0 ∨ cl6.slots.size ≤ ((2 : Int32)).toNatClampNeg) := inb_of S6 ⟨by decide, by decide⟩
 obtain ⟨T6, h6, X6, e6, W6, st6⟩ := stB X4 hx hZ e4 Ar6 (j := (2 : Int32)) hin6 (g := (mkF m 31 #[rv vc, iv (2 : Int32), rv db, iv (2 : Int32), iv (3 : Int32), iv (2 : Int32), iv x2] [(.int (x2.toInt8.toInt32)), (.int (2 : Int32)), (.ref db)])) rfl rfl (hb hby d6_31)
 have O := O.wr W6 g_db
 have V_vc := V_vc.other W6 ne_vc_db
 have K := K.wr W6 (Or.inl (List.mem_of_getElem? (i := 0) rfl))
 have V_db : Arv Z h6 db kb .byte (3 : Int32) [(.int (x0.toInt8.toInt32)), (.int (x1.toInt8.toInt32)), (.int ((x2.toInt8.toInt32).toInt8.toInt32))] (.int (0 : Int32)) := Arv.set Ar6 q6 S6 N6_ H6 G6 (fits_nar_byte _) W6 2 rfl (Nat.le_of_ble_eq_true rfl)
 rw [(own_b2 x2 : ((x2.toInt8.toInt32).toInt8.toInt32) = (x2.toInt8.toInt32))] at V_db
 have N6 := Fr.snoc X6 N4 g_db
 refine Go.step st6 ?_
 refine Go.step (S' := T6.setTop (mkF m 35 #[rv vc, iv ((2 : Int32) + (1 : Int32)), rv db, iv (2 : Int32), iv (3 : Int32), iv (2 : Int32), iv x2] [])) (fun t k => ?_) ?_
 · refine XS.iinc X6.here hx rfl (hb hby d6_32) rfl (l' := #[rv vc, iv ((2 : Int32) + (1 : Int32)), rv db, iv (2 : Int32), iv (3 : Int32), iv (2 : Int32), iv x2]) rfl ?_
   exact k
 rw [show ((2 : Int32) + (1 : Int32)) = (3 : Int32) from by decide]
 show Go p e below _ (T6.setTop (mkF m 35 #[rv vc, iv (3 : Int32), rv db, iv (2 : Int32), iv (3 : Int32), iv (2 : Int32), iv x2] []))
 refine Go.step (S' := T6.setTop (mkF m 38 #[rv vc, iv (3 : Int32), rv db, iv ((2 : Int32) + (1 : Int32)), iv (3 : Int32), iv (2 : Int32), iv x2] [])) (fun t k => ?_) ?_
 · refine XS.iinc X6.here hx rfl (hb hby d6_35) rfl (l' := #[rv vc, iv (3 : Int32), rv db, iv ((2 : Int32) + (1 : Int32)), iv (3 : Int32), iv (2 : Int32), iv x2]) rfl ?_
   exact k
 rw [show ((2 : Int32) + (1 : Int32)) = (3 : Int32) from by decide]
 show Go p e below _ (T6.setTop (mkF m 38 #[rv vc, iv (3 : Int32), rv db, iv (3 : Int32), iv (3 : Int32), iv (2 : Int32), iv x2] []))
 refine Go.step (S' := T6.setTop (mkF m 41 #[rv vc, iv (3 : Int32), rv db, iv (3 : Int32), iv (3 : Int32), iv ((2 : Int32) + (1 : Int32)), iv x2] [])) (fun t k => ?_) ?_
 · refine XS.iinc X6.here hx rfl (hb hby d6_38) rfl (l' := #[rv vc, iv (3 : Int32), rv db, iv (3 : Int32), iv (3 : Int32), iv ((2 : Int32) + (1 : Int32)), iv x2]) rfl ?_
   exact k
 rw [show ((2 : Int32) + (1 : Int32)) = (3 : Int32) from by decide]
 show Go p e below _ (T6.setTop (mkF m 41 #[rv vc, iv (3 : Int32), rv db, iv (3 : Int32), iv (3 : Int32), iv (3 : Int32), iv x2] []))
 refine Go.step (S' := T6.setTop (mkF m 46 #[rv vc, iv (3 : Int32), rv db, iv (3 : Int32), iv (3 : Int32), iv (3 : Int32), iv x2] [(.int (3 : Int32))])) (fun t k => ?_) ?_
 · refine XS.goto X6.here hx rfl (pc0 := 41) (pc' := 3) rfl (hb hby d6_41) (by decide) (by decide) ?_
   refine XS.iload X6.here hx rfl (hb hby d6_3) rfl ?_
   refine XS.iload X6.here hx rfl (hb hby d6_5) rfl ?_
   refine XS.icmpYes X6.here hx rfl (pc0 := 7) (pc' := 44) rfl (hb hby d6_7) rfl (flt ((by decide) : ¬ ((3 : Int32) < (3 : Int32)))).2.1 (by decide) (by decide) ?_
   refine XS.iload X6.here hx rfl (hb hby d6_44) rfl ?_
   exact k
 obtain ⟨fs, hr, hrun, hended, hW, hsame⟩ := X6.leave (v := some (.int (3 : Int32))) (fun h => by rw [Bd.returns] at h; cases h)
 refine Go.fin (S' := T6.setFrames fs) ?_ hrun hended ⟨_, _, rfl, ?_, ⟨_, rfl⟩, hW, hsame.mono (by decide) (by decide)⟩
 · exact retOut X6 hx Bd.returns rfl (Or.inl ⟨rfl, Or.inl rfl, _, rfl⟩) (hb hby d6_46) hr
 · show Q_rmCl3 Z vc db kc kb x0 x1 x2 h0 n0 (some (.int (3 : Int32))) T6.heap _
   rw [e6]
   exact ⟨rfl, N6, K, V_db⟩
theorem ef_rmCm3 (m : MethodId) (vc : Addr) : entryFrame m #[(.ref vc), (.int (0 : Int32)), (.int (3 : Int32))] 6 = mkF m 0 #[.val (.ref vc), .val (.int (0 : Int32)), .val (.int (3 : Int32)), .unset, .unset, .unset] [] := by first | (simp [entryFrame, mkF, argsToLocals, Value.category]; done) | rfl
abbrev rm_rmCm3 : Room := ({ frames := 1, cells := 1, slots := 3, locals := 18 } : Room)
def Q_rmCm3 (Z : State) (vc : Addr) (kc : ClassId) (x0 : Int32) (x1 : Int32) (x2 : Int32) (h0 : Heap) (n0 : Nat) (v : Option Value) (h : Heap) (L : List Loc) : Prop := ∃ b : Addr, ∃ kb : ClassId, (v = some (.ref b)) ∧ (Fr n0 L) ∧ (Keep h0 h []) ∧ (Arv Z h b kb .byte (3 : Int32) [(.int (x0.toInt8.toInt32)), (.int (x1.toInt8.toInt32)), (.int (x2.toInt8.toInt32))] (.int (0 : Int32)))
set_option maxRecDepth 65536 in
set_option maxHeartbeats 4000000 in
theorem rmCm3 (l : Launch) (Z : State) (a0 : Array Value) (hw : ∀ d ∈ tables_1, d.before a0 Z = true) (ws : List Jvm.Cond) (vc : Addr) (kc : ClassId) (x0 : Int32) (x1 : Int32) (x2 : Int32) (h0 : Heap) (n0 : Nat) (O : Old Z n0 h0) (V_vc : Arv Z h0 vc kc .char (3 : Int32) [(.int x0), (.int x1), (.int x2)] (.int (0 : Int32))) (u0 : ¬ ((255 : Int32) < x0)) (u1 : ¬ ((255 : Int32) < x1)) (u2 : ¬ ((255 : Int32) < x2)) :
    MetFree l y_9 (head1 (Jvm.Cond.code y_9 jdk_52_method_16_code 6 (some (.array .byte)) :: ws) rm_rmCm3) (fun A_ U => A_ = #[(.ref vc), (.int (0 : Int32)), (.int (3 : Int32))] ∧ Z.Warmed39 U.vm ∧ U.heap = h0) (fun _ _ _ _ _ => True) (fun _ U o U' => ∃ v L, o = .returned v ∧ Q_rmCm3 Z vc kc x0 x1 x2 h0 n0 v U'.heap L ∧ FrameEnd U o U' L rm_rmCm3.cells rm_rmCm3.slots) := by
 refine MetFree.of_bodySF (plainFor_of_name pn_java_lang_StringUTF16) hisR ?_
 intro p e s m args below meth c s₁ Bd hml0 hP hK
 obtain ⟨rfl, hZ, hh⟩ := hP
 have hx := Bd.exec
 have hby := Bd.bytes
 have hml : c.maxLocals = 6 := hml0
 have hown : s.vm.findClass "java/lang/StringUTF16" = some m.cls := findClass_of_methodNamed Bd.named
 have hnm := (name_of_methodNamed Bd.named Bd.method).1
 have X0 : Stand p l e rm_rmCm3 s m #[(.ref vc), (.int (0 : Int32)), (.int (3 : Int32))] below meth c s₁ [] 0 0 := Stand.of_body Bd
 have e0 : s₁.heap = h0 := by rw [← hh, Bd.state]; rfl
 have N0 := Fr.nil n0
 have K := Keep.refl h0 []
 refine Go.step (p := p) (e := e) (below := below) (G := fun o U' => ∃ v L, o = .returned v ∧ Q_rmCm3 Z vc kc x0 x1 x2 h0 n0 v U'.heap L ∧ FrameEnd s o U' L rm_rmCm3.cells rm_rmCm3.slots) (S' := s₁.setTop (mkF m 0 #[rv vc, iv (0 : Int32), iv (3 : Int32), u_, u_, u_] [])) (fun t k => castTop (ef_rmCm3 m vc) k) ?_
 refine Go.step (S' := s₁.setTop (mkF m 1 #[rv vc, iv (0 : Int32), iv (3 : Int32), u_, u_, u_] [(.int (3 : Int32))])) (fun t k => ?_) ?_
 · refine XS.iloadN X0.here hx rfl (hb hby d5_0) rfl ?_
   exact k
 obtain ⟨T1, h1, k1, X1, e1, E1, A1, st1⟩ := newP X0 hx hZ (own_w hw 24 rfl) e0 (g := (mkF m 1 #[rv vc, iv (0 : Int32), iv (3 : Int32), u_, u_, u_] [(.int (3 : Int32))])) rfl (hb hby d5_1) rfl (by decide) (cap := 3) (by decide) (by decide) (by decide) (by decide)
 obtain ⟨b1, g1⟩ : ∃ z, z = Array.size h0 := ⟨_, rfl⟩
 have g_b1 : n0 ≤ b1 := Nat.le_trans (old_le O) (Nat.le_of_eq g1.symm)
 have sz_b1 : h0.size ≤ b1 := Nat.le_trans K.1 (Nat.le_of_eq g1.symm)
 have ne_vc_b1 : vc ≠ b1 := Nat.ne_of_lt (Nat.lt_of_lt_of_le V_vc.lt (Nat.le_of_eq g1.symm))
 rw [← g1] at A1 st1
 have O := O.ext E1
 have V_vc := V_vc.ext E1
 have K := K.ext E1
 have V_b1 : Arv Z h1 b1 k1 .byte (3 : Int32) [(.int (0 : Int32)), (.int (0 : Int32)), (.int (0 : Int32))] (.int (0 : Int32)) := (Arv.new A1 (by decide)).pad (pad_rep [] (.int (0 : Int32)) 3)
 refine Go.step st1 ?_
 refine Go.step (S' := T1.setTop (mkF m 9 #[rv vc, iv (0 : Int32), iv (3 : Int32), rv b1, u_, u_] [(.int (3 : Int32)), (.int (0 : Int32)), (.ref b1), (.int (0 : Int32)), (.ref vc)])) (fun t k => ?_) ?_
 · refine XS.astoreN X1.here hx rfl (hb hby d5_3) rfl rfl (l' := #[rv vc, iv (0 : Int32), iv (3 : Int32), rv b1, u_, u_]) rfl ?_
   refine XS.aloadN X1.here hx rfl (hb hby d5_4) rfl rfl ?_
   refine XS.iloadN X1.here hx rfl (hb hby d5_5) rfl ?_
   refine XS.aloadN X1.here hx rfl (hb hby d5_6) rfl rfl ?_
   refine XS.iconst X1.here hx rfl (hb hby d5_7) ?_
   refine XS.iloadN X1.here hx rfl (hb hby d5_8) rfl ?_
   exact k
 obtain ⟨_, _, ⟨T2, L2, k2, n2⟩, -, X2, ⟨Lc2, hQ2, l2, y2, z2⟩, st2⟩ := Jvm.LawKit.callS X1 hx (y := y_8) hown (mvT hZ (own_w hw 25 rfl)) (mvT hZ (own_w hw 26 rfl)) (mvT hZ (own_w hw 22 rfl)) (mvT hZ (own_w hw 27 rfl)) (by decide) (backOf (W := 0) (rmCl3 l Z a0 hw [] vc b1 kc k1 x0 x1 x2 h1 n0 O V_vc V_b1 (by assumption) ne_vc_b1 u0 u1 u2) hZ (own_w hw 27 rfl) (own_w hw 22 rfl) (by decide) (by decide)) (g := (mkF m 9 #[rv vc, iv (0 : Int32), iv (3 : Int32), rv b1, u_, u_] [(.int (3 : Int32)), (.int (0 : Int32)), (.ref b1), (.int (0 : Int32)), (.ref vc)])) rfl (by rw [hml]; rfl) (argsL := [(.ref vc), (.int (0 : Int32)), (.ref b1), (.int (0 : Int32)), (.int (3 : Int32))]) (rest := []) (lenOf pd__28_5bCI_5bBII_29I rfl) rfl (Nat.le_of_eq rfl) (hb hby d5_9) (fun _ _ => ⟨rfl, e1, (by decide : 1 + 0 ≤ _), (by decide : 3 + 0 ≤ _)⟩)
 dsimp only [Pt.U, Pt.locs, Pt.cells, Pt.slots] at X2 l2 y2 z2 st2 hQ2
 subst l2 y2 z2
 obtain ⟨rfl, Nq2, K2, P2_V⟩ := hQ2
 have N2 := Fr.app N0 Nq2
 have O := O.keep K2 (allS g_b1 all0)
 have V_vc := V_vc.keep K2 (ninS ne_vc_b1 nin0)
 have K := K.trans K2 (allS (Or.inr sz_b1) all0)
 have V_2 := P2_V
 refine Go.step st2 ?_
 refine Go.step (S' := T2.setTop (mkF m 58 #[rv vc, iv (0 : Int32), iv (3 : Int32), rv b1, iv (3 : Int32), u_] [(.ref b1)])) (fun t k => ?_) ?_
 · refine XS.istore X2.here hx rfl (hb hby d5_12) rfl (l' := #[rv vc, iv (0 : Int32), iv (3 : Int32), rv b1, iv (3 : Int32), u_]) rfl ?_
   refine XS.iload X2.here hx rfl (hb hby d5_14) rfl ?_
   refine XS.iloadN X2.here hx rfl (hb hby d5_16) rfl ?_
   refine XS.icmpYes X2.here hx rfl (pc0 := 17) (pc' := 57) rfl (hb hby d5_17) rfl (teq ((by decide) : (3 : Int32) = (3 : Int32))).1 (by decide) (by decide) ?_
   refine XS.aloadN X2.here hx rfl (hb hby d5_57) rfl rfl ?_
   exact k
 obtain ⟨fs, hr, hrun, hended, hW, hsame⟩ := X2.leave (v := some (.ref b1)) (fun h => by rw [Bd.returns] at h; cases h)
 refine Go.fin (S' := T2.setFrames fs) ?_ hrun hended ⟨_, _, rfl, ?_, ⟨_, rfl⟩, hW, hsame.mono (by decide) (by decide)⟩
 · exact retOut X2 hx Bd.returns rfl (Or.inr (Or.inr (Or.inr (Or.inr ⟨rfl, rfl, rfl⟩)))) (hb hby d5_58) hr
 · show Q_rmCm3 Z vc kc x0 x1 x2 h0 n0 (some (.ref b1)) T2.heap _
   exact ⟨b1, k1, rfl, N2, K, V_2⟩
theorem ef_rmCf3 (m : MethodId) (tb : Addr) : entryFrame m #[(.ref tb), (.int (3 : Int32))] 2 = mkF m 0 #[.val (.ref tb), .val (.int (3 : Int32))] [] := by first | (simp [entryFrame, mkF, argsToLocals, Value.category]; done) | rfl
abbrev rm_rmCf3 : Room := ({ frames := 0, cells := 0, slots := 0, locals := 0 } : Room)
def Q_rmCf3 (Z : State) (tb : Addr) (kb : ClassId) (x0 : Int32) (x1 : Int32) (x2 : Int32) (h0 : Heap) (n0 : Nat) (v : Option Value) (h : Heap) (L : List Loc) : Prop := (v = some (.int (0 : Int32))) ∧ (Fr n0 L) ∧ (h = h0)
set_option maxRecDepth 65536 in
set_option maxHeartbeats 4000000 in
theorem rmCf3 (l : Launch) (Z : State) (a0 : Array Value) (hw : ∀ d ∈ tables_1, d.before a0 Z = true) (ws : List Jvm.Cond) (tb : Addr) (kb : ClassId) (x0 : Int32) (x1 : Int32) (x2 : Int32) (h0 : Heap) (n0 : Nat) (O : Old Z n0 h0) (V_tb : Arv Z h0 tb kb .byte (3 : Int32) [(.int (x0.toInt8.toInt32)), (.int (x1.toInt8.toInt32)), (.int (x2.toInt8.toInt32))] (.int (0 : Int32))) :
    MetFree l y_10 (head1 (Jvm.Cond.code y_10 jdk_52_method_15_code 2 (some .byte) :: ws) rm_rmCf3) (fun A_ U => A_ = #[(.ref tb), (.int (3 : Int32))] ∧ Z.Warmed39 U.vm ∧ U.heap = h0) (fun _ _ _ _ _ => True) (fun _ U o U' => ∃ v L, o = .returned v ∧ Q_rmCf3 Z tb kb x0 x1 x2 h0 n0 v U'.heap L ∧ FrameEnd U o U' L rm_rmCf3.cells rm_rmCf3.slots) := by
 refine MetFree.of_bodySF (plainFor_of_name pn_java_lang_StringUTF16) hisR ?_
 intro p e s m args below meth c s₁ Bd hml0 hP hK
 obtain ⟨rfl, hZ, hh⟩ := hP
 have hx := Bd.exec
 have hby := Bd.bytes
 have hml : c.maxLocals = 2 := hml0
 have hown : s.vm.findClass "java/lang/StringUTF16" = some m.cls := findClass_of_methodNamed Bd.named
 have hnm := (name_of_methodNamed Bd.named Bd.method).1
 have X0 : Stand p l e rm_rmCf3 s m #[(.ref tb), (.int (3 : Int32))] below meth c s₁ [] 0 0 := Stand.of_body Bd
 have e0 : s₁.heap = h0 := by rw [← hh, Bd.state]; rfl
 have N0 := Fr.nil n0
 refine Go.step (p := p) (e := e) (below := below) (G := fun o U' => ∃ v L, o = .returned v ∧ Q_rmCf3 Z tb kb x0 x1 x2 h0 n0 v U'.heap L ∧ FrameEnd s o U' L rm_rmCf3.cells rm_rmCf3.slots) (S' := s₁.setTop (mkF m 0 #[rv tb, iv (3 : Int32)] [])) (fun t k => castTop (ef_rmCf3 m tb) k) ?_
 refine Go.step (S' := s₁.setTop (mkF m 2 #[rv tb, iv (3 : Int32)] [(.ref tb), (.int (3 : Int32))])) (fun t k => ?_) ?_
 · refine XS.iloadN X0.here hx rfl (hb hby d7_0) rfl ?_
   refine XS.aloadN X0.here hx rfl (hb hby d7_1) rfl rfl ?_
   exact k
 obtain ⟨cl1, Ar1, -, S1, N1_, -, -⟩ := id V_tb
 refine Go.step (S' := s₁.setTop (mkF m 3 #[rv tb, iv (3 : Int32)] [(.int cl1.slots.size.toInt32), (.int (3 : Int32))])) (fun t k => X0.arraylength hx (by rw [e0]; exact Ar1.1) (State.isArrayOf_alike hZ.alike Ar1.2.1) (g := (mkF m 2 #[rv tb, iv (3 : Int32)] [(.ref tb), (.int (3 : Int32))])) rfl rfl (hb hby d7_2) _ k) ?_
 rw [len_of S1 N1_]
 show Go p e below _ (s₁.setTop (mkF m 3 #[rv tb, iv (3 : Int32)] [(.int (3 : Int32)), (.int (3 : Int32))]))
 refine Go.step (S' := s₁.setTop (mkF m 4 #[rv tb, iv (3 : Int32)] [(.int ((3 : Int32) - (3 : Int32)))])) (fun t k => ?_) ?_
 · refine XS.isub X0.here hx rfl (hb hby d7_3) rfl ?_
   exact k
 rw [show ((3 : Int32) - (3 : Int32)) = (0 : Int32) from by decide]
 show Go p e below _ (s₁.setTop (mkF m 4 #[rv tb, iv (3 : Int32)] [(.int (0 : Int32))]))
 refine Go.step (S' := s₁.setTop (mkF m 7 #[rv tb, iv (3 : Int32)] [(.int (((0 : Int32).toUInt32 >>> ((31 : Int32) &&& 31).toUInt32).toInt32))])) (fun t k => ?_) ?_
 · refine XS.bipush X0.here hx rfl (hb hby d7_4) ?_
   refine XS.iushr X0.here hx rfl (hb hby d7_6) rfl ?_
   exact k
 rw [show (((0 : Int32).toUInt32 >>> ((31 : Int32) &&& 31).toUInt32).toInt32) = (0 : Int32) from by decide]
 show Go p e below _ (s₁.setTop (mkF m 7 #[rv tb, iv (3 : Int32)] [(.int (0 : Int32))]))
 refine Go.step (S' := s₁.setTop (mkF m 8 #[rv tb, iv (3 : Int32)] [(.int ((0 : Int32).toInt8.toInt32))])) (fun t k => ?_) ?_
 · refine XS.i2b X0.here hx rfl (hb hby d7_7) rfl ?_
   exact k
 rw [show ((0 : Int32).toInt8.toInt32) = (0 : Int32) from by decide]
 show Go p e below _ (s₁.setTop (mkF m 8 #[rv tb, iv (3 : Int32)] [(.int (0 : Int32))]))
 obtain ⟨fs, hr, hrun, hended, hW, hsame⟩ := X0.leave (v := some (.int (0 : Int32))) (fun h => by rw [Bd.returns] at h; cases h)
 refine Go.fin (S' := s₁.setFrames fs) ?_ hrun hended ⟨_, _, rfl, ?_, ⟨_, rfl⟩, hW, hsame.mono (by decide) (by decide)⟩
 · exact retOut X0 hx Bd.returns (by decide) (Or.inl ⟨rfl, Or.inr (Or.inr (Or.inl rfl)), _, rfl⟩) (hb hby d7_8) hr
 · show Q_rmCf3 Z tb kb x0 x1 x2 h0 n0 (some (.int (0 : Int32))) s₁.heap _
   rw [e0]
   exact ⟨rfl, N0, rfl⟩
theorem ef_rmN4_3 (m : MethodId) (so : Addr) (vc : Addr) : entryFrame m #[(.ref so), (.ref vc), (.int (0 : Int32)), (.int (3 : Int32)), .null] 6 = mkF m 0 #[.val (.ref so), .val (.ref vc), .val (.int (0 : Int32)), .val (.int (3 : Int32)), .val .null, .unset] [] := by first | (simp [entryFrame, mkF, argsToLocals, Value.category]; done) | rfl
abbrev rm_rmN4_3 : Room := ({ frames := 2, cells := 1, slots := 3, locals := 35 } : Room)
def Q_rmN4_3 (Z : State) (so : Addr) (vc : Addr) (kc : ClassId) (cs : Int32) (x0 : Int32) (x1 : Int32) (x2 : Int32) (h0 : Heap) (n0 : Nat) (v : Option Value) (h : Heap) (L : List Loc) : Prop := ∃ tb : Addr, ∃ kb : ClassId, (v = none) ∧ (Fr n0 L) ∧ (Keep h0 h [so]) ∧ (Exa Z h so "java/lang/String") ∧ (Fld Z h so "java/lang/String" "value" "[B" (.ref tb)) ∧ (Fld Z h so "java/lang/String" "coder" "B" (.int (0 : Int32))) ∧ (Arv Z h tb kb .byte (3 : Int32) [(.int (x0.toInt8.toInt32)), (.int (x1.toInt8.toInt32)), (.int (x2.toInt8.toInt32))] (.int (0 : Int32)))
set_option maxRecDepth 65536 in
set_option maxHeartbeats 4000000 in
theorem rmN4_3 (l : Launch) (Z : State) (a0 : Array Value) (hw : ∀ d ∈ tables_1, d.before a0 Z = true) (ws : List Jvm.Cond) (so : Addr) (vc : Addr) (kc : ClassId) (cs : Int32) (x0 : Int32) (x1 : Int32) (x2 : Int32) (h0 : Heap) (n0 : Nat) (O : Old Z n0 h0) (S_CS : Sta Z Z.heap "java/lang/String" "COMPACT_STRINGS" "Z" (.int cs)) (E_so : Exa Z h0 so "java/lang/String") (F_v : Fld Z h0 so "java/lang/String" "value" "[B" .null) (F_c : Fld Z h0 so "java/lang/String" "coder" "B" (.int (0 : Int32))) (V_vc : Arv Z h0 vc kc .char (3 : Int32) [(.int x0), (.int x1), (.int x2)] (.int (0 : Int32))) (g_so : n0 ≤ so) (hcs : ¬ (cs = (0 : Int32))) (u0 : ¬ ((255 : Int32) < x0)) (u1 : ¬ ((255 : Int32) < x1)) (u2 : ¬ ((255 : Int32) < x2)) :
    MetFree l y_11 (head1 (Jvm.Cond.code y_11 jdk_42_method_149_code 6 none :: ws) rm_rmN4_3) (fun A_ U => A_ = #[(.ref so), (.ref vc), (.int (0 : Int32)), (.int (3 : Int32)), .null] ∧ Z.Warmed39 U.vm ∧ U.heap = h0) (fun _ _ _ _ _ => True) (fun _ U o U' => ∃ v L, o = .returned v ∧ Q_rmN4_3 Z so vc kc cs x0 x1 x2 h0 n0 v U'.heap L ∧ FrameEnd U o U' L rm_rmN4_3.cells rm_rmN4_3.slots) := by
 refine MetFree.of_bodySF (plainFor_of_name pn_java_lang_String) hisR ?_
 intro p e s m args below meth c s₁ Bd hml0 hP hK
 obtain ⟨rfl, hZ, hh⟩ := hP
 have hx := Bd.exec
 have hby := Bd.bytes
 have hml : c.maxLocals = 6 := hml0
 have hown : s.vm.findClass "java/lang/String" = some m.cls := findClass_of_methodNamed Bd.named
 have hnm := (name_of_methodNamed Bd.named Bd.method).1
 have X0 : Stand p l e rm_rmN4_3 s m #[(.ref so), (.ref vc), (.int (0 : Int32)), (.int (3 : Int32)), .null] below meth c s₁ [] 0 0 := Stand.of_body Bd
 have e0 : s₁.heap = h0 := by rw [← hh, Bd.state]; rfl
 have N0 := Fr.nil n0
 have K := Keep.refl h0 [so]
 refine Go.step (p := p) (e := e) (below := below) (G := fun o U' => ∃ v L, o = .returned v ∧ Q_rmN4_3 Z so vc kc cs x0 x1 x2 h0 n0 v U'.heap L ∧ FrameEnd s o U' L rm_rmN4_3.cells rm_rmN4_3.slots) (S' := s₁.setTop (mkF m 0 #[rv so, rv vc, iv (0 : Int32), iv (3 : Int32), .val .null, u_] [])) (fun t k => castTop (ef_rmN4_3 m so vc) k) ?_
 refine Go.step (S' := s₁.setTop (mkF m 1 #[rv so, rv vc, iv (0 : Int32), iv (3 : Int32), .val .null, u_] [(.ref so)])) (fun t k => ?_) ?_
 · refine XS.aloadN X0.here hx rfl (hb hby d3_0) rfl rfl ?_
   exact k
 obtain ⟨T1, X1, e1, st1⟩ := initO X0 hx hZ hown (own_w hw 16 rfl) (own_w hw 17 rfl) (own_w hw 18 rfl) e0 (g := (mkF m 1 #[rv so, rv vc, iv (0 : Int32), iv (3 : Int32), .val .null, u_] [(.ref so)])) rfl (by rw [hml]; rfl) rfl (hb hby d3_1) (by decide) (W := 0) (by show 2 * 0 + _ ≤ _; exact Nat.le_of_eq rfl) (by decide)
 refine Go.step st1 ?_
 refine Go.step (S' := T1.setTop (mkF m 27 #[rv so, rv vc, iv (0 : Int32), iv (3 : Int32), .val .null, u_] [])) (fun t k => ?_) ?_
 · refine XS.iloadN X1.here hx rfl (hb hby d3_4) rfl ?_
   refine XS.ifYes X1.here hx rfl (pc0 := 5) (pc' := 27) rfl (hb hby d3_5) rfl ((if0 _ _).trans (feq ((by decide) : ¬ ((3 : Int32) = (0 : Int32)))).2) (by decide) (by decide) ?_
   exact k
 obtain ⟨T2, X2, e2, st2⟩ := getS2 X1 hx hZ hown (host := "") (Or.inl (own_w hw 19 rfl)) Via.refl e1 (S_CS.ext O.2) (g := (mkF m 27 #[rv so, rv vc, iv (0 : Int32), iv (3 : Int32), .val .null, u_] [])) rfl (hb hby d3_27)
 refine Go.step st2 ?_
 refine Go.step (S' := T2.setTop (mkF m 36 #[rv so, rv vc, iv (0 : Int32), iv (3 : Int32), .val .null, u_] [(.int (3 : Int32)), (.int (0 : Int32)), (.ref vc)])) (fun t k => ?_) ?_
 · refine XS.ifNo X2.here hx rfl (hb hby d3_30) rfl ((if0 _ _).trans (feq (hcs : ¬ (cs = (0 : Int32)))).1) ?_
   refine XS.aloadN X2.here hx rfl (hb hby d3_33) rfl rfl ?_
   refine XS.iloadN X2.here hx rfl (hb hby d3_34) rfl ?_
   refine XS.iloadN X2.here hx rfl (hb hby d3_35) rfl ?_
   exact k
 obtain ⟨_, _, ⟨T3, L3, k3, n3⟩, -, X3, ⟨Lc3, hQ3, l3, y3, z3⟩, st3⟩ := Jvm.LawKit.callS X2 hx (y := y_9) hown (mvT hZ (own_w hw 20 rfl)) (mvT hZ (own_w hw 21 rfl)) (mvT hZ (own_w hw 22 rfl)) (mvT hZ (own_w hw 23 rfl)) (by decide) (backOf (W := 0) (rmCm3 l Z a0 hw [] vc kc x0 x1 x2 h0 n0 O V_vc u0 u1 u2) hZ (own_w hw 23 rfl) (own_w hw 22 rfl) (by decide) (by decide)) (g := (mkF m 36 #[rv so, rv vc, iv (0 : Int32), iv (3 : Int32), .val .null, u_] [(.int (3 : Int32)), (.int (0 : Int32)), (.ref vc)])) rfl (by rw [hml]; rfl) (argsL := [(.ref vc), (.int (0 : Int32)), (.int (3 : Int32))]) (rest := []) (lenOf pd__28_5bCII_29_5bB rfl) rfl (Nat.le_of_eq rfl) (hb hby d3_36) (fun _ _ => ⟨rfl, e2, (by decide : 0 + 1 ≤ _), (by decide : 0 + 3 ≤ _)⟩)
 dsimp only [Pt.U, Pt.locs, Pt.cells, Pt.slots] at X3 l3 y3 z3 st3 hQ3
 subst l3 y3 z3
 obtain ⟨b_3, kb_3, rfl, Nq3, K3, P3_V⟩ := hQ3
 have N3 := Fr.app N0 Nq3
 have O := O.keep K3 all0
 have E_so := E_so.keep K3
 have F_v := F_v.keep K3 nin0
 have F_c := F_c.keep K3 nin0
 have V_vc := V_vc.keep K3 nin0
 have K := K.trans K3 all0
 have V_3 := P3_V
 refine Go.step st3 ?_
 refine Go.step (S' := T3.setTop (mkF m 45 #[rv so, rv vc, iv (0 : Int32), iv (3 : Int32), .val .null, rv b_3] [(.int (3 : Int32)), (.ref b_3), (.ref so)])) (fun t k => ?_) ?_
 · refine XS.astore X3.here hx rfl (hb hby d3_39) rfl rfl (l' := #[rv so, rv vc, iv (0 : Int32), iv (3 : Int32), .val .null, rv b_3]) rfl ?_
   refine XS.aloadN X3.here hx rfl (hb hby d3_41) rfl rfl ?_
   refine XS.aload X3.here hx rfl (hb hby d3_42) rfl rfl ?_
   refine XS.iloadN X3.here hx rfl (hb hby d3_44) rfl ?_
   exact k
 obtain ⟨_, _, ⟨T4, L4, k4, n4⟩, -, X4, ⟨Lc4, hQ4, l4, y4, z4⟩, st4⟩ := Jvm.LawKit.callS X3 hx (y := y_10) hown (mvT hZ (own_w hw 28 rfl)) (mvT hZ (own_w hw 29 rfl)) (mvT hZ (own_w hw 22 rfl)) (mvT hZ (own_w hw 30 rfl)) (by decide) (backOf (W := 1) (rmCf3 l Z a0 hw [] b_3 kb_3 x0 x1 x2 T3.heap n0 O V_3) hZ (own_w hw 30 rfl) (own_w hw 22 rfl) (by decide) (by decide)) (g := (mkF m 45 #[rv so, rv vc, iv (0 : Int32), iv (3 : Int32), .val .null, rv b_3] [(.int (3 : Int32)), (.ref b_3), (.ref so)])) rfl (by rw [hml]; rfl) (argsL := [(.ref b_3), (.int (3 : Int32))]) (rest := [(.ref so)]) (lenOf pd__28_5bBI_29B rfl) rfl (Nat.le_of_eq rfl) (hb hby d3_45) (fun _ _ => ⟨rfl, (Eq.refl T3.heap), (by decide : 1 + 0 ≤ _), (by decide : 3 + 0 ≤ _)⟩)
 dsimp only [Pt.U, Pt.locs, Pt.cells, Pt.slots] at X4 l4 y4 z4 st4 hQ4
 subst l4 y4 z4
 obtain ⟨rfl, Nq4, e4⟩ := hQ4
 have N4 := Fr.app N3 Nq4
 refine Go.step st4 ?_
 obtain ⟨T5, h5, X5, e5, W5, st5⟩ := putFN X4 hx hZ hown (own_w hw 31 rfl) Via.refl e4 F_c E_so (Or.inr ⟨(own_w hw 32 rfl), rfl, hnm⟩) (own_w hw 6 rfl) (ty := .byte) (v' := (.int (0 : Int32))) (by decide) rfl rfl (g := (mkF m 48 #[rv so, rv vc, iv (0 : Int32), iv (3 : Int32), .val .null, rv b_3] [(.int (0 : Int32)), (.ref so)])) rfl rfl (hb hby d3_48)
 have ne_vc_so : vc ≠ so := Ne.symm (Exa.neArv E_so V_vc (own_w hw 6 rfl))
 have ne_b_3_so : b_3 ≠ so := Ne.symm (Exa.neArv E_so V_3 (own_w hw 6 rfl))
 have O := O.wr W5 g_so
 have E_so := E_so.wr W5
 have F_v := F_v.other W5 (Or.inr (slot_ne (Or.inr (own_w hw 34 rfl)) (Or.inr (own_w hw 32 rfl)) (by decide) (t := (.array .byte)) (t' := .byte) (by decide) (by decide)))
 have F_c := F_c.same W5
 have V_vc := V_vc.other W5 ne_vc_so
 have K := K.wr W5 (Or.inl (List.mem_of_getElem? (i := 0) rfl))
 have V_3 := V_3.other W5 ne_b_3_so
 have N5 := Fr.snoc X5 N4 g_so
 refine Go.step st5 ?_
 refine Go.step (S' := T5.setTop (mkF m 54 #[rv so, rv vc, iv (0 : Int32), iv (3 : Int32), .val .null, rv b_3] [(.ref b_3), (.ref so)])) (fun t k => ?_) ?_
 · refine XS.aloadN X5.here hx rfl (hb hby d3_51) rfl rfl ?_
   refine XS.aload X5.here hx rfl (hb hby d3_52) rfl rfl ?_
   exact k
 obtain ⟨T6, h6, X6, e6, W6, st6⟩ := putF X5 hx hZ hown (host := "") (Or.inl (own_w hw 33 rfl)) Via.refl e5 F_v E_so (Or.inr ⟨(own_w hw 34 rfl), rfl, hnm⟩) (own_w hw 6 rfl) (ty := (.array .byte)) (by decide) rfl rfl (g := (mkF m 54 #[rv so, rv vc, iv (0 : Int32), iv (3 : Int32), .val .null, rv b_3] [(.ref b_3), (.ref so)])) rfl rfl (hb hby d3_54)
 have O := O.wr W6 g_so
 have E_so := E_so.wr W6
 have F_v := F_v.same W6
 have F_c := F_c.other W6 (Or.inr (slot_ne (Or.inr (own_w hw 32 rfl)) (Or.inr (own_w hw 34 rfl)) (by decide) (t := .byte) (t' := (.array .byte)) (by decide) (by decide)))
 have V_vc := V_vc.other W6 ne_vc_so
 have K := K.wr W6 (Or.inl (List.mem_of_getElem? (i := 0) rfl))
 have V_3 := V_3.other W6 ne_b_3_so
 have N6 := Fr.snoc X6 N5 g_so
 refine Go.step st6 ?_
 obtain ⟨fs, hr, hrun, hended, hW, hsame⟩ := X6.leave (v := none) (fun _ => rfl)
 refine Go.fin (S' := T6.setFrames fs) ?_ hrun hended ⟨_, _, rfl, ?_, ⟨_, rfl⟩, hW, hsame.mono (by decide) (by decide)⟩
 · exact X6.returnOut hx Bd.returns (hb hby d3_57) hr
 · show Q_rmN4_3 Z so vc kc cs x0 x1 x2 h0 n0 (none) T6.heap _
   rw [e6]
   exact ⟨b_3, kb_3, rfl, N6, K, E_so, F_v, F_c, V_3⟩
theorem ef_rmNS3 (m : MethodId) (so : Addr) (vc : Addr) : entryFrame m #[(.ref so), (.ref vc)] 2 = mkF m 0 #[.val (.ref so), .val (.ref vc)] [] := by first | (simp [entryFrame, mkF, argsToLocals, Value.category]; done) | rfl
abbrev rm_rmNS3 : Room := ({ frames := 3, cells := 1, slots := 3, locals := 52 } : Room)
def Q_rmNS3 (Z : State) (so : Addr) (vc : Addr) (kc : ClassId) (cs : Int32) (x0 : Int32) (x1 : Int32) (x2 : Int32) (h0 : Heap) (n0 : Nat) (v : Option Value) (h : Heap) (L : List Loc) : Prop := ∃ tb : Addr, ∃ kb : ClassId, (v = none) ∧ (Fr n0 L) ∧ (Keep h0 h [so]) ∧ (Exa Z h so "java/lang/String") ∧ (Fld Z h so "java/lang/String" "value" "[B" (.ref tb)) ∧ (Fld Z h so "java/lang/String" "coder" "B" (.int (0 : Int32))) ∧ (Arv Z h tb kb .byte (3 : Int32) [(.int (x0.toInt8.toInt32)), (.int (x1.toInt8.toInt32)), (.int (x2.toInt8.toInt32))] (.int (0 : Int32)))
set_option maxRecDepth 65536 in
set_option maxHeartbeats 4000000 in
theorem rmNS3 (l : Launch) (Z : State) (a0 : Array Value) (hw : ∀ d ∈ tables_1, d.before a0 Z = true) (ws : List Jvm.Cond) (so : Addr) (vc : Addr) (kc : ClassId) (cs : Int32) (x0 : Int32) (x1 : Int32) (x2 : Int32) (h0 : Heap) (n0 : Nat) (O : Old Z n0 h0) (S_CS : Sta Z Z.heap "java/lang/String" "COMPACT_STRINGS" "Z" (.int cs)) (E_so : Exa Z h0 so "java/lang/String") (F_v : Fld Z h0 so "java/lang/String" "value" "[B" .null) (F_c : Fld Z h0 so "java/lang/String" "coder" "B" (.int (0 : Int32))) (V_vc : Arv Z h0 vc kc .char (3 : Int32) [(.int x0), (.int x1), (.int x2)] (.int (0 : Int32))) (g_so : n0 ≤ so) (hcs : ¬ (cs = (0 : Int32))) (u0 : ¬ ((255 : Int32) < x0)) (u1 : ¬ ((255 : Int32) < x1)) (u2 : ¬ ((255 : Int32) < x2)) :
    MetFree l y_12 (head1 (Jvm.Cond.code y_12 jdk_42_method_3_code 2 none :: ws) rm_rmNS3) (fun A_ U => A_ = #[(.ref so), (.ref vc)] ∧ Z.Warmed39 U.vm ∧ U.heap = h0) (fun _ _ _ _ _ => True) (fun _ U o U' => ∃ v L, o = .returned v ∧ Q_rmNS3 Z so vc kc cs x0 x1 x2 h0 n0 v U'.heap L ∧ FrameEnd U o U' L rm_rmNS3.cells rm_rmNS3.slots) := by
 refine MetFree.of_bodySF (plainFor_of_name pn_java_lang_String) hisR ?_
 intro p e s m args below meth c s₁ Bd hml0 hP hK
 obtain ⟨rfl, hZ, hh⟩ := hP
 have hx := Bd.exec
 have hby := Bd.bytes
 have hml : c.maxLocals = 2 := hml0
 have hown : s.vm.findClass "java/lang/String" = some m.cls := findClass_of_methodNamed Bd.named
 have hnm := (name_of_methodNamed Bd.named Bd.method).1
 have X0 : Stand p l e rm_rmNS3 s m #[(.ref so), (.ref vc)] below meth c s₁ [] 0 0 := Stand.of_body Bd
 have e0 : s₁.heap = h0 := by rw [← hh, Bd.state]; rfl
 have N0 := Fr.nil n0
 have K := Keep.refl h0 [so]
 refine Go.step (p := p) (e := e) (below := below) (G := fun o U' => ∃ v L, o = .returned v ∧ Q_rmNS3 Z so vc kc cs x0 x1 x2 h0 n0 v U'.heap L ∧ FrameEnd s o U' L rm_rmNS3.cells rm_rmNS3.slots) (S' := s₁.setTop (mkF m 0 #[rv so, rv vc] [])) (fun t k => castTop (ef_rmNS3 m so vc) k) ?_
 refine Go.step (S' := s₁.setTop (mkF m 4 #[rv so, rv vc] [(.ref vc), (.int (0 : Int32)), (.ref vc), (.ref so)])) (fun t k => ?_) ?_
 · refine XS.aloadN X0.here hx rfl (hb hby d2_0) rfl rfl ?_
   refine XS.aloadN X0.here hx rfl (hb hby d2_1) rfl rfl ?_
   refine XS.iconst X0.here hx rfl (hb hby d2_2) ?_
   refine XS.aloadN X0.here hx rfl (hb hby d2_3) rfl rfl ?_
   exact k
 obtain ⟨cl1, Ar1, -, S1, N1_, -, -⟩ := id V_vc
 refine Go.step (S' := s₁.setTop (mkF m 5 #[rv so, rv vc] [(.int cl1.slots.size.toInt32), (.int (0 : Int32)), (.ref vc), (.ref so)])) (fun t k => X0.arraylength hx (by rw [e0]; exact Ar1.1) (State.isArrayOf_alike hZ.alike Ar1.2.1) (g := (mkF m 4 #[rv so, rv vc] [(.ref vc), (.int (0 : Int32)), (.ref vc), (.ref so)])) rfl rfl (hb hby d2_4) _ k) ?_
 rw [len_of S1 N1_]
 show Go p e below _ (s₁.setTop (mkF m 5 #[rv so, rv vc] [(.int (3 : Int32)), (.int (0 : Int32)), (.ref vc), (.ref so)]))
 refine Go.step (S' := s₁.setTop (mkF m 6 #[rv so, rv vc] [.null, (.int (3 : Int32)), (.int (0 : Int32)), (.ref vc), (.ref so)])) (fun t k => ?_) ?_
 · refine XS.aconstNull X0.here hx rfl (hb hby d2_5) ?_
   exact k
 obtain ⟨_, _, ⟨T2, L2, k2, n2⟩, -, X2, ⟨Lc2, hQ2, l2, y2, z2⟩, st2⟩ := X0.specialBack hx (y := y_11) rfl hown (mvT hZ (own_w hw 12 rfl)) (mvT hZ (own_w hw 13 rfl)) (mvT hZ (own_w hw 15 rfl)) (by decide) (backOf (W := 0) (rmN4_3 l Z a0 hw [] so vc kc cs x0 x1 x2 h0 n0 O S_CS E_so F_v F_c V_vc (by assumption) hcs u0 u1 u2) hZ (own_w hw 15 rfl) (own_w hw 7 rfl) (by decide) (by decide)) (g := (mkF m 6 #[rv so, rv vc] [.null, (.int (3 : Int32)), (.int (0 : Int32)), (.ref vc), (.ref so)])) rfl (by rw [hml]; rfl) (Steps.refl _) (a := so) (argsL := [(.ref vc), (.int (0 : Int32)), (.int (3 : Int32)), .null]) (rest := []) (lenOf pd__28_5bCIILjava_2flang_2fVoid_3b_29V rfl) rfl (Nat.le_of_eq rfl) (hb hby d2_6) (fun _ _ => ⟨rfl, e0, (by decide : 0 + 1 ≤ _), (by decide : 0 + 3 ≤ _)⟩)
 dsimp only [Pt.U, Pt.locs, Pt.cells, Pt.slots] at X2 l2 y2 z2 st2 hQ2
 subst l2 y2 z2
 obtain ⟨tb_2, kb_2, rfl, Nq2, K2, P2_E, P2_Fv, P2_Fc, P2_V⟩ := hQ2
 have N2 := Fr.app N0 Nq2
 have ne_vc_so : vc ≠ so := Ne.symm (Exa.neArv E_so V_vc (own_w hw 6 rfl))
 have O := O.keep K2 (allS g_so all0)
 have E_so := E_so.keep K2
 have V_vc := V_vc.keep K2 (ninS ne_vc_so nin0)
 have K := K.trans K2 (allS (Or.inl (List.mem_of_getElem? (i := 0) rfl)) all0)
 have E_2 := P2_E
 have Fv_2 := P2_Fv
 have Fc_2 := P2_Fc
 have V_2 := P2_V
 refine Go.step (fun t k => st2.trans k) ?_
 obtain ⟨fs, hr, hrun, hended, hW, hsame⟩ := X2.leave (v := none) (fun _ => rfl)
 refine Go.fin (S' := T2.setFrames fs) ?_ hrun hended ⟨_, _, rfl, ?_, ⟨_, rfl⟩, hW, hsame.mono (by decide) (by decide)⟩
 · exact X2.returnOut hx Bd.returns (hb hby d2_9) hr
 · show Q_rmNS3 Z so vc kc cs x0 x1 x2 h0 n0 (none) T2.heap _
   exact ⟨tb_2, kb_2, rfl, N2, K, E_so, Fv_2, Fc_2, V_2⟩
theorem ef_rmCl4 (m : MethodId) (vc : Addr) (db : Addr) : entryFrame m #[(.ref vc), (.int (0 : Int32)), (.ref db), (.int (0 : Int32)), (.int (4 : Int32))] 7 = mkF m 0 #[.val (.ref vc), .val (.int (0 : Int32)), .val (.ref db), .val (.int (0 : Int32)), .val (.int (4 : Int32)), .unset, .unset] [] := by first | (simp [entryFrame, mkF, argsToLocals, Value.category]; done) | rfl
abbrev rm_rmCl4 : Room := ({ frames := 0, cells := 0, slots := 0, locals := 0 } : Room)
def Q_rmCl4 (Z : State) (vc : Addr) (db : Addr) (kc : ClassId) (kb : ClassId) (x0 : Int32) (x1 : Int32) (x2 : Int32) (x3 : Int32) (h0 : Heap) (n0 : Nat) (v : Option Value) (h : Heap) (L : List Loc) : Prop := (v = some (.int (4 : Int32))) ∧ (Fr n0 L) ∧ (Keep h0 h [db]) ∧ (Arv Z h db kb .byte (4 : Int32) [(.int (x0.toInt8.toInt32)), (.int (x1.toInt8.toInt32)), (.int (x2.toInt8.toInt32)), (.int (x3.toInt8.toInt32))] (.int (0 : Int32)))
set_option maxRecDepth 65536 in
set_option maxHeartbeats 4000000 in
theorem rmCl4 (l : Launch) (Z : State) (a0 : Array Value) (hw : ∀ d ∈ tables_1, d.before a0 Z = true) (ws : List Jvm.Cond) (vc : Addr) (db : Addr) (kc : ClassId) (kb : ClassId) (x0 : Int32) (x1 : Int32) (x2 : Int32) (x3 : Int32) (h0 : Heap) (n0 : Nat) (O : Old Z n0 h0) (V_vc : Arv Z h0 vc kc .char (4 : Int32) [(.int x0), (.int x1), (.int x2), (.int x3)] (.int (0 : Int32))) (V_db : Arv Z h0 db kb .byte (4 : Int32) [(.int (0 : Int32)), (.int (0 : Int32)), (.int (0 : Int32)), (.int (0 : Int32))] (.int (0 : Int32))) (g_db : n0 ≤ db) (ne_vc_db : vc ≠ db) (u0 : ¬ ((255 : Int32) < x0)) (u1 : ¬ ((255 : Int32) < x1)) (u2 : ¬ ((255 : Int32) < x2)) (u3 : ¬ ((255 : Int32) < x3)) :
    MetFree l y_8 (head1 (Jvm.Cond.code y_8 jdk_52_method_21_code 7 (some .int) :: ws) rm_rmCl4) (fun A_ U => A_ = #[(.ref vc), (.int (0 : Int32)), (.ref db), (.int (0 : Int32)), (.int (4 : Int32))] ∧ Z.Warmed39 U.vm ∧ U.heap = h0) (fun _ _ _ _ _ => True) (fun _ U o U' => ∃ v L, o = .returned v ∧ Q_rmCl4 Z vc db kc kb x0 x1 x2 x3 h0 n0 v U'.heap L ∧ FrameEnd U o U' L rm_rmCl4.cells rm_rmCl4.slots) := by
 refine MetFree.of_bodySF (plainFor_of_name pn_java_lang_StringUTF16) hisR ?_
 intro p e s m args below meth c s₁ Bd hml0 hP hK
 obtain ⟨rfl, hZ, hh⟩ := hP
 have hx := Bd.exec
 have hby := Bd.bytes
 have hml : c.maxLocals = 7 := hml0
 have hown : s.vm.findClass "java/lang/StringUTF16" = some m.cls := findClass_of_methodNamed Bd.named
 have hnm := (name_of_methodNamed Bd.named Bd.method).1
 have X0 : Stand p l e rm_rmCl4 s m #[(.ref vc), (.int (0 : Int32)), (.ref db), (.int (0 : Int32)), (.int (4 : Int32))] below meth c s₁ [] 0 0 := Stand.of_body Bd
 have e0 : s₁.heap = h0 := by rw [← hh, Bd.state]; rfl
 have N0 := Fr.nil n0
 have K := Keep.refl h0 [db]
 refine Go.step (p := p) (e := e) (below := below) (G := fun o U' => ∃ v L, o = .returned v ∧ Q_rmCl4 Z vc db kc kb x0 x1 x2 x3 h0 n0 v U'.heap L ∧ FrameEnd s o U' L rm_rmCl4.cells rm_rmCl4.slots) (S' := s₁.setTop (mkF m 0 #[rv vc, iv (0 : Int32), rv db, iv (0 : Int32), iv (4 : Int32), u_, u_] [])) (fun t k => castTop (ef_rmCl4 m vc db) k) ?_
 refine Go.step (S' := s₁.setTop (mkF m 12 #[rv vc, iv (0 : Int32), rv db, iv (0 : Int32), iv (4 : Int32), iv (0 : Int32), u_] [(.int (0 : Int32)), (.ref vc)])) (fun t k => ?_) ?_
 · refine XS.iconst X0.here hx rfl (hb hby d6_0) ?_
   refine XS.istore X0.here hx rfl (hb hby d6_1) rfl (l' := #[rv vc, iv (0 : Int32), rv db, iv (0 : Int32), iv (4 : Int32), iv (0 : Int32), u_]) rfl ?_
   refine XS.iload X0.here hx rfl (hb hby d6_3) rfl ?_
   refine XS.iload X0.here hx rfl (hb hby d6_5) rfl ?_
   refine XS.icmpNo X0.here hx rfl (hb hby d6_7) rfl (tlt ((by decide) : (0 : Int32) < (4 : Int32))).2.1 ?_
   refine XS.aloadN X0.here hx rfl (hb hby d6_10) rfl rfl ?_
   show Steps p.tables e below (s₁.setTop (mkF m 11 #[rv vc, iv (0 : Int32), rv db, iv (0 : Int32), iv (4 : Int32), iv (0 : Int32), u_] [(.ref vc)])) _
   refine XS.iloadN X0.here hx rfl (hb hby d6_11) rfl ?_
   exact k
 obtain ⟨cl1, Ar1, -, S1, -, H1, -⟩ := id V_vc
 have hin1 : ¬ ((0 : Int32) < 0 ∨ cl1.slots.size ≤ ((0 : Int32)).toNatClampNeg) := inb_of S1 ⟨by decide, by decide⟩
 refine Go.step (S' := s₁.setTop (mkF m 13 #[rv vc, iv (0 : Int32), rv db, iv (0 : Int32), iv (4 : Int32), iv (0 : Int32), u_] [(.int x0)])) (fun t k => X0.caload hx (j := (0 : Int32)) (v := (.int x0)) (by rw [e0]; exact Ar1.1) (State.isArrayOf_alike hZ.alike Ar1.2.1) Ar1.2.2 hin1 (H1.at hin1 rfl) (g := (mkF m 12 #[rv vc, iv (0 : Int32), rv db, iv (0 : Int32), iv (4 : Int32), iv (0 : Int32), u_] [(.int (0 : Int32)), (.ref vc)])) rfl rfl (hb hby d6_12) _ k) ?_
 refine Go.step (S' := s₁.setTop (mkF m 31 #[rv vc, iv (0 : Int32), rv db, iv (0 : Int32), iv (4 : Int32), iv (0 : Int32), iv x0] [(.int (x0.toInt8.toInt32)), (.int (0 : Int32)), (.ref db)])) (fun t k => ?_) ?_
 · refine XS.istore X0.here hx rfl (hb hby d6_13) rfl (l' := #[rv vc, iv (0 : Int32), rv db, iv (0 : Int32), iv (4 : Int32), iv (0 : Int32), iv x0]) rfl ?_
   refine XS.iload X0.here hx rfl (hb hby d6_15) rfl ?_
   refine XS.sipush X0.here hx rfl (hb hby d6_17) ?_
   refine XS.icmpYes X0.here hx rfl (pc0 := 20) (pc' := 26) rfl (hb hby d6_20) rfl (flt (u0 : ¬ ((255 : Int32) < x0))).2.2.2 (by decide) (by decide) ?_
   refine XS.aloadN X0.here hx rfl (hb hby d6_26) rfl rfl ?_
   refine XS.iloadN X0.here hx rfl (hb hby d6_27) rfl ?_
   show Steps p.tables e below (s₁.setTop (mkF m 28 #[rv vc, iv (0 : Int32), rv db, iv (0 : Int32), iv (4 : Int32), iv (0 : Int32), iv x0] [(.int (0 : Int32)), (.ref db)])) _
   refine XS.iload X0.here hx rfl (hb hby d6_28) rfl ?_
   refine XS.i2b X0.here hx rfl (hb hby d6_30) rfl ?_
   exact k
 obtain ⟨cl2, Ar2, q2, S2, N2_, H2, G2⟩ := V_db
 have hin2 : ¬ ((0 : Int32) < 0 ∨ cl2.slots.size ≤ ((0 : Int32)).toNatClampNeg) := inb_of S2 ⟨by decide, by decide⟩
 obtain ⟨T2, h2, X2, e2, W2, st2⟩ := stB X0 hx hZ e0 Ar2 (j := (0 : Int32)) hin2 (g := (mkF m 31 #[rv vc, iv (0 : Int32), rv db, iv (0 : Int32), iv (4 : Int32), iv (0 : Int32), iv x0] [(.int (x0.toInt8.toInt32)), (.int (0 : Int32)), (.ref db)])) rfl rfl (hb hby d6_31)
 have O := O.wr W2 g_db
 have V_vc := V_vc.other W2 ne_vc_db
 have K := K.wr W2 (Or.inl (List.mem_of_getElem? (i := 0) rfl))
 have V_db : Arv Z h2 db kb .byte (4 : Int32) [(.int ((x0.toInt8.toInt32).toInt8.toInt32)), (.int (0 : Int32)), (.int (0 : Int32)), (.int (0 : Int32))] (.int (0 : Int32)) := Arv.set Ar2 q2 S2 N2_ H2 G2 (fits_nar_byte _) W2 0 rfl (Nat.le_of_ble_eq_true rfl)
 rw [(own_b2 x0 : ((x0.toInt8.toInt32).toInt8.toInt32) = (x0.toInt8.toInt32))] at V_db
 have N2 := Fr.snoc X2 N0 g_db
 refine Go.step st2 ?_
 refine Go.step (S' := T2.setTop (mkF m 35 #[rv vc, iv ((0 : Int32) + (1 : Int32)), rv db, iv (0 : Int32), iv (4 : Int32), iv (0 : Int32), iv x0] [])) (fun t k => ?_) ?_
 · refine XS.iinc X2.here hx rfl (hb hby d6_32) rfl (l' := #[rv vc, iv ((0 : Int32) + (1 : Int32)), rv db, iv (0 : Int32), iv (4 : Int32), iv (0 : Int32), iv x0]) rfl ?_
   exact k
 rw [show ((0 : Int32) + (1 : Int32)) = (1 : Int32) from by decide]
 show Go p e below _ (T2.setTop (mkF m 35 #[rv vc, iv (1 : Int32), rv db, iv (0 : Int32), iv (4 : Int32), iv (0 : Int32), iv x0] []))
 refine Go.step (S' := T2.setTop (mkF m 38 #[rv vc, iv (1 : Int32), rv db, iv ((0 : Int32) + (1 : Int32)), iv (4 : Int32), iv (0 : Int32), iv x0] [])) (fun t k => ?_) ?_
 · refine XS.iinc X2.here hx rfl (hb hby d6_35) rfl (l' := #[rv vc, iv (1 : Int32), rv db, iv ((0 : Int32) + (1 : Int32)), iv (4 : Int32), iv (0 : Int32), iv x0]) rfl ?_
   exact k
 rw [show ((0 : Int32) + (1 : Int32)) = (1 : Int32) from by decide]
 show Go p e below _ (T2.setTop (mkF m 38 #[rv vc, iv (1 : Int32), rv db, iv (1 : Int32), iv (4 : Int32), iv (0 : Int32), iv x0] []))
 refine Go.step (S' := T2.setTop (mkF m 41 #[rv vc, iv (1 : Int32), rv db, iv (1 : Int32), iv (4 : Int32), iv ((0 : Int32) + (1 : Int32)), iv x0] [])) (fun t k => ?_) ?_
 · refine XS.iinc X2.here hx rfl (hb hby d6_38) rfl (l' := #[rv vc, iv (1 : Int32), rv db, iv (1 : Int32), iv (4 : Int32), iv ((0 : Int32) + (1 : Int32)), iv x0]) rfl ?_
   exact k
 rw [show ((0 : Int32) + (1 : Int32)) = (1 : Int32) from by decide]
 show Go p e below _ (T2.setTop (mkF m 41 #[rv vc, iv (1 : Int32), rv db, iv (1 : Int32), iv (4 : Int32), iv (1 : Int32), iv x0] []))
 refine Go.step (S' := T2.setTop (mkF m 12 #[rv vc, iv (1 : Int32), rv db, iv (1 : Int32), iv (4 : Int32), iv (1 : Int32), iv x0] [(.int (1 : Int32)), (.ref vc)])) (fun t k => ?_) ?_
 · refine XS.goto X2.here hx rfl (pc0 := 41) (pc' := 3) rfl (hb hby d6_41) (by decide) (by decide) ?_
   refine XS.iload X2.here hx rfl (hb hby d6_3) rfl ?_
   refine XS.iload X2.here hx rfl (hb hby d6_5) rfl ?_
   refine XS.icmpNo X2.here hx rfl (hb hby d6_7) rfl (tlt ((by decide) : (1 : Int32) < (4 : Int32))).2.1 ?_
   refine XS.aloadN X2.here hx rfl (hb hby d6_10) rfl rfl ?_
   refine XS.iloadN X2.here hx rfl (hb hby d6_11) rfl ?_
   exact k
 obtain ⟨cl3, Ar3, -, S3, -, H3, -⟩ := id V_vc
 have hin3 : ¬ ((1 : Int32) < 0 ∨ cl3.slots.size ≤ ((1 : Int32)).toNatClampNeg) := inb_of S3 ⟨by decide, by decide⟩
 refine Go.step (S' := T2.setTop (mkF m 13 #[rv vc, iv (1 : Int32), rv db, iv (1 : Int32), iv (4 : Int32), iv (1 : Int32), iv x0] [(.int x1)])) (fun t k => X2.caload hx (j := (1 : Int32)) (v := (.int x1)) (by rw [e2]; exact Ar3.1) (State.isArrayOf_alike hZ.alike Ar3.2.1) Ar3.2.2 hin3 (H3.at hin3 rfl) (g := (mkF m 12 #[rv vc, iv (1 : Int32), rv db, iv (1 : Int32), iv (4 : Int32), iv (1 : Int32), iv x0] [(.int (1 : Int32)), (.ref vc)])) rfl rfl (hb hby d6_12) _ k) ?_
 refine Go.step (S' := T2.setTop (mkF m 31 #[rv vc, iv (1 : Int32), rv db, iv (1 : Int32), iv (4 : Int32), iv (1 : Int32), iv x1] [(.int (x1.toInt8.toInt32)), (.int (1 : Int32)), (.ref db)])) (fun t k => ?_) ?_
 · refine XS.istore X2.here hx rfl (hb hby d6_13) rfl (l' := #[rv vc, iv (1 : Int32), rv db, iv (1 : Int32), iv (4 : Int32), iv (1 : Int32), iv x1]) rfl ?_
   refine XS.iload X2.here hx rfl (hb hby d6_15) rfl ?_
   refine XS.sipush X2.here hx rfl (hb hby d6_17) ?_
   refine XS.icmpYes X2.here hx rfl (pc0 := 20) (pc' := 26) rfl (hb hby d6_20) rfl (flt (u1 : ¬ ((255 : Int32) < x1))).2.2.2 (by decide) (by decide) ?_
   refine XS.aloadN X2.here hx rfl (hb hby d6_26) rfl rfl ?_
   refine XS.iloadN X2.here hx rfl (hb hby d6_27) rfl ?_
   show Steps p.tables e below (T2.setTop (mkF m 28 #[rv vc, iv (1 : Int32), rv db, iv (1 : Int32), iv (4 : Int32), iv (1 : Int32), iv x1] [(.int (1 : Int32)), (.ref db)])) _
   refine XS.iload X2.here hx rfl (hb hby d6_28) rfl ?_
   refine XS.i2b X2.here hx rfl (hb hby d6_30) rfl ?_
   exact k
 obtain ⟨cl4, Ar4, q4, S4, N4_, H4, G4⟩ := V_db
 have hin4 : ¬ ((1 : Int32) < 0 ∨ cl4.slots.size ≤ ((1 : Int32)).toNatClampNeg) := inb_of S4 ⟨by decide, by decide⟩
 obtain ⟨T4, h4, X4, e4, W4, st4⟩ := stB X2 hx hZ e2 Ar4 (j := (1 : Int32)) hin4 (g := (mkF m 31 #[rv vc, iv (1 : Int32), rv db, iv (1 : Int32), iv (4 : Int32), iv (1 : Int32), iv x1] [(.int (x1.toInt8.toInt32)), (.int (1 : Int32)), (.ref db)])) rfl rfl (hb hby d6_31)
 have O := O.wr W4 g_db
 have V_vc := V_vc.other W4 ne_vc_db
 have K := K.wr W4 (Or.inl (List.mem_of_getElem? (i := 0) rfl))
 have V_db : Arv Z h4 db kb .byte (4 : Int32) [(.int (x0.toInt8.toInt32)), (.int ((x1.toInt8.toInt32).toInt8.toInt32)), (.int (0 : Int32)), (.int (0 : Int32))] (.int (0 : Int32)) := Arv.set Ar4 q4 S4 N4_ H4 G4 (fits_nar_byte _) W4 1 rfl (Nat.le_of_ble_eq_true rfl)
 rw [(own_b2 x1 : ((x1.toInt8.toInt32).toInt8.toInt32) = (x1.toInt8.toInt32))] at V_db
 have N4 := Fr.snoc X4 N2 g_db
 refine Go.step st4 ?_
 refine Go.step (S' := T4.setTop (mkF m 35 #[rv vc, iv ((1 : Int32) + (1 : Int32)), rv db, iv (1 : Int32), iv (4 : Int32), iv (1 : Int32), iv x1] [])) (fun t k => ?_) ?_
 · refine XS.iinc X4.here hx rfl (hb hby d6_32) rfl (l' := #[rv vc, iv ((1 : Int32) + (1 : Int32)), rv db, iv (1 : Int32), iv (4 : Int32), iv (1 : Int32), iv x1]) rfl ?_
   exact k
 rw [show ((1 : Int32) + (1 : Int32)) = (2 : Int32) from by decide]
 show Go p e below _ (T4.setTop (mkF m 35 #[rv vc, iv (2 : Int32), rv db, iv (1 : Int32), iv (4 : Int32), iv (1 : Int32), iv x1] []))
 refine Go.step (S' := T4.setTop (mkF m 38 #[rv vc, iv (2 : Int32), rv db, iv ((1 : Int32) + (1 : Int32)), iv (4 : Int32), iv (1 : Int32), iv x1] [])) (fun t k => ?_) ?_
 · refine XS.iinc X4.here hx rfl (hb hby d6_35) rfl (l' := #[rv vc, iv (2 : Int32), rv db, iv ((1 : Int32) + (1 : Int32)), iv (4 : Int32), iv (1 : Int32), iv x1]) rfl ?_
   exact k
 rw [show ((1 : Int32) + (1 : Int32)) = (2 : Int32) from by decide]
 show Go p e below _ (T4.setTop (mkF m 38 #[rv vc, iv (2 : Int32), rv db, iv (2 : Int32), iv (4 : Int32), iv (1 : Int32), iv x1] []))
 refine Go.step (S' := T4.setTop (mkF m 41 #[rv vc, iv (2 : Int32), rv db, iv (2 : Int32), iv (4 : Int32), iv ((1 : Int32) + (1 : Int32)), iv x1] [])) (fun t k => ?_) ?_
 · refine XS.iinc X4.here hx rfl (hb hby d6_38) rfl (l' := #[rv vc, iv (2 : Int32), rv db, iv (2 : Int32), iv (4 : Int32), iv ((1 : Int32) + (1 : Int32)), iv x1]) rfl ?_
   exact k
 rw [show ((1 : Int32) + (1 : Int32)) = (2 : Int32) from by decide]
 show Go p e below _ (T4.setTop (mkF m 41 #[rv vc, iv (2 : Int32), rv db, iv (2 : Int32), iv (4 : Int32), iv (2 : Int32), iv x1] []))
 refine Go.step (S' := T4.setTop (mkF m 12 #[rv vc, iv (2 : Int32), rv db, iv (2 : Int32), iv (4 : Int32), iv (2 : Int32), iv x1] [(.int (2 : Int32)), (.ref vc)])) (fun t k => ?_) ?_
 · refine XS.goto X4.here hx rfl (pc0 := 41) (pc' := 3) rfl (hb hby d6_41) (by decide) (by decide) ?_
   refine XS.iload X4.here hx rfl (hb hby d6_3) rfl ?_
   refine XS.iload X4.here hx rfl (hb hby d6_5) rfl ?_
   refine XS.icmpNo X4.here hx rfl (hb hby d6_7) rfl (tlt ((by decide) : (2 : Int32) < (4 : Int32))).2.1 ?_
   refine XS.aloadN X4.here hx rfl (hb hby d6_10) rfl rfl ?_
   refine XS.iloadN X4.here hx rfl (hb hby d6_11) rfl ?_
   exact k
 obtain ⟨cl5, Ar5, -, S5, -, H5, -⟩ := id V_vc
 have hin5 : ¬ ((2 : Int32) < 0 ∨ cl5.slots.size ≤ ((2 : Int32)).toNatClampNeg) := inb_of S5 ⟨by decide, by decide⟩
 refine Go.step (S' := T4.setTop (mkF m 13 #[rv vc, iv (2 : Int32), rv db, iv (2 : Int32), iv (4 : Int32), iv (2 : Int32), iv x1] [(.int x2)])) (fun t k => X4.caload hx (j := (2 : Int32)) (v := (.int x2)) (by rw [e4]; exact Ar5.1) (State.isArrayOf_alike hZ.alike Ar5.2.1) Ar5.2.2 hin5 (H5.at hin5 rfl) (g := (mkF m 12 #[rv vc, iv (2 : Int32), rv db, iv (2 : Int32), iv (4 : Int32), iv (2 : Int32), iv x1] [(.int (2 : Int32)), (.ref vc)])) rfl rfl (hb hby d6_12) _ k) ?_
 refine Go.step (S' := T4.setTop (mkF m 31 #[rv vc, iv (2 : Int32), rv db, iv (2 : Int32), iv (4 : Int32), iv (2 : Int32), iv x2] [(.int (x2.toInt8.toInt32)), (.int (2 : Int32)), (.ref db)])) (fun t k => ?_) ?_
 · refine XS.istore X4.here hx rfl (hb hby d6_13) rfl (l' := #[rv vc, iv (2 : Int32), rv db, iv (2 : Int32), iv (4 : Int32), iv (2 : Int32), iv x2]) rfl ?_
   refine XS.iload X4.here hx rfl (hb hby d6_15) rfl ?_
   refine XS.sipush X4.here hx rfl (hb hby d6_17) ?_
   refine XS.icmpYes X4.here hx rfl (pc0 := 20) (pc' := 26) rfl (hb hby d6_20) rfl (flt (u2 : ¬ ((255 : Int32) < x2))).2.2.2 (by decide) (by decide) ?_
   refine XS.aloadN X4.here hx rfl (hb hby d6_26) rfl rfl ?_
   refine XS.iloadN X4.here hx rfl (hb hby d6_27) rfl ?_
   show Steps p.tables e below (T4.setTop (mkF m 28 #[rv vc, iv (2 : Int32), rv db, iv (2 : Int32), iv (4 : Int32), iv (2 : Int32), iv x2] [(.int (2 : Int32)), (.ref db)])) _
   refine XS.iload X4.here hx rfl (hb hby d6_28) rfl ?_
   refine XS.i2b X4.here hx rfl (hb hby d6_30) rfl ?_
   exact k
 obtain ⟨cl6, Ar6, q6, S6, N6_, H6, G6⟩ := V_db
 have hin6 : ¬ ((2 : Int32) < 0 ∨ cl6.slots.size ≤ ((2 : Int32)).toNatClampNeg) := inb_of S6 ⟨by decide, by decide⟩
 obtain ⟨T6, h6, X6, e6, W6, st6⟩ := stB X4 hx hZ e4 Ar6 (j := (2 : Int32)) hin6 (g := (mkF m 31 #[rv vc, iv (2 : Int32), rv db, iv (2 : Int32), iv (4 : Int32), iv (2 : Int32), iv x2] [(.int (x2.toInt8.toInt32)), (.int (2 : Int32)), (.ref db)])) rfl rfl (hb hby d6_31)
 have O := O.wr W6 g_db
 have V_vc := V_vc.other W6 ne_vc_db
 have K := K.wr W6 (Or.inl (List.mem_of_getElem? (i := 0) rfl))
 have V_db : Arv Z h6 db kb .byte (4 : Int32) [(.int (x0.toInt8.toInt32)), (.int (x1.toInt8.toInt32)), (.int ((x2.toInt8.toInt32).toInt8.toInt32)), (.int (0 : Int32))] (.int (0 : Int32)) := Arv.set Ar6 q6 S6 N6_ H6 G6 (fits_nar_byte _) W6 2 rfl (Nat.le_of_ble_eq_true rfl)
 rw [(own_b2 x2 : ((x2.toInt8.toInt32).toInt8.toInt32) = (x2.toInt8.toInt32))] at V_db
 have N6 := Fr.snoc X6 N4 g_db
 refine Go.step st6 ?_
 refine Go.step (S' := T6.setTop (mkF m 35 #[rv vc, iv ((2 : Int32) + (1 : Int32)), rv db, iv (2 : Int32), iv (4 : Int32), iv (2 : Int32), iv x2] [])) (fun t k => ?_) ?_
 · refine XS.iinc X6.here hx rfl (hb hby d6_32) rfl (l' := #[rv vc, iv ((2 : Int32) + (1 : Int32)), rv db, iv (2 : Int32), iv (4 : Int32), iv (2 : Int32), iv x2]) rfl ?_
   exact k
 rw [show ((2 : Int32) + (1 : Int32)) = (3 : Int32) from by decide]
 show Go p e below _ (T6.setTop (mkF m 35 #[rv vc, iv (3 : Int32), rv db, iv (2 : Int32), iv (4 : Int32), iv (2 : Int32), iv x2] []))
 refine Go.step (S' := T6.setTop (mkF m 38 #[rv vc, iv (3 : Int32), rv db, iv ((2 : Int32) + (1 : Int32)), iv (4 : Int32), iv (2 : Int32), iv x2] [])) (fun t k => ?_) ?_
 · refine XS.iinc X6.here hx rfl (hb hby d6_35) rfl (l' := #[rv vc, iv (3 : Int32), rv db, iv ((2 : Int32) + (1 : Int32)), iv (4 : Int32), iv (2 : Int32), iv x2]) rfl ?_
   exact k
 rw [show ((2 : Int32) + (1 : Int32)) = (3 : Int32) from by decide]
 show Go p e below _ (T6.setTop (mkF m 38 #[rv vc, iv (3 : Int32), rv db, iv (3 : Int32), iv (4 : Int32), iv (2 : Int32), iv x2] []))
 refine Go.step (S' := T6.setTop (mkF m 41 #[rv vc, iv (3 : Int32), rv db, iv (3 : Int32), iv (4 : Int32), iv ((2 : Int32) + (1 : Int32)), iv x2] [])) (fun t k => ?_) ?_
 · refine XS.iinc X6.here hx rfl (hb hby d6_38) rfl (l' := #[rv vc, iv (3 : Int32), rv db, iv (3 : Int32), iv (4 : Int32), iv ((2 : Int32) + (1 : Int32)), iv x2]) rfl ?_
   exact k
 rw [show ((2 : Int32) + (1 : Int32)) = (3 : Int32) from by decide]
 show Go p e below _ (T6.setTop (mkF m 41 #[rv vc, iv (3 : Int32), rv db, iv (3 : Int32), iv (4 : Int32), iv (3 : Int32), iv x2] []))
 refine Go.step (S' := T6.setTop (mkF m 12 #[rv vc, iv (3 : Int32), rv db, iv (3 : Int32), iv (4 : Int32), iv (3 : Int32), iv x2] [(.int (3 : Int32)), (.ref vc)])) (fun t k => ?_) ?_
 · refine XS.goto X6.here hx rfl (pc0 := 41) (pc' := 3) rfl (hb hby d6_41) (by decide) (by decide) ?_
   refine XS.iload X6.here hx rfl (hb hby d6_3) rfl ?_
   refine XS.iload X6.here hx rfl (hb hby d6_5) rfl ?_
   refine XS.icmpNo X6.here hx rfl (hb hby d6_7) rfl (tlt ((by decide) : (3 : Int32) < (4 : Int32))).2.1 ?_
   refine XS.aloadN X6.here hx rfl (hb hby d6_10) rfl rfl ?_
   refine XS.iloadN X6.here hx rfl (hb hby d6_11) rfl ?_
   exact k
 obtain ⟨cl7, Ar7, -, S7, -, H7, -⟩ := id V_vc
 have hin7 : ¬ ((3 : Int32) < 0 ∨ cl7.slots.size ≤ ((3 : Int32)).toNatClampNeg) := inb_of S7 ⟨by decide, by decide⟩
 refine Go.step (S' := T6.setTop (mkF m 13 #[rv vc, iv (3 : Int32), rv db, iv (3 : Int32), iv (4 : Int32), iv (3 : Int32), iv x2] [(.int x3)])) (fun t k => X6.caload hx (j := (3 : Int32)) (v := (.int x3)) (by rw [e6]; exact Ar7.1) (State.isArrayOf_alike hZ.alike Ar7.2.1) Ar7.2.2 hin7 (H7.at hin7 rfl) (g := (mkF m 12 #[rv vc, iv (3 : Int32), rv db, iv (3 : Int32), iv (4 : Int32), iv (3 : Int32), iv x2] [(.int (3 : Int32)), (.ref vc)])) rfl rfl (hb hby d6_12) _ k) ?_
 refine Go.step (S' := T6.setTop (mkF m 31 #[rv vc, iv (3 : Int32), rv db, iv (3 : Int32), iv (4 : Int32), iv (3 : Int32), iv x3] [(.int (x3.toInt8.toInt32)), (.int (3 : Int32)), (.ref db)])) (fun t k => ?_) ?_
 · refine XS.istore X6.here hx rfl (hb hby d6_13) rfl (l' := #[rv vc, iv (3 : Int32), rv db, iv (3 : Int32), iv (4 : Int32), iv (3 : Int32), iv x3]) rfl ?_
   refine XS.iload X6.here hx rfl (hb hby d6_15) rfl ?_
   refine XS.sipush X6.here hx rfl (hb hby d6_17) ?_
   refine XS.icmpYes X6.here hx rfl (pc0 := 20) (pc' := 26) rfl (hb hby d6_20) rfl (flt (u3 : ¬ ((255 : Int32) < x3))).2.2.2 (by decide) (by decide) ?_
   refine XS.aloadN X6.here hx rfl (hb hby d6_26) rfl rfl ?_
   refine XS.iloadN X6.here hx rfl (hb hby d6_27) rfl ?_
   show Steps p.tables e below (T6.setTop (mkF m 28 #[rv vc, iv (3 : Int32), rv db, iv (3 : Int32), iv (4 : Int32), iv (3 : Int32), iv x3] [(.int (3 : Int32)), (.ref db)])) _
   refine XS.iload X6.here hx rfl (hb hby d6_28) rfl ?_
   refine XS.i2b X6.here hx rfl (hb hby d6_30) rfl ?_
   exact k
 obtain ⟨cl8, Ar8, q8, S8, N8_, H8, G8⟩ := V_db
 have hin8 : ¬ ((3 : Int32) < 0 ∨ cl8.slots.size ≤ ((3 : Int32)).toNatClampNeg) := inb_of S8 ⟨by decide, by decide⟩
 obtain ⟨T8, h8, X8, e8, W8, st8⟩ := stB X6 hx hZ e6 Ar8 (j := (3 : Int32)) hin8 (g := (mkF m 31 #[rv vc, iv (3 : Int32), rv db, iv (3 : Int32), iv (4 : Int32), iv (3 : Int32), iv x3] [(.int (x3.toInt8.toInt32)), (.int (3 : Int32)), (.ref db)])) rfl rfl (hb hby d6_31)
 have O := O.wr W8 g_db
 have V_vc := V_vc.other W8 ne_vc_db
 have K := K.wr W8 (Or.inl (List.mem_of_getElem? (i := 0) rfl))
 have V_db : Arv Z h8 db kb .byte (4 : Int32) [(.int (x0.toInt8.toInt32)), (.int (x1.toInt8.toInt32)), (.int (x2.toInt8.toInt32)), (.int ((x3.toInt8.toInt32).toInt8.toInt32))] (.int (0 : Int32)) := Arv.set Ar8 q8 S8 N8_ H8 G8 (fits_nar_byte _) W8 3 rfl (Nat.le_of_ble_eq_true rfl)
 rw [(own_b2 x3 : ((x3.toInt8.toInt32).toInt8.toInt32) = (x3.toInt8.toInt32))] at V_db
 have N8 := Fr.snoc X8 N6 g_db
 refine Go.step st8 ?_
 refine Go.step (S' := T8.setTop (mkF m 35 #[rv vc, iv ((3 : Int32) + (1 : Int32)), rv db, iv (3 : Int32), iv (4 : Int32), iv (3 : Int32), iv x3] [])) (fun t k => ?_) ?_
 · refine XS.iinc X8.here hx rfl (hb hby d6_32) rfl (l' := #[rv vc, iv ((3 : Int32) + (1 : Int32)), rv db, iv (3 : Int32), iv (4 : Int32), iv (3 : Int32), iv x3]) rfl ?_
   exact k
 rw [show ((3 : Int32) + (1 : Int32)) = (4 : Int32) from by decide]
 show Go p e below _ (T8.setTop (mkF m 35 #[rv vc, iv (4 : Int32), rv db, iv (3 : Int32), iv (4 : Int32), iv (3 : Int32), iv x3] []))
 refine Go.step (S' := T8.setTop (mkF m 38 #[rv vc, iv (4 : Int32), rv db, iv ((3 : Int32) + (1 : Int32)), iv (4 : Int32), iv (3 : Int32), iv x3] [])) (fun t k => ?_) ?_
 · refine XS.iinc X8.here hx rfl (hb hby d6_35) rfl (l' := #[rv vc, iv (4 : Int32), rv db, iv ((3 : Int32) + (1 : Int32)), iv (4 : Int32), iv (3 : Int32), iv x3]) rfl ?_
   exact k
 rw [show ((3 : Int32) + (1 : Int32)) = (4 : Int32) from by decide]
 show Go p e below _ (T8.setTop (mkF m 38 #[rv vc, iv (4 : Int32), rv db, iv (4 : Int32), iv (4 : Int32), iv (3 : Int32), iv x3] []))
 refine Go.step (S' := T8.setTop (mkF m 41 #[rv vc, iv (4 : Int32), rv db, iv (4 : Int32), iv (4 : Int32), iv ((3 : Int32) + (1 : Int32)), iv x3] [])) (fun t k => ?_) ?_
 · refine XS.iinc X8.here hx rfl (hb hby d6_38) rfl (l' := #[rv vc, iv (4 : Int32), rv db, iv (4 : Int32), iv (4 : Int32), iv ((3 : Int32) + (1 : Int32)), iv x3]) rfl ?_
   exact k
 rw [show ((3 : Int32) + (1 : Int32)) = (4 : Int32) from by decide]
 show Go p e below _ (T8.setTop (mkF m 41 #[rv vc, iv (4 : Int32), rv db, iv (4 : Int32), iv (4 : Int32), iv (4 : Int32), iv x3] []))
 refine Go.step (S' := T8.setTop (mkF m 46 #[rv vc, iv (4 : Int32), rv db, iv (4 : Int32), iv (4 : Int32), iv (4 : Int32), iv x3] [(.int (4 : Int32))])) (fun t k => ?_) ?_
 · refine XS.goto X8.here hx rfl (pc0 := 41) (pc' := 3) rfl (hb hby d6_41) (by decide) (by decide) ?_
   refine XS.iload X8.here hx rfl (hb hby d6_3) rfl ?_
   refine XS.iload X8.here hx rfl (hb hby d6_5) rfl ?_
   refine XS.icmpYes X8.here hx rfl (pc0 := 7) (pc' := 44) rfl (hb hby d6_7) rfl (flt ((by decide) : ¬ ((4 : Int32) < (4 : Int32)))).2.1 (by decide) (by decide) ?_
   refine XS.iload X8.here hx rfl (hb hby d6_44) rfl ?_
   exact k
 obtain ⟨fs, hr, hrun, hended, hW, hsame⟩ := X8.leave (v := some (.int (4 : Int32))) (fun h => by rw [Bd.returns] at h; cases h)
 refine Go.fin (S' := T8.setFrames fs) ?_ hrun hended ⟨_, _, rfl, ?_, ⟨_, rfl⟩, hW, hsame.mono (by decide) (by decide)⟩
 · exact retOut X8 hx Bd.returns rfl (Or.inl ⟨rfl, Or.inl rfl, _, rfl⟩) (hb hby d6_46) hr
 · show Q_rmCl4 Z vc db kc kb x0 x1 x2 x3 h0 n0 (some (.int (4 : Int32))) T8.heap _
   rw [e8]
   exact ⟨rfl, N8, K, V_db⟩
theorem ef_rmCm4 (m : MethodId) (vc : Addr) : entryFrame m #[(.ref vc), (.int (0 : Int32)), (.int (4 : Int32))] 6 = mkF m 0 #[.val (.ref vc), .val (.int (0 : Int32)), .val (.int (4 : Int32)), .unset, .unset, .unset] [] := by first | (simp [entryFrame, mkF, argsToLocals, Value.category]; done) | rfl
abbrev rm_rmCm4 : Room := ({ frames := 1, cells := 1, slots := 4, locals := 18 } : Room)
def Q_rmCm4 (Z : State) (vc : Addr) (kc : ClassId) (x0 : Int32) (x1 : Int32) (x2 : Int32) (x3 : Int32) (h0 : Heap) (n0 : Nat) (v : Option Value) (h : Heap) (L : List Loc) : Prop := ∃ b : Addr, ∃ kb : ClassId, (v = some (.ref b)) ∧ (Fr n0 L) ∧ (Keep h0 h []) ∧ (Arv Z h b kb .byte (4 : Int32) [(.int (x0.toInt8.toInt32)), (.int (x1.toInt8.toInt32)), (.int (x2.toInt8.toInt32)), (.int (x3.toInt8.toInt32))] (.int (0 : Int32)))
set_option maxRecDepth 65536 in
set_option maxHeartbeats 4000000 in
theorem rmCm4 (l : Launch) (Z : State) (a0 : Array Value) (hw : ∀ d ∈ tables_1, d.before a0 Z = true) (ws : List Jvm.Cond) (vc : Addr) (kc : ClassId) (x0 : Int32) (x1 : Int32) (x2 : Int32) (x3 : Int32) (h0 : Heap) (n0 : Nat) (O : Old Z n0 h0) (V_vc : Arv Z h0 vc kc .char (4 : Int32) [(.int x0), (.int x1), (.int x2), (.int x3)] (.int (0 : Int32))) (u0 : ¬ ((255 : Int32) < x0)) (u1 : ¬ ((255 : Int32) < x1)) (u2 : ¬ ((255 : Int32) < x2)) (u3 : ¬ ((255 : Int32) < x3)) :
    MetFree l y_9 (head1 (Jvm.Cond.code y_9 jdk_52_method_16_code 6 (some (.array .byte)) :: ws) rm_rmCm4) (fun A_ U => A_ = #[(.ref vc), (.int (0 : Int32)), (.int (4 : Int32))] ∧ Z.Warmed39 U.vm ∧ U.heap = h0) (fun _ _ _ _ _ => True) (fun _ U o U' => ∃ v L, o = .returned v ∧ Q_rmCm4 Z vc kc x0 x1 x2 x3 h0 n0 v U'.heap L ∧ FrameEnd U o U' L rm_rmCm4.cells rm_rmCm4.slots) := by
 refine MetFree.of_bodySF (plainFor_of_name pn_java_lang_StringUTF16) hisR ?_
 intro p e s m args below meth c s₁ Bd hml0 hP hK
 obtain ⟨rfl, hZ, hh⟩ := hP
 have hx := Bd.exec
 have hby := Bd.bytes
 have hml : c.maxLocals = 6 := hml0
 have hown : s.vm.findClass "java/lang/StringUTF16" = some m.cls := findClass_of_methodNamed Bd.named
 have hnm := (name_of_methodNamed Bd.named Bd.method).1
 have X0 : Stand p l e rm_rmCm4 s m #[(.ref vc), (.int (0 : Int32)), (.int (4 : Int32))] below meth c s₁ [] 0 0 := Stand.of_body Bd
 have e0 : s₁.heap = h0 := by rw [← hh, Bd.state]; rfl
 have N0 := Fr.nil n0
 have K := Keep.refl h0 []
 refine Go.step (p := p) (e := e) (below := below) (G := fun o U' => ∃ v L, o = .returned v ∧ Q_rmCm4 Z vc kc x0 x1 x2 x3 h0 n0 v U'.heap L ∧ FrameEnd s o U' L rm_rmCm4.cells rm_rmCm4.slots) (S' := s₁.setTop (mkF m 0 #[rv vc, iv (0 : Int32), iv (4 : Int32), u_, u_, u_] [])) (fun t k => castTop (ef_rmCm4 m vc) k) ?_
 refine Go.step (S' := s₁.setTop (mkF m 1 #[rv vc, iv (0 : Int32), iv (4 : Int32), u_, u_, u_] [(.int (4 : Int32))])) (fun t k => ?_) ?_
 · refine XS.iloadN X0.here hx rfl (hb hby d5_0) rfl ?_
   exact k
 obtain ⟨T1, h1, k1, X1, e1, E1, A1, st1⟩ := newP X0 hx hZ (own_w hw 24 rfl) e0 (g := (mkF m 1 #[rv vc, iv (0 : Int32), iv (4 : Int32), u_, u_, u_] [(.int (4 : Int32))])) rfl (hb hby d5_1) rfl (by decide) (cap := 4) (by decide) (by decide) (by decide) (by decide)
 obtain ⟨b1, g1⟩ : ∃ z, z = Array.size h0 := ⟨_, rfl⟩
 have g_b1 : n0 ≤ b1 := Nat.le_trans (old_le O) (Nat.le_of_eq g1.symm)
 have sz_b1 : h0.size ≤ b1 := Nat.le_trans K.1 (Nat.le_of_eq g1.symm)
 have ne_vc_b1 : vc ≠ b1 := Nat.ne_of_lt (Nat.lt_of_lt_of_le V_vc.lt (Nat.le_of_eq g1.symm))
 rw [← g1] at A1 st1
 have O := O.ext E1
 have V_vc := V_vc.ext E1
 have K := K.ext E1
 have V_b1 : Arv Z h1 b1 k1 .byte (4 : Int32) [(.int (0 : Int32)), (.int (0 : Int32)), (.int (0 : Int32)), (.int (0 : Int32))] (.int (0 : Int32)) := (Arv.new A1 (by decide)).pad (pad_rep [] (.int (0 : Int32)) 4)
 refine Go.step st1 ?_
 refine Go.step (S' := T1.setTop (mkF m 9 #[rv vc, iv (0 : Int32), iv (4 : Int32), rv b1, u_, u_] [(.int (4 : Int32)), (.int (0 : Int32)), (.ref b1), (.int (0 : Int32)), (.ref vc)])) (fun t k => ?_) ?_
 · refine XS.astoreN X1.here hx rfl (hb hby d5_3) rfl rfl (l' := #[rv vc, iv (0 : Int32), iv (4 : Int32), rv b1, u_, u_]) rfl ?_
   refine XS.aloadN X1.here hx rfl (hb hby d5_4) rfl rfl ?_
   refine XS.iloadN X1.here hx rfl (hb hby d5_5) rfl ?_
   refine XS.aloadN X1.here hx rfl (hb hby d5_6) rfl rfl ?_
   refine XS.iconst X1.here hx rfl (hb hby d5_7) ?_
   refine XS.iloadN X1.here hx rfl (hb hby d5_8) rfl ?_
   exact k
 obtain ⟨_, _, ⟨T2, L2, k2, n2⟩, -, X2, ⟨Lc2, hQ2, l2, y2, z2⟩, st2⟩ := Jvm.LawKit.callS X1 hx (y := y_8) hown (mvT hZ (own_w hw 25 rfl)) (mvT hZ (own_w hw 26 rfl)) (mvT hZ (own_w hw 22 rfl)) (mvT hZ (own_w hw 27 rfl)) (by decide) (backOf (W := 0) (rmCl4 l Z a0 hw [] vc b1 kc k1 x0 x1 x2 x3 h1 n0 O V_vc V_b1 (by assumption) ne_vc_b1 u0 u1 u2 u3) hZ (own_w hw 27 rfl) (own_w hw 22 rfl) (by decide) (by decide)) (g := (mkF m 9 #[rv vc, iv (0 : Int32), iv (4 : Int32), rv b1, u_, u_] [(.int (4 : Int32)), (.int (0 : Int32)), (.ref b1), (.int (0 : Int32)), (.ref vc)])) rfl (by rw [hml]; rfl) (argsL := [(.ref vc), (.int (0 : Int32)), (.ref b1), (.int (0 : Int32)), (.int (4 : Int32))]) (rest := []) (lenOf pd__28_5bCI_5bBII_29I rfl) rfl (Nat.le_of_eq rfl) (hb hby d5_9) (fun _ _ => ⟨rfl, e1, (by decide : 1 + 0 ≤ _), (by decide : 4 + 0 ≤ _)⟩)
 dsimp only [Pt.U, Pt.locs, Pt.cells, Pt.slots] at X2 l2 y2 z2 st2 hQ2
 subst l2 y2 z2
 obtain ⟨rfl, Nq2, K2, P2_V⟩ := hQ2
 have N2 := Fr.app N0 Nq2
 have O := O.keep K2 (allS g_b1 all0)
 have V_vc := V_vc.keep K2 (ninS ne_vc_b1 nin0)
 have K := K.trans K2 (allS (Or.inr sz_b1) all0)
 have V_2 := P2_V
 refine Go.step st2 ?_
 refine Go.step (S' := T2.setTop (mkF m 58 #[rv vc, iv (0 : Int32), iv (4 : Int32), rv b1, iv (4 : Int32), u_] [(.ref b1)])) (fun t k => ?_) ?_
 · refine XS.istore X2.here hx rfl (hb hby d5_12) rfl (l' := #[rv vc, iv (0 : Int32), iv (4 : Int32), rv b1, iv (4 : Int32), u_]) rfl ?_
   refine XS.iload X2.here hx rfl (hb hby d5_14) rfl ?_
   refine XS.iloadN X2.here hx rfl (hb hby d5_16) rfl ?_
   refine XS.icmpYes X2.here hx rfl (pc0 := 17) (pc' := 57) rfl (hb hby d5_17) rfl (teq ((by decide) : (4 : Int32) = (4 : Int32))).1 (by decide) (by decide) ?_
   refine XS.aloadN X2.here hx rfl (hb hby d5_57) rfl rfl ?_
   exact k
 obtain ⟨fs, hr, hrun, hended, hW, hsame⟩ := X2.leave (v := some (.ref b1)) (fun h => by rw [Bd.returns] at h; cases h)
 refine Go.fin (S' := T2.setFrames fs) ?_ hrun hended ⟨_, _, rfl, ?_, ⟨_, rfl⟩, hW, hsame.mono (by decide) (by decide)⟩
 · exact retOut X2 hx Bd.returns rfl (Or.inr (Or.inr (Or.inr (Or.inr ⟨rfl, rfl, rfl⟩)))) (hb hby d5_58) hr
 · show Q_rmCm4 Z vc kc x0 x1 x2 x3 h0 n0 (some (.ref b1)) T2.heap _
   exact ⟨b1, k1, rfl, N2, K, V_2⟩
theorem ef_rmCf4 (m : MethodId) (tb : Addr) : entryFrame m #[(.ref tb), (.int (4 : Int32))] 2 = mkF m 0 #[.val (.ref tb), .val (.int (4 : Int32))] [] := by first | (simp [entryFrame, mkF, argsToLocals, Value.category]; done) | rfl
abbrev rm_rmCf4 : Room := ({ frames := 0, cells := 0, slots := 0, locals := 0 } : Room)
def Q_rmCf4 (Z : State) (tb : Addr) (kb : ClassId) (x0 : Int32) (x1 : Int32) (x2 : Int32) (x3 : Int32) (h0 : Heap) (n0 : Nat) (v : Option Value) (h : Heap) (L : List Loc) : Prop := (v = some (.int (0 : Int32))) ∧ (Fr n0 L) ∧ (h = h0)
set_option maxRecDepth 65536 in
set_option maxHeartbeats 4000000 in
theorem rmCf4 (l : Launch) (Z : State) (a0 : Array Value) (hw : ∀ d ∈ tables_1, d.before a0 Z = true) (ws : List Jvm.Cond) (tb : Addr) (kb : ClassId) (x0 : Int32) (x1 : Int32) (x2 : Int32) (x3 : Int32) (h0 : Heap) (n0 : Nat) (O : Old Z n0 h0) (V_tb : Arv Z h0 tb kb .byte (4 : Int32) [(.int (x0.toInt8.toInt32)), (.int (x1.toInt8.toInt32)), (.int (x2.toInt8.toInt32)), (.int (x3.toInt8.toInt32))] (.int (0 : Int32))) :
    MetFree l y_10 (head1 (Jvm.Cond.code y_10 jdk_52_method_15_code 2 (some .byte) :: ws) rm_rmCf4) (fun A_ U => A_ = #[(.ref tb), (.int (4 : Int32))] ∧ Z.Warmed39 U.vm ∧ U.heap = h0) (fun _ _ _ _ _ => True) (fun _ U o U' => ∃ v L, o = .returned v ∧ Q_rmCf4 Z tb kb x0 x1 x2 x3 h0 n0 v U'.heap L ∧ FrameEnd U o U' L rm_rmCf4.cells rm_rmCf4.slots) := by
 refine MetFree.of_bodySF (plainFor_of_name pn_java_lang_StringUTF16) hisR ?_
 intro p e s m args below meth c s₁ Bd hml0 hP hK
 obtain ⟨rfl, hZ, hh⟩ := hP
 have hx := Bd.exec
 have hby := Bd.bytes
 have hml : c.maxLocals = 2 := hml0
 have hown : s.vm.findClass "java/lang/StringUTF16" = some m.cls := findClass_of_methodNamed Bd.named
 have hnm := (name_of_methodNamed Bd.named Bd.method).1
 have X0 : Stand p l e rm_rmCf4 s m #[(.ref tb), (.int (4 : Int32))] below meth c s₁ [] 0 0 := Stand.of_body Bd
 have e0 : s₁.heap = h0 := by rw [← hh, Bd.state]; rfl
 have N0 := Fr.nil n0
 refine Go.step (p := p) (e := e) (below := below) (G := fun o U' => ∃ v L, o = .returned v ∧ Q_rmCf4 Z tb kb x0 x1 x2 x3 h0 n0 v U'.heap L ∧ FrameEnd s o U' L rm_rmCf4.cells rm_rmCf4.slots) (S' := s₁.setTop (mkF m 0 #[rv tb, iv (4 : Int32)] [])) (fun t k => castTop (ef_rmCf4 m tb) k) ?_
 refine Go.step (S' := s₁.setTop (mkF m 2 #[rv tb, iv (4 : Int32)] [(.ref tb), (.int (4 : Int32))])) (fun t k => ?_) ?_
 · refine XS.iloadN X0.here hx rfl (hb hby d7_0) rfl ?_
   refine XS.aloadN X0.here hx rfl (hb hby d7_1) rfl rfl ?_
   exact k
 obtain ⟨cl1, Ar1, -, S1, N1_, -, -⟩ := id V_tb
 refine Go.step (S' := s₁.setTop (mkF m 3 #[rv tb, iv (4 : Int32)] [(.int cl1.slots.size.toInt32), (.int (4 : Int32))])) (fun t k => X0.arraylength hx (by rw [e0]; exact Ar1.1) (State.isArrayOf_alike hZ.alike Ar1.2.1) (g := (mkF m 2 #[rv tb, iv (4 : Int32)] [(.ref tb), (.int (4 : Int32))])) rfl rfl (hb hby d7_2) _ k) ?_
 rw [len_of S1 N1_]
 show Go p e below _ (s₁.setTop (mkF m 3 #[rv tb, iv (4 : Int32)] [(.int (4 : Int32)), (.int (4 : Int32))]))
 refine Go.step (S' := s₁.setTop (mkF m 4 #[rv tb, iv (4 : Int32)] [(.int ((4 : Int32) - (4 : Int32)))])) (fun t k => ?_) ?_
 · refine XS.isub X0.here hx rfl (hb hby d7_3) rfl ?_
   exact k
 rw [show ((4 : Int32) - (4 : Int32)) = (0 : Int32) from by decide]
 show Go p e below _ (s₁.setTop (mkF m 4 #[rv tb, iv (4 : Int32)] [(.int (0 : Int32))]))
 refine Go.step (S' := s₁.setTop (mkF m 7 #[rv tb, iv (4 : Int32)] [(.int (((0 : Int32).toUInt32 >>> ((31 : Int32) &&& 31).toUInt32).toInt32))])) (fun t k => ?_) ?_
 · refine XS.bipush X0.here hx rfl (hb hby d7_4) ?_
   refine XS.iushr X0.here hx rfl (hb hby d7_6) rfl ?_
   exact k
 rw [show (((0 : Int32).toUInt32 >>> ((31 : Int32) &&& 31).toUInt32).toInt32) = (0 : Int32) from by decide]
 show Go p e below _ (s₁.setTop (mkF m 7 #[rv tb, iv (4 : Int32)] [(.int (0 : Int32))]))
 refine Go.step (S' := s₁.setTop (mkF m 8 #[rv tb, iv (4 : Int32)] [(.int ((0 : Int32).toInt8.toInt32))])) (fun t k => ?_) ?_
 · refine XS.i2b X0.here hx rfl (hb hby d7_7) rfl ?_
   exact k
 rw [show ((0 : Int32).toInt8.toInt32) = (0 : Int32) from by decide]
 show Go p e below _ (s₁.setTop (mkF m 8 #[rv tb, iv (4 : Int32)] [(.int (0 : Int32))]))
 obtain ⟨fs, hr, hrun, hended, hW, hsame⟩ := X0.leave (v := some (.int (0 : Int32))) (fun h => by rw [Bd.returns] at h; cases h)
 refine Go.fin (S' := s₁.setFrames fs) ?_ hrun hended ⟨_, _, rfl, ?_, ⟨_, rfl⟩, hW, hsame.mono (by decide) (by decide)⟩
 · exact retOut X0 hx Bd.returns (by decide) (Or.inl ⟨rfl, Or.inr (Or.inr (Or.inl rfl)), _, rfl⟩) (hb hby d7_8) hr
 · show Q_rmCf4 Z tb kb x0 x1 x2 x3 h0 n0 (some (.int (0 : Int32))) s₁.heap _
   rw [e0]
   exact ⟨rfl, N0, rfl⟩
theorem ef_rmN4_4 (m : MethodId) (so : Addr) (vc : Addr) : entryFrame m #[(.ref so), (.ref vc), (.int (0 : Int32)), (.int (4 : Int32)), .null] 6 = mkF m 0 #[.val (.ref so), .val (.ref vc), .val (.int (0 : Int32)), .val (.int (4 : Int32)), .val .null, .unset] [] := by first | (simp [entryFrame, mkF, argsToLocals, Value.category]; done) | rfl
abbrev rm_rmN4_4 : Room := ({ frames := 2, cells := 1, slots := 4, locals := 35 } : Room)
def Q_rmN4_4 (Z : State) (so : Addr) (vc : Addr) (kc : ClassId) (cs : Int32) (x0 : Int32) (x1 : Int32) (x2 : Int32) (x3 : Int32) (h0 : Heap) (n0 : Nat) (v : Option Value) (h : Heap) (L : List Loc) : Prop := ∃ tb : Addr, ∃ kb : ClassId, (v = none) ∧ (Fr n0 L) ∧ (Keep h0 h [so]) ∧ (Exa Z h so "java/lang/String") ∧ (Fld Z h so "java/lang/String" "value" "[B" (.ref tb)) ∧ (Fld Z h so "java/lang/String" "coder" "B" (.int (0 : Int32))) ∧ (Arv Z h tb kb .byte (4 : Int32) [(.int (x0.toInt8.toInt32)), (.int (x1.toInt8.toInt32)), (.int (x2.toInt8.toInt32)), (.int (x3.toInt8.toInt32))] (.int (0 : Int32)))
set_option maxRecDepth 65536 in
set_option maxHeartbeats 4000000 in
theorem rmN4_4 (l : Launch) (Z : State) (a0 : Array Value) (hw : ∀ d ∈ tables_1, d.before a0 Z = true) (ws : List Jvm.Cond) (so : Addr) (vc : Addr) (kc : ClassId) (cs : Int32) (x0 : Int32) (x1 : Int32) (x2 : Int32) (x3 : Int32) (h0 : Heap) (n0 : Nat) (O : Old Z n0 h0) (S_CS : Sta Z Z.heap "java/lang/String" "COMPACT_STRINGS" "Z" (.int cs)) (E_so : Exa Z h0 so "java/lang/String") (F_v : Fld Z h0 so "java/lang/String" "value" "[B" .null) (F_c : Fld Z h0 so "java/lang/String" "coder" "B" (.int (0 : Int32))) (V_vc : Arv Z h0 vc kc .char (4 : Int32) [(.int x0), (.int x1), (.int x2), (.int x3)] (.int (0 : Int32))) (g_so : n0 ≤ so) (hcs : ¬ (cs = (0 : Int32))) (u0 : ¬ ((255 : Int32) < x0)) (u1 : ¬ ((255 : Int32) < x1)) (u2 : ¬ ((255 : Int32) < x2)) (u3 : ¬ ((255 : Int32) < x3)) :
    MetFree l y_11 (head1 (Jvm.Cond.code y_11 jdk_42_method_149_code 6 none :: ws) rm_rmN4_4) (fun A_ U => A_ = #[(.ref so), (.ref vc), (.int (0 : Int32)), (.int (4 : Int32)), .null] ∧ Z.Warmed39 U.vm ∧ U.heap = h0) (fun _ _ _ _ _ => True) (fun _ U o U' => ∃ v L, o = .returned v ∧ Q_rmN4_4 Z so vc kc cs x0 x1 x2 x3 h0 n0 v U'.heap L ∧ FrameEnd U o U' L rm_rmN4_4.cells rm_rmN4_4.slots) := by
 refine MetFree.of_bodySF (plainFor_of_name pn_java_lang_String) hisR ?_
 intro p e s m args below meth c s₁ Bd hml0 hP hK
 obtain ⟨rfl, hZ, hh⟩ := hP
 have hx := Bd.exec
 have hby := Bd.bytes
 have hml : c.maxLocals = 6 := hml0
 have hown : s.vm.findClass "java/lang/String" = some m.cls := findClass_of_methodNamed Bd.named
 have hnm := (name_of_methodNamed Bd.named Bd.method).1
 have X0 : Stand p l e rm_rmN4_4 s m #[(.ref so), (.ref vc), (.int (0 : Int32)), (.int (4 : Int32)), .null] below meth c s₁ [] 0 0 := Stand.of_body Bd
 have e0 : s₁.heap = h0 := by rw [← hh, Bd.state]; rfl
 have N0 := Fr.nil n0
 have K := Keep.refl h0 [so]
 refine Go.step (p := p) (e := e) (below := below) (G := fun o U' => ∃ v L, o = .returned v ∧ Q_rmN4_4 Z so vc kc cs x0 x1 x2 x3 h0 n0 v U'.heap L ∧ FrameEnd s o U' L rm_rmN4_4.cells rm_rmN4_4.slots) (S' := s₁.setTop (mkF m 0 #[rv so, rv vc, iv (0 : Int32), iv (4 : Int32), .val .null, u_] [])) (fun t k => castTop (ef_rmN4_4 m so vc) k) ?_
 refine Go.step (S' := s₁.setTop (mkF m 1 #[rv so, rv vc, iv (0 : Int32), iv (4 : Int32), .val .null, u_] [(.ref so)])) (fun t k => ?_) ?_
 · refine XS.aloadN X0.here hx rfl (hb hby d3_0) rfl rfl ?_
   exact k
 obtain ⟨T1, X1, e1, st1⟩ := initO X0 hx hZ hown (own_w hw 16 rfl) (own_w hw 17 rfl) (own_w hw 18 rfl) e0 (g := (mkF m 1 #[rv so, rv vc, iv (0 : Int32), iv (4 : Int32), .val .null, u_] [(.ref so)])) rfl (by rw [hml]; rfl) rfl (hb hby d3_1) (by decide) (W := 0) (by show 2 * 0 + _ ≤ _; exact Nat.le_of_eq rfl) (by decide)
 refine Go.step st1 ?_
 refine Go.step (S' := T1.setTop (mkF m 27 #[rv so, rv vc, iv (0 : Int32), iv (4 : Int32), .val .null, u_] [])) (fun t k => ?_) ?_
 · refine XS.iloadN X1.here hx rfl (hb hby d3_4) rfl ?_
   refine XS.ifYes X1.here hx rfl (pc0 := 5) (pc' := 27) rfl (hb hby d3_5) rfl ((if0 _ _).trans (feq ((by decide) : ¬ ((4 : Int32) = (0 : Int32)))).2) (by decide) (by decide) ?_
   exact k
 obtain ⟨T2, X2, e2, st2⟩ := getS2 X1 hx hZ hown (host := "") (Or.inl (own_w hw 19 rfl)) Via.refl e1 (S_CS.ext O.2) (g := (mkF m 27 #[rv so, rv vc, iv (0 : Int32), iv (4 : Int32), .val .null, u_] [])) rfl (hb hby d3_27)
 refine Go.step st2 ?_
 refine Go.step (S' := T2.setTop (mkF m 36 #[rv so, rv vc, iv (0 : Int32), iv (4 : Int32), .val .null, u_] [(.int (4 : Int32)), (.int (0 : Int32)), (.ref vc)])) (fun t k => ?_) ?_
 · refine XS.ifNo X2.here hx rfl (hb hby d3_30) rfl ((if0 _ _).trans (feq (hcs : ¬ (cs = (0 : Int32)))).1) ?_
   refine XS.aloadN X2.here hx rfl (hb hby d3_33) rfl rfl ?_
   refine XS.iloadN X2.here hx rfl (hb hby d3_34) rfl ?_
   refine XS.iloadN X2.here hx rfl (hb hby d3_35) rfl ?_
   exact k
 obtain ⟨_, _, ⟨T3, L3, k3, n3⟩, -, X3, ⟨Lc3, hQ3, l3, y3, z3⟩, st3⟩ := Jvm.LawKit.callS X2 hx (y := y_9) hown (mvT hZ (own_w hw 20 rfl)) (mvT hZ (own_w hw 21 rfl)) (mvT hZ (own_w hw 22 rfl)) (mvT hZ (own_w hw 23 rfl)) (by decide) (backOf (W := 0) (rmCm4 l Z a0 hw [] vc kc x0 x1 x2 x3 h0 n0 O V_vc u0 u1 u2 u3) hZ (own_w hw 23 rfl) (own_w hw 22 rfl) (by decide) (by decide)) (g := (mkF m 36 #[rv so, rv vc, iv (0 : Int32), iv (4 : Int32), .val .null, u_] [(.int (4 : Int32)), (.int (0 : Int32)), (.ref vc)])) rfl (by rw [hml]; rfl) (argsL := [(.ref vc), (.int (0 : Int32)), (.int (4 : Int32))]) (rest := []) (lenOf pd__28_5bCII_29_5bB rfl) rfl (Nat.le_of_eq rfl) (hb hby d3_36) (fun _ _ => ⟨rfl, e2, (by decide : 0 + 1 ≤ _), (by decide : 0 + 4 ≤ _)⟩)
 dsimp only [Pt.U, Pt.locs, Pt.cells, Pt.slots] at X3 l3 y3 z3 st3 hQ3
 subst l3 y3 z3
 obtain ⟨b_3, kb_3, rfl, Nq3, K3, P3_V⟩ := hQ3
 have N3 := Fr.app N0 Nq3
 have O := O.keep K3 all0
 have E_so := E_so.keep K3
 have F_v := F_v.keep K3 nin0
 have F_c := F_c.keep K3 nin0
 have V_vc := V_vc.keep K3 nin0
 have K := K.trans K3 all0
 have V_3 := P3_V
 refine Go.step st3 ?_
 refine Go.step (S' := T3.setTop (mkF m 45 #[rv so, rv vc, iv (0 : Int32), iv (4 : Int32), .val .null, rv b_3] [(.int (4 : Int32)), (.ref b_3), (.ref so)])) (fun t k => ?_) ?_
 · refine XS.astore X3.here hx rfl (hb hby d3_39) rfl rfl (l' := #[rv so, rv vc, iv (0 : Int32), iv (4 : Int32), .val .null, rv b_3]) rfl ?_
   refine XS.aloadN X3.here hx rfl (hb hby d3_41) rfl rfl ?_
   refine XS.aload X3.here hx rfl (hb hby d3_42) rfl rfl ?_
   refine XS.iloadN X3.here hx rfl (hb hby d3_44) rfl ?_
   exact k
 obtain ⟨_, _, ⟨T4, L4, k4, n4⟩, -, X4, ⟨Lc4, hQ4, l4, y4, z4⟩, st4⟩ := Jvm.LawKit.callS X3 hx (y := y_10) hown (mvT hZ (own_w hw 28 rfl)) (mvT hZ (own_w hw 29 rfl)) (mvT hZ (own_w hw 22 rfl)) (mvT hZ (own_w hw 30 rfl)) (by decide) (backOf (W := 1) (rmCf4 l Z a0 hw [] b_3 kb_3 x0 x1 x2 x3 T3.heap n0 O V_3) hZ (own_w hw 30 rfl) (own_w hw 22 rfl) (by decide) (by decide)) (g := (mkF m 45 #[rv so, rv vc, iv (0 : Int32), iv (4 : Int32), .val .null, rv b_3] [(.int (4 : Int32)), (.ref b_3), (.ref so)])) rfl (by rw [hml]; rfl) (argsL := [(.ref b_3), (.int (4 : Int32))]) (rest := [(.ref so)]) (lenOf pd__28_5bBI_29B rfl) rfl (Nat.le_of_eq rfl) (hb hby d3_45) (fun _ _ => ⟨rfl, (Eq.refl T3.heap), (by decide : 1 + 0 ≤ _), (by decide : 4 + 0 ≤ _)⟩)
 dsimp only [Pt.U, Pt.locs, Pt.cells, Pt.slots] at X4 l4 y4 z4 st4 hQ4
 subst l4 y4 z4
 obtain ⟨rfl, Nq4, e4⟩ := hQ4
 have N4 := Fr.app N3 Nq4
 refine Go.step st4 ?_
 obtain ⟨T5, h5, X5, e5, W5, st5⟩ := putFN X4 hx hZ hown (own_w hw 31 rfl) Via.refl e4 F_c E_so (Or.inr ⟨(own_w hw 32 rfl), rfl, hnm⟩) (own_w hw 6 rfl) (ty := .byte) (v' := (.int (0 : Int32))) (by decide) rfl rfl (g := (mkF m 48 #[rv so, rv vc, iv (0 : Int32), iv (4 : Int32), .val .null, rv b_3] [(.int (0 : Int32)), (.ref so)])) rfl rfl (hb hby d3_48)
 have ne_vc_so : vc ≠ so := Ne.symm (Exa.neArv E_so V_vc (own_w hw 6 rfl))
 have ne_b_3_so : b_3 ≠ so := Ne.symm (Exa.neArv E_so V_3 (own_w hw 6 rfl))
 have O := O.wr W5 g_so
 have E_so := E_so.wr W5
 have F_v := F_v.other W5 (Or.inr (slot_ne (Or.inr (own_w hw 34 rfl)) (Or.inr (own_w hw 32 rfl)) (by decide) (t := (.array .byte)) (t' := .byte) (by decide) (by decide)))
 have F_c := F_c.same W5
 have V_vc := V_vc.other W5 ne_vc_so
 have K := K.wr W5 (Or.inl (List.mem_of_getElem? (i := 0) rfl))
 have V_3 := V_3.other W5 ne_b_3_so
 have N5 := Fr.snoc X5 N4 g_so
 refine Go.step st5 ?_
 refine Go.step (S' := T5.setTop (mkF m 54 #[rv so, rv vc, iv (0 : Int32), iv (4 : Int32), .val .null, rv b_3] [(.ref b_3), (.ref so)])) (fun t k => ?_) ?_
 · refine XS.aloadN X5.here hx rfl (hb hby d3_51) rfl rfl ?_
   refine XS.aload X5.here hx rfl (hb hby d3_52) rfl rfl ?_
   exact k
 obtain ⟨T6, h6, X6, e6, W6, st6⟩ := putF X5 hx hZ hown (host := "") (Or.inl (own_w hw 33 rfl)) Via.refl e5 F_v E_so (Or.inr ⟨(own_w hw 34 rfl), rfl, hnm⟩) (own_w hw 6 rfl) (ty := (.array .byte)) (by decide) rfl rfl (g := (mkF m 54 #[rv so, rv vc, iv (0 : Int32), iv (4 : Int32), .val .null, rv b_3] [(.ref b_3), (.ref so)])) rfl rfl (hb hby d3_54)
 have O := O.wr W6 g_so
 have E_so := E_so.wr W6
 have F_v := F_v.same W6
 have F_c := F_c.other W6 (Or.inr (slot_ne (Or.inr (own_w hw 32 rfl)) (Or.inr (own_w hw 34 rfl)) (by decide) (t := .byte) (t' := (.array .byte)) (by decide) (by decide)))
 have V_vc := V_vc.other W6 ne_vc_so
 have K := K.wr W6 (Or.inl (List.mem_of_getElem? (i := 0) rfl))
 have V_3 := V_3.other W6 ne_b_3_so
 have N6 := Fr.snoc X6 N5 g_so
 refine Go.step st6 ?_
 obtain ⟨fs, hr, hrun, hended, hW, hsame⟩ := X6.leave (v := none) (fun _ => rfl)
 refine Go.fin (S' := T6.setFrames fs) ?_ hrun hended ⟨_, _, rfl, ?_, ⟨_, rfl⟩, hW, hsame.mono (by decide) (by decide)⟩
 · exact X6.returnOut hx Bd.returns (hb hby d3_57) hr
 · show Q_rmN4_4 Z so vc kc cs x0 x1 x2 x3 h0 n0 (none) T6.heap _
   rw [e6]
   exact ⟨b_3, kb_3, rfl, N6, K, E_so, F_v, F_c, V_3⟩
theorem ef_rmNS4 (m : MethodId) (so : Addr) (vc : Addr) : entryFrame m #[(.ref so), (.ref vc)] 2 = mkF m 0 #[.val (.ref so), .val (.ref vc)] [] := by first | (simp [entryFrame, mkF, argsToLocals, Value.category]; done) | rfl
abbrev rm_rmNS4 : Room := ({ frames := 3, cells := 1, slots := 4, locals := 52 } : Room)
def Q_rmNS4 (Z : State) (so : Addr) (vc : Addr) (kc : ClassId) (cs : Int32) (x0 : Int32) (x1 : Int32) (x2 : Int32) (x3 : Int32) (h0 : Heap) (n0 : Nat) (v : Option Value) (h : Heap) (L : List Loc) : Prop := ∃ tb : Addr, ∃ kb : ClassId, (v = none) ∧ (Fr n0 L) ∧ (Keep h0 h [so]) ∧ (Exa Z h so "java/lang/String") ∧ (Fld Z h so "java/lang/String" "value" "[B" (.ref tb)) ∧ (Fld Z h so "java/lang/String" "coder" "B" (.int (0 : Int32))) ∧ (Arv Z h tb kb .byte (4 : Int32) [(.int (x0.toInt8.toInt32)), (.int (x1.toInt8.toInt32)), (.int (x2.toInt8.toInt32)), (.int (x3.toInt8.toInt32))] (.int (0 : Int32)))
set_option maxRecDepth 65536 in
set_option maxHeartbeats 4000000 in
theorem rmNS4 (l : Launch) (Z : State) (a0 : Array Value) (hw : ∀ d ∈ tables_1, d.before a0 Z = true) (ws : List Jvm.Cond) (so : Addr) (vc : Addr) (kc : ClassId) (cs : Int32) (x0 : Int32) (x1 : Int32) (x2 : Int32) (x3 : Int32) (h0 : Heap) (n0 : Nat) (O : Old Z n0 h0) (S_CS : Sta Z Z.heap "java/lang/String" "COMPACT_STRINGS" "Z" (.int cs)) (E_so : Exa Z h0 so "java/lang/String") (F_v : Fld Z h0 so "java/lang/String" "value" "[B" .null) (F_c : Fld Z h0 so "java/lang/String" "coder" "B" (.int (0 : Int32))) (V_vc : Arv Z h0 vc kc .char (4 : Int32) [(.int x0), (.int x1), (.int x2), (.int x3)] (.int (0 : Int32))) (g_so : n0 ≤ so) (hcs : ¬ (cs = (0 : Int32))) (u0 : ¬ ((255 : Int32) < x0)) (u1 : ¬ ((255 : Int32) < x1)) (u2 : ¬ ((255 : Int32) < x2)) (u3 : ¬ ((255 : Int32) < x3)) :
    MetFree l y_12 (head1 (Jvm.Cond.code y_12 jdk_42_method_3_code 2 none :: ws) rm_rmNS4) (fun A_ U => A_ = #[(.ref so), (.ref vc)] ∧ Z.Warmed39 U.vm ∧ U.heap = h0) (fun _ _ _ _ _ => True) (fun _ U o U' => ∃ v L, o = .returned v ∧ Q_rmNS4 Z so vc kc cs x0 x1 x2 x3 h0 n0 v U'.heap L ∧ FrameEnd U o U' L rm_rmNS4.cells rm_rmNS4.slots) := by
 refine MetFree.of_bodySF (plainFor_of_name pn_java_lang_String) hisR ?_
 intro p e s m args below meth c s₁ Bd hml0 hP hK
 obtain ⟨rfl, hZ, hh⟩ := hP
 have hx := Bd.exec
 have hby := Bd.bytes
 have hml : c.maxLocals = 2 := hml0
 have hown : s.vm.findClass "java/lang/String" = some m.cls := findClass_of_methodNamed Bd.named
 have hnm := (name_of_methodNamed Bd.named Bd.method).1
 have X0 : Stand p l e rm_rmNS4 s m #[(.ref so), (.ref vc)] below meth c s₁ [] 0 0 := Stand.of_body Bd
 have e0 : s₁.heap = h0 := by rw [← hh, Bd.state]; rfl
 have N0 := Fr.nil n0
 have K := Keep.refl h0 [so]
 refine Go.step (p := p) (e := e) (below := below) (G := fun o U' => ∃ v L, o = .returned v ∧ Q_rmNS4 Z so vc kc cs x0 x1 x2 x3 h0 n0 v U'.heap L ∧ FrameEnd s o U' L rm_rmNS4.cells rm_rmNS4.slots) (S' := s₁.setTop (mkF m 0 #[rv so, rv vc] [])) (fun t k => castTop (ef_rmNS4 m so vc) k) ?_
 refine Go.step (S' := s₁.setTop (mkF m 4 #[rv so, rv vc] [(.ref vc), (.int (0 : Int32)), (.ref vc), (.ref so)])) (fun t k => ?_) ?_
 · refine XS.aloadN X0.here hx rfl (hb hby d2_0) rfl rfl ?_
   refine XS.aloadN X0.here hx rfl (hb hby d2_1) rfl rfl ?_
   refine XS.iconst X0.here hx rfl (hb hby d2_2) ?_
   refine XS.aloadN X0.here hx rfl (hb hby d2_3) rfl rfl ?_
   exact k
 obtain ⟨cl1, Ar1, -, S1, N1_, -, -⟩ := id V_vc
 refine Go.step (S' := s₁.setTop (mkF m 5 #[rv so, rv vc] [(.int cl1.slots.size.toInt32), (.int (0 : Int32)), (.ref vc), (.ref so)])) (fun t k => X0.arraylength hx (by rw [e0]; exact Ar1.1) (State.isArrayOf_alike hZ.alike Ar1.2.1) (g := (mkF m 4 #[rv so, rv vc] [(.ref vc), (.int (0 : Int32)), (.ref vc), (.ref so)])) rfl rfl (hb hby d2_4) _ k) ?_
 rw [len_of S1 N1_]
 show Go p e below _ (s₁.setTop (mkF m 5 #[rv so, rv vc] [(.int (4 : Int32)), (.int (0 : Int32)), (.ref vc), (.ref so)]))
 refine Go.step (S' := s₁.setTop (mkF m 6 #[rv so, rv vc] [.null, (.int (4 : Int32)), (.int (0 : Int32)), (.ref vc), (.ref so)])) (fun t k => ?_) ?_
 · refine XS.aconstNull X0.here hx rfl (hb hby d2_5) ?_
   exact k
 obtain ⟨_, _, ⟨T2, L2, k2, n2⟩, -, X2, ⟨Lc2, hQ2, l2, y2, z2⟩, st2⟩ := X0.specialBack hx (y := y_11) rfl hown (mvT hZ (own_w hw 12 rfl)) (mvT hZ (own_w hw 13 rfl)) (mvT hZ (own_w hw 15 rfl)) (by decide) (backOf (W := 0) (rmN4_4 l Z a0 hw [] so vc kc cs x0 x1 x2 x3 h0 n0 O S_CS E_so F_v F_c V_vc (by assumption) hcs u0 u1 u2 u3) hZ (own_w hw 15 rfl) (own_w hw 7 rfl) (by decide) (by decide)) (g := (mkF m 6 #[rv so, rv vc] [.null, (.int (4 : Int32)), (.int (0 : Int32)), (.ref vc), (.ref so)])) rfl (by rw [hml]; rfl) (Steps.refl _) (a := so) (argsL := [(.ref vc), (.int (0 : Int32)), (.int (4 : Int32)), .null]) (rest := []) (lenOf pd__28_5bCIILjava_2flang_2fVoid_3b_29V rfl) rfl (Nat.le_of_eq rfl) (hb hby d2_6) (fun _ _ => ⟨rfl, e0, (by decide : 0 + 1 ≤ _), (by decide : 0 + 4 ≤ _)⟩)
 dsimp only [Pt.U, Pt.locs, Pt.cells, Pt.slots] at X2 l2 y2 z2 st2 hQ2
 subst l2 y2 z2
 obtain ⟨tb_2, kb_2, rfl, Nq2, K2, P2_E, P2_Fv, P2_Fc, P2_V⟩ := hQ2
 have N2 := Fr.app N0 Nq2
 have ne_vc_so : vc ≠ so := Ne.symm (Exa.neArv E_so V_vc (own_w hw 6 rfl))
 have O := O.keep K2 (allS g_so all0)
 have E_so := E_so.keep K2
 have V_vc := V_vc.keep K2 (ninS ne_vc_so nin0)
 have K := K.trans K2 (allS (Or.inl (List.mem_of_getElem? (i := 0) rfl)) all0)
 have E_2 := P2_E
 have Fv_2 := P2_Fv
 have Fc_2 := P2_Fc
 have V_2 := P2_V
 refine Go.step (fun t k => st2.trans k) ?_
 obtain ⟨fs, hr, hrun, hended, hW, hsame⟩ := X2.leave (v := none) (fun _ => rfl)
 refine Go.fin (S' := T2.setFrames fs) ?_ hrun hended ⟨_, _, rfl, ?_, ⟨_, rfl⟩, hW, hsame.mono (by decide) (by decide)⟩
 · exact X2.returnOut hx Bd.returns (hb hby d2_9) hr
 · show Q_rmNS4 Z so vc kc cs x0 x1 x2 x3 h0 n0 (none) T2.heap _
   exact ⟨tb_2, kb_2, rfl, N2, K, E_so, Fv_2, Fc_2, V_2⟩
theorem own_kc (p : Int32) : let x := ((97 : Int32) + ((p &&& (2147483647 : Int32)) % (26 : Int32))).toUInt32.toUInt16.toUInt32.toInt32
    ¬ (x < (97 : Int32)) ∧ ¬ ((122 : Int32) < x) ∧ ¬ (x < (0 : Int32)) ∧ ¬ ((255 : Int32) < x) := by
  have h1 := c_mask p 2147483647 31 (by decide) (by decide)
  generalize (p &&& (2147483647 : Int32)) = w at *
  have h2 := c_irem w 26 26 (by decide)
  have h3 := c_iadd 97 (w % 26)
  have h4 := rng32 (97 + w % 26)
  have h5 := c_i2c (97 + w % 26)
  simp only [Int32.lt_iff_toInt_lt, show (97 : Int32).toInt = 97 from rfl, show (122 : Int32).toInt = 122 from rfl, show (0 : Int32).toInt = 0 from rfl, show (255 : Int32).toInt = 255 from rfl] at *
  omega
theorem own_len4 {p : Int32} (h1 : ¬ (((p &&& (3 : Int32)) + (1 : Int32)) = (1 : Int32))) (h2 : ¬ (((p &&& (3 : Int32)) + (1 : Int32)) = (2 : Int32))) (h3 : ¬ (((p &&& (3 : Int32)) + (1 : Int32)) = (3 : Int32))) : ((p &&& (3 : Int32)) + (1 : Int32)) = (4 : Int32) := by
  have m := c_mask p 3 2 (by decide) (by decide)
  generalize (p &&& (3 : Int32)) = w at *
  have a := c_iadd w 1
  have r := rng32 (w + 1)
  simp only [← Int32.toInt_inj, show (1 : Int32).toInt = 1 from rfl, show (2 : Int32).toInt = 2 from rfl, show (3 : Int32).toInt = 3 from rfl, show (4 : Int32).toInt = 4 from rfl] at *
  omega
theorem own_mt {p x : Int32} (h : ((p &&& (2147483647 : Int32)) % (1025 : Int32)) = x) : 0 ≤ x.toInt ∧ x.toInt ≤ 1024 := by
  subst h
  have h1 := c_mask p 2147483647 31 (by decide) (by decide)
  generalize (p &&& (2147483647 : Int32)) = w at *
  have h2 := c_irem w 1025 1025 (by decide)
  omega
theorem own_pos {q x : Int64} (h : (q &&& (9223372036854775807 : Int64)) = x) : 0 ≤ x.toInt := by
  subst h
  have h1 := c_maskL q (9223372036854775807 : Int64) 63 (by decide) (by decide)
  omega
theorem own_off {k x : Int64} {m : Int32} (hk : 0 ≤ k.toInt ∧ k.toInt ≤ 100) (hm : 0 ≤ m.toInt ∧ m.toInt ≤ 1024) (h : (k + (m.toInt64)) = x) : 0 ≤ x.toInt ∧ x.toInt ≤ 2000 := by
  subst h
  have h1 := c_ladd k m.toInt64
  have h2 := c_i2l m
  have h3 := rng64 (k + m.toInt64)
  omega
theorem own_fit {ct rr off : Int64} (h1 : 0 ≤ ct.toInt) (h2 : 0 ≤ rr.toInt) (h3 : 0 ≤ off.toInt ∧ off.toInt ≤ 2000) (h4 : ¬ (rr < ct)) : ((rr - off) < ct ↔ (rr - ct) < off) := by
  have a := c_lsub rr off
  have b := c_lsub rr ct
  have ra := rng64 (rr - off)
  have rb := rng64 (rr - ct)
  have rc := rng64 rr
  simp only [Int64.lt_iff_toInt_lt] at *
  omega
theorem own_fit0 {ct rr off : Int64} (h1 : 0 ≤ ct.toInt) (h2 : 0 ≤ rr.toInt) (h3 : 0 ≤ off.toInt ∧ off.toInt ≤ 2000) (h4 : rr < ct) : (rr - off) < ct := by
  have a := c_lsub rr off
  have ra := rng64 (rr - off)
  have rc := rng64 rr
  simp only [Int64.lt_iff_toInt_lt] at *
  omega
theorem own_nn {x : Int64} (h : (0 : Int64) < x) : 0 ≤ x.toInt := by
  simp only [Int64.lt_iff_toInt_lt, show (0 : Int64).toInt = 0 from rfl] at h; omega
abbrev y_13 : MethodName := ⟨"com/example/tombsweep/tombsweep/io/RecordHeaderFitsInPinLaw", "kindOf", "(I)Lcom/example/tombsweep/tombsweep/io/RecordHeader$Kind;"⟩
theorem pn_com_example_tombsweep_tombsweep_io_RecordHeaderFitsInPinLaw : plainName "com/example/tombsweep/tombsweep/io/RecordHeaderFitsInPinLaw" = true := by first | (simp [plainName, overriddenIn]; done) | decide +kernel
theorem d8_0 : decode method_3_code 0 = .ok (.iload_n 0, 1) := by decide +kernel
theorem d8_1 : decode method_3_code 1 = .ok (.ldc 7, 2) := by decide +kernel
theorem d8_3 : decode method_3_code 3 = .ok (.iand, 1) := by decide +kernel
theorem d8_4 : decode method_3_code 4 = .ok (.iconst 5, 1) := by decide +kernel
theorem d8_5 : decode method_3_code 5 = .ok (.irem, 1) := by decide +kernel
theorem d8_6 : decode method_3_code 6 = .ok (.istore_n 1, 1) := by decide +kernel
theorem d8_7 : decode method_3_code 7 = .ok (.iload_n 1, 1) := by decide +kernel
theorem d8_8 : decode method_3_code 8 = .ok (.ifCond .ne 7, 3) := by decide +kernel
theorem d8_11 : decode method_3_code 11 = .ok (.getstatic 8, 3) := by decide +kernel
theorem d8_14 : decode method_3_code 14 = .ok (.areturn, 1) := by decide +kernel
theorem d8_15 : decode method_3_code 15 = .ok (.iload_n 1, 1) := by decide +kernel
theorem d8_16 : decode method_3_code 16 = .ok (.iconst 1, 1) := by decide +kernel
theorem d8_17 : decode method_3_code 17 = .ok (.if_icmp .ne 7, 3) := by decide +kernel
theorem d8_20 : decode method_3_code 20 = .ok (.getstatic 14, 3) := by decide +kernel
theorem d8_23 : decode method_3_code 23 = .ok (.areturn, 1) := by decide +kernel
theorem d8_24 : decode method_3_code 24 = .ok (.iload_n 1, 1) := by decide +kernel
theorem d8_25 : decode method_3_code 25 = .ok (.iconst 2, 1) := by decide +kernel
theorem d8_26 : decode method_3_code 26 = .ok (.if_icmp .ne 7, 3) := by decide +kernel
theorem d8_29 : decode method_3_code 29 = .ok (.getstatic 17, 3) := by decide +kernel
theorem d8_32 : decode method_3_code 32 = .ok (.areturn, 1) := by decide +kernel
theorem d8_33 : decode method_3_code 33 = .ok (.iload_n 1, 1) := by decide +kernel
theorem d8_34 : decode method_3_code 34 = .ok (.iconst 3, 1) := by decide +kernel
theorem d8_35 : decode method_3_code 35 = .ok (.if_icmp .ne 7, 3) := by decide +kernel
theorem d8_38 : decode method_3_code 38 = .ok (.getstatic 20, 3) := by decide +kernel
theorem d8_41 : decode method_3_code 41 = .ok (.areturn, 1) := by decide +kernel
theorem d8_42 : decode method_3_code 42 = .ok (.getstatic 23, 3) := by decide +kernel
theorem d8_45 : decode method_3_code 45 = .ok (.areturn, 1) := by decide +kernel
theorem ef_rmKind (m : MethodId) (pv : Int32) : entryFrame m #[(.int pv)] 2 = mkF m 0 #[.val (.int pv), .unset] [] := by first | (simp [entryFrame, mkF, argsToLocals, Value.category]; done) | rfl
abbrev rm_rmKind : Room := ({ frames := 0, cells := 0, slots := 0, locals := 0 } : Room)
def Q_rmKind (Z : State) (pv : Int32) (w_PUT : Addr) (w_ERASED : Addr) (w_DELETE : Addr) (w_GONE : Addr) (w_UNFINISHED : Addr) (h0 : Heap) (n0 : Nat) (v : Option Value) (h : Heap) (L : List Loc) : Prop := ∃ b : Addr, (v = some (.ref b)) ∧ (Fr n0 L) ∧ (h = h0)
set_option maxRecDepth 65536 in
set_option maxHeartbeats 4000000 in
theorem rmKind (l : Launch) (Z : State) (a0 : Array Value) (hw : ∀ d ∈ tables_1, d.before a0 Z = true) (ws : List Jvm.Cond) (pv : Int32) (w_PUT : Addr) (w_ERASED : Addr) (w_DELETE : Addr) (w_GONE : Addr) (w_UNFINISHED : Addr) (h0 : Heap) (n0 : Nat) (O : Old Z n0 h0) (S_PUT : Sta Z Z.heap "com/example/tombsweep/tombsweep/io/RecordHeader$Kind" "PUT" "Lcom/example/tombsweep/tombsweep/io/RecordHeader$Kind;" (.ref w_PUT)) (S_ERASED : Sta Z Z.heap "com/example/tombsweep/tombsweep/io/RecordHeader$Kind" "ERASED" "Lcom/example/tombsweep/tombsweep/io/RecordHeader$Kind;" (.ref w_ERASED)) (S_DELETE : Sta Z Z.heap "com/example/tombsweep/tombsweep/io/RecordHeader$Kind" "DELETE" "Lcom/example/tombsweep/tombsweep/io/RecordHeader$Kind;" (.ref w_DELETE)) (S_GONE : Sta Z Z.heap "com/example/tombsweep/tombsweep/io/RecordHeader$Kind" "GONE" "Lcom/example/tombsweep/tombsweep/io/RecordHeader$Kind;" (.ref w_GONE)) (S_UNFINISHED : Sta Z Z.heap "com/example/tombsweep/tombsweep/io/RecordHeader$Kind" "UNFINISHED" "Lcom/example/tombsweep/tombsweep/io/RecordHeader$Kind;" (.ref w_UNFINISHED)) :
    MetFree l y_13 (head1 (Jvm.Cond.code y_13 method_3_code 2 (some (.object "com/example/tombsweep/tombsweep/io/RecordHeader$Kind")) :: ws) rm_rmKind) (fun A_ U => A_ = #[(.int pv)] ∧ Z.Warmed39 U.vm ∧ U.heap = h0) (fun _ _ _ _ _ => True) (fun _ U o U' => ∃ v L, o = .returned v ∧ Q_rmKind Z pv w_PUT w_ERASED w_DELETE w_GONE w_UNFINISHED h0 n0 v U'.heap L ∧ FrameEnd U o U' L rm_rmKind.cells rm_rmKind.slots) := by
 refine MetFree.of_bodySF (plainFor_of_name pn_com_example_tombsweep_tombsweep_io_RecordHeaderFitsInPinLaw) hisR ?_
 intro p e s m args below meth c s₁ Bd hml0 hP hK
 obtain ⟨rfl, hZ, hh⟩ := hP
 have hx := Bd.exec
 have hby := Bd.bytes
 have hml : c.maxLocals = 2 := hml0
 have hown : s.vm.findClass "com/example/tombsweep/tombsweep/io/RecordHeaderFitsInPinLaw" = some m.cls := findClass_of_methodNamed Bd.named
 have hnm := (name_of_methodNamed Bd.named Bd.method).1
 have X0 : Stand p l e rm_rmKind s m #[(.int pv)] below meth c s₁ [] 0 0 := Stand.of_body Bd
 have e0 : s₁.heap = h0 := by rw [← hh, Bd.state]; rfl
 have N0 := Fr.nil n0
 refine Go.step (p := p) (e := e) (below := below) (G := fun o U' => ∃ v L, o = .returned v ∧ Q_rmKind Z pv w_PUT w_ERASED w_DELETE w_GONE w_UNFINISHED h0 n0 v U'.heap L ∧ FrameEnd s o U' L rm_rmKind.cells rm_rmKind.slots) (S' := s₁.setTop (mkF m 0 #[iv pv, u_] [])) (fun t k => castTop (ef_rmKind m pv) k) ?_
 refine Go.step (S' := s₁.setTop (mkF m 8 #[iv pv, iv ((pv &&& (2147483647 : Int32)) % (5 : Int32))] [(.int ((pv &&& (2147483647 : Int32)) % (5 : Int32)))])) (fun t k => ?_) ?_
 · refine XS.iloadN X0.here hx rfl (hb hby d8_0) rfl ?_
   refine X0.ldcInt hx hown (mvT hZ (own_w hw 4 rfl)) (g := (mkF m 1 #[iv pv, u_] [(.int pv)])) rfl (hb hby d8_1) _ ?_
   refine XS.iand X0.here hx rfl (hb hby d8_3) rfl ?_
   refine XS.iconst X0.here hx rfl (hb hby d8_4) ?_
   refine iremM X0 hx rfl (hb hby d8_5) rfl (by decide) ?_
   refine XS.istoreN X0.here hx rfl (hb hby d8_6) rfl (l' := #[iv pv, iv ((pv &&& (2147483647 : Int32)) % (5 : Int32))]) rfl ?_
   show Steps p.tables e below (s₁.setTop (mkF m 7 #[iv pv, iv ((pv &&& (2147483647 : Int32)) % (5 : Int32))] [])) _
   refine XS.iloadN X0.here hx rfl (hb hby d8_7) rfl ?_
   exact k
 by_cases hc8 : ((pv &&& (2147483647 : Int32)) % (5 : Int32)) = (0 : Int32)
 ·skip
  refine Go.step (S' := s₁.setTop (mkF m 11 #[iv pv, iv ((pv &&& (2147483647 : Int32)) % (5 : Int32))] [])) (fun t k => ?_) ?_
  · refine XS.ifNo X0.here hx rfl (hb hby d8_8) rfl ((if0 _ _).trans (teq (hc8 : ((pv &&& (2147483647 : Int32)) % (5 : Int32)) = (0 : Int32))).2) ?_
    exact k
  obtain ⟨T1, X1, e1, st1⟩ := getS2 X0 hx hZ hown (host := "") (Or.inl (own_w hw 152 rfl)) Via.refl e0 (S_PUT.ext O.2) (g := (mkF m 11 #[iv pv, iv ((pv &&& (2147483647 : Int32)) % (5 : Int32))] [])) rfl (hb hby d8_11)
  refine Go.step st1 ?_
  obtain ⟨fs, hr, hrun, hended, hW, hsame⟩ := X1.leave (v := some (.ref w_PUT)) (fun h => by rw [Bd.returns] at h; cases h)
  refine Go.fin (S' := T1.setFrames fs) ?_ hrun hended ⟨_, _, rfl, ?_, ⟨_, rfl⟩, hW, hsame.mono (by decide) (by decide)⟩
  · exact retOut X1 hx Bd.returns rfl (Or.inr (Or.inr (Or.inr (Or.inr ⟨rfl, rfl, rfl⟩)))) (hb hby d8_14) hr
  · show Q_rmKind Z pv w_PUT w_ERASED w_DELETE w_GONE w_UNFINISHED h0 n0 (some (.ref w_PUT)) T1.heap _
    rw [e1]
    exact ⟨w_PUT, rfl, N0, rfl⟩
 ·skip
  refine Go.step (S' := s₁.setTop (mkF m 17 #[iv pv, iv ((pv &&& (2147483647 : Int32)) % (5 : Int32))] [(.int (1 : Int32)), (.int ((pv &&& (2147483647 : Int32)) % (5 : Int32)))])) (fun t k => ?_) ?_
  · refine XS.ifYes X0.here hx rfl (pc0 := 8) (pc' := 15) rfl (hb hby d8_8) rfl ((if0 _ _).trans (feq (hc8 : ¬ (((pv &&& (2147483647 : Int32)) % (5 : Int32)) = (0 : Int32)))).2) (by decide) (by decide) ?_
    refine XS.iloadN X0.here hx rfl (hb hby d8_15) rfl ?_
    refine XS.iconst X0.here hx rfl (hb hby d8_16) ?_
    exact k
  by_cases hc17 : ((pv &&& (2147483647 : Int32)) % (5 : Int32)) = (1 : Int32)
  ·skip
   refine Go.step (S' := s₁.setTop (mkF m 20 #[iv pv, iv ((pv &&& (2147483647 : Int32)) % (5 : Int32))] [])) (fun t k => ?_) ?_
   · refine XS.icmpNo X0.here hx rfl (hb hby d8_17) rfl (teq (hc17 : ((pv &&& (2147483647 : Int32)) % (5 : Int32)) = (1 : Int32))).2 ?_
     exact k
   obtain ⟨T2, X2, e2, st2⟩ := getS2 X0 hx hZ hown (host := "") (Or.inl (own_w hw 43 rfl)) Via.refl e0 (S_ERASED.ext O.2) (g := (mkF m 20 #[iv pv, iv ((pv &&& (2147483647 : Int32)) % (5 : Int32))] [])) rfl (hb hby d8_20)
   refine Go.step st2 ?_
   obtain ⟨fs, hr, hrun, hended, hW, hsame⟩ := X2.leave (v := some (.ref w_ERASED)) (fun h => by rw [Bd.returns] at h; cases h)
   refine Go.fin (S' := T2.setFrames fs) ?_ hrun hended ⟨_, _, rfl, ?_, ⟨_, rfl⟩, hW, hsame.mono (by decide) (by decide)⟩
   · exact retOut X2 hx Bd.returns rfl (Or.inr (Or.inr (Or.inr (Or.inr ⟨rfl, rfl, rfl⟩)))) (hb hby d8_23) hr
   · show Q_rmKind Z pv w_PUT w_ERASED w_DELETE w_GONE w_UNFINISHED h0 n0 (some (.ref w_ERASED)) T2.heap _
     rw [e2]
     exact ⟨w_ERASED, rfl, N0, rfl⟩
  ·skip
   refine Go.step (S' := s₁.setTop (mkF m 26 #[iv pv, iv ((pv &&& (2147483647 : Int32)) % (5 : Int32))] [(.int (2 : Int32)), (.int ((pv &&& (2147483647 : Int32)) % (5 : Int32)))])) (fun t k => ?_) ?_
   · refine XS.icmpYes X0.here hx rfl (pc0 := 17) (pc' := 24) rfl (hb hby d8_17) rfl (feq (hc17 : ¬ (((pv &&& (2147483647 : Int32)) % (5 : Int32)) = (1 : Int32)))).2 (by decide) (by decide) ?_
     refine XS.iloadN X0.here hx rfl (hb hby d8_24) rfl ?_
     refine XS.iconst X0.here hx rfl (hb hby d8_25) ?_
     exact k
   by_cases hc26 : ((pv &&& (2147483647 : Int32)) % (5 : Int32)) = (2 : Int32)
   ·skip
    refine Go.step (S' := s₁.setTop (mkF m 29 #[iv pv, iv ((pv &&& (2147483647 : Int32)) % (5 : Int32))] [])) (fun t k => ?_) ?_
    · refine XS.icmpNo X0.here hx rfl (hb hby d8_26) rfl (teq (hc26 : ((pv &&& (2147483647 : Int32)) % (5 : Int32)) = (2 : Int32))).2 ?_
      exact k
    obtain ⟨T3, X3, e3, st3⟩ := getS2 X0 hx hZ hown (host := "") (Or.inl (own_w hw 161 rfl)) Via.refl e0 (S_DELETE.ext O.2) (g := (mkF m 29 #[iv pv, iv ((pv &&& (2147483647 : Int32)) % (5 : Int32))] [])) rfl (hb hby d8_29)
    refine Go.step st3 ?_
    obtain ⟨fs, hr, hrun, hended, hW, hsame⟩ := X3.leave (v := some (.ref w_DELETE)) (fun h => by rw [Bd.returns] at h; cases h)
    refine Go.fin (S' := T3.setFrames fs) ?_ hrun hended ⟨_, _, rfl, ?_, ⟨_, rfl⟩, hW, hsame.mono (by decide) (by decide)⟩
    · exact retOut X3 hx Bd.returns rfl (Or.inr (Or.inr (Or.inr (Or.inr ⟨rfl, rfl, rfl⟩)))) (hb hby d8_32) hr
    · show Q_rmKind Z pv w_PUT w_ERASED w_DELETE w_GONE w_UNFINISHED h0 n0 (some (.ref w_DELETE)) T3.heap _
      rw [e3]
      exact ⟨w_DELETE, rfl, N0, rfl⟩
   ·skip
    refine Go.step (S' := s₁.setTop (mkF m 35 #[iv pv, iv ((pv &&& (2147483647 : Int32)) % (5 : Int32))] [(.int (3 : Int32)), (.int ((pv &&& (2147483647 : Int32)) % (5 : Int32)))])) (fun t k => ?_) ?_
    · refine XS.icmpYes X0.here hx rfl (pc0 := 26) (pc' := 33) rfl (hb hby d8_26) rfl (feq (hc26 : ¬ (((pv &&& (2147483647 : Int32)) % (5 : Int32)) = (2 : Int32)))).2 (by decide) (by decide) ?_
      refine XS.iloadN X0.here hx rfl (hb hby d8_33) rfl ?_
      refine XS.iconst X0.here hx rfl (hb hby d8_34) ?_
      exact k
    by_cases hc35 : ((pv &&& (2147483647 : Int32)) % (5 : Int32)) = (3 : Int32)
    ·skip
     refine Go.step (S' := s₁.setTop (mkF m 38 #[iv pv, iv ((pv &&& (2147483647 : Int32)) % (5 : Int32))] [])) (fun t k => ?_) ?_
     · refine XS.icmpNo X0.here hx rfl (hb hby d8_35) rfl (teq (hc35 : ((pv &&& (2147483647 : Int32)) % (5 : Int32)) = (3 : Int32))).2 ?_
       exact k
     obtain ⟨T4, X4, e4, st4⟩ := getS2 X0 hx hZ hown (host := "") (Or.inl (own_w hw 163 rfl)) Via.refl e0 (S_GONE.ext O.2) (g := (mkF m 38 #[iv pv, iv ((pv &&& (2147483647 : Int32)) % (5 : Int32))] [])) rfl (hb hby d8_38)
     refine Go.step st4 ?_
     obtain ⟨fs, hr, hrun, hended, hW, hsame⟩ := X4.leave (v := some (.ref w_GONE)) (fun h => by rw [Bd.returns] at h; cases h)
     refine Go.fin (S' := T4.setFrames fs) ?_ hrun hended ⟨_, _, rfl, ?_, ⟨_, rfl⟩, hW, hsame.mono (by decide) (by decide)⟩
     · exact retOut X4 hx Bd.returns rfl (Or.inr (Or.inr (Or.inr (Or.inr ⟨rfl, rfl, rfl⟩)))) (hb hby d8_41) hr
     · show Q_rmKind Z pv w_PUT w_ERASED w_DELETE w_GONE w_UNFINISHED h0 n0 (some (.ref w_GONE)) T4.heap _
       rw [e4]
       exact ⟨w_GONE, rfl, N0, rfl⟩
    ·skip
     refine Go.step (S' := s₁.setTop (mkF m 42 #[iv pv, iv ((pv &&& (2147483647 : Int32)) % (5 : Int32))] [])) (fun t k => ?_) ?_
     · refine XS.icmpYes X0.here hx rfl (pc0 := 35) (pc' := 42) rfl (hb hby d8_35) rfl (feq (hc35 : ¬ (((pv &&& (2147483647 : Int32)) % (5 : Int32)) = (3 : Int32)))).2 (by decide) (by decide) ?_
       exact k
     obtain ⟨T5, X5, e5, st5⟩ := getS2 X0 hx hZ hown (host := "") (Or.inl (own_w hw 159 rfl)) Via.refl e0 (S_UNFINISHED.ext O.2) (g := (mkF m 42 #[iv pv, iv ((pv &&& (2147483647 : Int32)) % (5 : Int32))] [])) rfl (hb hby d8_42)
     refine Go.step st5 ?_
     obtain ⟨fs, hr, hrun, hended, hW, hsame⟩ := X5.leave (v := some (.ref w_UNFINISHED)) (fun h => by rw [Bd.returns] at h; cases h)
     refine Go.fin (S' := T5.setFrames fs) ?_ hrun hended ⟨_, _, rfl, ?_, ⟨_, rfl⟩, hW, hsame.mono (by decide) (by decide)⟩
     · exact retOut X5 hx Bd.returns rfl (Or.inr (Or.inr (Or.inr (Or.inr ⟨rfl, rfl, rfl⟩)))) (hb hby d8_45) hr
     · show Q_rmKind Z pv w_PUT w_ERASED w_DELETE w_GONE w_UNFINISHED h0 n0 (some (.ref w_UNFINISHED)) T5.heap _
       rw [e5]
       exact ⟨w_UNFINISHED, rfl, N0, rfl⟩
abbrev y_14 : MethodName := ⟨"com/example/tombsweep/tombsweep/io/RecordHeaderFitsInPinLaw", "kc", "(I)C"⟩
theorem d1_0 : decode method_2_code 0 = .ok (.bipush 97, 2) := by decide +kernel
theorem d1_2 : decode method_2_code 2 = .ok (.iload_n 0, 1) := by decide +kernel
theorem d1_3 : decode method_2_code 3 = .ok (.ldc 7, 2) := by decide +kernel
theorem d1_5 : decode method_2_code 5 = .ok (.iand, 1) := by decide +kernel
theorem d1_6 : decode method_2_code 6 = .ok (.bipush 26, 2) := by decide +kernel
theorem d1_8 : decode method_2_code 8 = .ok (.irem, 1) := by decide +kernel
theorem d1_9 : decode method_2_code 9 = .ok (.iadd, 1) := by decide +kernel
theorem d1_10 : decode method_2_code 10 = .ok (.i2c, 1) := by decide +kernel
theorem d1_11 : decode method_2_code 11 = .ok (.ireturn, 1) := by decide +kernel
theorem ef_rmKc (m : MethodId) (pv : Int32) : entryFrame m #[(.int pv)] 1 = mkF m 0 #[.val (.int pv)] [] := by first | (simp [entryFrame, mkF, argsToLocals, Value.category]; done) | rfl
abbrev rm_rmKc : Room := ({ frames := 0, cells := 0, slots := 0, locals := 0 } : Room)
def Q_rmKc (Z : State) (pv : Int32) (h0 : Heap) (n0 : Nat) (v : Option Value) (h : Heap) (L : List Loc) : Prop := ∃ r : Int32, (v = some (.int r)) ∧ (Fr n0 L) ∧ (h = h0) ∧ (¬ (r < (97 : Int32))) ∧ (¬ ((122 : Int32) < r)) ∧ (¬ (r < (0 : Int32))) ∧ (¬ ((255 : Int32) < r))
set_option maxRecDepth 65536 in
set_option maxHeartbeats 4000000 in
theorem rmKc (l : Launch) (Z : State) (a0 : Array Value) (hw : ∀ d ∈ tables_1, d.before a0 Z = true) (ws : List Jvm.Cond) (pv : Int32) (h0 : Heap) (n0 : Nat) (O : Old Z n0 h0) :
    MetFree l y_14 (head1 (Jvm.Cond.code y_14 method_2_code 1 (some .char) :: ws) rm_rmKc) (fun A_ U => A_ = #[(.int pv)] ∧ Z.Warmed39 U.vm ∧ U.heap = h0) (fun _ _ _ _ _ => True) (fun _ U o U' => ∃ v L, o = .returned v ∧ Q_rmKc Z pv h0 n0 v U'.heap L ∧ FrameEnd U o U' L rm_rmKc.cells rm_rmKc.slots) := by
 refine MetFree.of_bodySF (plainFor_of_name pn_com_example_tombsweep_tombsweep_io_RecordHeaderFitsInPinLaw) hisR ?_
 intro p e s m args below meth c s₁ Bd hml0 hP hK
 obtain ⟨rfl, hZ, hh⟩ := hP
 have hx := Bd.exec
 have hby := Bd.bytes
 have hml : c.maxLocals = 1 := hml0
 have hown : s.vm.findClass "com/example/tombsweep/tombsweep/io/RecordHeaderFitsInPinLaw" = some m.cls := findClass_of_methodNamed Bd.named
 have hnm := (name_of_methodNamed Bd.named Bd.method).1
 have X0 : Stand p l e rm_rmKc s m #[(.int pv)] below meth c s₁ [] 0 0 := Stand.of_body Bd
 have e0 : s₁.heap = h0 := by rw [← hh, Bd.state]; rfl
 have N0 := Fr.nil n0
 refine Go.step (p := p) (e := e) (below := below) (G := fun o U' => ∃ v L, o = .returned v ∧ Q_rmKc Z pv h0 n0 v U'.heap L ∧ FrameEnd s o U' L rm_rmKc.cells rm_rmKc.slots) (S' := s₁.setTop (mkF m 0 #[iv pv] [])) (fun t k => castTop (ef_rmKc m pv) k) ?_
 refine Go.step (S' := s₁.setTop (mkF m 11 #[iv pv] [(.int (((97 : Int32) + ((pv &&& (2147483647 : Int32)) % (26 : Int32))).toUInt32.toUInt16.toUInt32.toInt32))])) (fun t k => ?_) ?_
 · refine XS.bipush X0.here hx rfl (hb hby d1_0) ?_
   refine XS.iloadN X0.here hx rfl (hb hby d1_2) rfl ?_
   refine X0.ldcInt hx hown (mvT hZ (own_w hw 4 rfl)) (g := (mkF m 3 #[iv pv] [(.int pv), (.int (97 : Int32))])) rfl (hb hby d1_3) _ ?_
   refine XS.iand X0.here hx rfl (hb hby d1_5) rfl ?_
   refine XS.bipush X0.here hx rfl (hb hby d1_6) ?_
   refine iremM X0 hx rfl (hb hby d1_8) rfl (by decide) ?_
   show Steps p.tables e below (s₁.setTop (mkF m 9 #[iv pv] [(.int ((pv &&& (2147483647 : Int32)) % (26 : Int32))), (.int (97 : Int32))])) _
   refine XS.iadd X0.here hx rfl (hb hby d1_9) rfl ?_
   refine XS.i2c X0.here hx rfl (hb hby d1_10) rfl ?_
   exact k
 obtain ⟨fs, hr, hrun, hended, hW, hsame⟩ := X0.leave (v := some (.int (((97 : Int32) + ((pv &&& (2147483647 : Int32)) % (26 : Int32))).toUInt32.toUInt16.toUInt32.toInt32))) (fun h => by rw [Bd.returns] at h; cases h)
 refine Go.fin (S' := s₁.setFrames fs) ?_ hrun hended ⟨_, _, rfl, ?_, ⟨_, rfl⟩, hW, hsame.mono (by decide) (by decide)⟩
 · exact retOut X0 hx Bd.returns (Jvm.Free.XT.narrow_c _) (Or.inl ⟨rfl, Or.inr (Or.inr (Or.inr (Or.inl rfl))), _, rfl⟩) (hb hby d1_11) hr
 · show Q_rmKc Z pv h0 n0 (some (.int (((97 : Int32) + ((pv &&& (2147483647 : Int32)) % (26 : Int32))).toUInt32.toUInt16.toUInt32.toInt32))) s₁.heap _
   rw [e0]
   exact ⟨(((97 : Int32) + ((pv &&& (2147483647 : Int32)) % (26 : Int32))).toUInt32.toUInt16.toUInt32.toInt32), rfl, N0, rfl, (own_kc pv).1, (own_kc pv).2.1, (own_kc pv).2.2.1, (own_kc pv).2.2.2⟩
abbrev y_15 : MethodName := ⟨"java/lang/Math", "max", "(JJ)J"⟩
theorem d27_0 : decode jdk_29_method_66_code 0 = .ok (.lload_n 0, 1) := by decide +kernel
theorem d27_1 : decode jdk_29_method_66_code 1 = .ok (.lload_n 2, 1) := by decide +kernel
theorem d27_2 : decode jdk_29_method_66_code 2 = .ok (.lcmp, 1) := by decide +kernel
theorem d27_3 : decode jdk_29_method_66_code 3 = .ok (.ifCond .lt 7, 3) := by decide +kernel
theorem d27_10 : decode jdk_29_method_66_code 10 = .ok (.lload_n 2, 1) := by decide +kernel
theorem d27_11 : decode jdk_29_method_66_code 11 = .ok (.lreturn, 1) := by decide +kernel
theorem ef_rmMaxB (m : MethodId) (a : Int64) (b : Int64) : entryFrame m #[(.long a), (.long b)] 4 = mkF m 0 #[.val (.long a), .second, .val (.long b), .second] [] := by first | (simp [entryFrame, mkF, argsToLocals, Value.category]; done) | rfl
abbrev rm_rmMaxB : Room := ({ frames := 0, cells := 0, slots := 0, locals := 0 } : Room)
def Q_rmMaxB (Z : State) (a : Int64) (b : Int64) (h0 : Heap) (n0 : Nat) (v : Option Value) (h : Heap) (L : List Loc) : Prop := (v = some (.long b)) ∧ (Fr n0 L) ∧ (h = h0)
set_option maxRecDepth 65536 in
set_option maxHeartbeats 4000000 in
theorem rmMaxB (l : Launch) (Z : State) (a0 : Array Value) (hw : ∀ d ∈ tables_1, d.before a0 Z = true) (ws : List Jvm.Cond) (a : Int64) (b : Int64) (h0 : Heap) (n0 : Nat) (O : Old Z n0 h0) (hp : a < b) :
    MetFree l y_15 (head1 (Jvm.Cond.code y_15 jdk_29_method_66_code 4 (some .long) :: ws) rm_rmMaxB) (fun A_ U => A_ = #[(.long a), (.long b)] ∧ Z.Warmed39 U.vm ∧ U.heap = h0) (fun _ _ _ _ _ => True) (fun _ U o U' => ∃ v L, o = .returned v ∧ Q_rmMaxB Z a b h0 n0 v U'.heap L ∧ FrameEnd U o U' L rm_rmMaxB.cells rm_rmMaxB.slots) := by
 refine MetFree.of_bodySF (Jvm.Free.JP.mathPlain rfl (by decide +kernel)) hisR ?_
 intro p e s m args below meth c s₁ Bd hml0 hP hK
 obtain ⟨rfl, hZ, hh⟩ := hP
 have hx := Bd.exec
 have hby := Bd.bytes
 have hml : c.maxLocals = 4 := hml0
 have hown : s.vm.findClass "java/lang/Math" = some m.cls := findClass_of_methodNamed Bd.named
 have hnm := (name_of_methodNamed Bd.named Bd.method).1
 have X0 : Stand p l e rm_rmMaxB s m #[(.long a), (.long b)] below meth c s₁ [] 0 0 := Stand.of_body Bd
 have e0 : s₁.heap = h0 := by rw [← hh, Bd.state]; rfl
 have N0 := Fr.nil n0
 refine Go.step (p := p) (e := e) (below := below) (G := fun o U' => ∃ v L, o = .returned v ∧ Q_rmMaxB Z a b h0 n0 v U'.heap L ∧ FrameEnd s o U' L rm_rmMaxB.cells rm_rmMaxB.slots) (S' := s₁.setTop (mkF m 0 #[lv a, .second, lv b, .second] [])) (fun t k => castTop (ef_rmMaxB m a b) k) ?_
 refine Go.step (S' := s₁.setTop (mkF m 11 #[lv a, .second, lv b, .second] [(.long b)])) (fun t k => ?_) ?_
 · refine XS.lloadN X0.here hx rfl (hb hby d27_0) rfl ?_
   refine XS.lloadN X0.here hx rfl (hb hby d27_1) rfl ?_
   refine XS.lcmp X0.here hx rfl (hb hby d27_2) rfl ?_
   refine XS.ifYes X0.here hx rfl (pc0 := 3) (pc' := 10) rfl (hb hby d27_3) rfl ((if0 _ _).trans (tlt ((lw_lt a b).mpr hp)).1) (by decide) (by decide) ?_
   refine XS.lloadN X0.here hx rfl (hb hby d27_10) rfl ?_
   exact k
 obtain ⟨fs, hr, hrun, hended, hW, hsame⟩ := X0.leave (v := some (.long b)) (fun h => by rw [Bd.returns] at h; cases h)
 refine Go.fin (S' := s₁.setFrames fs) ?_ hrun hended ⟨_, _, rfl, ?_, ⟨_, rfl⟩, hW, hsame.mono (by decide) (by decide)⟩
 · exact retOut X0 hx Bd.returns rfl (Or.inr (Or.inl ⟨rfl, rfl, _, rfl⟩)) (hb hby d27_11) hr
 · show Q_rmMaxB Z a b h0 n0 (some (.long b)) s₁.heap _
   rw [e0]
   exact ⟨rfl, N0, rfl⟩
theorem d27_6 : decode jdk_29_method_66_code 6 = .ok (.lload_n 0, 1) := by decide +kernel
theorem d27_7 : decode jdk_29_method_66_code 7 = .ok (.goto 4, 3) := by decide +kernel
theorem ef_rmMaxA (m : MethodId) (a : Int64) (b : Int64) : entryFrame m #[(.long a), (.long b)] 4 = mkF m 0 #[.val (.long a), .second, .val (.long b), .second] [] := by first | (simp [entryFrame, mkF, argsToLocals, Value.category]; done) | rfl
abbrev rm_rmMaxA : Room := ({ frames := 0, cells := 0, slots := 0, locals := 0 } : Room)
def Q_rmMaxA (Z : State) (a : Int64) (b : Int64) (h0 : Heap) (n0 : Nat) (v : Option Value) (h : Heap) (L : List Loc) : Prop := (v = some (.long a)) ∧ (Fr n0 L) ∧ (h = h0)
set_option maxRecDepth 65536 in
set_option maxHeartbeats 4000000 in
theorem rmMaxA (l : Launch) (Z : State) (a0 : Array Value) (hw : ∀ d ∈ tables_1, d.before a0 Z = true) (ws : List Jvm.Cond) (a : Int64) (b : Int64) (h0 : Heap) (n0 : Nat) (O : Old Z n0 h0) (hp : ¬ (a < b)) :
    MetFree l y_15 (head1 (Jvm.Cond.code y_15 jdk_29_method_66_code 4 (some .long) :: ws) rm_rmMaxA) (fun A_ U => A_ = #[(.long a), (.long b)] ∧ Z.Warmed39 U.vm ∧ U.heap = h0) (fun _ _ _ _ _ => True) (fun _ U o U' => ∃ v L, o = .returned v ∧ Q_rmMaxA Z a b h0 n0 v U'.heap L ∧ FrameEnd U o U' L rm_rmMaxA.cells rm_rmMaxA.slots) := by
 refine MetFree.of_bodySF (Jvm.Free.JP.mathPlain rfl (by decide +kernel)) hisR ?_
 intro p e s m args below meth c s₁ Bd hml0 hP hK
 obtain ⟨rfl, hZ, hh⟩ := hP
 have hx := Bd.exec
 have hby := Bd.bytes
 have hml : c.maxLocals = 4 := hml0
 have hown : s.vm.findClass "java/lang/Math" = some m.cls := findClass_of_methodNamed Bd.named
 have hnm := (name_of_methodNamed Bd.named Bd.method).1
 have X0 : Stand p l e rm_rmMaxA s m #[(.long a), (.long b)] below meth c s₁ [] 0 0 := Stand.of_body Bd
 have e0 : s₁.heap = h0 := by rw [← hh, Bd.state]; rfl
 have N0 := Fr.nil n0
 refine Go.step (p := p) (e := e) (below := below) (G := fun o U' => ∃ v L, o = .returned v ∧ Q_rmMaxA Z a b h0 n0 v U'.heap L ∧ FrameEnd s o U' L rm_rmMaxA.cells rm_rmMaxA.slots) (S' := s₁.setTop (mkF m 0 #[lv a, .second, lv b, .second] [])) (fun t k => castTop (ef_rmMaxA m a b) k) ?_
 refine Go.step (S' := s₁.setTop (mkF m 11 #[lv a, .second, lv b, .second] [(.long a)])) (fun t k => ?_) ?_
 · refine XS.lloadN X0.here hx rfl (hb hby d27_0) rfl ?_
   refine XS.lloadN X0.here hx rfl (hb hby d27_1) rfl ?_
   refine XS.lcmp X0.here hx rfl (hb hby d27_2) rfl ?_
   refine XS.ifNo X0.here hx rfl (hb hby d27_3) rfl ((if0 _ _).trans (flt (fun zq => absurd ((lw_lt a b).mp zq) hp)).1) ?_
   refine XS.lloadN X0.here hx rfl (hb hby d27_6) rfl ?_
   refine XS.goto X0.here hx rfl (pc0 := 7) (pc' := 11) rfl (hb hby d27_7) (by decide) (by decide) ?_
   exact k
 obtain ⟨fs, hr, hrun, hended, hW, hsame⟩ := X0.leave (v := some (.long a)) (fun h => by rw [Bd.returns] at h; cases h)
 refine Go.fin (S' := s₁.setFrames fs) ?_ hrun hended ⟨_, _, rfl, ?_, ⟨_, rfl⟩, hW, hsame.mono (by decide) (by decide)⟩
 · exact retOut X0 hx Bd.returns rfl (Or.inr (Or.inl ⟨rfl, rfl, _, rfl⟩)) (hb hby d27_11) hr
 · show Q_rmMaxA Z a b h0 n0 (some (.long a)) s₁.heap _
   rw [e0]
   exact ⟨rfl, N0, rfl⟩
abbrev y_16 : MethodName := ⟨"java/lang/Record", "<init>", "()V"⟩
theorem pn_java_lang_Record : plainName "java/lang/Record" = true := by first | (simp [plainName, overriddenIn]; done) | decide +kernel
theorem d10_0 : decode jdk_30_method_1_code 0 = .ok (.aload_n 0, 1) := by decide +kernel
theorem d10_1 : decode jdk_30_method_1_code 1 = .ok (.invokespecial 1, 3) := by decide +kernel
theorem d10_4 : decode jdk_30_method_1_code 4 = .ok (.return_, 1) := by decide +kernel
theorem ef_rmRec (m : MethodId) (a : Addr) : entryFrame m #[(.ref a)] 1 = mkF m 0 #[.val (.ref a)] [] := by first | (simp [entryFrame, mkF, argsToLocals, Value.category]; done) | rfl
abbrev rm_rmRec : Room := ({ frames := 1, cells := 0, slots := 0, locals := 12 } : Room)
def Q_rmRec (Z : State) (a : Addr) (h0 : Heap) (n0 : Nat) (v : Option Value) (h : Heap) (L : List Loc) : Prop := (v = none) ∧ (Fr n0 L) ∧ (h = h0)
set_option maxRecDepth 65536 in
set_option maxHeartbeats 4000000 in
theorem rmRec (l : Launch) (Z : State) (a0 : Array Value) (hw : ∀ d ∈ tables_1, d.before a0 Z = true) (ws : List Jvm.Cond) (a : Addr) (h0 : Heap) (n0 : Nat) (O : Old Z n0 h0) :
    MetFree l y_16 (head1 (Jvm.Cond.code y_16 jdk_30_method_1_code 1 none :: ws) rm_rmRec) (fun A_ U => A_ = #[(.ref a)] ∧ Z.Warmed39 U.vm ∧ U.heap = h0) (fun _ _ _ _ _ => True) (fun _ U o U' => ∃ v L, o = .returned v ∧ Q_rmRec Z a h0 n0 v U'.heap L ∧ FrameEnd U o U' L rm_rmRec.cells rm_rmRec.slots) := by
 refine MetFree.of_bodySF (plainFor_of_name pn_java_lang_Record) hisR ?_
 intro p e s m args below meth c s₁ Bd hml0 hP hK
 obtain ⟨rfl, hZ, hh⟩ := hP
 have hx := Bd.exec
 have hby := Bd.bytes
 have hml : c.maxLocals = 1 := hml0
 have hown : s.vm.findClass "java/lang/Record" = some m.cls := findClass_of_methodNamed Bd.named
 have hnm := (name_of_methodNamed Bd.named Bd.method).1
 have X0 : Stand p l e rm_rmRec s m #[(.ref a)] below meth c s₁ [] 0 0 := Stand.of_body Bd
 have e0 : s₁.heap = h0 := by rw [← hh, Bd.state]; rfl
 have N0 := Fr.nil n0
 refine Go.step (p := p) (e := e) (below := below) (G := fun o U' => ∃ v L, o = .returned v ∧ Q_rmRec Z a h0 n0 v U'.heap L ∧ FrameEnd s o U' L rm_rmRec.cells rm_rmRec.slots) (S' := s₁.setTop (mkF m 0 #[rv a] [])) (fun t k => castTop (ef_rmRec m a) k) ?_
 refine Go.step (S' := s₁.setTop (mkF m 1 #[rv a] [(.ref a)])) (fun t k => ?_) ?_
 · refine XS.aloadN X0.here hx rfl (hb hby d10_0) rfl rfl ?_
   exact k
 obtain ⟨T1, X1, e1, st1⟩ := initO X0 hx hZ hown (own_w hw 57 rfl) (own_w hw 17 rfl) (own_w hw 18 rfl) e0 (g := (mkF m 1 #[rv a] [(.ref a)])) rfl (by rw [hml]; rfl) rfl (hb hby d10_1) (by decide) (W := 0) (by show 2 * 0 + _ ≤ _; exact Nat.le_of_eq rfl) (by decide)
 refine Go.step st1 ?_
 obtain ⟨fs, hr, hrun, hended, hW, hsame⟩ := X1.leave (v := none) (fun _ => rfl)
 refine Go.fin (S' := T1.setFrames fs) ?_ hrun hended ⟨_, _, rfl, ?_, ⟨_, rfl⟩, hW, hsame.mono (by decide) (by decide)⟩
 · exact X1.returnOut hx Bd.returns (hb hby d10_4) hr
 · show Q_rmRec Z a h0 n0 (none) T1.heap _
   rw [e1]
   exact ⟨rfl, N0, rfl⟩
abbrev y_17 : MethodName := ⟨"java/util/Objects", "requireNonNull", "(Ljava/lang/Object;Ljava/lang/String;)Ljava/lang/Object;"⟩
theorem pn_java_util_Objects : plainName "java/util/Objects" = true := by first | (simp [plainName, overriddenIn]; done) | decide +kernel
theorem d11_0 : decode jdk_31_method_11_code 0 = .ok (.aload_n 0, 1) := by decide +kernel
theorem d11_1 : decode jdk_31_method_11_code 1 = .ok (.ifnonnull 12, 3) := by decide +kernel
theorem d11_13 : decode jdk_31_method_11_code 13 = .ok (.aload_n 0, 1) := by decide +kernel
theorem d11_14 : decode jdk_31_method_11_code 14 = .ok (.areturn, 1) := by decide +kernel
theorem ef_rmReq (m : MethodId) (a : Addr) (b : Addr) : entryFrame m #[(.ref a), (.ref b)] 2 = mkF m 0 #[.val (.ref a), .val (.ref b)] [] := by first | (simp [entryFrame, mkF, argsToLocals, Value.category]; done) | rfl
abbrev rm_rmReq : Room := ({ frames := 0, cells := 0, slots := 0, locals := 0 } : Room)
def Q_rmReq (Z : State) (a : Addr) (b : Addr) (h0 : Heap) (n0 : Nat) (v : Option Value) (h : Heap) (L : List Loc) : Prop := (v = some (.ref a)) ∧ (Fr n0 L) ∧ (h = h0)
set_option maxRecDepth 65536 in
set_option maxHeartbeats 4000000 in
theorem rmReq (l : Launch) (Z : State) (a0 : Array Value) (hw : ∀ d ∈ tables_1, d.before a0 Z = true) (ws : List Jvm.Cond) (a : Addr) (b : Addr) (h0 : Heap) (n0 : Nat) (O : Old Z n0 h0) :
    MetFree l y_17 (head1 (Jvm.Cond.code y_17 jdk_31_method_11_code 2 (some (.object "java/lang/Object")) :: ws) rm_rmReq) (fun A_ U => A_ = #[(.ref a), (.ref b)] ∧ Z.Warmed39 U.vm ∧ U.heap = h0) (fun _ _ _ _ _ => True) (fun _ U o U' => ∃ v L, o = .returned v ∧ Q_rmReq Z a b h0 n0 v U'.heap L ∧ FrameEnd U o U' L rm_rmReq.cells rm_rmReq.slots) := by
 refine MetFree.of_bodySF (plainFor_of_name pn_java_util_Objects) hisR ?_
 intro p e s m args below meth c s₁ Bd hml0 hP hK
 obtain ⟨rfl, hZ, hh⟩ := hP
 have hx := Bd.exec
 have hby := Bd.bytes
 have hml : c.maxLocals = 2 := hml0
 have hown : s.vm.findClass "java/util/Objects" = some m.cls := findClass_of_methodNamed Bd.named
 have hnm := (name_of_methodNamed Bd.named Bd.method).1
 have X0 : Stand p l e rm_rmReq s m #[(.ref a), (.ref b)] below meth c s₁ [] 0 0 := Stand.of_body Bd
 have e0 : s₁.heap = h0 := by rw [← hh, Bd.state]; rfl
 have N0 := Fr.nil n0
 refine Go.step (p := p) (e := e) (below := below) (G := fun o U' => ∃ v L, o = .returned v ∧ Q_rmReq Z a b h0 n0 v U'.heap L ∧ FrameEnd s o U' L rm_rmReq.cells rm_rmReq.slots) (S' := s₁.setTop (mkF m 0 #[rv a, rv b] [])) (fun t k => castTop (ef_rmReq m a b) k) ?_
 refine Go.step (S' := s₁.setTop (mkF m 14 #[rv a, rv b] [(.ref a)])) (fun t k => ?_) ?_
 · refine XS.aloadN X0.here hx rfl (hb hby d11_0) rfl rfl ?_
   refine XS.ifnonnullYes X0.here hx rfl (pc0 := 1) (pc' := 13) rfl (hb hby d11_1) rfl (by decide) (by decide) ?_
   refine XS.aloadN X0.here hx rfl (hb hby d11_13) rfl rfl ?_
   exact k
 obtain ⟨fs, hr, hrun, hended, hW, hsame⟩ := X0.leave (v := some (.ref a)) (fun h => by rw [Bd.returns] at h; cases h)
 refine Go.fin (S' := s₁.setFrames fs) ?_ hrun hended ⟨_, _, rfl, ?_, ⟨_, rfl⟩, hW, hsame.mono (by decide) (by decide)⟩
 · exact retOut X0 hx Bd.returns rfl (Or.inr (Or.inr (Or.inr (Or.inr ⟨rfl, rfl, rfl⟩)))) (hb hby d11_14) hr
 · show Q_rmReq Z a b h0 n0 (some (.ref a)) s₁.heap _
   rw [e0]
   exact ⟨rfl, N0, rfl⟩
abbrev y_18 : MethodName := ⟨"com/example/tombsweep/tombsweep/model/BlobKey", "isKeyCharacter", "(C)Z"⟩
theorem pn_com_example_tombsweep_tombsweep_model_BlobKey : plainName "com/example/tombsweep/tombsweep/model/BlobKey" = true := by first | (simp [plainName, overriddenIn]; done) | decide +kernel
theorem d20_0 : decode prog_11_method_4_code 0 = .ok (.iload_n 0, 1) := by decide +kernel
theorem d20_1 : decode prog_11_method_4_code 1 = .ok (.bipush 97, 2) := by decide +kernel
theorem d20_3 : decode prog_11_method_4_code 3 = .ok (.if_icmp .lt 9, 3) := by decide +kernel
theorem d20_6 : decode prog_11_method_4_code 6 = .ok (.iload_n 0, 1) := by decide +kernel
theorem d20_7 : decode prog_11_method_4_code 7 = .ok (.bipush 122, 2) := by decide +kernel
theorem d20_9 : decode prog_11_method_4_code 9 = .ok (.if_icmp .le 51, 3) := by decide +kernel
theorem d20_60 : decode prog_11_method_4_code 60 = .ok (.iconst 1, 1) := by decide +kernel
theorem d20_61 : decode prog_11_method_4_code 61 = .ok (.goto 4, 3) := by decide +kernel
theorem d20_65 : decode prog_11_method_4_code 65 = .ok (.ireturn, 1) := by decide +kernel
theorem ef_rmKey (m : MethodId) (x : Int32) : entryFrame m #[(.int x)] 1 = mkF m 0 #[.val (.int x)] [] := by first | (simp [entryFrame, mkF, argsToLocals, Value.category]; done) | rfl
abbrev rm_rmKey : Room := ({ frames := 0, cells := 0, slots := 0, locals := 0 } : Room)
def Q_rmKey (Z : State) (x : Int32) (h0 : Heap) (n0 : Nat) (v : Option Value) (h : Heap) (L : List Loc) : Prop := (v = some (.int (1 : Int32))) ∧ (Fr n0 L) ∧ (h = h0)
set_option maxRecDepth 65536 in
set_option maxHeartbeats 4000000 in
theorem rmKey (l : Launch) (Z : State) (a0 : Array Value) (hw : ∀ d ∈ tables_1, d.before a0 Z = true) (ws : List Jvm.Cond) (x : Int32) (h0 : Heap) (n0 : Nat) (O : Old Z n0 h0) (hp1 : ¬ (x < (97 : Int32))) (hp2 : ¬ ((122 : Int32) < x)) :
    MetFree l y_18 (head1 (Jvm.Cond.code y_18 prog_11_method_4_code 1 (some .boolean) :: ws) rm_rmKey) (fun A_ U => A_ = #[(.int x)] ∧ Z.Warmed39 U.vm ∧ U.heap = h0) (fun _ _ _ _ _ => True) (fun _ U o U' => ∃ v L, o = .returned v ∧ Q_rmKey Z x h0 n0 v U'.heap L ∧ FrameEnd U o U' L rm_rmKey.cells rm_rmKey.slots) := by
 refine MetFree.of_bodySF (plainFor_of_name pn_com_example_tombsweep_tombsweep_model_BlobKey) hisR ?_
 intro p e s m args below meth c s₁ Bd hml0 hP hK
 obtain ⟨rfl, hZ, hh⟩ := hP
 have hx := Bd.exec
 have hby := Bd.bytes
 have hml : c.maxLocals = 1 := hml0
 have hown : s.vm.findClass "com/example/tombsweep/tombsweep/model/BlobKey" = some m.cls := findClass_of_methodNamed Bd.named
 have hnm := (name_of_methodNamed Bd.named Bd.method).1
 have X0 : Stand p l e rm_rmKey s m #[(.int x)] below meth c s₁ [] 0 0 := Stand.of_body Bd
 have e0 : s₁.heap = h0 := by rw [← hh, Bd.state]; rfl
 have N0 := Fr.nil n0
 refine Go.step (p := p) (e := e) (below := below) (G := fun o U' => ∃ v L, o = .returned v ∧ Q_rmKey Z x h0 n0 v U'.heap L ∧ FrameEnd s o U' L rm_rmKey.cells rm_rmKey.slots) (S' := s₁.setTop (mkF m 0 #[iv x] [])) (fun t k => castTop (ef_rmKey m x) k) ?_
 refine Go.step (S' := s₁.setTop (mkF m 65 #[iv x] [(.int (1 : Int32))])) (fun t k => ?_) ?_
 · refine XS.iloadN X0.here hx rfl (hb hby d20_0) rfl ?_
   refine XS.bipush X0.here hx rfl (hb hby d20_1) ?_
   refine XS.icmpNo X0.here hx rfl (hb hby d20_3) rfl (flt (hp1 : ¬ (x < (97 : Int32)))).1 ?_
   refine XS.iloadN X0.here hx rfl (hb hby d20_6) rfl ?_
   refine XS.bipush X0.here hx rfl (hb hby d20_7) ?_
   refine XS.icmpYes X0.here hx rfl (pc0 := 9) (pc' := 60) rfl (hb hby d20_9) rfl (flt (hp2 : ¬ ((122 : Int32) < x))).2.2.2 (by decide) (by decide) ?_
   show Steps p.tables e below (s₁.setTop (mkF m 60 #[iv x] [])) _
   refine XS.iconst X0.here hx rfl (hb hby d20_60) ?_
   refine XS.goto X0.here hx rfl (pc0 := 61) (pc' := 65) rfl (hb hby d20_61) (by decide) (by decide) ?_
   exact k
 obtain ⟨fs, hr, hrun, hended, hW, hsame⟩ := X0.leave (v := some (.int (1 : Int32))) (fun h => by rw [Bd.returns] at h; cases h)
 refine Go.fin (S' := s₁.setFrames fs) ?_ hrun hended ⟨_, _, rfl, ?_, ⟨_, rfl⟩, hW, hsame.mono (by decide) (by decide)⟩
 · exact retOut X0 hx Bd.returns (by decide) (Or.inl ⟨rfl, Or.inr (Or.inl rfl), _, rfl⟩) (hb hby d20_65) hr
 · show Q_rmKey Z x h0 n0 (some (.int (1 : Int32))) s₁.heap _
   rw [e0]
   exact ⟨rfl, N0, rfl⟩
abbrev y_19 : MethodName := ⟨"com/example/tombsweep/tombsweep/model/BlobKey", "value", "()Ljava/lang/String;"⟩
theorem d26_0 : decode prog_11_method_7_code 0 = .ok (.aload_n 0, 1) := by decide +kernel
theorem d26_1 : decode prog_11_method_7_code 1 = .ok (.getfield 58, 3) := by decide +kernel
theorem d26_4 : decode prog_11_method_7_code 4 = .ok (.areturn, 1) := by decide +kernel
theorem ef_rmBV (m : MethodId) (a : Addr) : entryFrame m #[(.ref a)] 1 = mkF m 0 #[.val (.ref a)] [] := by first | (simp [entryFrame, mkF, argsToLocals, Value.category]; done) | rfl
abbrev rm_rmBV : Room := ({ frames := 0, cells := 0, slots := 0, locals := 0 } : Room)
def Q_rmBV (Z : State) (a : Addr) (so : Addr) (h0 : Heap) (n0 : Nat) (v : Option Value) (h : Heap) (L : List Loc) : Prop := (v = some (.ref so)) ∧ (Fr n0 L) ∧ (h = h0)
set_option maxRecDepth 65536 in
set_option maxHeartbeats 4000000 in
theorem rmBV (l : Launch) (Z : State) (a0 : Array Value) (hw : ∀ d ∈ tables_1, d.before a0 Z = true) (ws : List Jvm.Cond) (a : Addr) (so : Addr) (h0 : Heap) (n0 : Nat) (O : Old Z n0 h0) (F : Fld Z h0 a "com/example/tombsweep/tombsweep/model/BlobKey" "value" "Ljava/lang/String;" (.ref so)) :
    MetFree l y_19 (head1 (Jvm.Cond.code y_19 prog_11_method_7_code 1 (some (.object "java/lang/String")) :: ws) rm_rmBV) (fun A_ U => A_ = #[(.ref a)] ∧ Z.Warmed39 U.vm ∧ U.heap = h0) (fun _ _ _ _ _ => True) (fun _ U o U' => ∃ v L, o = .returned v ∧ Q_rmBV Z a so h0 n0 v U'.heap L ∧ FrameEnd U o U' L rm_rmBV.cells rm_rmBV.slots) := by
 refine MetFree.of_bodySF (plainFor_of_name pn_com_example_tombsweep_tombsweep_model_BlobKey) hisR ?_
 intro p e s m args below meth c s₁ Bd hml0 hP hK
 obtain ⟨rfl, hZ, hh⟩ := hP
 have hx := Bd.exec
 have hby := Bd.bytes
 have hml : c.maxLocals = 1 := hml0
 have hown : s.vm.findClass "com/example/tombsweep/tombsweep/model/BlobKey" = some m.cls := findClass_of_methodNamed Bd.named
 have hnm := (name_of_methodNamed Bd.named Bd.method).1
 have X0 : Stand p l e rm_rmBV s m #[(.ref a)] below meth c s₁ [] 0 0 := Stand.of_body Bd
 have e0 : s₁.heap = h0 := by rw [← hh, Bd.state]; rfl
 have N0 := Fr.nil n0
 refine Go.step (p := p) (e := e) (below := below) (G := fun o U' => ∃ v L, o = .returned v ∧ Q_rmBV Z a so h0 n0 v U'.heap L ∧ FrameEnd s o U' L rm_rmBV.cells rm_rmBV.slots) (S' := s₁.setTop (mkF m 0 #[rv a] [])) (fun t k => castTop (ef_rmBV m a) k) ?_
 refine Go.step (S' := s₁.setTop (mkF m 1 #[rv a] [(.ref a)])) (fun t k => ?_) ?_
 · refine XS.aloadN X0.here hx rfl (hb hby d26_0) rfl rfl ?_
   exact k
 obtain ⟨T1, X1, e1, st1⟩ := getF X0 hx hZ hown (host := "") (Or.inl (own_w hw 105 rfl)) Via.refl e0 F (g := (mkF m 1 #[rv a] [(.ref a)])) rfl rfl (hb hby d26_1)
 refine Go.step st1 ?_
 obtain ⟨fs, hr, hrun, hended, hW, hsame⟩ := X1.leave (v := some (.ref so)) (fun h => by rw [Bd.returns] at h; cases h)
 refine Go.fin (S' := T1.setFrames fs) ?_ hrun hended ⟨_, _, rfl, ?_, ⟨_, rfl⟩, hW, hsame.mono (by decide) (by decide)⟩
 · exact retOut X1 hx Bd.returns rfl (Or.inr (Or.inr (Or.inr (Or.inr ⟨rfl, rfl, rfl⟩)))) (hb hby d26_4) hr
 · show Q_rmBV Z a so h0 n0 (some (.ref so)) T1.heap _
   rw [e1]
   exact ⟨rfl, N0, rfl⟩
abbrev y_20 : MethodName := ⟨"com/example/tombsweep/tombsweep/io/RecordHeader", "<init>", "(Lcom/example/tombsweep/tombsweep/io/RecordHeader$Kind;Lcom/example/tombsweep/tombsweep/model/BlobKey;IJJJII)V"⟩
theorem pn_com_example_tombsweep_tombsweep_io_RecordHeader : plainName "com/example/tombsweep/tombsweep/io/RecordHeader" = true := by first | (simp [plainName, overriddenIn]; done) | decide +kernel
theorem d21_0 : decode prog_5_method_1_code 0 = .ok (.aload_n 0, 1) := by decide +kernel
theorem d21_1 : decode prog_5_method_1_code 1 = .ok (.invokespecial 5, 3) := by decide +kernel
theorem pd__28_29V : parseMethodDescriptor "()V" = some ⟨[], none⟩ := by decide +kernel
theorem d21_4 : decode prog_5_method_1_code 4 = .ok (.aload_n 0, 1) := by decide +kernel
theorem d21_5 : decode prog_5_method_1_code 5 = .ok (.aload_n 1, 1) := by decide +kernel
theorem d21_6 : decode prog_5_method_1_code 6 = .ok (.putfield 11, 3) := by decide +kernel
theorem d21_9 : decode prog_5_method_1_code 9 = .ok (.aload_n 0, 1) := by decide +kernel
theorem d21_10 : decode prog_5_method_1_code 10 = .ok (.aload_n 2, 1) := by decide +kernel
theorem d21_11 : decode prog_5_method_1_code 11 = .ok (.putfield 15, 3) := by decide +kernel
theorem d21_14 : decode prog_5_method_1_code 14 = .ok (.aload_n 0, 1) := by decide +kernel
theorem d21_15 : decode prog_5_method_1_code 15 = .ok (.iload_n 3, 1) := by decide +kernel
theorem d21_16 : decode prog_5_method_1_code 16 = .ok (.putfield 19, 3) := by decide +kernel
theorem d21_19 : decode prog_5_method_1_code 19 = .ok (.aload_n 0, 1) := by decide +kernel
theorem d21_20 : decode prog_5_method_1_code 20 = .ok (.lload 4, 2) := by decide +kernel
theorem d21_22 : decode prog_5_method_1_code 22 = .ok (.putfield 23, 3) := by decide +kernel
theorem d21_25 : decode prog_5_method_1_code 25 = .ok (.aload_n 0, 1) := by decide +kernel
theorem d21_26 : decode prog_5_method_1_code 26 = .ok (.lload 6, 2) := by decide +kernel
theorem d21_28 : decode prog_5_method_1_code 28 = .ok (.putfield 27, 3) := by decide +kernel
theorem d21_31 : decode prog_5_method_1_code 31 = .ok (.aload_n 0, 1) := by decide +kernel
theorem d21_32 : decode prog_5_method_1_code 32 = .ok (.lload 8, 2) := by decide +kernel
theorem d21_34 : decode prog_5_method_1_code 34 = .ok (.putfield 30, 3) := by decide +kernel
theorem d21_37 : decode prog_5_method_1_code 37 = .ok (.aload_n 0, 1) := by decide +kernel
theorem d21_38 : decode prog_5_method_1_code 38 = .ok (.iload 10, 2) := by decide +kernel
theorem d21_40 : decode prog_5_method_1_code 40 = .ok (.putfield 33, 3) := by decide +kernel
theorem d21_43 : decode prog_5_method_1_code 43 = .ok (.aload_n 0, 1) := by decide +kernel
theorem d21_44 : decode prog_5_method_1_code 44 = .ok (.iload 11, 2) := by decide +kernel
theorem d21_46 : decode prog_5_method_1_code 46 = .ok (.putfield 36, 3) := by decide +kernel
theorem d21_49 : decode prog_5_method_1_code 49 = .ok (.return_, 1) := by decide +kernel
theorem ef_rmRH (m : MethodId) (a : Addr) (ki : Addr) (ke : Addr) (m1 : Int32) (q1 : Int64) (q2 : Int64) (q3 : Int64) (m2 : Int32) (m3 : Int32) : entryFrame m #[(.ref a), (.ref ki), (.ref ke), (.int m1), (.long q1), (.long q2), (.long q3), (.int m2), (.int m3)] 12 = mkF m 0 #[.val (.ref a), .val (.ref ki), .val (.ref ke), .val (.int m1), .val (.long q1), .second, .val (.long q2), .second, .val (.long q3), .second, .val (.int m2), .val (.int m3)] [] := by first | (simp [entryFrame, mkF, argsToLocals, Value.category]; done) | rfl
abbrev rm_rmRH : Room := ({ frames := 2, cells := 0, slots := 0, locals := 24 } : Room)
def Q_rmRH (Z : State) (a : Addr) (ki : Addr) (ke : Addr) (m1 : Int32) (q1 : Int64) (q2 : Int64) (q3 : Int64) (m2 : Int32) (m3 : Int32) (h0 : Heap) (n0 : Nat) (v : Option Value) (h : Heap) (L : List Loc) : Prop := (v = none) ∧ (Fr n0 L) ∧ (Keep h0 h [a]) ∧ (Exa Z h a "com/example/tombsweep/tombsweep/io/RecordHeader") ∧ (Fld Z h a "com/example/tombsweep/tombsweep/io/RecordHeader" "key" "Lcom/example/tombsweep/tombsweep/model/BlobKey;" (.ref ke)) ∧ (Fld Z h a "com/example/tombsweep/tombsweep/io/RecordHeader" "metadataLength" "I" (.int m1)) ∧ (Fld Z h a "com/example/tombsweep/tombsweep/io/RecordHeader" "contentLength" "J" (.long q3))
set_option maxRecDepth 65536 in
set_option maxHeartbeats 4000000 in
theorem rmRH (l : Launch) (Z : State) (a0 : Array Value) (hw : ∀ d ∈ tables_1, d.before a0 Z = true) (ws : List Jvm.Cond) (a : Addr) (ki : Addr) (ke : Addr) (m1 : Int32) (q1 : Int64) (q2 : Int64) (q3 : Int64) (m2 : Int32) (m3 : Int32) (h0 : Heap) (n0 : Nat) (O : Old Z n0 h0) (E_a : Exa Z h0 a "com/example/tombsweep/tombsweep/io/RecordHeader") (F_kind : Fld Z h0 a "com/example/tombsweep/tombsweep/io/RecordHeader" "kind" "Lcom/example/tombsweep/tombsweep/io/RecordHeader$Kind;" .null) (F_key : Fld Z h0 a "com/example/tombsweep/tombsweep/io/RecordHeader" "key" "Lcom/example/tombsweep/tombsweep/model/BlobKey;" .null) (F_metadataLength : Fld Z h0 a "com/example/tombsweep/tombsweep/io/RecordHeader" "metadataLength" "I" (.int (0 : Int32))) (F_sequence : Fld Z h0 a "com/example/tombsweep/tombsweep/io/RecordHeader" "sequence" "J" (.long (0 : Int64))) (F_time : Fld Z h0 a "com/example/tombsweep/tombsweep/io/RecordHeader" "time" "J" (.long (0 : Int64))) (F_contentLength : Fld Z h0 a "com/example/tombsweep/tombsweep/io/RecordHeader" "contentLength" "J" (.long (0 : Int64))) (F_contentCheck : Fld Z h0 a "com/example/tombsweep/tombsweep/io/RecordHeader" "contentCheck" "I" (.int (0 : Int32))) (F_metadataCheck : Fld Z h0 a "com/example/tombsweep/tombsweep/io/RecordHeader" "metadataCheck" "I" (.int (0 : Int32))) (g_a : n0 ≤ a) :
    MetFree l y_20 (head1 (Jvm.Cond.code y_20 prog_5_method_1_code 12 none :: ws) rm_rmRH) (fun A_ U => A_ = #[(.ref a), (.ref ki), (.ref ke), (.int m1), (.long q1), (.long q2), (.long q3), (.int m2), (.int m3)] ∧ Z.Warmed39 U.vm ∧ U.heap = h0) (fun _ _ _ _ _ => True) (fun _ U o U' => ∃ v L, o = .returned v ∧ Q_rmRH Z a ki ke m1 q1 q2 q3 m2 m3 h0 n0 v U'.heap L ∧ FrameEnd U o U' L rm_rmRH.cells rm_rmRH.slots) := by
 refine MetFree.of_bodySF (plainFor_of_name pn_com_example_tombsweep_tombsweep_io_RecordHeader) hisR ?_
 intro p e s m args below meth c s₁ Bd hml0 hP hK
 obtain ⟨rfl, hZ, hh⟩ := hP
 have hx := Bd.exec
 have hby := Bd.bytes
 have hml : c.maxLocals = 12 := hml0
 have hown : s.vm.findClass "com/example/tombsweep/tombsweep/io/RecordHeader" = some m.cls := findClass_of_methodNamed Bd.named
 have hnm := (name_of_methodNamed Bd.named Bd.method).1
 have X0 : Stand p l e rm_rmRH s m #[(.ref a), (.ref ki), (.ref ke), (.int m1), (.long q1), (.long q2), (.long q3), (.int m2), (.int m3)] below meth c s₁ [] 0 0 := Stand.of_body Bd
 have e0 : s₁.heap = h0 := by rw [← hh, Bd.state]; rfl
 have N0 := Fr.nil n0
 have K := Keep.refl h0 [a]
 refine Go.step (p := p) (e := e) (below := below) (G := fun o U' => ∃ v L, o = .returned v ∧ Q_rmRH Z a ki ke m1 q1 q2 q3 m2 m3 h0 n0 v U'.heap L ∧ FrameEnd s o U' L rm_rmRH.cells rm_rmRH.slots) (S' := s₁.setTop (mkF m 0 #[rv a, rv ki, rv ke, iv m1, lv q1, .second, lv q2, .second, lv q3, .second, iv m2, iv m3] [])) (fun t k => castTop (ef_rmRH m a ki ke m1 q1 q2 q3 m2 m3) k) ?_
 refine Go.step (S' := s₁.setTop (mkF m 1 #[rv a, rv ki, rv ke, iv m1, lv q1, .second, lv q2, .second, lv q3, .second, iv m2, iv m3] [(.ref a)])) (fun t k => ?_) ?_
 · refine XS.aloadN X0.here hx rfl (hb hby d21_0) rfl rfl ?_
   exact k
 obtain ⟨_, _, ⟨T1, L1, k1, n1⟩, -, X1, ⟨Lc1, hQ1, l1, y1, z1⟩, st1⟩ := X0.specialBack hx (y := y_16) rfl hown (mvT hZ (own_w hw 110 rfl)) (mvT hZ (own_w hw 53 rfl)) (mvT hZ (own_w hw 56 rfl)) (by decide) (backOf (W := 0) (rmRec l Z a0 hw [] a h0 n0 O ) hZ (own_w hw 56 rfl) (own_w hw 55 rfl) (by decide) (by decide)) (g := (mkF m 1 #[rv a, rv ki, rv ke, iv m1, lv q1, .second, lv q2, .second, lv q3, .second, iv m2, iv m3] [(.ref a)])) rfl (by rw [hml]; rfl) (Steps.refl _) (a := a) (argsL := []) (rest := []) (lenOf pd__28_29V rfl) rfl (Nat.le_of_eq rfl) (hb hby d21_1) (fun _ _ => ⟨rfl, e0, (by decide : 0 + 0 ≤ _), (by decide : 0 + 0 ≤ _)⟩)
 dsimp only [Pt.U, Pt.locs, Pt.cells, Pt.slots] at X1 l1 y1 z1 st1 hQ1
 subst l1 y1 z1
 obtain ⟨rfl, Nq1, e1⟩ := hQ1
 have N1 := Fr.app N0 Nq1
 refine Go.step (fun t k => st1.trans k) ?_
 refine Go.step (S' := T1.setTop (mkF m 6 #[rv a, rv ki, rv ke, iv m1, lv q1, .second, lv q2, .second, lv q3, .second, iv m2, iv m3] [(.ref ki), (.ref a)])) (fun t k => ?_) ?_
 · refine XS.aloadN X1.here hx rfl (hb hby d21_4) rfl rfl ?_
   refine XS.aloadN X1.here hx rfl (hb hby d21_5) rfl rfl ?_
   exact k
 obtain ⟨T2, h2, X2, e2, W2, st2⟩ := putF X1 hx hZ hown (host := "") (Or.inl (own_w hw 111 rfl)) Via.refl e1 F_kind E_a (Or.inr ⟨(own_w hw 112 rfl), rfl, hnm⟩) (own_w hw 38 rfl) (ty := (.object "com/example/tombsweep/tombsweep/io/RecordHeader$Kind")) (by decide) rfl rfl (g := (mkF m 6 #[rv a, rv ki, rv ke, iv m1, lv q1, .second, lv q2, .second, lv q3, .second, iv m2, iv m3] [(.ref ki), (.ref a)])) rfl rfl (hb hby d21_6)
 have O := O.wr W2 g_a
 have E_a := E_a.wr W2
 have F_kind := F_kind.same W2
 have F_key := F_key.other W2 (Or.inr (slot_ne (Or.inr (own_w hw 114 rfl)) (Or.inr (own_w hw 112 rfl)) (by decide) (t := (.object "com/example/tombsweep/tombsweep/model/BlobKey")) (t' := (.object "com/example/tombsweep/tombsweep/io/RecordHeader$Kind")) (by decide) (by decide)))
 have F_metadataLength := F_metadataLength.other W2 (Or.inr (slot_ne (Or.inr (own_w hw 116 rfl)) (Or.inr (own_w hw 112 rfl)) (by decide) (t := .int) (t' := (.object "com/example/tombsweep/tombsweep/io/RecordHeader$Kind")) (by decide) (by decide)))
 have F_sequence := F_sequence.other W2 (Or.inr (slot_ne (Or.inr (own_w hw 118 rfl)) (Or.inr (own_w hw 112 rfl)) (by decide) (t := .long) (t' := (.object "com/example/tombsweep/tombsweep/io/RecordHeader$Kind")) (by decide) (by decide)))
 have F_time := F_time.other W2 (Or.inr (slot_ne (Or.inr (own_w hw 120 rfl)) (Or.inr (own_w hw 112 rfl)) (by decide) (t := .long) (t' := (.object "com/example/tombsweep/tombsweep/io/RecordHeader$Kind")) (by decide) (by decide)))
 have F_contentLength := F_contentLength.other W2 (Or.inr (slot_ne (Or.inr (own_w hw 122 rfl)) (Or.inr (own_w hw 112 rfl)) (by decide) (t := .long) (t' := (.object "com/example/tombsweep/tombsweep/io/RecordHeader$Kind")) (by decide) (by decide)))
 have F_contentCheck := F_contentCheck.other W2 (Or.inr (slot_ne (Or.inr (own_w hw 124 rfl)) (Or.inr (own_w hw 112 rfl)) (by decide) (t := .int) (t' := (.object "com/example/tombsweep/tombsweep/io/RecordHeader$Kind")) (by decide) (by decide)))
 have F_metadataCheck := F_metadataCheck.other W2 (Or.inr (slot_ne (Or.inr (own_w hw 126 rfl)) (Or.inr (own_w hw 112 rfl)) (by decide) (t := .int) (t' := (.object "com/example/tombsweep/tombsweep/io/RecordHeader$Kind")) (by decide) (by decide)))
 have K := K.wr W2 (Or.inl (List.mem_of_getElem? (i := 0) rfl))
 have N2 := Fr.snoc X2 N1 g_a
 refine Go.step st2 ?_
 refine Go.step (S' := T2.setTop (mkF m 11 #[rv a, rv ki, rv ke, iv m1, lv q1, .second, lv q2, .second, lv q3, .second, iv m2, iv m3] [(.ref ke), (.ref a)])) (fun t k => ?_) ?_
 · refine XS.aloadN X2.here hx rfl (hb hby d21_9) rfl rfl ?_
   refine XS.aloadN X2.here hx rfl (hb hby d21_10) rfl rfl ?_
   exact k
 obtain ⟨T3, h3, X3, e3, W3, st3⟩ := putF X2 hx hZ hown (host := "") (Or.inl (own_w hw 113 rfl)) Via.refl e2 F_key E_a (Or.inr ⟨(own_w hw 114 rfl), rfl, hnm⟩) (own_w hw 38 rfl) (ty := (.object "com/example/tombsweep/tombsweep/model/BlobKey")) (by decide) rfl rfl (g := (mkF m 11 #[rv a, rv ki, rv ke, iv m1, lv q1, .second, lv q2, .second, lv q3, .second, iv m2, iv m3] [(.ref ke), (.ref a)])) rfl rfl (hb hby d21_11)
 have O := O.wr W3 g_a
 have E_a := E_a.wr W3
 have F_kind := F_kind.other W3 (Or.inr (slot_ne (Or.inr (own_w hw 112 rfl)) (Or.inr (own_w hw 114 rfl)) (by decide) (t := (.object "com/example/tombsweep/tombsweep/io/RecordHeader$Kind")) (t' := (.object "com/example/tombsweep/tombsweep/model/BlobKey")) (by decide) (by decide)))
 have F_key := F_key.same W3
 have F_metadataLength := F_metadataLength.other W3 (Or.inr (slot_ne (Or.inr (own_w hw 116 rfl)) (Or.inr (own_w hw 114 rfl)) (by decide) (t := .int) (t' := (.object "com/example/tombsweep/tombsweep/model/BlobKey")) (by decide) (by decide)))
 have F_sequence := F_sequence.other W3 (Or.inr (slot_ne (Or.inr (own_w hw 118 rfl)) (Or.inr (own_w hw 114 rfl)) (by decide) (t := .long) (t' := (.object "com/example/tombsweep/tombsweep/model/BlobKey")) (by decide) (by decide)))
 have F_time := F_time.other W3 (Or.inr (slot_ne (Or.inr (own_w hw 120 rfl)) (Or.inr (own_w hw 114 rfl)) (by decide) (t := .long) (t' := (.object "com/example/tombsweep/tombsweep/model/BlobKey")) (by decide) (by decide)))
 have F_contentLength := F_contentLength.other W3 (Or.inr (slot_ne (Or.inr (own_w hw 122 rfl)) (Or.inr (own_w hw 114 rfl)) (by decide) (t := .long) (t' := (.object "com/example/tombsweep/tombsweep/model/BlobKey")) (by decide) (by decide)))
 have F_contentCheck := F_contentCheck.other W3 (Or.inr (slot_ne (Or.inr (own_w hw 124 rfl)) (Or.inr (own_w hw 114 rfl)) (by decide) (t := .int) (t' := (.object "com/example/tombsweep/tombsweep/model/BlobKey")) (by decide) (by decide)))
 have F_metadataCheck := F_metadataCheck.other W3 (Or.inr (slot_ne (Or.inr (own_w hw 126 rfl)) (Or.inr (own_w hw 114 rfl)) (by decide) (t := .int) (t' := (.object "com/example/tombsweep/tombsweep/model/BlobKey")) (by decide) (by decide)))
 have K := K.wr W3 (Or.inl (List.mem_of_getElem? (i := 0) rfl))
 have N3 := Fr.snoc X3 N2 g_a
 refine Go.step st3 ?_
 refine Go.step (S' := T3.setTop (mkF m 16 #[rv a, rv ki, rv ke, iv m1, lv q1, .second, lv q2, .second, lv q3, .second, iv m2, iv m3] [(.int m1), (.ref a)])) (fun t k => ?_) ?_
 · refine XS.aloadN X3.here hx rfl (hb hby d21_14) rfl rfl ?_
   refine XS.iloadN X3.here hx rfl (hb hby d21_15) rfl ?_
   exact k
 obtain ⟨T4, h4, X4, e4, W4, st4⟩ := putF X3 hx hZ hown (host := "") (Or.inl (own_w hw 115 rfl)) Via.refl e3 F_metadataLength E_a (Or.inr ⟨(own_w hw 116 rfl), rfl, hnm⟩) (own_w hw 38 rfl) (ty := .int) (by decide) rfl rfl (g := (mkF m 16 #[rv a, rv ki, rv ke, iv m1, lv q1, .second, lv q2, .second, lv q3, .second, iv m2, iv m3] [(.int m1), (.ref a)])) rfl rfl (hb hby d21_16)
 have O := O.wr W4 g_a
 have E_a := E_a.wr W4
 have F_kind := F_kind.other W4 (Or.inr (slot_ne (Or.inr (own_w hw 112 rfl)) (Or.inr (own_w hw 116 rfl)) (by decide) (t := (.object "com/example/tombsweep/tombsweep/io/RecordHeader$Kind")) (t' := .int) (by decide) (by decide)))
 have F_key := F_key.other W4 (Or.inr (slot_ne (Or.inr (own_w hw 114 rfl)) (Or.inr (own_w hw 116 rfl)) (by decide) (t := (.object "com/example/tombsweep/tombsweep/model/BlobKey")) (t' := .int) (by decide) (by decide)))
 have F_metadataLength := F_metadataLength.same W4
 have F_sequence := F_sequence.other W4 (Or.inr (slot_ne (Or.inr (own_w hw 118 rfl)) (Or.inr (own_w hw 116 rfl)) (by decide) (t := .long) (t' := .int) (by decide) (by decide)))
 have F_time := F_time.other W4 (Or.inr (slot_ne (Or.inr (own_w hw 120 rfl)) (Or.inr (own_w hw 116 rfl)) (by decide) (t := .long) (t' := .int) (by decide) (by decide)))
 have F_contentLength := F_contentLength.other W4 (Or.inr (slot_ne (Or.inr (own_w hw 122 rfl)) (Or.inr (own_w hw 116 rfl)) (by decide) (t := .long) (t' := .int) (by decide) (by decide)))
 have F_contentCheck := F_contentCheck.other W4 (Or.inr (slot_ne (Or.inr (own_w hw 124 rfl)) (Or.inr (own_w hw 116 rfl)) (by decide) (t := .int) (t' := .int) (by decide) (by decide)))
 have F_metadataCheck := F_metadataCheck.other W4 (Or.inr (slot_ne (Or.inr (own_w hw 126 rfl)) (Or.inr (own_w hw 116 rfl)) (by decide) (t := .int) (t' := .int) (by decide) (by decide)))
 have K := K.wr W4 (Or.inl (List.mem_of_getElem? (i := 0) rfl))
 have N4 := Fr.snoc X4 N3 g_a
 refine Go.step st4 ?_
 refine Go.step (S' := T4.setTop (mkF m 22 #[rv a, rv ki, rv ke, iv m1, lv q1, .second, lv q2, .second, lv q3, .second, iv m2, iv m3] [(.long q1), (.ref a)])) (fun t k => ?_) ?_
 · refine XS.aloadN X4.here hx rfl (hb hby d21_19) rfl rfl ?_
   refine XS.lload X4.here hx rfl (hb hby d21_20) rfl ?_
   exact k
 obtain ⟨T5, h5, X5, e5, W5, st5⟩ := putF X4 hx hZ hown (host := "") (Or.inl (own_w hw 117 rfl)) Via.refl e4 F_sequence E_a (Or.inr ⟨(own_w hw 118 rfl), rfl, hnm⟩) (own_w hw 38 rfl) (ty := .long) (by decide) rfl rfl (g := (mkF m 22 #[rv a, rv ki, rv ke, iv m1, lv q1, .second, lv q2, .second, lv q3, .second, iv m2, iv m3] [(.long q1), (.ref a)])) rfl rfl (hb hby d21_22)
 have O := O.wr W5 g_a
 have E_a := E_a.wr W5
 have F_kind := F_kind.other W5 (Or.inr (slot_ne (Or.inr (own_w hw 112 rfl)) (Or.inr (own_w hw 118 rfl)) (by decide) (t := (.object "com/example/tombsweep/tombsweep/io/RecordHeader$Kind")) (t' := .long) (by decide) (by decide)))
 have F_key := F_key.other W5 (Or.inr (slot_ne (Or.inr (own_w hw 114 rfl)) (Or.inr (own_w hw 118 rfl)) (by decide) (t := (.object "com/example/tombsweep/tombsweep/model/BlobKey")) (t' := .long) (by decide) (by decide)))
 have F_metadataLength := F_metadataLength.other W5 (Or.inr (slot_ne (Or.inr (own_w hw 116 rfl)) (Or.inr (own_w hw 118 rfl)) (by decide) (t := .int) (t' := .long) (by decide) (by decide)))
 have F_sequence := F_sequence.same W5
 have F_time := F_time.other W5 (Or.inr (slot_ne (Or.inr (own_w hw 120 rfl)) (Or.inr (own_w hw 118 rfl)) (by decide) (t := .long) (t' := .long) (by decide) (by decide)))
 have F_contentLength := F_contentLength.other W5 (Or.inr (slot_ne (Or.inr (own_w hw 122 rfl)) (Or.inr (own_w hw 118 rfl)) (by decide) (t := .long) (t' := .long) (by decide) (by decide)))
 have F_contentCheck := F_contentCheck.other W5 (Or.inr (slot_ne (Or.inr (own_w hw 124 rfl)) (Or.inr (own_w hw 118 rfl)) (by decide) (t := .int) (t' := .long) (by decide) (by decide)))
 have F_metadataCheck := F_metadataCheck.other W5 (Or.inr (slot_ne (Or.inr (own_w hw 126 rfl)) (Or.inr (own_w hw 118 rfl)) (by decide) (t := .int) (t' := .long) (by decide) (by decide)))
 have K := K.wr W5 (Or.inl (List.mem_of_getElem? (i := 0) rfl))
 have N5 := Fr.snoc X5 N4 g_a
 refine Go.step st5 ?_
 refine Go.step (S' := T5.setTop (mkF m 28 #[rv a, rv ki, rv ke, iv m1, lv q1, .second, lv q2, .second, lv q3, .second, iv m2, iv m3] [(.long q2), (.ref a)])) (fun t k => ?_) ?_
 · refine XS.aloadN X5.here hx rfl (hb hby d21_25) rfl rfl ?_
   refine XS.lload X5.here hx rfl (hb hby d21_26) rfl ?_
   exact k
 obtain ⟨T6, h6, X6, e6, W6, st6⟩ := putF X5 hx hZ hown (host := "") (Or.inl (own_w hw 119 rfl)) Via.refl e5 F_time E_a (Or.inr ⟨(own_w hw 120 rfl), rfl, hnm⟩) (own_w hw 38 rfl) (ty := .long) (by decide) rfl rfl (g := (mkF m 28 #[rv a, rv ki, rv ke, iv m1, lv q1, .second, lv q2, .second, lv q3, .second, iv m2, iv m3] [(.long q2), (.ref a)])) rfl rfl (hb hby d21_28)
 have O := O.wr W6 g_a
 have E_a := E_a.wr W6
 have F_kind := F_kind.other W6 (Or.inr (slot_ne (Or.inr (own_w hw 112 rfl)) (Or.inr (own_w hw 120 rfl)) (by decide) (t := (.object "com/example/tombsweep/tombsweep/io/RecordHeader$Kind")) (t' := .long) (by decide) (by decide)))
 have F_key := F_key.other W6 (Or.inr (slot_ne (Or.inr (own_w hw 114 rfl)) (Or.inr (own_w hw 120 rfl)) (by decide) (t := (.object "com/example/tombsweep/tombsweep/model/BlobKey")) (t' := .long) (by decide) (by decide)))
 have F_metadataLength := F_metadataLength.other W6 (Or.inr (slot_ne (Or.inr (own_w hw 116 rfl)) (Or.inr (own_w hw 120 rfl)) (by decide) (t := .int) (t' := .long) (by decide) (by decide)))
 have F_sequence := F_sequence.other W6 (Or.inr (slot_ne (Or.inr (own_w hw 118 rfl)) (Or.inr (own_w hw 120 rfl)) (by decide) (t := .long) (t' := .long) (by decide) (by decide)))
 have F_time := F_time.same W6
 have F_contentLength := F_contentLength.other W6 (Or.inr (slot_ne (Or.inr (own_w hw 122 rfl)) (Or.inr (own_w hw 120 rfl)) (by decide) (t := .long) (t' := .long) (by decide) (by decide)))
 have F_contentCheck := F_contentCheck.other W6 (Or.inr (slot_ne (Or.inr (own_w hw 124 rfl)) (Or.inr (own_w hw 120 rfl)) (by decide) (t := .int) (t' := .long) (by decide) (by decide)))
 have F_metadataCheck := F_metadataCheck.other W6 (Or.inr (slot_ne (Or.inr (own_w hw 126 rfl)) (Or.inr (own_w hw 120 rfl)) (by decide) (t := .int) (t' := .long) (by decide) (by decide)))
 have K := K.wr W6 (Or.inl (List.mem_of_getElem? (i := 0) rfl))
 have N6 := Fr.snoc X6 N5 g_a
 refine Go.step st6 ?_
 refine Go.step (S' := T6.setTop (mkF m 34 #[rv a, rv ki, rv ke, iv m1, lv q1, .second, lv q2, .second, lv q3, .second, iv m2, iv m3] [(.long q3), (.ref a)])) (fun t k => ?_) ?_
 · refine XS.aloadN X6.here hx rfl (hb hby d21_31) rfl rfl ?_
   refine XS.lload X6.here hx rfl (hb hby d21_32) rfl ?_
   exact k
 obtain ⟨T7, h7, X7, e7, W7, st7⟩ := putF X6 hx hZ hown (host := "") (Or.inl (own_w hw 121 rfl)) Via.refl e6 F_contentLength E_a (Or.inr ⟨(own_w hw 122 rfl), rfl, hnm⟩) (own_w hw 38 rfl) (ty := .long) (by decide) rfl rfl (g := (mkF m 34 #[rv a, rv ki, rv ke, iv m1, lv q1, .second, lv q2, .second, lv q3, .second, iv m2, iv m3] [(.long q3), (.ref a)])) rfl rfl (hb hby d21_34)
 have O := O.wr W7 g_a
 have E_a := E_a.wr W7
 have F_kind := F_kind.other W7 (Or.inr (slot_ne (Or.inr (own_w hw 112 rfl)) (Or.inr (own_w hw 122 rfl)) (by decide) (t := (.object "com/example/tombsweep/tombsweep/io/RecordHeader$Kind")) (t' := .long) (by decide) (by decide)))
 have F_key := F_key.other W7 (Or.inr (slot_ne (Or.inr (own_w hw 114 rfl)) (Or.inr (own_w hw 122 rfl)) (by decide) (t := (.object "com/example/tombsweep/tombsweep/model/BlobKey")) (t' := .long) (by decide) (by decide)))
 have F_metadataLength := F_metadataLength.other W7 (Or.inr (slot_ne (Or.inr (own_w hw 116 rfl)) (Or.inr (own_w hw 122 rfl)) (by decide) (t := .int) (t' := .long) (by decide) (by decide)))
 have F_sequence := F_sequence.other W7 (Or.inr (slot_ne (Or.inr (own_w hw 118 rfl)) (Or.inr (own_w hw 122 rfl)) (by decide) (t := .long) (t' := .long) (by decide) (by decide)))
 have F_time := F_time.other W7 (Or.inr (slot_ne (Or.inr (own_w hw 120 rfl)) (Or.inr (own_w hw 122 rfl)) (by decide) (t := .long) (t' := .long) (by decide) (by decide)))
 have F_contentLength := F_contentLength.same W7
 have F_contentCheck := F_contentCheck.other W7 (Or.inr (slot_ne (Or.inr (own_w hw 124 rfl)) (Or.inr (own_w hw 122 rfl)) (by decide) (t := .int) (t' := .long) (by decide) (by decide)))
 have F_metadataCheck := F_metadataCheck.other W7 (Or.inr (slot_ne (Or.inr (own_w hw 126 rfl)) (Or.inr (own_w hw 122 rfl)) (by decide) (t := .int) (t' := .long) (by decide) (by decide)))
 have K := K.wr W7 (Or.inl (List.mem_of_getElem? (i := 0) rfl))
 have N7 := Fr.snoc X7 N6 g_a
 refine Go.step st7 ?_
 refine Go.step (S' := T7.setTop (mkF m 40 #[rv a, rv ki, rv ke, iv m1, lv q1, .second, lv q2, .second, lv q3, .second, iv m2, iv m3] [(.int m2), (.ref a)])) (fun t k => ?_) ?_
 · refine XS.aloadN X7.here hx rfl (hb hby d21_37) rfl rfl ?_
   refine XS.iload X7.here hx rfl (hb hby d21_38) rfl ?_
   exact k
 obtain ⟨T8, h8, X8, e8, W8, st8⟩ := putF X7 hx hZ hown (host := "") (Or.inl (own_w hw 123 rfl)) Via.refl e7 F_contentCheck E_a (Or.inr ⟨(own_w hw 124 rfl), rfl, hnm⟩) (own_w hw 38 rfl) (ty := .int) (by decide) rfl rfl (g := (mkF m 40 #[rv a, rv ki, rv ke, iv m1, lv q1, .second, lv q2, .second, lv q3, .second, iv m2, iv m3] [(.int m2), (.ref a)])) rfl rfl (hb hby d21_40)
 have O := O.wr W8 g_a
 have E_a := E_a.wr W8
 have F_kind := F_kind.other W8 (Or.inr (slot_ne (Or.inr (own_w hw 112 rfl)) (Or.inr (own_w hw 124 rfl)) (by decide) (t := (.object "com/example/tombsweep/tombsweep/io/RecordHeader$Kind")) (t' := .int) (by decide) (by decide)))
 have F_key := F_key.other W8 (Or.inr (slot_ne (Or.inr (own_w hw 114 rfl)) (Or.inr (own_w hw 124 rfl)) (by decide) (t := (.object "com/example/tombsweep/tombsweep/model/BlobKey")) (t' := .int) (by decide) (by decide)))
 have F_metadataLength := F_metadataLength.other W8 (Or.inr (slot_ne (Or.inr (own_w hw 116 rfl)) (Or.inr (own_w hw 124 rfl)) (by decide) (t := .int) (t' := .int) (by decide) (by decide)))
 have F_sequence := F_sequence.other W8 (Or.inr (slot_ne (Or.inr (own_w hw 118 rfl)) (Or.inr (own_w hw 124 rfl)) (by decide) (t := .long) (t' := .int) (by decide) (by decide)))
 have F_time := F_time.other W8 (Or.inr (slot_ne (Or.inr (own_w hw 120 rfl)) (Or.inr (own_w hw 124 rfl)) (by decide) (t := .long) (t' := .int) (by decide) (by decide)))
 have F_contentLength := F_contentLength.other W8 (Or.inr (slot_ne (Or.inr (own_w hw 122 rfl)) (Or.inr (own_w hw 124 rfl)) (by decide) (t := .long) (t' := .int) (by decide) (by decide)))
 have F_contentCheck := F_contentCheck.same W8
 have F_metadataCheck := F_metadataCheck.other W8 (Or.inr (slot_ne (Or.inr (own_w hw 126 rfl)) (Or.inr (own_w hw 124 rfl)) (by decide) (t := .int) (t' := .int) (by decide) (by decide)))
 have K := K.wr W8 (Or.inl (List.mem_of_getElem? (i := 0) rfl))
 have N8 := Fr.snoc X8 N7 g_a
 refine Go.step st8 ?_
 refine Go.step (S' := T8.setTop (mkF m 46 #[rv a, rv ki, rv ke, iv m1, lv q1, .second, lv q2, .second, lv q3, .second, iv m2, iv m3] [(.int m3), (.ref a)])) (fun t k => ?_) ?_
 · refine XS.aloadN X8.here hx rfl (hb hby d21_43) rfl rfl ?_
   refine XS.iload X8.here hx rfl (hb hby d21_44) rfl ?_
   exact k
 obtain ⟨T9, h9, X9, e9, W9, st9⟩ := putF X8 hx hZ hown (host := "") (Or.inl (own_w hw 125 rfl)) Via.refl e8 F_metadataCheck E_a (Or.inr ⟨(own_w hw 126 rfl), rfl, hnm⟩) (own_w hw 38 rfl) (ty := .int) (by decide) rfl rfl (g := (mkF m 46 #[rv a, rv ki, rv ke, iv m1, lv q1, .second, lv q2, .second, lv q3, .second, iv m2, iv m3] [(.int m3), (.ref a)])) rfl rfl (hb hby d21_46)
 have O := O.wr W9 g_a
 have E_a := E_a.wr W9
 have F_kind := F_kind.other W9 (Or.inr (slot_ne (Or.inr (own_w hw 112 rfl)) (Or.inr (own_w hw 126 rfl)) (by decide) (t := (.object "com/example/tombsweep/tombsweep/io/RecordHeader$Kind")) (t' := .int) (by decide) (by decide)))
 have F_key := F_key.other W9 (Or.inr (slot_ne (Or.inr (own_w hw 114 rfl)) (Or.inr (own_w hw 126 rfl)) (by decide) (t := (.object "com/example/tombsweep/tombsweep/model/BlobKey")) (t' := .int) (by decide) (by decide)))
 have F_metadataLength := F_metadataLength.other W9 (Or.inr (slot_ne (Or.inr (own_w hw 116 rfl)) (Or.inr (own_w hw 126 rfl)) (by decide) (t := .int) (t' := .int) (by decide) (by decide)))
 have F_sequence := F_sequence.other W9 (Or.inr (slot_ne (Or.inr (own_w hw 118 rfl)) (Or.inr (own_w hw 126 rfl)) (by decide) (t := .long) (t' := .int) (by decide) (by decide)))
 have F_time := F_time.other W9 (Or.inr (slot_ne (Or.inr (own_w hw 120 rfl)) (Or.inr (own_w hw 126 rfl)) (by decide) (t := .long) (t' := .int) (by decide) (by decide)))
 have F_contentLength := F_contentLength.other W9 (Or.inr (slot_ne (Or.inr (own_w hw 122 rfl)) (Or.inr (own_w hw 126 rfl)) (by decide) (t := .long) (t' := .int) (by decide) (by decide)))
 have F_contentCheck := F_contentCheck.other W9 (Or.inr (slot_ne (Or.inr (own_w hw 124 rfl)) (Or.inr (own_w hw 126 rfl)) (by decide) (t := .int) (t' := .int) (by decide) (by decide)))
 have F_metadataCheck := F_metadataCheck.same W9
 have K := K.wr W9 (Or.inl (List.mem_of_getElem? (i := 0) rfl))
 have N9 := Fr.snoc X9 N8 g_a
 refine Go.step st9 ?_
 obtain ⟨fs, hr, hrun, hended, hW, hsame⟩ := X9.leave (v := none) (fun _ => rfl)
 refine Go.fin (S' := T9.setFrames fs) ?_ hrun hended ⟨_, _, rfl, ?_, ⟨_, rfl⟩, hW, hsame.mono (by decide) (by decide)⟩
 · exact X9.returnOut hx Bd.returns (hb hby d21_49) hr
 · show Q_rmRH Z a ki ke m1 q1 q2 q3 m2 m3 h0 n0 (none) T9.heap _
   rw [e9]
   exact ⟨rfl, N9, K, E_a, F_key, F_metadataLength, F_contentLength⟩
abbrev y_21 : MethodName := ⟨"com/example/tombsweep/tombsweep/model/BlobKey", "<init>", "(Ljava/lang/String;)V"⟩
theorem d9_0 : decode prog_11_method_1_code 0 = .ok (.aload_n 0, 1) := by decide +kernel
theorem d9_1 : decode prog_11_method_1_code 1 = .ok (.invokespecial 1, 3) := by decide +kernel
theorem d9_4 : decode prog_11_method_1_code 4 = .ok (.aload_n 1, 1) := by decide +kernel
theorem d9_5 : decode prog_11_method_1_code 5 = .ok (.ldc 7, 2) := by decide +kernel
theorem d9_7 : decode prog_11_method_1_code 7 = .ok (.invokestatic 9, 3) := by decide +kernel
theorem pd__28Ljava_2flang_2fObject_3bLjava_2flang_2fString_3b_29Ljava_2flang_2fObject_3b : parseMethodDescriptor "(Ljava/lang/Object;Ljava/lang/String;)Ljava/lang/Object;" = some ⟨[(.object "java/lang/Object"), (.object "java/lang/String")], some (.object "java/lang/Object")⟩ := by decide +kernel
theorem d9_10 : decode prog_11_method_1_code 10 = .ok (.pop, 1) := by decide +kernel
theorem d9_11 : decode prog_11_method_1_code 11 = .ok (.aload_n 1, 1) := by decide +kernel
theorem d9_12 : decode prog_11_method_1_code 12 = .ok (.invokevirtual 15, 3) := by decide +kernel
theorem d9_15 : decode prog_11_method_1_code 15 = .ok (.ifCond .ne 13, 3) := by decide +kernel
theorem d9_18 : decode prog_11_method_1_code 18 = .ok (.aload_n 1, 1) := by decide +kernel
theorem d9_19 : decode prog_11_method_1_code 19 = .ok (.invokevirtual 21, 3) := by decide +kernel
theorem pd__28_29I : parseMethodDescriptor "()I" = some ⟨[], some .int⟩ := by decide +kernel
theorem d9_22 : decode prog_11_method_1_code 22 = .ok (.sipush 255, 3) := by decide +kernel
theorem d9_25 : decode prog_11_method_1_code 25 = .ok (.if_icmp .le 20, 3) := by decide +kernel
theorem d9_45 : decode prog_11_method_1_code 45 = .ok (.iconst 0, 1) := by decide +kernel
theorem d9_46 : decode prog_11_method_1_code 46 = .ok (.istore_n 2, 1) := by decide +kernel
theorem d9_47 : decode prog_11_method_1_code 47 = .ok (.iload_n 2, 1) := by decide +kernel
theorem d9_48 : decode prog_11_method_1_code 48 = .ok (.aload_n 1, 1) := by decide +kernel
theorem d9_49 : decode prog_11_method_1_code 49 = .ok (.invokevirtual 21, 3) := by decide +kernel
theorem d9_52 : decode prog_11_method_1_code 52 = .ok (.if_icmp .ge 53, 3) := by decide +kernel
theorem d9_55 : decode prog_11_method_1_code 55 = .ok (.aload_n 1, 1) := by decide +kernel
theorem d9_56 : decode prog_11_method_1_code 56 = .ok (.iload_n 2, 1) := by decide +kernel
theorem d9_57 : decode prog_11_method_1_code 57 = .ok (.invokevirtual 36, 3) := by decide +kernel
theorem pd__28I_29C : parseMethodDescriptor "(I)C" = some ⟨[.int], some .char⟩ := by decide +kernel
theorem d9_60 : decode prog_11_method_1_code 60 = .ok (.istore_n 3, 1) := by decide +kernel
theorem d9_61 : decode prog_11_method_1_code 61 = .ok (.iload_n 3, 1) := by decide +kernel
theorem d9_62 : decode prog_11_method_1_code 62 = .ok (.invokestatic 40, 3) := by decide +kernel
theorem pd__28C_29Z : parseMethodDescriptor "(C)Z" = some ⟨[.char], some .boolean⟩ := by decide +kernel
theorem d9_65 : decode prog_11_method_1_code 65 = .ok (.ifCond .ne 34, 3) := by decide +kernel
theorem d9_99 : decode prog_11_method_1_code 99 = .ok (.iinc 2 1, 3) := by decide +kernel
theorem d9_102 : decode prog_11_method_1_code 102 = .ok (.goto (-55), 3) := by decide +kernel
theorem d9_105 : decode prog_11_method_1_code 105 = .ok (.aload_n 0, 1) := by decide +kernel
theorem d9_106 : decode prog_11_method_1_code 106 = .ok (.aload_n 1, 1) := by decide +kernel
theorem d9_107 : decode prog_11_method_1_code 107 = .ok (.putfield 58, 3) := by decide +kernel
theorem d9_110 : decode prog_11_method_1_code 110 = .ok (.return_, 1) := by decide +kernel
theorem ef_rmBK1 (m : MethodId) (a : Addr) (so : Addr) : entryFrame m #[(.ref a), (.ref so)] 4 = mkF m 0 #[.val (.ref a), .val (.ref so), .unset, .unset] [] := by first | (simp [entryFrame, mkF, argsToLocals, Value.category]; done) | rfl
abbrev rm_rmBK1 : Room := ({ frames := 4, cells := 2, slots := 24, locals := 53 } : Room)
def Q_rmBK1 (Z : State) (a : Addr) (so : Addr) (tb : Addr) (kb : ClassId) (x0 : Int32) (cs : Int32) (sf : Value) (h0 : Heap) (n0 : Nat) (v : Option Value) (h : Heap) (L : List Loc) : Prop := (v = none) ∧ (Fr n0 L) ∧ (Keep h0 h [a]) ∧ (Exa Z h a "com/example/tombsweep/tombsweep/model/BlobKey") ∧ (Fld Z h a "com/example/tombsweep/tombsweep/model/BlobKey" "value" "Ljava/lang/String;" (.ref so))
set_option maxRecDepth 65536 in
set_option maxHeartbeats 4000000 in
theorem rmBK1 (l : Launch) (Z : State) (a0 : Array Value) (hw : ∀ d ∈ tables_1, d.before a0 Z = true) (ws : List Jvm.Cond) (a : Addr) (so : Addr) (tb : Addr) (kb : ClassId) (x0 : Int32) (cs : Int32) (sf : Value) (h0 : Heap) (n0 : Nat) (O : Old Z n0 h0) (S_CS : Sta Z Z.heap "java/lang/String" "COMPACT_STRINGS" "Z" (.int cs)) (S_FM : Sta Z Z.heap "jdk/internal/util/Preconditions" "SIOOBE_FORMATTER" "Ljava/util/function/BiFunction;" sf) (E_so : Exa Z h0 so "java/lang/String") (F_value_so : Fld Z h0 so "java/lang/String" "value" "[B" (.ref tb)) (F_coder_so : Fld Z h0 so "java/lang/String" "coder" "B" (.int (0 : Int32))) (V_tb : Arv Z h0 tb kb .byte (1 : Int32) [(.int (x0.toInt8.toInt32))] (.int (0 : Int32))) (E_a : Exa Z h0 a "com/example/tombsweep/tombsweep/model/BlobKey") (F_value_a : Fld Z h0 a "com/example/tombsweep/tombsweep/model/BlobKey" "value" "Ljava/lang/String;" .null) (g_a : n0 ≤ a) (hcs : ¬ (cs = (0 : Int32))) (hsf : sf.isRef = true) (r0_0 : ¬ (x0 < (97 : Int32))) (r0_1 : ¬ ((122 : Int32) < x0)) (r0_2 : ¬ (x0 < (0 : Int32))) (r0_3 : ¬ ((255 : Int32) < x0)) :
    MetFree l y_21 (head1 (Jvm.Cond.code y_21 prog_11_method_1_code 4 none :: ws) rm_rmBK1) (fun A_ U => A_ = #[(.ref a), (.ref so)] ∧ Z.Warmed39 U.vm ∧ U.heap = h0) (fun _ _ _ _ _ => True) (fun _ U o U' => ∃ v L, o = .returned v ∧ Q_rmBK1 Z a so tb kb x0 cs sf h0 n0 v U'.heap L ∧ ReturnedEndW U o U' L rm_rmBK1.cells rm_rmBK1.slots) := by
 refine MetFree.of_bodySF (plainFor_of_name pn_com_example_tombsweep_tombsweep_model_BlobKey) hisR ?_
 intro p e s m args below meth c s₁ Bd hml0 hP hK
 obtain ⟨rfl, hZ, hh⟩ := hP
 have hx := Bd.exec
 have hby := Bd.bytes
 have hml : c.maxLocals = 4 := hml0
 have hown : s.vm.findClass "com/example/tombsweep/tombsweep/model/BlobKey" = some m.cls := findClass_of_methodNamed Bd.named
 have hnm := (name_of_methodNamed Bd.named Bd.method).1
 have X0 : Stand p l e rm_rmBK1 (s.setVm s.vm) m #[(.ref a), (.ref so)] below meth c s₁ [] 0 0 := Stand.of_body Bd
 have e0 : s₁.heap = h0 := by rw [← hh, Bd.state]; rfl
 have N0 := Fr.nil n0
 have K := Keep.refl h0 [a]
 have hS : s.Since s.vm 0 := (State.WarmedH.refl s).since 0
 have hk : 0 ≤ h0.size := Nat.zero_le _
 have wS := own_wS hw
 refine Go.step (p := p) (e := e) (below := below) (G := fun o U' => ∃ v L, o = .returned v ∧ Q_rmBK1 Z a so tb kb x0 cs sf h0 n0 v U'.heap L ∧ ReturnedEndW s o U' L rm_rmBK1.cells rm_rmBK1.slots) (S' := s₁.setTop (mkF m 0 #[rv a, rv so, u_, u_] [])) (fun t k => castTop (ef_rmBK1 m a so) k) ?_
 refine Go.step (S' := s₁.setTop (mkF m 1 #[rv a, rv so, u_, u_] [(.ref a)])) (fun t k => ?_) ?_
 · refine XS.aloadN X0.here hx rfl (hb hby d9_0) rfl rfl ?_
   exact k
 obtain ⟨_, _, ⟨T1, L1, k1, n1⟩, -, X1, ⟨Lc1, hQ1, l1, y1, z1⟩, st1⟩ := X0.specialBack hx (y := y_16) rfl hown (mvT hZ (own_w hw 52 rfl)) (mvT hZ (own_w hw 53 rfl)) (mvT hZ (own_w hw 56 rfl)) (by decide) (backOf (W := 0) (rmRec l Z a0 hw [] a h0 n0 O ) hZ (own_w hw 56 rfl) (own_w hw 55 rfl) (by decide) (by decide)) (g := (mkF m 1 #[rv a, rv so, u_, u_] [(.ref a)])) rfl (by rw [hml]; rfl) (Steps.refl _) (a := a) (argsL := []) (rest := []) (lenOf pd__28_29V rfl) rfl (Nat.le_of_eq rfl) (hb hby d9_1) (fun _ _ => ⟨rfl, e0, (by decide : 0 + 0 ≤ _), (by decide : 0 + 0 ≤ _)⟩)
 dsimp only [Pt.U, Pt.locs, Pt.cells, Pt.slots] at X1 l1 y1 z1 st1 hQ1
 subst l1 y1 z1
 obtain ⟨rfl, Nq1, e1⟩ := hQ1
 have N1 := Fr.app N0 Nq1
 refine Go.step (fun t k => st1.trans k) ?_
 refine Go.step (S' := T1.setTop (mkF m 5 #[rv a, rv so, u_, u_] [(.ref so)])) (fun t k => ?_) ?_
 · refine XS.aloadN X1.here hx rfl (hb hby d9_4) rfl rfl ?_
   exact k
 obtain ⟨a2, T2, h2, k2, X2, e2, E2, hS, hk, hZ, hown, st2⟩ := ldcS X1 hx hZ hown (own_w hw 58 rfl) wS e1 hS hk (g := (mkF m 5 #[rv a, rv so, u_, u_] [(.ref so)])) rfl (hb hby d9_5) (n := 20) (by decide) (by decide) (by decide) (by decide)
 have O := O.ext E2
 have E_so := E_so.ext E2
 have F_value_so := F_value_so.ext E2
 have F_coder_so := F_coder_so.ext E2
 have V_tb := V_tb.ext E2
 have E_a := E_a.ext E2
 have F_value_a := F_value_a.ext E2
 have K := K.ext E2
 refine Go.step st2 ?_
 obtain ⟨_, _, ⟨T3, L3, k3, n3⟩, -, X3, ⟨Lc3, hQ3, l3, y3, z3⟩, st3⟩ := Jvm.LawKit.callS X2 hx (y := y_17) hown (mvT hZ (own_w hw 61 rfl)) (mvT hZ (own_w hw 62 rfl)) (mvT hZ (own_w hw 63 rfl)) (mvT hZ (own_w hw 64 rfl)) (by decide) (backOf (W := 0) (rmReq l Z a0 hw [] so a2 h2 n0 O ) hZ (own_w hw 64 rfl) (own_w hw 63 rfl) (by decide) (by decide)) (g := (mkF m 7 #[rv a, rv so, u_, u_] [(.ref a2), (.ref so)])) rfl (by rw [hml]; rfl) (argsL := [(.ref so), (.ref a2)]) (rest := []) (lenOf pd__28Ljava_2flang_2fObject_3bLjava_2flang_2fString_3b_29Ljava_2flang_2fObject_3b rfl) rfl (Nat.le_of_eq rfl) (hb hby d9_7) (fun _ _ => ⟨rfl, e2, (by decide : 2 + 0 ≤ _), (by decide : 24 + 0 ≤ _)⟩)
 dsimp only [Pt.U, Pt.locs, Pt.cells, Pt.slots] at X3 l3 y3 z3 st3 hQ3
 subst l3 y3 z3
 obtain ⟨rfl, Nq3, e3⟩ := hQ3
 have N3 := Fr.app N1 Nq3
 refine Go.step st3 ?_
 refine Go.step (S' := T3.setTop (mkF m 12 #[rv a, rv so, u_, u_] [(.ref so)])) (fun t k => ?_) ?_
 · refine XS.pop X3.here hx rfl (hb hby d9_10) rfl rfl ?_
   refine XS.aloadN X3.here hx rfl (hb hby d9_11) rfl rfl ?_
   exact k
 obtain ⟨cq4, kq4, q4a, q4b, q4c⟩ := isOf hZ e3 E_so
 obtain ⟨_, _, ⟨T4, L4, k4, n4⟩, -, X4, ⟨Lc4, hQ4, l4, y4, z4⟩, st4⟩ := X3.virtualBack hx (y := y_4) (z := y_4) hown (mvT hZ (own_w hw 65 rfl)) (mvT hZ (own_w hw 66 rfl)) (notFace_of_selects (args := #[]) (mvT hZ (own_w hw 68 rfl))) (mvT hZ (own_w hw 68 rfl)) (mvT hZ (own_w hw 67 rfl)) (by decide) (backOf (W := 0) (rmEmp1 l Z a0 hw [] so tb kb x0 h2 n0 O F_value_so V_tb) hZ (own_w hw 69 rfl) (own_w hw 7 rfl) (by decide) (by decide)) q4a q4c (g := (mkF m 12 #[rv a, rv so, u_, u_] [(.ref so)])) rfl (by rw [hml]; rfl) (Steps.refl _) (argsL := []) (rest := []) (lenOf pd__28_29Z rfl) rfl (Nat.le_of_eq rfl) (hb hby d9_12) (fun _ _ => ⟨rfl, e3, (by decide : 2 + 0 ≤ _), (by decide : 24 + 0 ≤ _)⟩)
 dsimp only [Pt.U, Pt.locs, Pt.cells, Pt.slots] at X4 l4 y4 z4 st4 hQ4
 subst l4 y4 z4
 obtain ⟨rfl, Nq4, e4⟩ := hQ4
 have N4 := Fr.app N3 Nq4
 refine Go.step (fun t k => st4.trans k) ?_
 refine Go.step (S' := T4.setTop (mkF m 19 #[rv a, rv so, u_, u_] [(.ref so)])) (fun t k => ?_) ?_
 · refine XS.ifNo X4.here hx rfl (hb hby d9_15) rfl ((if0 _ _).trans (teq ((by decide) : (0 : Int32) = (0 : Int32))).2) ?_
   refine XS.aloadN X4.here hx rfl (hb hby d9_18) rfl rfl ?_
   exact k
 obtain ⟨cq5, kq5, q5a, q5b, q5c⟩ := isOf hZ e4 E_so
 obtain ⟨_, _, ⟨T5, L5, k5, n5⟩, -, X5, ⟨Lc5, hQ5, l5, y5, z5⟩, st5⟩ := X4.virtualBack hx (y := y_5) (z := y_5) hown (mvT hZ (own_w hw 70 rfl)) (mvT hZ (own_w hw 71 rfl)) (notFace_of_selects (args := #[]) (mvT hZ (own_w hw 73 rfl))) (mvT hZ (own_w hw 73 rfl)) (mvT hZ (own_w hw 72 rfl)) (by decide) (backOf (W := 0) (rmLen1 l Z a0 hw [] so tb kb x0 cs h2 n0 O S_CS E_so F_value_so F_coder_so V_tb hcs) hZ (own_w hw 74 rfl) (own_w hw 7 rfl) (by decide) (by decide)) q5a q5c (g := (mkF m 19 #[rv a, rv so, u_, u_] [(.ref so)])) rfl (by rw [hml]; rfl) (Steps.refl _) (argsL := []) (rest := []) (lenOf pd__28_29I rfl) rfl (Nat.le_of_eq rfl) (hb hby d9_19) (fun _ _ => ⟨rfl, e4, (by decide : 2 + 0 ≤ _), (by decide : 24 + 0 ≤ _)⟩)
 dsimp only [Pt.U, Pt.locs, Pt.cells, Pt.slots] at X5 l5 y5 z5 st5 hQ5
 subst l5 y5 z5
 obtain ⟨rfl, Nq5, e5⟩ := hQ5
 have N5 := Fr.app N4 Nq5
 refine Go.step (fun t k => st5.trans k) ?_
 refine Go.step (S' := T5.setTop (mkF m 49 #[rv a, rv so, iv (0 : Int32), u_] [(.ref so), (.int (0 : Int32))])) (fun t k => ?_) ?_
 · refine XS.sipush X5.here hx rfl (hb hby d9_22) ?_
   refine XS.icmpYes X5.here hx rfl (pc0 := 25) (pc' := 45) rfl (hb hby d9_25) rfl (flt ((by decide) : ¬ ((255 : Int32) < (1 : Int32)))).2.2.2 (by decide) (by decide) ?_
   refine XS.iconst X5.here hx rfl (hb hby d9_45) ?_
   refine XS.istoreN X5.here hx rfl (hb hby d9_46) rfl (l' := #[rv a, rv so, iv (0 : Int32), u_]) rfl ?_
   refine XS.iloadN X5.here hx rfl (hb hby d9_47) rfl ?_
   refine XS.aloadN X5.here hx rfl (hb hby d9_48) rfl rfl ?_
   exact k
 obtain ⟨cq6, kq6, q6a, q6b, q6c⟩ := isOf hZ e5 E_so
 obtain ⟨_, _, ⟨T6, L6, k6, n6⟩, -, X6, ⟨Lc6, hQ6, l6, y6, z6⟩, st6⟩ := X5.virtualBack hx (y := y_5) (z := y_5) hown (mvT hZ (own_w hw 70 rfl)) (mvT hZ (own_w hw 71 rfl)) (notFace_of_selects (args := #[]) (mvT hZ (own_w hw 73 rfl))) (mvT hZ (own_w hw 73 rfl)) (mvT hZ (own_w hw 72 rfl)) (by decide) (backOf (W := 1) (rmLen1 l Z a0 hw [] so tb kb x0 cs h2 n0 O S_CS E_so F_value_so F_coder_so V_tb hcs) hZ (own_w hw 74 rfl) (own_w hw 7 rfl) (by decide) (by decide)) q6a q6c (g := (mkF m 49 #[rv a, rv so, iv (0 : Int32), u_] [(.ref so), (.int (0 : Int32))])) rfl (by rw [hml]; rfl) (Steps.refl _) (argsL := []) (rest := [(.int (0 : Int32))]) (lenOf pd__28_29I rfl) rfl (Nat.le_of_eq rfl) (hb hby d9_49) (fun _ _ => ⟨rfl, e5, (by decide : 2 + 0 ≤ _), (by decide : 24 + 0 ≤ _)⟩)
 dsimp only [Pt.U, Pt.locs, Pt.cells, Pt.slots] at X6 l6 y6 z6 st6 hQ6
 subst l6 y6 z6
 obtain ⟨rfl, Nq6, e6⟩ := hQ6
 have N6 := Fr.app N5 Nq6
 refine Go.step (fun t k => st6.trans k) ?_
 refine Go.step (S' := T6.setTop (mkF m 57 #[rv a, rv so, iv (0 : Int32), u_] [(.int (0 : Int32)), (.ref so)])) (fun t k => ?_) ?_
 · refine XS.icmpNo X6.here hx rfl (hb hby d9_52) rfl (tlt ((by decide) : (0 : Int32) < (1 : Int32))).2.1 ?_
   refine XS.aloadN X6.here hx rfl (hb hby d9_55) rfl rfl ?_
   refine XS.iloadN X6.here hx rfl (hb hby d9_56) rfl ?_
   exact k
 obtain ⟨cq7, kq7, q7a, q7b, q7c⟩ := isOf hZ e6 E_so
 obtain ⟨_, _, ⟨T7, L7, k7, n7⟩, -, X7, ⟨Lc7, hQ7, l7, y7, z7⟩, st7⟩ := X6.virtualBack hx (y := y_7) (z := y_7) hown (mvT hZ (own_w hw 80 rfl)) (mvT hZ (own_w hw 81 rfl)) (notFace_of_selects (args := #[]) (mvT hZ (own_w hw 83 rfl))) (mvT hZ (own_w hw 83 rfl)) (mvT hZ (own_w hw 82 rfl)) (by decide) (backOf (W := 0) (rmCh1_0 l Z a0 hw [] so tb kb x0 cs sf h2 n0 O S_CS S_FM E_so F_value_so F_coder_so V_tb hcs hsf r0_2 r0_3) hZ (own_w hw 84 rfl) (own_w hw 7 rfl) (by decide) (by decide)) q7a q7c (g := (mkF m 57 #[rv a, rv so, iv (0 : Int32), u_] [(.int (0 : Int32)), (.ref so)])) rfl (by rw [hml]; rfl) (Steps.refl _) (argsL := [(.int (0 : Int32))]) (rest := []) (lenOf pd__28I_29C rfl) rfl (Nat.le_of_eq rfl) (hb hby d9_57) (fun _ _ => ⟨rfl, e6, (by decide : 2 + 0 ≤ _), (by decide : 24 + 0 ≤ _)⟩)
 dsimp only [Pt.U, Pt.locs, Pt.cells, Pt.slots] at X7 l7 y7 z7 st7 hQ7
 subst l7 y7 z7
 obtain ⟨rfl, Nq7, e7⟩ := hQ7
 have N7 := Fr.app N6 Nq7
 refine Go.step (fun t k => st7.trans k) ?_
 refine Go.step (S' := T7.setTop (mkF m 62 #[rv a, rv so, iv (0 : Int32), iv x0] [(.int x0)])) (fun t k => ?_) ?_
 · refine XS.istoreN X7.here hx rfl (hb hby d9_60) rfl (l' := #[rv a, rv so, iv (0 : Int32), iv x0]) rfl ?_
   refine XS.iloadN X7.here hx rfl (hb hby d9_61) rfl ?_
   exact k
 obtain ⟨_, _, ⟨T8, L8, k8, n8⟩, -, X8, ⟨Lc8, hQ8, l8, y8, z8⟩, st8⟩ := Jvm.LawKit.callS X7 hx (y := y_18) hown (mvT hZ (own_w hw 102 rfl)) (mvT hZ (own_w hw 103 rfl)) (mvT hZ (own_w hw 48 rfl)) (mvT hZ (own_w hw 104 rfl)) (by decide) (backOf (W := 0) (rmKey l Z a0 hw [] x0 h2 n0 O r0_0 r0_1) hZ (own_w hw 104 rfl) (own_w hw 48 rfl) (by decide) (by decide)) (g := (mkF m 62 #[rv a, rv so, iv (0 : Int32), iv x0] [(.int x0)])) rfl (by rw [hml]; rfl) (argsL := [(.int x0)]) (rest := []) (lenOf pd__28C_29Z rfl) rfl (Nat.le_of_eq rfl) (hb hby d9_62) (fun _ _ => ⟨rfl, e7, (by decide : 2 + 0 ≤ _), (by decide : 24 + 0 ≤ _)⟩)
 dsimp only [Pt.U, Pt.locs, Pt.cells, Pt.slots] at X8 l8 y8 z8 st8 hQ8
 subst l8 y8 z8
 obtain ⟨rfl, Nq8, e8⟩ := hQ8
 have N8 := Fr.app N7 Nq8
 refine Go.step st8 ?_
 refine Go.step (S' := T8.setTop (mkF m 102 #[rv a, rv so, iv ((0 : Int32) + (1 : Int32)), iv x0] [])) (fun t k => ?_) ?_
 · refine XS.ifYes X8.here hx rfl (pc0 := 65) (pc' := 99) rfl (hb hby d9_65) rfl ((if0 _ _).trans (feq ((by decide) : ¬ ((1 : Int32) = (0 : Int32)))).2) (by decide) (by decide) ?_
   refine XS.iinc X8.here hx rfl (hb hby d9_99) rfl (l' := #[rv a, rv so, iv ((0 : Int32) + (1 : Int32)), iv x0]) rfl ?_
   exact k
 rw [show ((0 : Int32) + (1 : Int32)) = (1 : Int32) from by decide]
 show Go p e below _ (T8.setTop (mkF m 102 #[rv a, rv so, iv (1 : Int32), iv x0] []))
 refine Go.step (S' := T8.setTop (mkF m 49 #[rv a, rv so, iv (1 : Int32), iv x0] [(.ref so), (.int (1 : Int32))])) (fun t k => ?_) ?_
 · refine XS.goto X8.here hx rfl (pc0 := 102) (pc' := 47) rfl (hb hby d9_102) (by decide) (by decide) ?_
   refine XS.iloadN X8.here hx rfl (hb hby d9_47) rfl ?_
   refine XS.aloadN X8.here hx rfl (hb hby d9_48) rfl rfl ?_
   exact k
 obtain ⟨cq9, kq9, q9a, q9b, q9c⟩ := isOf hZ e8 E_so
 obtain ⟨_, _, ⟨T9, L9, k9, n9⟩, -, X9, ⟨Lc9, hQ9, l9, y9, z9⟩, st9⟩ := X8.virtualBack hx (y := y_5) (z := y_5) hown (mvT hZ (own_w hw 70 rfl)) (mvT hZ (own_w hw 71 rfl)) (notFace_of_selects (args := #[]) (mvT hZ (own_w hw 73 rfl))) (mvT hZ (own_w hw 73 rfl)) (mvT hZ (own_w hw 72 rfl)) (by decide) (backOf (W := 1) (rmLen1 l Z a0 hw [] so tb kb x0 cs h2 n0 O S_CS E_so F_value_so F_coder_so V_tb hcs) hZ (own_w hw 74 rfl) (own_w hw 7 rfl) (by decide) (by decide)) q9a q9c (g := (mkF m 49 #[rv a, rv so, iv (1 : Int32), iv x0] [(.ref so), (.int (1 : Int32))])) rfl (by rw [hml]; rfl) (Steps.refl _) (argsL := []) (rest := [(.int (1 : Int32))]) (lenOf pd__28_29I rfl) rfl (Nat.le_of_eq rfl) (hb hby d9_49) (fun _ _ => ⟨rfl, e8, (by decide : 2 + 0 ≤ _), (by decide : 24 + 0 ≤ _)⟩)
 dsimp only [Pt.U, Pt.locs, Pt.cells, Pt.slots] at X9 l9 y9 z9 st9 hQ9
 subst l9 y9 z9
 obtain ⟨rfl, Nq9, e9⟩ := hQ9
 have N9 := Fr.app N8 Nq9
 refine Go.step (fun t k => st9.trans k) ?_
 refine Go.step (S' := T9.setTop (mkF m 107 #[rv a, rv so, iv (1 : Int32), iv x0] [(.ref so), (.ref a)])) (fun t k => ?_) ?_
 · refine XS.icmpYes X9.here hx rfl (pc0 := 52) (pc' := 105) rfl (hb hby d9_52) rfl (flt ((by decide) : ¬ ((1 : Int32) < (1 : Int32)))).2.1 (by decide) (by decide) ?_
   refine XS.aloadN X9.here hx rfl (hb hby d9_105) rfl rfl ?_
   refine XS.aloadN X9.here hx rfl (hb hby d9_106) rfl rfl ?_
   exact k
 obtain ⟨T10, h10, X10, e10, W10, st10⟩ := putF X9 hx hZ hown (host := "") (Or.inl (own_w hw 105 rfl)) Via.refl e9 F_value_a E_a (Or.inr ⟨(own_w hw 106 rfl), rfl, hnm⟩) (own_w hw 47 rfl) (ty := (.object "java/lang/String")) (by decide) rfl rfl (g := (mkF m 107 #[rv a, rv so, iv (1 : Int32), iv x0] [(.ref so), (.ref a)])) rfl rfl (hb hby d9_107)
 have ne_so_a : so ≠ a := ne_exa E_so E_a (by decide)
 have ne_tb_a : tb ≠ a := Ne.symm (Exa.neArv E_a V_tb (own_w hw 47 rfl))
 have O := O.wr W10 g_a
 have E_so := E_so.wr W10
 have F_value_so := F_value_so.other W10 (Or.inl ne_so_a)
 have F_coder_so := F_coder_so.other W10 (Or.inl ne_so_a)
 have V_tb := V_tb.other W10 ne_tb_a
 have E_a := E_a.wr W10
 have F_value_a := F_value_a.same W10
 have K := K.wr W10 (Or.inl (List.mem_of_getElem? (i := 0) rfl))
 have hk := Nat.le_trans hk (Keep.of_wr W10).1
 have N10 := Fr.snoc X10 N9 g_a
 refine Go.step st10 ?_
 obtain ⟨fs, hr, hrun, hended, hR⟩ := X10.leaveW hS (by rw [e10]; exact hk) (v := none) (fun _ => rfl)
 refine Go.fin (S' := T10.setFrames fs) ?_ hrun hended ⟨_, _, rfl, ?_, hR.1, hR.2.1, hR.2.2.1, hR.2.2.2.mono (by decide) (by decide)⟩
 · exact X10.returnOut hx Bd.returns (hb hby d9_110) hr
 · show Q_rmBK1 Z a so tb kb x0 cs sf h0 n0 (none) T10.heap _
   rw [e10]
   exact ⟨rfl, N10, K, E_a, F_value_a⟩
abbrev y_22 : MethodName := ⟨"com/example/tombsweep/tombsweep/io/RecordHeader", "keyLength", "()I"⟩
theorem d25_0 : decode prog_5_method_16_code 0 = .ok (.aload_n 0, 1) := by decide +kernel
theorem d25_1 : decode prog_5_method_16_code 1 = .ok (.getfield 15, 3) := by decide +kernel
theorem d25_4 : decode prog_5_method_16_code 4 = .ok (.invokevirtual 208, 3) := by decide +kernel
theorem pd__28_29Ljava_2flang_2fString_3b : parseMethodDescriptor "()Ljava/lang/String;" = some ⟨[], some (.object "java/lang/String")⟩ := by decide +kernel
theorem d25_7 : decode prog_5_method_16_code 7 = .ok (.invokevirtual 211, 3) := by decide +kernel
theorem d25_10 : decode prog_5_method_16_code 10 = .ok (.ireturn, 1) := by decide +kernel
theorem ef_rmKL1 (m : MethodId) (hd : Addr) : entryFrame m #[(.ref hd)] 1 = mkF m 0 #[.val (.ref hd)] [] := by first | (simp [entryFrame, mkF, argsToLocals, Value.category]; done) | rfl
abbrev rm_rmKL1 : Room := ({ frames := 2, cells := 0, slots := 0, locals := 25 } : Room)
def Q_rmKL1 (Z : State) (hd : Addr) (ke : Addr) (so : Addr) (tb : Addr) (kb : ClassId) (x0 : Int32) (cs : Int32) (h0 : Heap) (n0 : Nat) (v : Option Value) (h : Heap) (L : List Loc) : Prop := (v = some (.int (1 : Int32))) ∧ (Fr n0 L) ∧ (h = h0)
set_option maxRecDepth 65536 in
set_option maxHeartbeats 4000000 in
theorem rmKL1 (l : Launch) (Z : State) (a0 : Array Value) (hw : ∀ d ∈ tables_1, d.before a0 Z = true) (ws : List Jvm.Cond) (hd : Addr) (ke : Addr) (so : Addr) (tb : Addr) (kb : ClassId) (x0 : Int32) (cs : Int32) (h0 : Heap) (n0 : Nat) (O : Old Z n0 h0) (F_key : Fld Z h0 hd "com/example/tombsweep/tombsweep/io/RecordHeader" "key" "Lcom/example/tombsweep/tombsweep/model/BlobKey;" (.ref ke)) (E_ke : Exa Z h0 ke "com/example/tombsweep/tombsweep/model/BlobKey") (F_value_ke : Fld Z h0 ke "com/example/tombsweep/tombsweep/model/BlobKey" "value" "Ljava/lang/String;" (.ref so)) (E_so : Exa Z h0 so "java/lang/String") (F_value_so : Fld Z h0 so "java/lang/String" "value" "[B" (.ref tb)) (F_coder_so : Fld Z h0 so "java/lang/String" "coder" "B" (.int (0 : Int32))) (V_tb : Arv Z h0 tb kb .byte (1 : Int32) [(.int (x0.toInt8.toInt32))] (.int (0 : Int32))) (S_CS : Sta Z Z.heap "java/lang/String" "COMPACT_STRINGS" "Z" (.int cs)) (hcs : ¬ (cs = (0 : Int32))) :
    MetFree l y_22 (head1 (Jvm.Cond.code y_22 prog_5_method_16_code 1 (some .int) :: ws) rm_rmKL1) (fun A_ U => A_ = #[(.ref hd)] ∧ Z.Warmed39 U.vm ∧ U.heap = h0) (fun _ _ _ _ _ => True) (fun _ U o U' => ∃ v L, o = .returned v ∧ Q_rmKL1 Z hd ke so tb kb x0 cs h0 n0 v U'.heap L ∧ FrameEnd U o U' L rm_rmKL1.cells rm_rmKL1.slots) := by
 refine MetFree.of_bodySF (plainFor_of_name pn_com_example_tombsweep_tombsweep_io_RecordHeader) hisR ?_
 intro p e s m args below meth c s₁ Bd hml0 hP hK
 obtain ⟨rfl, hZ, hh⟩ := hP
 have hx := Bd.exec
 have hby := Bd.bytes
 have hml : c.maxLocals = 1 := hml0
 have hown : s.vm.findClass "com/example/tombsweep/tombsweep/io/RecordHeader" = some m.cls := findClass_of_methodNamed Bd.named
 have hnm := (name_of_methodNamed Bd.named Bd.method).1
 have X0 : Stand p l e rm_rmKL1 s m #[(.ref hd)] below meth c s₁ [] 0 0 := Stand.of_body Bd
 have e0 : s₁.heap = h0 := by rw [← hh, Bd.state]; rfl
 have N0 := Fr.nil n0
 refine Go.step (p := p) (e := e) (below := below) (G := fun o U' => ∃ v L, o = .returned v ∧ Q_rmKL1 Z hd ke so tb kb x0 cs h0 n0 v U'.heap L ∧ FrameEnd s o U' L rm_rmKL1.cells rm_rmKL1.slots) (S' := s₁.setTop (mkF m 0 #[rv hd] [])) (fun t k => castTop (ef_rmKL1 m hd) k) ?_
 refine Go.step (S' := s₁.setTop (mkF m 1 #[rv hd] [(.ref hd)])) (fun t k => ?_) ?_
 · refine XS.aloadN X0.here hx rfl (hb hby d25_0) rfl rfl ?_
   exact k
 obtain ⟨T1, X1, e1, st1⟩ := getF X0 hx hZ hown (host := "") (Or.inl (own_w hw 113 rfl)) Via.refl e0 F_key (g := (mkF m 1 #[rv hd] [(.ref hd)])) rfl rfl (hb hby d25_1)
 refine Go.step st1 ?_
 obtain ⟨cq2, kq2, q2a, q2b, q2c⟩ := isOf hZ e1 E_ke
 obtain ⟨_, _, ⟨T2, L2, k2, n2⟩, -, X2, ⟨Lc2, hQ2, l2, y2, z2⟩, st2⟩ := X1.virtualBack hx (y := y_19) (z := y_19) hown (mvT hZ (own_w hw 146 rfl)) (mvT hZ (own_w hw 147 rfl)) (notFace_of_selects (args := #[]) (mvT hZ (own_w hw 149 rfl))) (mvT hZ (own_w hw 149 rfl)) (mvT hZ (own_w hw 148 rfl)) (by decide) (backOf (W := 0) (rmBV l Z a0 hw [] ke so h0 n0 O F_value_ke) hZ (own_w hw 150 rfl) (own_w hw 48 rfl) (by decide) (by decide)) q2a q2c (g := (mkF m 4 #[rv hd] [(.ref ke)])) rfl (by rw [hml]; rfl) (Steps.refl _) (argsL := []) (rest := []) (lenOf pd__28_29Ljava_2flang_2fString_3b rfl) rfl (Nat.le_of_eq rfl) (hb hby d25_4) (fun _ _ => ⟨rfl, e1, (by decide : 0 + 0 ≤ _), (by decide : 0 + 0 ≤ _)⟩)
 dsimp only [Pt.U, Pt.locs, Pt.cells, Pt.slots] at X2 l2 y2 z2 st2 hQ2
 subst l2 y2 z2
 obtain ⟨rfl, Nq2, e2⟩ := hQ2
 have N2 := Fr.app N0 Nq2
 refine Go.step (fun t k => st2.trans k) ?_
 obtain ⟨cq3, kq3, q3a, q3b, q3c⟩ := isOf hZ e2 E_so
 obtain ⟨_, _, ⟨T3, L3, k3, n3⟩, -, X3, ⟨Lc3, hQ3, l3, y3, z3⟩, st3⟩ := X2.virtualBack hx (y := y_5) (z := y_5) hown (mvT hZ (own_w hw 151 rfl)) (mvT hZ (own_w hw 71 rfl)) (notFace_of_selects (args := #[]) (mvT hZ (own_w hw 73 rfl))) (mvT hZ (own_w hw 73 rfl)) (mvT hZ (own_w hw 72 rfl)) (by decide) (backOf (W := 0) (rmLen1 l Z a0 hw [] so tb kb x0 cs h0 n0 O S_CS E_so F_value_so F_coder_so V_tb hcs) hZ (own_w hw 74 rfl) (own_w hw 7 rfl) (by decide) (by decide)) q3a q3c (g := (mkF m 7 #[rv hd] [(.ref so)])) rfl (by rw [hml]; rfl) (Steps.refl _) (argsL := []) (rest := []) (lenOf pd__28_29I rfl) rfl (Nat.le_of_eq rfl) (hb hby d25_7) (fun _ _ => ⟨rfl, e2, (by decide : 0 + 0 ≤ _), (by decide : 0 + 0 ≤ _)⟩)
 dsimp only [Pt.U, Pt.locs, Pt.cells, Pt.slots] at X3 l3 y3 z3 st3 hQ3
 subst l3 y3 z3
 obtain ⟨rfl, Nq3, e3⟩ := hQ3
 have N3 := Fr.app N2 Nq3
 refine Go.step (fun t k => st3.trans k) ?_
 obtain ⟨fs, hr, hrun, hended, hW, hsame⟩ := X3.leave (v := some (.int (1 : Int32))) (fun h => by rw [Bd.returns] at h; cases h)
 refine Go.fin (S' := T3.setFrames fs) ?_ hrun hended ⟨_, _, rfl, ?_, ⟨_, rfl⟩, hW, hsame.mono (by decide) (by decide)⟩
 · exact retOut X3 hx Bd.returns rfl (Or.inl ⟨rfl, Or.inl rfl, _, rfl⟩) (hb hby d25_10) hr
 · show Q_rmKL1 Z hd ke so tb kb x0 cs h0 n0 (some (.int (1 : Int32))) T3.heap _
   rw [e3]
   exact ⟨rfl, N3, rfl⟩
abbrev y_23 : MethodName := ⟨"com/example/tombsweep/tombsweep/io/RecordHeader", "metadataOffset", "()J"⟩
theorem d24_0 : decode prog_5_method_11_code 0 = .ok (.bipush 40, 2) := by decide +kernel
theorem d24_2 : decode prog_5_method_11_code 2 = .ok (.aload_n 0, 1) := by decide +kernel
theorem d24_3 : decode prog_5_method_11_code 3 = .ok (.invokevirtual 173, 3) := by decide +kernel
theorem d24_6 : decode prog_5_method_11_code 6 = .ok (.iadd, 1) := by decide +kernel
theorem d24_7 : decode prog_5_method_11_code 7 = .ok (.i2l, 1) := by decide +kernel
theorem d24_8 : decode prog_5_method_11_code 8 = .ok (.lreturn, 1) := by decide +kernel
theorem ef_rmMO1 (m : MethodId) (hd : Addr) : entryFrame m #[(.ref hd)] 1 = mkF m 0 #[.val (.ref hd)] [] := by first | (simp [entryFrame, mkF, argsToLocals, Value.category]; done) | rfl
abbrev rm_rmMO1 : Room := ({ frames := 3, cells := 0, slots := 0, locals := 38 } : Room)
def Q_rmMO1 (Z : State) (hd : Addr) (ke : Addr) (so : Addr) (tb : Addr) (kb : ClassId) (x0 : Int32) (cs : Int32) (h0 : Heap) (n0 : Nat) (v : Option Value) (h : Heap) (L : List Loc) : Prop := (v = some (.long (41 : Int64))) ∧ (Fr n0 L) ∧ (h = h0)
set_option maxRecDepth 65536 in
set_option maxHeartbeats 4000000 in
theorem rmMO1 (l : Launch) (Z : State) (a0 : Array Value) (hw : ∀ d ∈ tables_1, d.before a0 Z = true) (ws : List Jvm.Cond) (hd : Addr) (ke : Addr) (so : Addr) (tb : Addr) (kb : ClassId) (x0 : Int32) (cs : Int32) (h0 : Heap) (n0 : Nat) (O : Old Z n0 h0) (F_key : Fld Z h0 hd "com/example/tombsweep/tombsweep/io/RecordHeader" "key" "Lcom/example/tombsweep/tombsweep/model/BlobKey;" (.ref ke)) (E_ke : Exa Z h0 ke "com/example/tombsweep/tombsweep/model/BlobKey") (F_value_ke : Fld Z h0 ke "com/example/tombsweep/tombsweep/model/BlobKey" "value" "Ljava/lang/String;" (.ref so)) (E_so : Exa Z h0 so "java/lang/String") (F_value_so : Fld Z h0 so "java/lang/String" "value" "[B" (.ref tb)) (F_coder_so : Fld Z h0 so "java/lang/String" "coder" "B" (.int (0 : Int32))) (V_tb : Arv Z h0 tb kb .byte (1 : Int32) [(.int (x0.toInt8.toInt32))] (.int (0 : Int32))) (S_CS : Sta Z Z.heap "java/lang/String" "COMPACT_STRINGS" "Z" (.int cs)) (E_h : Exa Z h0 hd "com/example/tombsweep/tombsweep/io/RecordHeader") (hcs : ¬ (cs = (0 : Int32))) :
    MetFree l y_23 (head1 (Jvm.Cond.code y_23 prog_5_method_11_code 1 (some .long) :: ws) rm_rmMO1) (fun A_ U => A_ = #[(.ref hd)] ∧ Z.Warmed39 U.vm ∧ U.heap = h0) (fun _ _ _ _ _ => True) (fun _ U o U' => ∃ v L, o = .returned v ∧ Q_rmMO1 Z hd ke so tb kb x0 cs h0 n0 v U'.heap L ∧ FrameEnd U o U' L rm_rmMO1.cells rm_rmMO1.slots) := by
 refine MetFree.of_bodySF (plainFor_of_name pn_com_example_tombsweep_tombsweep_io_RecordHeader) hisR ?_
 intro p e s m args below meth c s₁ Bd hml0 hP hK
 obtain ⟨rfl, hZ, hh⟩ := hP
 have hx := Bd.exec
 have hby := Bd.bytes
 have hml : c.maxLocals = 1 := hml0
 have hown : s.vm.findClass "com/example/tombsweep/tombsweep/io/RecordHeader" = some m.cls := findClass_of_methodNamed Bd.named
 have hnm := (name_of_methodNamed Bd.named Bd.method).1
 have X0 : Stand p l e rm_rmMO1 s m #[(.ref hd)] below meth c s₁ [] 0 0 := Stand.of_body Bd
 have e0 : s₁.heap = h0 := by rw [← hh, Bd.state]; rfl
 have N0 := Fr.nil n0
 refine Go.step (p := p) (e := e) (below := below) (G := fun o U' => ∃ v L, o = .returned v ∧ Q_rmMO1 Z hd ke so tb kb x0 cs h0 n0 v U'.heap L ∧ FrameEnd s o U' L rm_rmMO1.cells rm_rmMO1.slots) (S' := s₁.setTop (mkF m 0 #[rv hd] [])) (fun t k => castTop (ef_rmMO1 m hd) k) ?_
 refine Go.step (S' := s₁.setTop (mkF m 3 #[rv hd] [(.ref hd), (.int (40 : Int32))])) (fun t k => ?_) ?_
 · refine XS.bipush X0.here hx rfl (hb hby d24_0) ?_
   refine XS.aloadN X0.here hx rfl (hb hby d24_2) rfl rfl ?_
   exact k
 obtain ⟨cq1, q1, q1'⟩ := E_h.cell
 obtain ⟨_, _, ⟨T1, L1, k1, n1⟩, -, X1, ⟨Lc1, hQ1, l1, y1, z1⟩, st1⟩ := X0.privateBack hx (y := y_22) hown (mvT hZ (own_w hw 142 rfl)) (mvT hZ (own_w hw 143 rfl)) (own_selP hZ (own_w hw 38 rfl) (own_w hw 143 rfl) (own_w hw 144 rfl) (by decide)) (Cond.privateMethod_at (mvP hZ (own_w hw 144 rfl) (args := #[]))) (mvT hZ (own_w hw 145 rfl)) (by decide) (backOf (W := 1) (rmKL1 l Z a0 hw [] hd ke so tb kb x0 cs h0 n0 O F_key E_ke F_value_ke E_so F_value_so F_coder_so V_tb S_CS hcs) hZ (own_w hw 145 rfl) (own_w hw 39 rfl) (by decide) (by decide)) (g := (mkF m 3 #[rv hd] [(.ref hd), (.int (40 : Int32))])) rfl (by rw [hml]; rfl) (Steps.refl _) (a := hd) (by rw [e0]; exact q1) q1' (argsL := []) (rest := [(.int (40 : Int32))]) (lenOf pd__28_29I rfl) rfl (Nat.le_of_eq rfl) (hb hby d24_3) (fun _ _ => ⟨rfl, e0, (by decide : 0 + 0 ≤ _), (by decide : 0 + 0 ≤ _)⟩)
 dsimp only [Pt.U, Pt.locs, Pt.cells, Pt.slots] at X1 l1 y1 z1 st1 hQ1
 subst l1 y1 z1
 obtain ⟨rfl, Nq1, e1⟩ := hQ1
 have N1 := Fr.app N0 Nq1
 refine Go.step (fun t k => st1.trans k) ?_
 refine Go.step (S' := T1.setTop (mkF m 7 #[rv hd] [(.int ((40 : Int32) + (1 : Int32)))])) (fun t k => ?_) ?_
 · refine XS.iadd X1.here hx rfl (hb hby d24_6) rfl ?_
   exact k
 rw [show ((40 : Int32) + (1 : Int32)) = (41 : Int32) from by decide]
 show Go p e below _ (T1.setTop (mkF m 7 #[rv hd] [(.int (41 : Int32))]))
 refine Go.step (S' := T1.setTop (mkF m 8 #[rv hd] [(.long ((41 : Int32).toInt64))])) (fun t k => ?_) ?_
 · refine XS.i2l X1.here hx rfl (hb hby d24_7) rfl ?_
   exact k
 rw [show ((41 : Int32).toInt64) = (41 : Int64) from by decide]
 show Go p e below _ (T1.setTop (mkF m 8 #[rv hd] [(.long (41 : Int64))]))
 obtain ⟨fs, hr, hrun, hended, hW, hsame⟩ := X1.leave (v := some (.long (41 : Int64))) (fun h => by rw [Bd.returns] at h; cases h)
 refine Go.fin (S' := T1.setFrames fs) ?_ hrun hended ⟨_, _, rfl, ?_, ⟨_, rfl⟩, hW, hsame.mono (by decide) (by decide)⟩
 · exact retOut X1 hx Bd.returns rfl (Or.inr (Or.inl ⟨rfl, rfl, _, rfl⟩)) (hb hby d24_8) hr
 · show Q_rmMO1 Z hd ke so tb kb x0 cs h0 n0 (some (.long (41 : Int64))) T1.heap _
   rw [e1]
   exact ⟨rfl, N1, rfl⟩
abbrev y_24 : MethodName := ⟨"com/example/tombsweep/tombsweep/io/RecordHeader", "contentOffset", "()J"⟩
theorem d23_0 : decode prog_5_method_12_code 0 = .ok (.aload_n 0, 1) := by decide +kernel
theorem d23_1 : decode prog_5_method_12_code 1 = .ok (.invokevirtual 194, 3) := by decide +kernel
theorem pd__28_29J : parseMethodDescriptor "()J" = some ⟨[], some .long⟩ := by decide +kernel
theorem d23_4 : decode prog_5_method_12_code 4 = .ok (.aload_n 0, 1) := by decide +kernel
theorem d23_5 : decode prog_5_method_12_code 5 = .ok (.getfield 19, 3) := by decide +kernel
theorem d23_8 : decode prog_5_method_12_code 8 = .ok (.i2l, 1) := by decide +kernel
theorem d23_9 : decode prog_5_method_12_code 9 = .ok (.ladd, 1) := by decide +kernel
theorem d23_10 : decode prog_5_method_12_code 10 = .ok (.lreturn, 1) := by decide +kernel
theorem ef_rmCO1 (m : MethodId) (hd : Addr) : entryFrame m #[(.ref hd)] 1 = mkF m 0 #[.val (.ref hd)] [] := by first | (simp [entryFrame, mkF, argsToLocals, Value.category]; done) | rfl
abbrev rm_rmCO1 : Room := ({ frames := 4, cells := 0, slots := 0, locals := 50 } : Room)
def Q_rmCO1 (Z : State) (hd : Addr) (ke : Addr) (so : Addr) (tb : Addr) (kb : ClassId) (x0 : Int32) (cs : Int32) (m1 : Int32) (h0 : Heap) (n0 : Nat) (v : Option Value) (h : Heap) (L : List Loc) : Prop := (v = some (.long ((41 : Int64) + (m1.toInt64)))) ∧ (Fr n0 L) ∧ (h = h0)
set_option maxRecDepth 65536 in
set_option maxHeartbeats 4000000 in
theorem rmCO1 (l : Launch) (Z : State) (a0 : Array Value) (hw : ∀ d ∈ tables_1, d.before a0 Z = true) (ws : List Jvm.Cond) (hd : Addr) (ke : Addr) (so : Addr) (tb : Addr) (kb : ClassId) (x0 : Int32) (cs : Int32) (m1 : Int32) (h0 : Heap) (n0 : Nat) (O : Old Z n0 h0) (F_key : Fld Z h0 hd "com/example/tombsweep/tombsweep/io/RecordHeader" "key" "Lcom/example/tombsweep/tombsweep/model/BlobKey;" (.ref ke)) (E_ke : Exa Z h0 ke "com/example/tombsweep/tombsweep/model/BlobKey") (F_value_ke : Fld Z h0 ke "com/example/tombsweep/tombsweep/model/BlobKey" "value" "Ljava/lang/String;" (.ref so)) (E_so : Exa Z h0 so "java/lang/String") (F_value_so : Fld Z h0 so "java/lang/String" "value" "[B" (.ref tb)) (F_coder_so : Fld Z h0 so "java/lang/String" "coder" "B" (.int (0 : Int32))) (V_tb : Arv Z h0 tb kb .byte (1 : Int32) [(.int (x0.toInt8.toInt32))] (.int (0 : Int32))) (S_CS : Sta Z Z.heap "java/lang/String" "COMPACT_STRINGS" "Z" (.int cs)) (E_h : Exa Z h0 hd "com/example/tombsweep/tombsweep/io/RecordHeader") (F_ml : Fld Z h0 hd "com/example/tombsweep/tombsweep/io/RecordHeader" "metadataLength" "I" (.int m1)) (hcs : ¬ (cs = (0 : Int32))) :
    MetFree l y_24 (head1 (Jvm.Cond.code y_24 prog_5_method_12_code 1 (some .long) :: ws) rm_rmCO1) (fun A_ U => A_ = #[(.ref hd)] ∧ Z.Warmed39 U.vm ∧ U.heap = h0) (fun _ _ _ _ _ => True) (fun _ U o U' => ∃ v L, o = .returned v ∧ Q_rmCO1 Z hd ke so tb kb x0 cs m1 h0 n0 v U'.heap L ∧ FrameEnd U o U' L rm_rmCO1.cells rm_rmCO1.slots) := by
 refine MetFree.of_bodySF (plainFor_of_name pn_com_example_tombsweep_tombsweep_io_RecordHeader) hisR ?_
 intro p e s m args below meth c s₁ Bd hml0 hP hK
 obtain ⟨rfl, hZ, hh⟩ := hP
 have hx := Bd.exec
 have hby := Bd.bytes
 have hml : c.maxLocals = 1 := hml0
 have hown : s.vm.findClass "com/example/tombsweep/tombsweep/io/RecordHeader" = some m.cls := findClass_of_methodNamed Bd.named
 have hnm := (name_of_methodNamed Bd.named Bd.method).1
 have X0 : Stand p l e rm_rmCO1 s m #[(.ref hd)] below meth c s₁ [] 0 0 := Stand.of_body Bd
 have e0 : s₁.heap = h0 := by rw [← hh, Bd.state]; rfl
 have N0 := Fr.nil n0
 refine Go.step (p := p) (e := e) (below := below) (G := fun o U' => ∃ v L, o = .returned v ∧ Q_rmCO1 Z hd ke so tb kb x0 cs m1 h0 n0 v U'.heap L ∧ FrameEnd s o U' L rm_rmCO1.cells rm_rmCO1.slots) (S' := s₁.setTop (mkF m 0 #[rv hd] [])) (fun t k => castTop (ef_rmCO1 m hd) k) ?_
 refine Go.step (S' := s₁.setTop (mkF m 1 #[rv hd] [(.ref hd)])) (fun t k => ?_) ?_
 · refine XS.aloadN X0.here hx rfl (hb hby d23_0) rfl rfl ?_
   exact k
 obtain ⟨cq1, kq1, q1a, q1b, q1c⟩ := isOf hZ e0 E_h
 obtain ⟨_, _, ⟨T1, L1, k1, n1⟩, -, X1, ⟨Lc1, hQ1, l1, y1, z1⟩, st1⟩ := X0.virtualBack hx (y := y_23) (z := y_23) hown (mvT hZ (own_w hw 137 rfl)) (mvT hZ (own_w hw 138 rfl)) (notFace_of_selects (args := #[]) (mvT hZ (own_w hw 140 rfl))) (mvT hZ (own_w hw 140 rfl)) (mvT hZ (own_w hw 139 rfl)) (by decide) (backOf (W := 0) (rmMO1 l Z a0 hw [] hd ke so tb kb x0 cs h0 n0 O F_key E_ke F_value_ke E_so F_value_so F_coder_so V_tb S_CS E_h hcs) hZ (own_w hw 141 rfl) (own_w hw 39 rfl) (by decide) (by decide)) q1a q1c (g := (mkF m 1 #[rv hd] [(.ref hd)])) rfl (by rw [hml]; rfl) (Steps.refl _) (argsL := []) (rest := []) (lenOf pd__28_29J rfl) rfl (Nat.le_of_eq rfl) (hb hby d23_1) (fun _ _ => ⟨rfl, e0, (by decide : 0 + 0 ≤ _), (by decide : 0 + 0 ≤ _)⟩)
 dsimp only [Pt.U, Pt.locs, Pt.cells, Pt.slots] at X1 l1 y1 z1 st1 hQ1
 subst l1 y1 z1
 obtain ⟨rfl, Nq1, e1⟩ := hQ1
 have N1 := Fr.app N0 Nq1
 refine Go.step (fun t k => st1.trans k) ?_
 refine Go.step (S' := T1.setTop (mkF m 5 #[rv hd] [(.ref hd), (.long (41 : Int64))])) (fun t k => ?_) ?_
 · refine XS.aloadN X1.here hx rfl (hb hby d23_4) rfl rfl ?_
   exact k
 obtain ⟨T2, X2, e2, st2⟩ := getF X1 hx hZ hown (host := "") (Or.inl (own_w hw 115 rfl)) Via.refl e1 F_ml (g := (mkF m 5 #[rv hd] [(.ref hd), (.long (41 : Int64))])) rfl rfl (hb hby d23_5)
 refine Go.step st2 ?_
 refine Go.step (S' := T2.setTop (mkF m 10 #[rv hd] [(.long ((41 : Int64) + (m1.toInt64)))])) (fun t k => ?_) ?_
 · refine XS.i2l X2.here hx rfl (hb hby d23_8) rfl ?_
   refine XS.ladd X2.here hx rfl (hb hby d23_9) rfl ?_
   exact k
 obtain ⟨fs, hr, hrun, hended, hW, hsame⟩ := X2.leave (v := some (.long ((41 : Int64) + (m1.toInt64)))) (fun h => by rw [Bd.returns] at h; cases h)
 refine Go.fin (S' := T2.setFrames fs) ?_ hrun hended ⟨_, _, rfl, ?_, ⟨_, rfl⟩, hW, hsame.mono (by decide) (by decide)⟩
 · exact retOut X2 hx Bd.returns rfl (Or.inr (Or.inl ⟨rfl, rfl, _, rfl⟩)) (hb hby d23_10) hr
 · show Q_rmCO1 Z hd ke so tb kb x0 cs m1 h0 n0 (some (.long ((41 : Int64) + (m1.toInt64)))) T2.heap _
   rw [e2]
   exact ⟨rfl, N1, rfl⟩
abbrev y_25 : MethodName := ⟨"com/example/tombsweep/tombsweep/io/RecordHeader", "fitsIn", "(J)Z"⟩
theorem d22_0 : decode prog_5_method_14_code 0 = .ok (.aload_n 0, 1) := by decide +kernel
theorem d22_1 : decode prog_5_method_14_code 1 = .ok (.getfield 30, 3) := by decide +kernel
theorem d22_4 : decode prog_5_method_14_code 4 = .ok (.lload_n 1, 1) := by decide +kernel
theorem d22_5 : decode prog_5_method_14_code 5 = .ok (.aload_n 0, 1) := by decide +kernel
theorem d22_6 : decode prog_5_method_14_code 6 = .ok (.invokevirtual 205, 3) := by decide +kernel
theorem d22_9 : decode prog_5_method_14_code 9 = .ok (.lsub, 1) := by decide +kernel
theorem d22_10 : decode prog_5_method_14_code 10 = .ok (.lcmp, 1) := by decide +kernel
theorem d22_11 : decode prog_5_method_14_code 11 = .ok (.ifCond .gt 7, 3) := by decide +kernel
theorem d22_14 : decode prog_5_method_14_code 14 = .ok (.iconst 1, 1) := by decide +kernel
theorem d22_15 : decode prog_5_method_14_code 15 = .ok (.goto 4, 3) := by decide +kernel
theorem d22_19 : decode prog_5_method_14_code 19 = .ok (.ireturn, 1) := by decide +kernel
theorem ef_rmFit1Y (m : MethodId) (hd : Addr) (rr : Int64) : entryFrame m #[(.ref hd), (.long rr)] 3 = mkF m 0 #[.val (.ref hd), .val (.long rr), .second] [] := by first | (simp [entryFrame, mkF, argsToLocals, Value.category]; done) | rfl
abbrev rm_rmFit1Y : Room := ({ frames := 5, cells := 0, slots := 0, locals := 66 } : Room)
def Q_rmFit1Y (Z : State) (hd : Addr) (rr : Int64) (ke : Addr) (so : Addr) (tb : Addr) (kb : ClassId) (x0 : Int32) (cs : Int32) (m1 : Int32) (q3 : Int64) (h0 : Heap) (n0 : Nat) (v : Option Value) (h : Heap) (L : List Loc) : Prop := (v = some (.int (1 : Int32))) ∧ (Fr n0 L) ∧ (h = h0)
set_option maxRecDepth 65536 in
set_option maxHeartbeats 4000000 in
theorem rmFit1Y (l : Launch) (Z : State) (a0 : Array Value) (hw : ∀ d ∈ tables_1, d.before a0 Z = true) (ws : List Jvm.Cond) (hd : Addr) (rr : Int64) (ke : Addr) (so : Addr) (tb : Addr) (kb : ClassId) (x0 : Int32) (cs : Int32) (m1 : Int32) (q3 : Int64) (h0 : Heap) (n0 : Nat) (O : Old Z n0 h0) (F_key : Fld Z h0 hd "com/example/tombsweep/tombsweep/io/RecordHeader" "key" "Lcom/example/tombsweep/tombsweep/model/BlobKey;" (.ref ke)) (E_ke : Exa Z h0 ke "com/example/tombsweep/tombsweep/model/BlobKey") (F_value_ke : Fld Z h0 ke "com/example/tombsweep/tombsweep/model/BlobKey" "value" "Ljava/lang/String;" (.ref so)) (E_so : Exa Z h0 so "java/lang/String") (F_value_so : Fld Z h0 so "java/lang/String" "value" "[B" (.ref tb)) (F_coder_so : Fld Z h0 so "java/lang/String" "coder" "B" (.int (0 : Int32))) (V_tb : Arv Z h0 tb kb .byte (1 : Int32) [(.int (x0.toInt8.toInt32))] (.int (0 : Int32))) (S_CS : Sta Z Z.heap "java/lang/String" "COMPACT_STRINGS" "Z" (.int cs)) (E_h : Exa Z h0 hd "com/example/tombsweep/tombsweep/io/RecordHeader") (F_ml : Fld Z h0 hd "com/example/tombsweep/tombsweep/io/RecordHeader" "metadataLength" "I" (.int m1)) (F_cl : Fld Z h0 hd "com/example/tombsweep/tombsweep/io/RecordHeader" "contentLength" "J" (.long q3)) (hcs : ¬ (cs = (0 : Int32))) (hf : ¬ ((rr - ((41 : Int64) + (m1.toInt64))) < q3)) :
    MetFree l y_25 (head1 (Jvm.Cond.code y_25 prog_5_method_14_code 3 (some .boolean) :: ws) rm_rmFit1Y) (fun A_ U => A_ = #[(.ref hd), (.long rr)] ∧ Z.Warmed39 U.vm ∧ U.heap = h0) (fun _ _ _ _ _ => True) (fun _ U o U' => ∃ v L, o = .returned v ∧ Q_rmFit1Y Z hd rr ke so tb kb x0 cs m1 q3 h0 n0 v U'.heap L ∧ FrameEnd U o U' L rm_rmFit1Y.cells rm_rmFit1Y.slots) := by
 refine MetFree.of_bodySF (plainFor_of_name pn_com_example_tombsweep_tombsweep_io_RecordHeader) hisR ?_
 intro p e s m args below meth c s₁ Bd hml0 hP hK
 obtain ⟨rfl, hZ, hh⟩ := hP
 have hx := Bd.exec
 have hby := Bd.bytes
 have hml : c.maxLocals = 3 := hml0
 have hown : s.vm.findClass "com/example/tombsweep/tombsweep/io/RecordHeader" = some m.cls := findClass_of_methodNamed Bd.named
 have hnm := (name_of_methodNamed Bd.named Bd.method).1
 have X0 : Stand p l e rm_rmFit1Y s m #[(.ref hd), (.long rr)] below meth c s₁ [] 0 0 := Stand.of_body Bd
 have e0 : s₁.heap = h0 := by rw [← hh, Bd.state]; rfl
 have N0 := Fr.nil n0
 refine Go.step (p := p) (e := e) (below := below) (G := fun o U' => ∃ v L, o = .returned v ∧ Q_rmFit1Y Z hd rr ke so tb kb x0 cs m1 q3 h0 n0 v U'.heap L ∧ FrameEnd s o U' L rm_rmFit1Y.cells rm_rmFit1Y.slots) (S' := s₁.setTop (mkF m 0 #[rv hd, lv rr, .second] [])) (fun t k => castTop (ef_rmFit1Y m hd rr) k) ?_
 refine Go.step (S' := s₁.setTop (mkF m 1 #[rv hd, lv rr, .second] [(.ref hd)])) (fun t k => ?_) ?_
 · refine XS.aloadN X0.here hx rfl (hb hby d22_0) rfl rfl ?_
   exact k
 obtain ⟨T1, X1, e1, st1⟩ := getF X0 hx hZ hown (host := "") (Or.inl (own_w hw 121 rfl)) Via.refl e0 F_cl (g := (mkF m 1 #[rv hd, lv rr, .second] [(.ref hd)])) rfl rfl (hb hby d22_1)
 refine Go.step st1 ?_
 refine Go.step (S' := T1.setTop (mkF m 6 #[rv hd, lv rr, .second] [(.ref hd), (.long rr), (.long q3)])) (fun t k => ?_) ?_
 · refine XS.lloadN X1.here hx rfl (hb hby d22_4) rfl ?_
   refine XS.aloadN X1.here hx rfl (hb hby d22_5) rfl rfl ?_
   exact k
 obtain ⟨cq2, kq2, q2a, q2b, q2c⟩ := isOf hZ e1 E_h
 obtain ⟨_, _, ⟨T2, L2, k2, n2⟩, -, X2, ⟨Lc2, hQ2, l2, y2, z2⟩, st2⟩ := X1.virtualBack hx (y := y_24) (z := y_24) hown (mvT hZ (own_w hw 132 rfl)) (mvT hZ (own_w hw 133 rfl)) (notFace_of_selects (args := #[]) (mvT hZ (own_w hw 135 rfl))) (mvT hZ (own_w hw 135 rfl)) (mvT hZ (own_w hw 134 rfl)) (by decide) (backOf (W := 4) (rmCO1 l Z a0 hw [] hd ke so tb kb x0 cs m1 h0 n0 O F_key E_ke F_value_ke E_so F_value_so F_coder_so V_tb S_CS E_h F_ml hcs) hZ (own_w hw 136 rfl) (own_w hw 39 rfl) (by decide) (by decide)) q2a q2c (g := (mkF m 6 #[rv hd, lv rr, .second] [(.ref hd), (.long rr), (.long q3)])) rfl (by rw [hml]; rfl) (Steps.refl _) (argsL := []) (rest := [(.long rr), (.long q3)]) (lenOf pd__28_29J rfl) rfl (Nat.le_of_eq rfl) (hb hby d22_6) (fun _ _ => ⟨rfl, e1, (by decide : 0 + 0 ≤ _), (by decide : 0 + 0 ≤ _)⟩)
 dsimp only [Pt.U, Pt.locs, Pt.cells, Pt.slots] at X2 l2 y2 z2 st2 hQ2
 subst l2 y2 z2
 obtain ⟨rfl, Nq2, e2⟩ := hQ2
 have N2 := Fr.app N0 Nq2
 refine Go.step (fun t k => st2.trans k) ?_
 refine Go.step (S' := T2.setTop (mkF m 19 #[rv hd, lv rr, .second] [(.int (1 : Int32))])) (fun t k => ?_) ?_
 · refine XS.lsub X2.here hx rfl (hb hby d22_9) rfl ?_
   refine XS.lcmp X2.here hx rfl (hb hby d22_10) rfl ?_
   refine XS.ifNo X2.here hx rfl (hb hby d22_11) rfl ((if0 _ _).trans (flt (fun zq => absurd ((lw_gt q3 (rr - ((41 : Int64) + (m1.toInt64)))).mp zq) hf)).2.2.1) ?_
   refine XS.iconst X2.here hx rfl (hb hby d22_14) ?_
   refine XS.goto X2.here hx rfl (pc0 := 15) (pc' := 19) rfl (hb hby d22_15) (by decide) (by decide) ?_
   exact k
 obtain ⟨fs, hr, hrun, hended, hW, hsame⟩ := X2.leave (v := some (.int (1 : Int32))) (fun h => by rw [Bd.returns] at h; cases h)
 refine Go.fin (S' := T2.setFrames fs) ?_ hrun hended ⟨_, _, rfl, ?_, ⟨_, rfl⟩, hW, hsame.mono (by decide) (by decide)⟩
 · exact retOut X2 hx Bd.returns (by decide) (Or.inl ⟨rfl, Or.inr (Or.inl rfl), _, rfl⟩) (hb hby d22_19) hr
 · show Q_rmFit1Y Z hd rr ke so tb kb x0 cs m1 q3 h0 n0 (some (.int (1 : Int32))) T2.heap _
   rw [e2]
   exact ⟨rfl, N2, rfl⟩
theorem d22_18 : decode prog_5_method_14_code 18 = .ok (.iconst 0, 1) := by decide +kernel
theorem ef_rmFit1N (m : MethodId) (hd : Addr) (rr : Int64) : entryFrame m #[(.ref hd), (.long rr)] 3 = mkF m 0 #[.val (.ref hd), .val (.long rr), .second] [] := by first | (simp [entryFrame, mkF, argsToLocals, Value.category]; done) | rfl
abbrev rm_rmFit1N : Room := ({ frames := 5, cells := 0, slots := 0, locals := 66 } : Room)
def Q_rmFit1N (Z : State) (hd : Addr) (rr : Int64) (ke : Addr) (so : Addr) (tb : Addr) (kb : ClassId) (x0 : Int32) (cs : Int32) (m1 : Int32) (q3 : Int64) (h0 : Heap) (n0 : Nat) (v : Option Value) (h : Heap) (L : List Loc) : Prop := (v = some (.int (0 : Int32))) ∧ (Fr n0 L) ∧ (h = h0)
set_option maxRecDepth 65536 in
set_option maxHeartbeats 4000000 in
theorem rmFit1N (l : Launch) (Z : State) (a0 : Array Value) (hw : ∀ d ∈ tables_1, d.before a0 Z = true) (ws : List Jvm.Cond) (hd : Addr) (rr : Int64) (ke : Addr) (so : Addr) (tb : Addr) (kb : ClassId) (x0 : Int32) (cs : Int32) (m1 : Int32) (q3 : Int64) (h0 : Heap) (n0 : Nat) (O : Old Z n0 h0) (F_key : Fld Z h0 hd "com/example/tombsweep/tombsweep/io/RecordHeader" "key" "Lcom/example/tombsweep/tombsweep/model/BlobKey;" (.ref ke)) (E_ke : Exa Z h0 ke "com/example/tombsweep/tombsweep/model/BlobKey") (F_value_ke : Fld Z h0 ke "com/example/tombsweep/tombsweep/model/BlobKey" "value" "Ljava/lang/String;" (.ref so)) (E_so : Exa Z h0 so "java/lang/String") (F_value_so : Fld Z h0 so "java/lang/String" "value" "[B" (.ref tb)) (F_coder_so : Fld Z h0 so "java/lang/String" "coder" "B" (.int (0 : Int32))) (V_tb : Arv Z h0 tb kb .byte (1 : Int32) [(.int (x0.toInt8.toInt32))] (.int (0 : Int32))) (S_CS : Sta Z Z.heap "java/lang/String" "COMPACT_STRINGS" "Z" (.int cs)) (E_h : Exa Z h0 hd "com/example/tombsweep/tombsweep/io/RecordHeader") (F_ml : Fld Z h0 hd "com/example/tombsweep/tombsweep/io/RecordHeader" "metadataLength" "I" (.int m1)) (F_cl : Fld Z h0 hd "com/example/tombsweep/tombsweep/io/RecordHeader" "contentLength" "J" (.long q3)) (hcs : ¬ (cs = (0 : Int32))) (hf : (rr - ((41 : Int64) + (m1.toInt64))) < q3) :
    MetFree l y_25 (head1 (Jvm.Cond.code y_25 prog_5_method_14_code 3 (some .boolean) :: ws) rm_rmFit1N) (fun A_ U => A_ = #[(.ref hd), (.long rr)] ∧ Z.Warmed39 U.vm ∧ U.heap = h0) (fun _ _ _ _ _ => True) (fun _ U o U' => ∃ v L, o = .returned v ∧ Q_rmFit1N Z hd rr ke so tb kb x0 cs m1 q3 h0 n0 v U'.heap L ∧ FrameEnd U o U' L rm_rmFit1N.cells rm_rmFit1N.slots) := by
 refine MetFree.of_bodySF (plainFor_of_name pn_com_example_tombsweep_tombsweep_io_RecordHeader) hisR ?_
 intro p e s m args below meth c s₁ Bd hml0 hP hK
 obtain ⟨rfl, hZ, hh⟩ := hP
 have hx := Bd.exec
 have hby := Bd.bytes
 have hml : c.maxLocals = 3 := hml0
 have hown : s.vm.findClass "com/example/tombsweep/tombsweep/io/RecordHeader" = some m.cls := findClass_of_methodNamed Bd.named
 have hnm := (name_of_methodNamed Bd.named Bd.method).1
 have X0 : Stand p l e rm_rmFit1N s m #[(.ref hd), (.long rr)] below meth c s₁ [] 0 0 := Stand.of_body Bd
 have e0 : s₁.heap = h0 := by rw [← hh, Bd.state]; rfl
 have N0 := Fr.nil n0
 refine Go.step (p := p) (e := e) (below := below) (G := fun o U' => ∃ v L, o = .returned v ∧ Q_rmFit1N Z hd rr ke so tb kb x0 cs m1 q3 h0 n0 v U'.heap L ∧ FrameEnd s o U' L rm_rmFit1N.cells rm_rmFit1N.slots) (S' := s₁.setTop (mkF m 0 #[rv hd, lv rr, .second] [])) (fun t k => castTop (ef_rmFit1N m hd rr) k) ?_
 refine Go.step (S' := s₁.setTop (mkF m 1 #[rv hd, lv rr, .second] [(.ref hd)])) (fun t k => ?_) ?_
 · refine XS.aloadN X0.here hx rfl (hb hby d22_0) rfl rfl ?_
   exact k
 obtain ⟨T1, X1, e1, st1⟩ := getF X0 hx hZ hown (host := "") (Or.inl (own_w hw 121 rfl)) Via.refl e0 F_cl (g := (mkF m 1 #[rv hd, lv rr, .second] [(.ref hd)])) rfl rfl (hb hby d22_1)
 refine Go.step st1 ?_
 refine Go.step (S' := T1.setTop (mkF m 6 #[rv hd, lv rr, .second] [(.ref hd), (.long rr), (.long q3)])) (fun t k => ?_) ?_
 · refine XS.lloadN X1.here hx rfl (hb hby d22_4) rfl ?_
   refine XS.aloadN X1.here hx rfl (hb hby d22_5) rfl rfl ?_
   exact k
 obtain ⟨cq2, kq2, q2a, q2b, q2c⟩ := isOf hZ e1 E_h
 obtain ⟨_, _, ⟨T2, L2, k2, n2⟩, -, X2, ⟨Lc2, hQ2, l2, y2, z2⟩, st2⟩ := X1.virtualBack hx (y := y_24) (z := y_24) hown (mvT hZ (own_w hw 132 rfl)) (mvT hZ (own_w hw 133 rfl)) (notFace_of_selects (args := #[]) (mvT hZ (own_w hw 135 rfl))) (mvT hZ (own_w hw 135 rfl)) (mvT hZ (own_w hw 134 rfl)) (by decide) (backOf (W := 4) (rmCO1 l Z a0 hw [] hd ke so tb kb x0 cs m1 h0 n0 O F_key E_ke F_value_ke E_so F_value_so F_coder_so V_tb S_CS E_h F_ml hcs) hZ (own_w hw 136 rfl) (own_w hw 39 rfl) (by decide) (by decide)) q2a q2c (g := (mkF m 6 #[rv hd, lv rr, .second] [(.ref hd), (.long rr), (.long q3)])) rfl (by rw [hml]; rfl) (Steps.refl _) (argsL := []) (rest := [(.long rr), (.long q3)]) (lenOf pd__28_29J rfl) rfl (Nat.le_of_eq rfl) (hb hby d22_6) (fun _ _ => ⟨rfl, e1, (by decide : 0 + 0 ≤ _), (by decide : 0 + 0 ≤ _)⟩)
 dsimp only [Pt.U, Pt.locs, Pt.cells, Pt.slots] at X2 l2 y2 z2 st2 hQ2
 subst l2 y2 z2
 obtain ⟨rfl, Nq2, e2⟩ := hQ2
 have N2 := Fr.app N0 Nq2
 refine Go.step (fun t k => st2.trans k) ?_
 refine Go.step (S' := T2.setTop (mkF m 19 #[rv hd, lv rr, .second] [(.int (0 : Int32))])) (fun t k => ?_) ?_
 · refine XS.lsub X2.here hx rfl (hb hby d22_9) rfl ?_
   refine XS.lcmp X2.here hx rfl (hb hby d22_10) rfl ?_
   refine XS.ifYes X2.here hx rfl (pc0 := 11) (pc' := 18) rfl (hb hby d22_11) rfl ((if0 _ _).trans (tlt ((lw_gt q3 (rr - ((41 : Int64) + (m1.toInt64)))).mpr hf)).2.2.1) (by decide) (by decide) ?_
   refine XS.iconst X2.here hx rfl (hb hby d22_18) ?_
   exact k
 obtain ⟨fs, hr, hrun, hended, hW, hsame⟩ := X2.leave (v := some (.int (0 : Int32))) (fun h => by rw [Bd.returns] at h; cases h)
 refine Go.fin (S' := T2.setFrames fs) ?_ hrun hended ⟨_, _, rfl, ?_, ⟨_, rfl⟩, hW, hsame.mono (by decide) (by decide)⟩
 · exact retOut X2 hx Bd.returns (by decide) (Or.inl ⟨rfl, Or.inr (Or.inl rfl), _, rfl⟩) (hb hby d22_19) hr
 · show Q_rmFit1N Z hd rr ke so tb kb x0 cs m1 q3 h0 n0 (some (.int (0 : Int32))) T2.heap _
   rw [e2]
   exact ⟨rfl, N2, rfl⟩
theorem ef_rmBK2 (m : MethodId) (a : Addr) (so : Addr) : entryFrame m #[(.ref a), (.ref so)] 4 = mkF m 0 #[.val (.ref a), .val (.ref so), .unset, .unset] [] := by first | (simp [entryFrame, mkF, argsToLocals, Value.category]; done) | rfl
abbrev rm_rmBK2 : Room := ({ frames := 4, cells := 2, slots := 24, locals := 53 } : Room)
def Q_rmBK2 (Z : State) (a : Addr) (so : Addr) (tb : Addr) (kb : ClassId) (x0 : Int32) (x1 : Int32) (cs : Int32) (sf : Value) (h0 : Heap) (n0 : Nat) (v : Option Value) (h : Heap) (L : List Loc) : Prop := (v = none) ∧ (Fr n0 L) ∧ (Keep h0 h [a]) ∧ (Exa Z h a "com/example/tombsweep/tombsweep/model/BlobKey") ∧ (Fld Z h a "com/example/tombsweep/tombsweep/model/BlobKey" "value" "Ljava/lang/String;" (.ref so))
set_option maxRecDepth 65536 in
set_option maxHeartbeats 4000000 in
theorem rmBK2 (l : Launch) (Z : State) (a0 : Array Value) (hw : ∀ d ∈ tables_1, d.before a0 Z = true) (ws : List Jvm.Cond) (a : Addr) (so : Addr) (tb : Addr) (kb : ClassId) (x0 : Int32) (x1 : Int32) (cs : Int32) (sf : Value) (h0 : Heap) (n0 : Nat) (O : Old Z n0 h0) (S_CS : Sta Z Z.heap "java/lang/String" "COMPACT_STRINGS" "Z" (.int cs)) (S_FM : Sta Z Z.heap "jdk/internal/util/Preconditions" "SIOOBE_FORMATTER" "Ljava/util/function/BiFunction;" sf) (E_so : Exa Z h0 so "java/lang/String") (F_value_so : Fld Z h0 so "java/lang/String" "value" "[B" (.ref tb)) (F_coder_so : Fld Z h0 so "java/lang/String" "coder" "B" (.int (0 : Int32))) (V_tb : Arv Z h0 tb kb .byte (2 : Int32) [(.int (x0.toInt8.toInt32)), (.int (x1.toInt8.toInt32))] (.int (0 : Int32))) (E_a : Exa Z h0 a "com/example/tombsweep/tombsweep/model/BlobKey") (F_value_a : Fld Z h0 a "com/example/tombsweep/tombsweep/model/BlobKey" "value" "Ljava/lang/String;" .null) (g_a : n0 ≤ a) (hcs : ¬ (cs = (0 : Int32))) (hsf : sf.isRef = true) (r0_0 : ¬ (x0 < (97 : Int32))) (r0_1 : ¬ ((122 : Int32) < x0)) (r0_2 : ¬ (x0 < (0 : Int32))) (r0_3 : ¬ ((255 : Int32) < x0)) (r1_0 : ¬ (x1 < (97 : Int32))) (r1_1 : ¬ ((122 : Int32) < x1)) (r1_2 : ¬ (x1 < (0 : Int32))) (r1_3 : ¬ ((255 : Int32) < x1)) :
    MetFree l y_21 (head1 (Jvm.Cond.code y_21 prog_11_method_1_code 4 none :: ws) rm_rmBK2) (fun A_ U => A_ = #[(.ref a), (.ref so)] ∧ Z.Warmed39 U.vm ∧ U.heap = h0) (fun _ _ _ _ _ => True) (fun _ U o U' => ∃ v L, o = .returned v ∧ Q_rmBK2 Z a so tb kb x0 x1 cs sf h0 n0 v U'.heap L ∧ ReturnedEndW U o U' L rm_rmBK2.cells rm_rmBK2.slots) := by
 refine MetFree.of_bodySF (plainFor_of_name pn_com_example_tombsweep_tombsweep_model_BlobKey) hisR ?_
 intro p e s m args below meth c s₁ Bd hml0 hP hK
 obtain ⟨rfl, hZ, hh⟩ := hP
 have hx := Bd.exec
 have hby := Bd.bytes
 have hml : c.maxLocals = 4 := hml0
 have hown : s.vm.findClass "com/example/tombsweep/tombsweep/model/BlobKey" = some m.cls := findClass_of_methodNamed Bd.named
 have hnm := (name_of_methodNamed Bd.named Bd.method).1
 have X0 : Stand p l e rm_rmBK2 (s.setVm s.vm) m #[(.ref a), (.ref so)] below meth c s₁ [] 0 0 := Stand.of_body Bd
 have e0 : s₁.heap = h0 := by rw [← hh, Bd.state]; rfl
 have N0 := Fr.nil n0
 have K := Keep.refl h0 [a]
 have hS : s.Since s.vm 0 := (State.WarmedH.refl s).since 0
 have hk : 0 ≤ h0.size := Nat.zero_le _
 have wS := own_wS hw
 refine Go.step (p := p) (e := e) (below := below) (G := fun o U' => ∃ v L, o = .returned v ∧ Q_rmBK2 Z a so tb kb x0 x1 cs sf h0 n0 v U'.heap L ∧ ReturnedEndW s o U' L rm_rmBK2.cells rm_rmBK2.slots) (S' := s₁.setTop (mkF m 0 #[rv a, rv so, u_, u_] [])) (fun t k => castTop (ef_rmBK2 m a so) k) ?_
 refine Go.step (S' := s₁.setTop (mkF m 1 #[rv a, rv so, u_, u_] [(.ref a)])) (fun t k => ?_) ?_
 · refine XS.aloadN X0.here hx rfl (hb hby d9_0) rfl rfl ?_
   exact k
 obtain ⟨_, _, ⟨T1, L1, k1, n1⟩, -, X1, ⟨Lc1, hQ1, l1, y1, z1⟩, st1⟩ := X0.specialBack hx (y := y_16) rfl hown (mvT hZ (own_w hw 52 rfl)) (mvT hZ (own_w hw 53 rfl)) (mvT hZ (own_w hw 56 rfl)) (by decide) (backOf (W := 0) (rmRec l Z a0 hw [] a h0 n0 O ) hZ (own_w hw 56 rfl) (own_w hw 55 rfl) (by decide) (by decide)) (g := (mkF m 1 #[rv a, rv so, u_, u_] [(.ref a)])) rfl (by rw [hml]; rfl) (Steps.refl _) (a := a) (argsL := []) (rest := []) (lenOf pd__28_29V rfl) rfl (Nat.le_of_eq rfl) (hb hby d9_1) (fun _ _ => ⟨rfl, e0, (by decide : 0 + 0 ≤ _), (by decide : 0 + 0 ≤ _)⟩)
 dsimp only [Pt.U, Pt.locs, Pt.cells, Pt.slots] at X1 l1 y1 z1 st1 hQ1
 subst l1 y1 z1
 obtain ⟨rfl, Nq1, e1⟩ := hQ1
 have N1 := Fr.app N0 Nq1
 refine Go.step (fun t k => st1.trans k) ?_
 refine Go.step (S' := T1.setTop (mkF m 5 #[rv a, rv so, u_, u_] [(.ref so)])) (fun t k => ?_) ?_
 · refine XS.aloadN X1.here hx rfl (hb hby d9_4) rfl rfl ?_
   exact k
 obtain ⟨a2, T2, h2, k2, X2, e2, E2, hS, hk, hZ, hown, st2⟩ := ldcS X1 hx hZ hown (own_w hw 58 rfl) wS e1 hS hk (g := (mkF m 5 #[rv a, rv so, u_, u_] [(.ref so)])) rfl (hb hby d9_5) (n := 20) (by decide) (by decide) (by decide) (by decide)
 have O := O.ext E2
 have E_so := E_so.ext E2
 have F_value_so := F_value_so.ext E2
 have F_coder_so := F_coder_so.ext E2
 have V_tb := V_tb.ext E2
 have E_a := E_a.ext E2
 have F_value_a := F_value_a.ext E2
 have K := K.ext E2
 refine Go.step st2 ?_
 obtain ⟨_, _, ⟨T3, L3, k3, n3⟩, -, X3, ⟨Lc3, hQ3, l3, y3, z3⟩, st3⟩ := Jvm.LawKit.callS X2 hx (y := y_17) hown (mvT hZ (own_w hw 61 rfl)) (mvT hZ (own_w hw 62 rfl)) (mvT hZ (own_w hw 63 rfl)) (mvT hZ (own_w hw 64 rfl)) (by decide) (backOf (W := 0) (rmReq l Z a0 hw [] so a2 h2 n0 O ) hZ (own_w hw 64 rfl) (own_w hw 63 rfl) (by decide) (by decide)) (g := (mkF m 7 #[rv a, rv so, u_, u_] [(.ref a2), (.ref so)])) rfl (by rw [hml]; rfl) (argsL := [(.ref so), (.ref a2)]) (rest := []) (lenOf pd__28Ljava_2flang_2fObject_3bLjava_2flang_2fString_3b_29Ljava_2flang_2fObject_3b rfl) rfl (Nat.le_of_eq rfl) (hb hby d9_7) (fun _ _ => ⟨rfl, e2, (by decide : 2 + 0 ≤ _), (by decide : 24 + 0 ≤ _)⟩)
 dsimp only [Pt.U, Pt.locs, Pt.cells, Pt.slots] at X3 l3 y3 z3 st3 hQ3
 subst l3 y3 z3
 obtain ⟨rfl, Nq3, e3⟩ := hQ3
 have N3 := Fr.app N1 Nq3
 refine Go.step st3 ?_
 refine Go.step (S' := T3.setTop (mkF m 12 #[rv a, rv so, u_, u_] [(.ref so)])) (fun t k => ?_) ?_
 · refine XS.pop X3.here hx rfl (hb hby d9_10) rfl rfl ?_
   refine XS.aloadN X3.here hx rfl (hb hby d9_11) rfl rfl ?_
   exact k
 obtain ⟨cq4, kq4, q4a, q4b, q4c⟩ := isOf hZ e3 E_so
 obtain ⟨_, _, ⟨T4, L4, k4, n4⟩, -, X4, ⟨Lc4, hQ4, l4, y4, z4⟩, st4⟩ := X3.virtualBack hx (y := y_4) (z := y_4) hown (mvT hZ (own_w hw 65 rfl)) (mvT hZ (own_w hw 66 rfl)) (notFace_of_selects (args := #[]) (mvT hZ (own_w hw 68 rfl))) (mvT hZ (own_w hw 68 rfl)) (mvT hZ (own_w hw 67 rfl)) (by decide) (backOf (W := 0) (rmEmp2 l Z a0 hw [] so tb kb x0 x1 h2 n0 O F_value_so V_tb) hZ (own_w hw 69 rfl) (own_w hw 7 rfl) (by decide) (by decide)) q4a q4c (g := (mkF m 12 #[rv a, rv so, u_, u_] [(.ref so)])) rfl (by rw [hml]; rfl) (Steps.refl _) (argsL := []) (rest := []) (lenOf pd__28_29Z rfl) rfl (Nat.le_of_eq rfl) (hb hby d9_12) (fun _ _ => ⟨rfl, e3, (by decide : 2 + 0 ≤ _), (by decide : 24 + 0 ≤ _)⟩)
 dsimp only [Pt.U, Pt.locs, Pt.cells, Pt.slots] at X4 l4 y4 z4 st4 hQ4
 subst l4 y4 z4
 obtain ⟨rfl, Nq4, e4⟩ := hQ4
 have N4 := Fr.app N3 Nq4
 refine Go.step (fun t k => st4.trans k) ?_
 refine Go.step (S' := T4.setTop (mkF m 19 #[rv a, rv so, u_, u_] [(.ref so)])) (fun t k => ?_) ?_
 · refine XS.ifNo X4.here hx rfl (hb hby d9_15) rfl ((if0 _ _).trans (teq ((by decide) : (0 : Int32) = (0 : Int32))).2) ?_
   refine XS.aloadN X4.here hx rfl (hb hby d9_18) rfl rfl ?_
   exact k
 obtain ⟨cq5, kq5, q5a, q5b, q5c⟩ := isOf hZ e4 E_so
 obtain ⟨_, _, ⟨T5, L5, k5, n5⟩, -, X5, ⟨Lc5, hQ5, l5, y5, z5⟩, st5⟩ := X4.virtualBack hx (y := y_5) (z := y_5) hown (mvT hZ (own_w hw 70 rfl)) (mvT hZ (own_w hw 71 rfl)) (notFace_of_selects (args := #[]) (mvT hZ (own_w hw 73 rfl))) (mvT hZ (own_w hw 73 rfl)) (mvT hZ (own_w hw 72 rfl)) (by decide) (backOf (W := 0) (rmLen2 l Z a0 hw [] so tb kb x0 x1 cs h2 n0 O S_CS E_so F_value_so F_coder_so V_tb hcs) hZ (own_w hw 74 rfl) (own_w hw 7 rfl) (by decide) (by decide)) q5a q5c (g := (mkF m 19 #[rv a, rv so, u_, u_] [(.ref so)])) rfl (by rw [hml]; rfl) (Steps.refl _) (argsL := []) (rest := []) (lenOf pd__28_29I rfl) rfl (Nat.le_of_eq rfl) (hb hby d9_19) (fun _ _ => ⟨rfl, e4, (by decide : 2 + 0 ≤ _), (by decide : 24 + 0 ≤ _)⟩)
 dsimp only [Pt.U, Pt.locs, Pt.cells, Pt.slots] at X5 l5 y5 z5 st5 hQ5
 subst l5 y5 z5
 obtain ⟨rfl, Nq5, e5⟩ := hQ5
 have N5 := Fr.app N4 Nq5
 refine Go.step (fun t k => st5.trans k) ?_
 refine Go.step (S' := T5.setTop (mkF m 49 #[rv a, rv so, iv (0 : Int32), u_] [(.ref so), (.int (0 : Int32))])) (fun t k => ?_) ?_
 · refine XS.sipush X5.here hx rfl (hb hby d9_22) ?_
   refine XS.icmpYes X5.here hx rfl (pc0 := 25) (pc' := 45) rfl (hb hby d9_25) rfl (flt ((by decide) : ¬ ((255 : Int32) < (2 : Int32)))).2.2.2 (by decide) (by decide) ?_
   refine XS.iconst X5.here hx rfl (hb hby d9_45) ?_
   refine XS.istoreN X5.here hx rfl (hb hby d9_46) rfl (l' := #[rv a, rv so, iv (0 : Int32), u_]) rfl ?_
   refine XS.iloadN X5.here hx rfl (hb hby d9_47) rfl ?_
   refine XS.aloadN X5.here hx rfl (hb hby d9_48) rfl rfl ?_
   exact k
 obtain ⟨cq6, kq6, q6a, q6b, q6c⟩ := isOf hZ e5 E_so
 obtain ⟨_, _, ⟨T6, L6, k6, n6⟩, -, X6, ⟨Lc6, hQ6, l6, y6, z6⟩, st6⟩ := X5.virtualBack hx (y := y_5) (z := y_5) hown (mvT hZ (own_w hw 70 rfl)) (mvT hZ (own_w hw 71 rfl)) (notFace_of_selects (args := #[]) (mvT hZ (own_w hw 73 rfl))) (mvT hZ (own_w hw 73 rfl)) (mvT hZ (own_w hw 72 rfl)) (by decide) (backOf (W := 1) (rmLen2 l Z a0 hw [] so tb kb x0 x1 cs h2 n0 O S_CS E_so F_value_so F_coder_so V_tb hcs) hZ (own_w hw 74 rfl) (own_w hw 7 rfl) (by decide) (by decide)) q6a q6c (g := (mkF m 49 #[rv a, rv so, iv (0 : Int32), u_] [(.ref so), (.int (0 : Int32))])) rfl (by rw [hml]; rfl) (Steps.refl _) (argsL := []) (rest := [(.int (0 : Int32))]) (lenOf pd__28_29I rfl) rfl (Nat.le_of_eq rfl) (hb hby d9_49) (fun _ _ => ⟨rfl, e5, (by decide : 2 + 0 ≤ _), (by decide : 24 + 0 ≤ _)⟩)
 dsimp only [Pt.U, Pt.locs, Pt.cells, Pt.slots] at X6 l6 y6 z6 st6 hQ6
 subst l6 y6 z6
 obtain ⟨rfl, Nq6, e6⟩ := hQ6
 have N6 := Fr.app N5 Nq6
 refine Go.step (fun t k => st6.trans k) ?_
 refine Go.step (S' := T6.setTop (mkF m 57 #[rv a, rv so, iv (0 : Int32), u_] [(.int (0 : Int32)), (.ref so)])) (fun t k => ?_) ?_
 · refine XS.icmpNo X6.here hx rfl (hb hby d9_52) rfl (tlt ((by decide) : (0 : Int32) < (2 : Int32))).2.1 ?_
   refine XS.aloadN X6.here hx rfl (hb hby d9_55) rfl rfl ?_
   refine XS.iloadN X6.here hx rfl (hb hby d9_56) rfl ?_
   exact k
 obtain ⟨cq7, kq7, q7a, q7b, q7c⟩ := isOf hZ e6 E_so
 obtain ⟨_, _, ⟨T7, L7, k7, n7⟩, -, X7, ⟨Lc7, hQ7, l7, y7, z7⟩, st7⟩ := X6.virtualBack hx (y := y_7) (z := y_7) hown (mvT hZ (own_w hw 80 rfl)) (mvT hZ (own_w hw 81 rfl)) (notFace_of_selects (args := #[]) (mvT hZ (own_w hw 83 rfl))) (mvT hZ (own_w hw 83 rfl)) (mvT hZ (own_w hw 82 rfl)) (by decide) (backOf (W := 0) (rmCh2_0 l Z a0 hw [] so tb kb x0 x1 cs sf h2 n0 O S_CS S_FM E_so F_value_so F_coder_so V_tb hcs hsf r0_2 r0_3) hZ (own_w hw 84 rfl) (own_w hw 7 rfl) (by decide) (by decide)) q7a q7c (g := (mkF m 57 #[rv a, rv so, iv (0 : Int32), u_] [(.int (0 : Int32)), (.ref so)])) rfl (by rw [hml]; rfl) (Steps.refl _) (argsL := [(.int (0 : Int32))]) (rest := []) (lenOf pd__28I_29C rfl) rfl (Nat.le_of_eq rfl) (hb hby d9_57) (fun _ _ => ⟨rfl, e6, (by decide : 2 + 0 ≤ _), (by decide : 24 + 0 ≤ _)⟩)
 dsimp only [Pt.U, Pt.locs, Pt.cells, Pt.slots] at X7 l7 y7 z7 st7 hQ7
 subst l7 y7 z7
 obtain ⟨rfl, Nq7, e7⟩ := hQ7
 have N7 := Fr.app N6 Nq7
 refine Go.step (fun t k => st7.trans k) ?_
 refine Go.step (S' := T7.setTop (mkF m 62 #[rv a, rv so, iv (0 : Int32), iv x0] [(.int x0)])) (fun t k => ?_) ?_
 · refine XS.istoreN X7.here hx rfl (hb hby d9_60) rfl (l' := #[rv a, rv so, iv (0 : Int32), iv x0]) rfl ?_
   refine XS.iloadN X7.here hx rfl (hb hby d9_61) rfl ?_
   exact k
 obtain ⟨_, _, ⟨T8, L8, k8, n8⟩, -, X8, ⟨Lc8, hQ8, l8, y8, z8⟩, st8⟩ := Jvm.LawKit.callS X7 hx (y := y_18) hown (mvT hZ (own_w hw 102 rfl)) (mvT hZ (own_w hw 103 rfl)) (mvT hZ (own_w hw 48 rfl)) (mvT hZ (own_w hw 104 rfl)) (by decide) (backOf (W := 0) (rmKey l Z a0 hw [] x0 h2 n0 O r0_0 r0_1) hZ (own_w hw 104 rfl) (own_w hw 48 rfl) (by decide) (by decide)) (g := (mkF m 62 #[rv a, rv so, iv (0 : Int32), iv x0] [(.int x0)])) rfl (by rw [hml]; rfl) (argsL := [(.int x0)]) (rest := []) (lenOf pd__28C_29Z rfl) rfl (Nat.le_of_eq rfl) (hb hby d9_62) (fun _ _ => ⟨rfl, e7, (by decide : 2 + 0 ≤ _), (by decide : 24 + 0 ≤ _)⟩)
 dsimp only [Pt.U, Pt.locs, Pt.cells, Pt.slots] at X8 l8 y8 z8 st8 hQ8
 subst l8 y8 z8
 obtain ⟨rfl, Nq8, e8⟩ := hQ8
 have N8 := Fr.app N7 Nq8
 refine Go.step st8 ?_
 refine Go.step (S' := T8.setTop (mkF m 102 #[rv a, rv so, iv ((0 : Int32) + (1 : Int32)), iv x0] [])) (fun t k => ?_) ?_
 · refine XS.ifYes X8.here hx rfl (pc0 := 65) (pc' := 99) rfl (hb hby d9_65) rfl ((if0 _ _).trans (feq ((by decide) : ¬ ((1 : Int32) = (0 : Int32)))).2) (by decide) (by decide) ?_
   refine XS.iinc X8.here hx rfl (hb hby d9_99) rfl (l' := #[rv a, rv so, iv ((0 : Int32) + (1 : Int32)), iv x0]) rfl ?_
   exact k
 rw [show ((0 : Int32) + (1 : Int32)) = (1 : Int32) from by decide]
 show Go p e below _ (T8.setTop (mkF m 102 #[rv a, rv so, iv (1 : Int32), iv x0] []))
 refine Go.step (S' := T8.setTop (mkF m 49 #[rv a, rv so, iv (1 : Int32), iv x0] [(.ref so), (.int (1 : Int32))])) (fun t k => ?_) ?_
 · refine XS.goto X8.here hx rfl (pc0 := 102) (pc' := 47) rfl (hb hby d9_102) (by decide) (by decide) ?_
   refine XS.iloadN X8.here hx rfl (hb hby d9_47) rfl ?_
   refine XS.aloadN X8.here hx rfl (hb hby d9_48) rfl rfl ?_
   exact k
 obtain ⟨cq9, kq9, q9a, q9b, q9c⟩ := isOf hZ e8 E_so
 obtain ⟨_, _, ⟨T9, L9, k9, n9⟩, -, X9, ⟨Lc9, hQ9, l9, y9, z9⟩, st9⟩ := X8.virtualBack hx (y := y_5) (z := y_5) hown (mvT hZ (own_w hw 70 rfl)) (mvT hZ (own_w hw 71 rfl)) (notFace_of_selects (args := #[]) (mvT hZ (own_w hw 73 rfl))) (mvT hZ (own_w hw 73 rfl)) (mvT hZ (own_w hw 72 rfl)) (by decide) (backOf (W := 1) (rmLen2 l Z a0 hw [] so tb kb x0 x1 cs h2 n0 O S_CS E_so F_value_so F_coder_so V_tb hcs) hZ (own_w hw 74 rfl) (own_w hw 7 rfl) (by decide) (by decide)) q9a q9c (g := (mkF m 49 #[rv a, rv so, iv (1 : Int32), iv x0] [(.ref so), (.int (1 : Int32))])) rfl (by rw [hml]; rfl) (Steps.refl _) (argsL := []) (rest := [(.int (1 : Int32))]) (lenOf pd__28_29I rfl) rfl (Nat.le_of_eq rfl) (hb hby d9_49) (fun _ _ => ⟨rfl, e8, (by decide : 2 + 0 ≤ _), (by decide : 24 + 0 ≤ _)⟩)
 dsimp only [Pt.U, Pt.locs, Pt.cells, Pt.slots] at X9 l9 y9 z9 st9 hQ9
 subst l9 y9 z9
 obtain ⟨rfl, Nq9, e9⟩ := hQ9
 have N9 := Fr.app N8 Nq9
 refine Go.step (fun t k => st9.trans k) ?_
 refine Go.step (S' := T9.setTop (mkF m 57 #[rv a, rv so, iv (1 : Int32), iv x0] [(.int (1 : Int32)), (.ref so)])) (fun t k => ?_) ?_
 · refine XS.icmpNo X9.here hx rfl (hb hby d9_52) rfl (tlt ((by decide) : (1 : Int32) < (2 : Int32))).2.1 ?_
   refine XS.aloadN X9.here hx rfl (hb hby d9_55) rfl rfl ?_
   refine XS.iloadN X9.here hx rfl (hb hby d9_56) rfl ?_
   exact k
 obtain ⟨cq10, kq10, q10a, q10b, q10c⟩ := isOf hZ e9 E_so
 obtain ⟨_, _, ⟨T10, L10, k10, n10⟩, -, X10, ⟨Lc10, hQ10, l10, y10, z10⟩, st10⟩ := X9.virtualBack hx (y := y_7) (z := y_7) hown (mvT hZ (own_w hw 80 rfl)) (mvT hZ (own_w hw 81 rfl)) (notFace_of_selects (args := #[]) (mvT hZ (own_w hw 83 rfl))) (mvT hZ (own_w hw 83 rfl)) (mvT hZ (own_w hw 82 rfl)) (by decide) (backOf (W := 0) (rmCh2_1 l Z a0 hw [] so tb kb x0 x1 cs sf h2 n0 O S_CS S_FM E_so F_value_so F_coder_so V_tb hcs hsf r1_2 r1_3) hZ (own_w hw 84 rfl) (own_w hw 7 rfl) (by decide) (by decide)) q10a q10c (g := (mkF m 57 #[rv a, rv so, iv (1 : Int32), iv x0] [(.int (1 : Int32)), (.ref so)])) rfl (by rw [hml]; rfl) (Steps.refl _) (argsL := [(.int (1 : Int32))]) (rest := []) (lenOf pd__28I_29C rfl) rfl (Nat.le_of_eq rfl) (hb hby d9_57) (fun _ _ => ⟨rfl, e9, (by decide : 2 + 0 ≤ _), (by decide : 24 + 0 ≤ _)⟩)
 dsimp only [Pt.U, Pt.locs, Pt.cells, Pt.slots] at X10 l10 y10 z10 st10 hQ10
 subst l10 y10 z10
 obtain ⟨rfl, Nq10, e10⟩ := hQ10
 have N10 := Fr.app N9 Nq10
 refine Go.step (fun t k => st10.trans k) ?_
 refine Go.step (S' := T10.setTop (mkF m 62 #[rv a, rv so, iv (1 : Int32), iv x1] [(.int x1)])) (fun t k => ?_) ?_
 · refine XS.istoreN X10.here hx rfl (hb hby d9_60) rfl (l' := #[rv a, rv so, iv (1 : Int32), iv x1]) rfl ?_
   refine XS.iloadN X10.here hx rfl (hb hby d9_61) rfl ?_
   exact k
 obtain ⟨_, _, ⟨T11, L11, k11, n11⟩, -, X11, ⟨Lc11, hQ11, l11, y11, z11⟩, st11⟩ := Jvm.LawKit.callS X10 hx (y := y_18) hown (mvT hZ (own_w hw 102 rfl)) (mvT hZ (own_w hw 103 rfl)) (mvT hZ (own_w hw 48 rfl)) (mvT hZ (own_w hw 104 rfl)) (by decide) (backOf (W := 0) (rmKey l Z a0 hw [] x1 h2 n0 O r1_0 r1_1) hZ (own_w hw 104 rfl) (own_w hw 48 rfl) (by decide) (by decide)) (g := (mkF m 62 #[rv a, rv so, iv (1 : Int32), iv x1] [(.int x1)])) rfl (by rw [hml]; rfl) (argsL := [(.int x1)]) (rest := []) (lenOf pd__28C_29Z rfl) rfl (Nat.le_of_eq rfl) (hb hby d9_62) (fun _ _ => ⟨rfl, e10, (by decide : 2 + 0 ≤ _), (by decide : 24 + 0 ≤ _)⟩)
 dsimp only [Pt.U, Pt.locs, Pt.cells, Pt.slots] at X11 l11 y11 z11 st11 hQ11
 subst l11 y11 z11
 obtain ⟨rfl, Nq11, e11⟩ := hQ11
 have N11 := Fr.app N10 Nq11
 refine Go.step st11 ?_
 refine Go.step (S' := T11.setTop (mkF m 102 #[rv a, rv so, iv ((1 : Int32) + (1 : Int32)), iv x1] [])) (fun t k => ?_) ?_
 · refine XS.ifYes X11.here hx rfl (pc0 := 65) (pc' := 99) rfl (hb hby d9_65) rfl ((if0 _ _).trans (feq ((by decide) : ¬ ((1 : Int32) = (0 : Int32)))).2) (by decide) (by decide) ?_
   refine XS.iinc X11.here hx rfl (hb hby d9_99) rfl (l' := #[rv a, rv so, iv ((1 : Int32) + (1 : Int32)), iv x1]) rfl ?_
   exact k
 rw [show ((1 : Int32) + (1 : Int32)) = (2 : Int32) from by decide]
 show Go p e below _ (T11.setTop (mkF m 102 #[rv a, rv so, iv (2 : Int32), iv x1] []))
 refine Go.step (S' := T11.setTop (mkF m 49 #[rv a, rv so, iv (2 : Int32), iv x1] [(.ref so), (.int (2 : Int32))])) (fun t k => ?_) ?_
 · refine XS.goto X11.here hx rfl (pc0 := 102) (pc' := 47) rfl (hb hby d9_102) (by decide) (by decide) ?_
   refine XS.iloadN X11.here hx rfl (hb hby d9_47) rfl ?_
   refine XS.aloadN X11.here hx rfl (hb hby d9_48) rfl rfl ?_
   exact k
 obtain ⟨cq12, kq12, q12a, q12b, q12c⟩ := isOf hZ e11 E_so
 obtain ⟨_, _, ⟨T12, L12, k12, n12⟩, -, X12, ⟨Lc12, hQ12, l12, y12, z12⟩, st12⟩ := X11.virtualBack hx (y := y_5) (z := y_5) hown (mvT hZ (own_w hw 70 rfl)) (mvT hZ (own_w hw 71 rfl)) (notFace_of_selects (args := #[]) (mvT hZ (own_w hw 73 rfl))) (mvT hZ (own_w hw 73 rfl)) (mvT hZ (own_w hw 72 rfl)) (by decide) (backOf (W := 1) (rmLen2 l Z a0 hw [] so tb kb x0 x1 cs h2 n0 O S_CS E_so F_value_so F_coder_so V_tb hcs) hZ (own_w hw 74 rfl) (own_w hw 7 rfl) (by decide) (by decide)) q12a q12c (g := (mkF m 49 #[rv a, rv so, iv (2 : Int32), iv x1] [(.ref so), (.int (2 : Int32))])) rfl (by rw [hml]; rfl) (Steps.refl _) (argsL := []) (rest := [(.int (2 : Int32))]) (lenOf pd__28_29I rfl) rfl (Nat.le_of_eq rfl) (hb hby d9_49) (fun _ _ => ⟨rfl, e11, (by decide : 2 + 0 ≤ _), (by decide : 24 + 0 ≤ _)⟩)
 dsimp only [Pt.U, Pt.locs, Pt.cells, Pt.slots] at X12 l12 y12 z12 st12 hQ12
 subst l12 y12 z12
 obtain ⟨rfl, Nq12, e12⟩ := hQ12
 have N12 := Fr.app N11 Nq12
 refine Go.step (fun t k => st12.trans k) ?_
 refine Go.step (S' := T12.setTop (mkF m 107 #[rv a, rv so, iv (2 : Int32), iv x1] [(.ref so), (.ref a)])) (fun t k => ?_) ?_
 · refine XS.icmpYes X12.here hx rfl (pc0 := 52) (pc' := 105) rfl (hb hby d9_52) rfl (flt ((by decide) : ¬ ((2 : Int32) < (2 : Int32)))).2.1 (by decide) (by decide) ?_
   refine XS.aloadN X12.here hx rfl (hb hby d9_105) rfl rfl ?_
   refine XS.aloadN X12.here hx rfl (hb hby d9_106) rfl rfl ?_
   exact k
 obtain ⟨T13, h13, X13, e13, W13, st13⟩ := putF X12 hx hZ hown (host := "") (Or.inl (own_w hw 105 rfl)) Via.refl e12 F_value_a E_a (Or.inr ⟨(own_w hw 106 rfl), rfl, hnm⟩) (own_w hw 47 rfl) (ty := (.object "java/lang/String")) (by decide) rfl rfl (g := (mkF m 107 #[rv a, rv so, iv (2 : Int32), iv x1] [(.ref so), (.ref a)])) rfl rfl (hb hby d9_107)
 have ne_so_a : so ≠ a := ne_exa E_so E_a (by decide)
 have ne_tb_a : tb ≠ a := Ne.symm (Exa.neArv E_a V_tb (own_w hw 47 rfl))
 have O := O.wr W13 g_a
 have E_so := E_so.wr W13
 have F_value_so := F_value_so.other W13 (Or.inl ne_so_a)
 have F_coder_so := F_coder_so.other W13 (Or.inl ne_so_a)
 have V_tb := V_tb.other W13 ne_tb_a
 have E_a := E_a.wr W13
 have F_value_a := F_value_a.same W13
 have K := K.wr W13 (Or.inl (List.mem_of_getElem? (i := 0) rfl))
 have hk := Nat.le_trans hk (Keep.of_wr W13).1
 have N13 := Fr.snoc X13 N12 g_a
 refine Go.step st13 ?_
 obtain ⟨fs, hr, hrun, hended, hR⟩ := X13.leaveW hS (by rw [e13]; exact hk) (v := none) (fun _ => rfl)
 refine Go.fin (S' := T13.setFrames fs) ?_ hrun hended ⟨_, _, rfl, ?_, hR.1, hR.2.1, hR.2.2.1, hR.2.2.2.mono (by decide) (by decide)⟩
 · exact X13.returnOut hx Bd.returns (hb hby d9_110) hr
 · show Q_rmBK2 Z a so tb kb x0 x1 cs sf h0 n0 (none) T13.heap _
   rw [e13]
   exact ⟨rfl, N13, K, E_a, F_value_a⟩
theorem ef_rmKL2 (m : MethodId) (hd : Addr) : entryFrame m #[(.ref hd)] 1 = mkF m 0 #[.val (.ref hd)] [] := by first | (simp [entryFrame, mkF, argsToLocals, Value.category]; done) | rfl
abbrev rm_rmKL2 : Room := ({ frames := 2, cells := 0, slots := 0, locals := 25 } : Room)
def Q_rmKL2 (Z : State) (hd : Addr) (ke : Addr) (so : Addr) (tb : Addr) (kb : ClassId) (x0 : Int32) (x1 : Int32) (cs : Int32) (h0 : Heap) (n0 : Nat) (v : Option Value) (h : Heap) (L : List Loc) : Prop := (v = some (.int (2 : Int32))) ∧ (Fr n0 L) ∧ (h = h0)
set_option maxRecDepth 65536 in
set_option maxHeartbeats 4000000 in
theorem rmKL2 (l : Launch) (Z : State) (a0 : Array Value) (hw : ∀ d ∈ tables_1, d.before a0 Z = true) (ws : List Jvm.Cond) (hd : Addr) (ke : Addr) (so : Addr) (tb : Addr) (kb : ClassId) (x0 : Int32) (x1 : Int32) (cs : Int32) (h0 : Heap) (n0 : Nat) (O : Old Z n0 h0) (F_key : Fld Z h0 hd "com/example/tombsweep/tombsweep/io/RecordHeader" "key" "Lcom/example/tombsweep/tombsweep/model/BlobKey;" (.ref ke)) (E_ke : Exa Z h0 ke "com/example/tombsweep/tombsweep/model/BlobKey") (F_value_ke : Fld Z h0 ke "com/example/tombsweep/tombsweep/model/BlobKey" "value" "Ljava/lang/String;" (.ref so)) (E_so : Exa Z h0 so "java/lang/String") (F_value_so : Fld Z h0 so "java/lang/String" "value" "[B" (.ref tb)) (F_coder_so : Fld Z h0 so "java/lang/String" "coder" "B" (.int (0 : Int32))) (V_tb : Arv Z h0 tb kb .byte (2 : Int32) [(.int (x0.toInt8.toInt32)), (.int (x1.toInt8.toInt32))] (.int (0 : Int32))) (S_CS : Sta Z Z.heap "java/lang/String" "COMPACT_STRINGS" "Z" (.int cs)) (hcs : ¬ (cs = (0 : Int32))) :
    MetFree l y_22 (head1 (Jvm.Cond.code y_22 prog_5_method_16_code 1 (some .int) :: ws) rm_rmKL2) (fun A_ U => A_ = #[(.ref hd)] ∧ Z.Warmed39 U.vm ∧ U.heap = h0) (fun _ _ _ _ _ => True) (fun _ U o U' => ∃ v L, o = .returned v ∧ Q_rmKL2 Z hd ke so tb kb x0 x1 cs h0 n0 v U'.heap L ∧ FrameEnd U o U' L rm_rmKL2.cells rm_rmKL2.slots) := by
 refine MetFree.of_bodySF (plainFor_of_name pn_com_example_tombsweep_tombsweep_io_RecordHeader) hisR ?_
 intro p e s m args below meth c s₁ Bd hml0 hP hK
 obtain ⟨rfl, hZ, hh⟩ := hP
 have hx := Bd.exec
 have hby := Bd.bytes
 have hml : c.maxLocals = 1 := hml0
 have hown : s.vm.findClass "com/example/tombsweep/tombsweep/io/RecordHeader" = some m.cls := findClass_of_methodNamed Bd.named
 have hnm := (name_of_methodNamed Bd.named Bd.method).1
 have X0 : Stand p l e rm_rmKL2 s m #[(.ref hd)] below meth c s₁ [] 0 0 := Stand.of_body Bd
 have e0 : s₁.heap = h0 := by rw [← hh, Bd.state]; rfl
 have N0 := Fr.nil n0
 refine Go.step (p := p) (e := e) (below := below) (G := fun o U' => ∃ v L, o = .returned v ∧ Q_rmKL2 Z hd ke so tb kb x0 x1 cs h0 n0 v U'.heap L ∧ FrameEnd s o U' L rm_rmKL2.cells rm_rmKL2.slots) (S' := s₁.setTop (mkF m 0 #[rv hd] [])) (fun t k => castTop (ef_rmKL2 m hd) k) ?_
 refine Go.step (S' := s₁.setTop (mkF m 1 #[rv hd] [(.ref hd)])) (fun t k => ?_) ?_
 · refine XS.aloadN X0.here hx rfl (hb hby d25_0) rfl rfl ?_
   exact k
 obtain ⟨T1, X1, e1, st1⟩ := getF X0 hx hZ hown (host := "") (Or.inl (own_w hw 113 rfl)) Via.refl e0 F_key (g := (mkF m 1 #[rv hd] [(.ref hd)])) rfl rfl (hb hby d25_1)
 refine Go.step st1 ?_
 obtain ⟨cq2, kq2, q2a, q2b, q2c⟩ := isOf hZ e1 E_ke
 obtain ⟨_, _, ⟨T2, L2, k2, n2⟩, -, X2, ⟨Lc2, hQ2, l2, y2, z2⟩, st2⟩ := X1.virtualBack hx (y := y_19) (z := y_19) hown (mvT hZ (own_w hw 146 rfl)) (mvT hZ (own_w hw 147 rfl)) (notFace_of_selects (args := #[]) (mvT hZ (own_w hw 149 rfl))) (mvT hZ (own_w hw 149 rfl)) (mvT hZ (own_w hw 148 rfl)) (by decide) (backOf (W := 0) (rmBV l Z a0 hw [] ke so h0 n0 O F_value_ke) hZ (own_w hw 150 rfl) (own_w hw 48 rfl) (by decide) (by decide)) q2a q2c (g := (mkF m 4 #[rv hd] [(.ref ke)])) rfl (by rw [hml]; rfl) (Steps.refl _) (argsL := []) (rest := []) (lenOf pd__28_29Ljava_2flang_2fString_3b rfl) rfl (Nat.le_of_eq rfl) (hb hby d25_4) (fun _ _ => ⟨rfl, e1, (by decide : 0 + 0 ≤ _), (by decide : 0 + 0 ≤ _)⟩)
 dsimp only [Pt.U, Pt.locs, Pt.cells, Pt.slots] at X2 l2 y2 z2 st2 hQ2
 subst l2 y2 z2
 obtain ⟨rfl, Nq2, e2⟩ := hQ2
 have N2 := Fr.app N0 Nq2
 refine Go.step (fun t k => st2.trans k) ?_
 obtain ⟨cq3, kq3, q3a, q3b, q3c⟩ := isOf hZ e2 E_so
 obtain ⟨_, _, ⟨T3, L3, k3, n3⟩, -, X3, ⟨Lc3, hQ3, l3, y3, z3⟩, st3⟩ := X2.virtualBack hx (y := y_5) (z := y_5) hown (mvT hZ (own_w hw 151 rfl)) (mvT hZ (own_w hw 71 rfl)) (notFace_of_selects (args := #[]) (mvT hZ (own_w hw 73 rfl))) (mvT hZ (own_w hw 73 rfl)) (mvT hZ (own_w hw 72 rfl)) (by decide) (backOf (W := 0) (rmLen2 l Z a0 hw [] so tb kb x0 x1 cs h0 n0 O S_CS E_so F_value_so F_coder_so V_tb hcs) hZ (own_w hw 74 rfl) (own_w hw 7 rfl) (by decide) (by decide)) q3a q3c (g := (mkF m 7 #[rv hd] [(.ref so)])) rfl (by rw [hml]; rfl) (Steps.refl _) (argsL := []) (rest := []) (lenOf pd__28_29I rfl) rfl (Nat.le_of_eq rfl) (hb hby d25_7) (fun _ _ => ⟨rfl, e2, (by decide : 0 + 0 ≤ _), (by decide : 0 + 0 ≤ _)⟩)
 dsimp only [Pt.U, Pt.locs, Pt.cells, Pt.slots] at X3 l3 y3 z3 st3 hQ3
 subst l3 y3 z3
 obtain ⟨rfl, Nq3, e3⟩ := hQ3
 have N3 := Fr.app N2 Nq3
 refine Go.step (fun t k => st3.trans k) ?_
 obtain ⟨fs, hr, hrun, hended, hW, hsame⟩ := X3.leave (v := some (.int (2 : Int32))) (fun h => by rw [Bd.returns] at h; cases h)
 refine Go.fin (S' := T3.setFrames fs) ?_ hrun hended ⟨_, _, rfl, ?_, ⟨_, rfl⟩, hW, hsame.mono (by decide) (by decide)⟩
 · exact retOut X3 hx Bd.returns rfl (Or.inl ⟨rfl, Or.inl rfl, _, rfl⟩) (hb hby d25_10) hr
 · show Q_rmKL2 Z hd ke so tb kb x0 x1 cs h0 n0 (some (.int (2 : Int32))) T3.heap _
   rw [e3]
   exact ⟨rfl, N3, rfl⟩
theorem ef_rmMO2 (m : MethodId) (hd : Addr) : entryFrame m #[(.ref hd)] 1 = mkF m 0 #[.val (.ref hd)] [] := by first | (simp [entryFrame, mkF, argsToLocals, Value.category]; done) | rfl
abbrev rm_rmMO2 : Room := ({ frames := 3, cells := 0, slots := 0, locals := 38 } : Room)
def Q_rmMO2 (Z : State) (hd : Addr) (ke : Addr) (so : Addr) (tb : Addr) (kb : ClassId) (x0 : Int32) (x1 : Int32) (cs : Int32) (h0 : Heap) (n0 : Nat) (v : Option Value) (h : Heap) (L : List Loc) : Prop := (v = some (.long (42 : Int64))) ∧ (Fr n0 L) ∧ (h = h0)
set_option maxRecDepth 65536 in
set_option maxHeartbeats 4000000 in
theorem rmMO2 (l : Launch) (Z : State) (a0 : Array Value) (hw : ∀ d ∈ tables_1, d.before a0 Z = true) (ws : List Jvm.Cond) (hd : Addr) (ke : Addr) (so : Addr) (tb : Addr) (kb : ClassId) (x0 : Int32) (x1 : Int32) (cs : Int32) (h0 : Heap) (n0 : Nat) (O : Old Z n0 h0) (F_key : Fld Z h0 hd "com/example/tombsweep/tombsweep/io/RecordHeader" "key" "Lcom/example/tombsweep/tombsweep/model/BlobKey;" (.ref ke)) (E_ke : Exa Z h0 ke "com/example/tombsweep/tombsweep/model/BlobKey") (F_value_ke : Fld Z h0 ke "com/example/tombsweep/tombsweep/model/BlobKey" "value" "Ljava/lang/String;" (.ref so)) (E_so : Exa Z h0 so "java/lang/String") (F_value_so : Fld Z h0 so "java/lang/String" "value" "[B" (.ref tb)) (F_coder_so : Fld Z h0 so "java/lang/String" "coder" "B" (.int (0 : Int32))) (V_tb : Arv Z h0 tb kb .byte (2 : Int32) [(.int (x0.toInt8.toInt32)), (.int (x1.toInt8.toInt32))] (.int (0 : Int32))) (S_CS : Sta Z Z.heap "java/lang/String" "COMPACT_STRINGS" "Z" (.int cs)) (E_h : Exa Z h0 hd "com/example/tombsweep/tombsweep/io/RecordHeader") (hcs : ¬ (cs = (0 : Int32))) :
    MetFree l y_23 (head1 (Jvm.Cond.code y_23 prog_5_method_11_code 1 (some .long) :: ws) rm_rmMO2) (fun A_ U => A_ = #[(.ref hd)] ∧ Z.Warmed39 U.vm ∧ U.heap = h0) (fun _ _ _ _ _ => True) (fun _ U o U' => ∃ v L, o = .returned v ∧ Q_rmMO2 Z hd ke so tb kb x0 x1 cs h0 n0 v U'.heap L ∧ FrameEnd U o U' L rm_rmMO2.cells rm_rmMO2.slots) := by
 refine MetFree.of_bodySF (plainFor_of_name pn_com_example_tombsweep_tombsweep_io_RecordHeader) hisR ?_
 intro p e s m args below meth c s₁ Bd hml0 hP hK
 obtain ⟨rfl, hZ, hh⟩ := hP
 have hx := Bd.exec
 have hby := Bd.bytes
 have hml : c.maxLocals = 1 := hml0
 have hown : s.vm.findClass "com/example/tombsweep/tombsweep/io/RecordHeader" = some m.cls := findClass_of_methodNamed Bd.named
 have hnm := (name_of_methodNamed Bd.named Bd.method).1
 have X0 : Stand p l e rm_rmMO2 s m #[(.ref hd)] below meth c s₁ [] 0 0 := Stand.of_body Bd
 have e0 : s₁.heap = h0 := by rw [← hh, Bd.state]; rfl
 have N0 := Fr.nil n0
 refine Go.step (p := p) (e := e) (below := below) (G := fun o U' => ∃ v L, o = .returned v ∧ Q_rmMO2 Z hd ke so tb kb x0 x1 cs h0 n0 v U'.heap L ∧ FrameEnd s o U' L rm_rmMO2.cells rm_rmMO2.slots) (S' := s₁.setTop (mkF m 0 #[rv hd] [])) (fun t k => castTop (ef_rmMO2 m hd) k) ?_
 refine Go.step (S' := s₁.setTop (mkF m 3 #[rv hd] [(.ref hd), (.int (40 : Int32))])) (fun t k => ?_) ?_
 · refine XS.bipush X0.here hx rfl (hb hby d24_0) ?_
   refine XS.aloadN X0.here hx rfl (hb hby d24_2) rfl rfl ?_
   exact k
 obtain ⟨cq1, q1, q1'⟩ := E_h.cell
 obtain ⟨_, _, ⟨T1, L1, k1, n1⟩, -, X1, ⟨Lc1, hQ1, l1, y1, z1⟩, st1⟩ := X0.privateBack hx (y := y_22) hown (mvT hZ (own_w hw 142 rfl)) (mvT hZ (own_w hw 143 rfl)) (own_selP hZ (own_w hw 38 rfl) (own_w hw 143 rfl) (own_w hw 144 rfl) (by decide)) (Cond.privateMethod_at (mvP hZ (own_w hw 144 rfl) (args := #[]))) (mvT hZ (own_w hw 145 rfl)) (by decide) (backOf (W := 1) (rmKL2 l Z a0 hw [] hd ke so tb kb x0 x1 cs h0 n0 O F_key E_ke F_value_ke E_so F_value_so F_coder_so V_tb S_CS hcs) hZ (own_w hw 145 rfl) (own_w hw 39 rfl) (by decide) (by decide)) (g := (mkF m 3 #[rv hd] [(.ref hd), (.int (40 : Int32))])) rfl (by rw [hml]; rfl) (Steps.refl _) (a := hd) (by rw [e0]; exact q1) q1' (argsL := []) (rest := [(.int (40 : Int32))]) (lenOf pd__28_29I rfl) rfl (Nat.le_of_eq rfl) (hb hby d24_3) (fun _ _ => ⟨rfl, e0, (by decide : 0 + 0 ≤ _), (by decide : 0 + 0 ≤ _)⟩)
 dsimp only [Pt.U, Pt.locs, Pt.cells, Pt.slots] at X1 l1 y1 z1 st1 hQ1
 subst l1 y1 z1
 obtain ⟨rfl, Nq1, e1⟩ := hQ1
 have N1 := Fr.app N0 Nq1
 refine Go.step (fun t k => st1.trans k) ?_
 refine Go.step (S' := T1.setTop (mkF m 7 #[rv hd] [(.int ((40 : Int32) + (2 : Int32)))])) (fun t k => ?_) ?_
 · refine XS.iadd X1.here hx rfl (hb hby d24_6) rfl ?_
   exact k
 rw [show ((40 : Int32) + (2 : Int32)) = (42 : Int32) from by decide]
 show Go p e below _ (T1.setTop (mkF m 7 #[rv hd] [(.int (42 : Int32))]))
 refine Go.step (S' := T1.setTop (mkF m 8 #[rv hd] [(.long ((42 : Int32).toInt64))])) (fun t k => ?_) ?_
 · refine XS.i2l X1.here hx rfl (hb hby d24_7) rfl ?_
   exact k
 rw [show ((42 : Int32).toInt64) = (42 : Int64) from by decide]
 show Go p e below _ (T1.setTop (mkF m 8 #[rv hd] [(.long (42 : Int64))]))
 obtain ⟨fs, hr, hrun, hended, hW, hsame⟩ := X1.leave (v := some (.long (42 : Int64))) (fun h => by rw [Bd.returns] at h; cases h)
 refine Go.fin (S' := T1.setFrames fs) ?_ hrun hended ⟨_, _, rfl, ?_, ⟨_, rfl⟩, hW, hsame.mono (by decide) (by decide)⟩
 · exact retOut X1 hx Bd.returns rfl (Or.inr (Or.inl ⟨rfl, rfl, _, rfl⟩)) (hb hby d24_8) hr
 · show Q_rmMO2 Z hd ke so tb kb x0 x1 cs h0 n0 (some (.long (42 : Int64))) T1.heap _
   rw [e1]
   exact ⟨rfl, N1, rfl⟩
theorem ef_rmCO2 (m : MethodId) (hd : Addr) : entryFrame m #[(.ref hd)] 1 = mkF m 0 #[.val (.ref hd)] [] := by first | (simp [entryFrame, mkF, argsToLocals, Value.category]; done) | rfl
abbrev rm_rmCO2 : Room := ({ frames := 4, cells := 0, slots := 0, locals := 50 } : Room)
def Q_rmCO2 (Z : State) (hd : Addr) (ke : Addr) (so : Addr) (tb : Addr) (kb : ClassId) (x0 : Int32) (x1 : Int32) (cs : Int32) (m1 : Int32) (h0 : Heap) (n0 : Nat) (v : Option Value) (h : Heap) (L : List Loc) : Prop := (v = some (.long ((42 : Int64) + (m1.toInt64)))) ∧ (Fr n0 L) ∧ (h = h0)
set_option maxRecDepth 65536 in
set_option maxHeartbeats 4000000 in
theorem rmCO2 (l : Launch) (Z : State) (a0 : Array Value) (hw : ∀ d ∈ tables_1, d.before a0 Z = true) (ws : List Jvm.Cond) (hd : Addr) (ke : Addr) (so : Addr) (tb : Addr) (kb : ClassId) (x0 : Int32) (x1 : Int32) (cs : Int32) (m1 : Int32) (h0 : Heap) (n0 : Nat) (O : Old Z n0 h0) (F_key : Fld Z h0 hd "com/example/tombsweep/tombsweep/io/RecordHeader" "key" "Lcom/example/tombsweep/tombsweep/model/BlobKey;" (.ref ke)) (E_ke : Exa Z h0 ke "com/example/tombsweep/tombsweep/model/BlobKey") (F_value_ke : Fld Z h0 ke "com/example/tombsweep/tombsweep/model/BlobKey" "value" "Ljava/lang/String;" (.ref so)) (E_so : Exa Z h0 so "java/lang/String") (F_value_so : Fld Z h0 so "java/lang/String" "value" "[B" (.ref tb)) (F_coder_so : Fld Z h0 so "java/lang/String" "coder" "B" (.int (0 : Int32))) (V_tb : Arv Z h0 tb kb .byte (2 : Int32) [(.int (x0.toInt8.toInt32)), (.int (x1.toInt8.toInt32))] (.int (0 : Int32))) (S_CS : Sta Z Z.heap "java/lang/String" "COMPACT_STRINGS" "Z" (.int cs)) (E_h : Exa Z h0 hd "com/example/tombsweep/tombsweep/io/RecordHeader") (F_ml : Fld Z h0 hd "com/example/tombsweep/tombsweep/io/RecordHeader" "metadataLength" "I" (.int m1)) (hcs : ¬ (cs = (0 : Int32))) :
    MetFree l y_24 (head1 (Jvm.Cond.code y_24 prog_5_method_12_code 1 (some .long) :: ws) rm_rmCO2) (fun A_ U => A_ = #[(.ref hd)] ∧ Z.Warmed39 U.vm ∧ U.heap = h0) (fun _ _ _ _ _ => True) (fun _ U o U' => ∃ v L, o = .returned v ∧ Q_rmCO2 Z hd ke so tb kb x0 x1 cs m1 h0 n0 v U'.heap L ∧ FrameEnd U o U' L rm_rmCO2.cells rm_rmCO2.slots) := by
 refine MetFree.of_bodySF (plainFor_of_name pn_com_example_tombsweep_tombsweep_io_RecordHeader) hisR ?_
 intro p e s m args below meth c s₁ Bd hml0 hP hK
 obtain ⟨rfl, hZ, hh⟩ := hP
 have hx := Bd.exec
 have hby := Bd.bytes
 have hml : c.maxLocals = 1 := hml0
 have hown : s.vm.findClass "com/example/tombsweep/tombsweep/io/RecordHeader" = some m.cls := findClass_of_methodNamed Bd.named
 have hnm := (name_of_methodNamed Bd.named Bd.method).1
 have X0 : Stand p l e rm_rmCO2 s m #[(.ref hd)] below meth c s₁ [] 0 0 := Stand.of_body Bd
 have e0 : s₁.heap = h0 := by rw [← hh, Bd.state]; rfl
 have N0 := Fr.nil n0
 refine Go.step (p := p) (e := e) (below := below) (G := fun o U' => ∃ v L, o = .returned v ∧ Q_rmCO2 Z hd ke so tb kb x0 x1 cs m1 h0 n0 v U'.heap L ∧ FrameEnd s o U' L rm_rmCO2.cells rm_rmCO2.slots) (S' := s₁.setTop (mkF m 0 #[rv hd] [])) (fun t k => castTop (ef_rmCO2 m hd) k) ?_
 refine Go.step (S' := s₁.setTop (mkF m 1 #[rv hd] [(.ref hd)])) (fun t k => ?_) ?_
 · refine XS.aloadN X0.here hx rfl (hb hby d23_0) rfl rfl ?_
   exact k
 obtain ⟨cq1, kq1, q1a, q1b, q1c⟩ := isOf hZ e0 E_h
 obtain ⟨_, _, ⟨T1, L1, k1, n1⟩, -, X1, ⟨Lc1, hQ1, l1, y1, z1⟩, st1⟩ := X0.virtualBack hx (y := y_23) (z := y_23) hown (mvT hZ (own_w hw 137 rfl)) (mvT hZ (own_w hw 138 rfl)) (notFace_of_selects (args := #[]) (mvT hZ (own_w hw 140 rfl))) (mvT hZ (own_w hw 140 rfl)) (mvT hZ (own_w hw 139 rfl)) (by decide) (backOf (W := 0) (rmMO2 l Z a0 hw [] hd ke so tb kb x0 x1 cs h0 n0 O F_key E_ke F_value_ke E_so F_value_so F_coder_so V_tb S_CS E_h hcs) hZ (own_w hw 141 rfl) (own_w hw 39 rfl) (by decide) (by decide)) q1a q1c (g := (mkF m 1 #[rv hd] [(.ref hd)])) rfl (by rw [hml]; rfl) (Steps.refl _) (argsL := []) (rest := []) (lenOf pd__28_29J rfl) rfl (Nat.le_of_eq rfl) (hb hby d23_1) (fun _ _ => ⟨rfl, e0, (by decide : 0 + 0 ≤ _), (by decide : 0 + 0 ≤ _)⟩)
 dsimp only [Pt.U, Pt.locs, Pt.cells, Pt.slots] at X1 l1 y1 z1 st1 hQ1
 subst l1 y1 z1
 obtain ⟨rfl, Nq1, e1⟩ := hQ1
 have N1 := Fr.app N0 Nq1
 refine Go.step (fun t k => st1.trans k) ?_
 refine Go.step (S' := T1.setTop (mkF m 5 #[rv hd] [(.ref hd), (.long (42 : Int64))])) (fun t k => ?_) ?_
 · refine XS.aloadN X1.here hx rfl (hb hby d23_4) rfl rfl ?_
   exact k
 obtain ⟨T2, X2, e2, st2⟩ := getF X1 hx hZ hown (host := "") (Or.inl (own_w hw 115 rfl)) Via.refl e1 F_ml (g := (mkF m 5 #[rv hd] [(.ref hd), (.long (42 : Int64))])) rfl rfl (hb hby d23_5)
 refine Go.step st2 ?_
 refine Go.step (S' := T2.setTop (mkF m 10 #[rv hd] [(.long ((42 : Int64) + (m1.toInt64)))])) (fun t k => ?_) ?_
 · refine XS.i2l X2.here hx rfl (hb hby d23_8) rfl ?_
   refine XS.ladd X2.here hx rfl (hb hby d23_9) rfl ?_
   exact k
 obtain ⟨fs, hr, hrun, hended, hW, hsame⟩ := X2.leave (v := some (.long ((42 : Int64) + (m1.toInt64)))) (fun h => by rw [Bd.returns] at h; cases h)
 refine Go.fin (S' := T2.setFrames fs) ?_ hrun hended ⟨_, _, rfl, ?_, ⟨_, rfl⟩, hW, hsame.mono (by decide) (by decide)⟩
 · exact retOut X2 hx Bd.returns rfl (Or.inr (Or.inl ⟨rfl, rfl, _, rfl⟩)) (hb hby d23_10) hr
 · show Q_rmCO2 Z hd ke so tb kb x0 x1 cs m1 h0 n0 (some (.long ((42 : Int64) + (m1.toInt64)))) T2.heap _
   rw [e2]
   exact ⟨rfl, N1, rfl⟩
theorem ef_rmFit2Y (m : MethodId) (hd : Addr) (rr : Int64) : entryFrame m #[(.ref hd), (.long rr)] 3 = mkF m 0 #[.val (.ref hd), .val (.long rr), .second] [] := by first | (simp [entryFrame, mkF, argsToLocals, Value.category]; done) | rfl
abbrev rm_rmFit2Y : Room := ({ frames := 5, cells := 0, slots := 0, locals := 66 } : Room)
def Q_rmFit2Y (Z : State) (hd : Addr) (rr : Int64) (ke : Addr) (so : Addr) (tb : Addr) (kb : ClassId) (x0 : Int32) (x1 : Int32) (cs : Int32) (m1 : Int32) (q3 : Int64) (h0 : Heap) (n0 : Nat) (v : Option Value) (h : Heap) (L : List Loc) : Prop := (v = some (.int (1 : Int32))) ∧ (Fr n0 L) ∧ (h = h0)
set_option maxRecDepth 65536 in
set_option maxHeartbeats 4000000 in
theorem rmFit2Y (l : Launch) (Z : State) (a0 : Array Value) (hw : ∀ d ∈ tables_1, d.before a0 Z = true) (ws : List Jvm.Cond) (hd : Addr) (rr : Int64) (ke : Addr) (so : Addr) (tb : Addr) (kb : ClassId) (x0 : Int32) (x1 : Int32) (cs : Int32) (m1 : Int32) (q3 : Int64) (h0 : Heap) (n0 : Nat) (O : Old Z n0 h0) (F_key : Fld Z h0 hd "com/example/tombsweep/tombsweep/io/RecordHeader" "key" "Lcom/example/tombsweep/tombsweep/model/BlobKey;" (.ref ke)) (E_ke : Exa Z h0 ke "com/example/tombsweep/tombsweep/model/BlobKey") (F_value_ke : Fld Z h0 ke "com/example/tombsweep/tombsweep/model/BlobKey" "value" "Ljava/lang/String;" (.ref so)) (E_so : Exa Z h0 so "java/lang/String") (F_value_so : Fld Z h0 so "java/lang/String" "value" "[B" (.ref tb)) (F_coder_so : Fld Z h0 so "java/lang/String" "coder" "B" (.int (0 : Int32))) (V_tb : Arv Z h0 tb kb .byte (2 : Int32) [(.int (x0.toInt8.toInt32)), (.int (x1.toInt8.toInt32))] (.int (0 : Int32))) (S_CS : Sta Z Z.heap "java/lang/String" "COMPACT_STRINGS" "Z" (.int cs)) (E_h : Exa Z h0 hd "com/example/tombsweep/tombsweep/io/RecordHeader") (F_ml : Fld Z h0 hd "com/example/tombsweep/tombsweep/io/RecordHeader" "metadataLength" "I" (.int m1)) (F_cl : Fld Z h0 hd "com/example/tombsweep/tombsweep/io/RecordHeader" "contentLength" "J" (.long q3)) (hcs : ¬ (cs = (0 : Int32))) (hf : ¬ ((rr - ((42 : Int64) + (m1.toInt64))) < q3)) :
    MetFree l y_25 (head1 (Jvm.Cond.code y_25 prog_5_method_14_code 3 (some .boolean) :: ws) rm_rmFit2Y) (fun A_ U => A_ = #[(.ref hd), (.long rr)] ∧ Z.Warmed39 U.vm ∧ U.heap = h0) (fun _ _ _ _ _ => True) (fun _ U o U' => ∃ v L, o = .returned v ∧ Q_rmFit2Y Z hd rr ke so tb kb x0 x1 cs m1 q3 h0 n0 v U'.heap L ∧ FrameEnd U o U' L rm_rmFit2Y.cells rm_rmFit2Y.slots) := by
 refine MetFree.of_bodySF (plainFor_of_name pn_com_example_tombsweep_tombsweep_io_RecordHeader) hisR ?_
 intro p e s m args below meth c s₁ Bd hml0 hP hK
 obtain ⟨rfl, hZ, hh⟩ := hP
 have hx := Bd.exec
 have hby := Bd.bytes
 have hml : c.maxLocals = 3 := hml0
 have hown : s.vm.findClass "com/example/tombsweep/tombsweep/io/RecordHeader" = some m.cls := findClass_of_methodNamed Bd.named
 have hnm := (name_of_methodNamed Bd.named Bd.method).1
 have X0 : Stand p l e rm_rmFit2Y s m #[(.ref hd), (.long rr)] below meth c s₁ [] 0 0 := Stand.of_body Bd
 have e0 : s₁.heap = h0 := by rw [← hh, Bd.state]; rfl
 have N0 := Fr.nil n0
 refine Go.step (p := p) (e := e) (below := below) (G := fun o U' => ∃ v L, o = .returned v ∧ Q_rmFit2Y Z hd rr ke so tb kb x0 x1 cs m1 q3 h0 n0 v U'.heap L ∧ FrameEnd s o U' L rm_rmFit2Y.cells rm_rmFit2Y.slots) (S' := s₁.setTop (mkF m 0 #[rv hd, lv rr, .second] [])) (fun t k => castTop (ef_rmFit2Y m hd rr) k) ?_
 refine Go.step (S' := s₁.setTop (mkF m 1 #[rv hd, lv rr, .second] [(.ref hd)])) (fun t k => ?_) ?_
 · refine XS.aloadN X0.here hx rfl (hb hby d22_0) rfl rfl ?_
   exact k
 obtain ⟨T1, X1, e1, st1⟩ := getF X0 hx hZ hown (host := "") (Or.inl (own_w hw 121 rfl)) Via.refl e0 F_cl (g := (mkF m 1 #[rv hd, lv rr, .second] [(.ref hd)])) rfl rfl (hb hby d22_1)
 refine Go.step st1 ?_
 refine Go.step (S' := T1.setTop (mkF m 6 #[rv hd, lv rr, .second] [(.ref hd), (.long rr), (.long q3)])) (fun t k => ?_) ?_
 · refine XS.lloadN X1.here hx rfl (hb hby d22_4) rfl ?_
   refine XS.aloadN X1.here hx rfl (hb hby d22_5) rfl rfl ?_
   exact k
 obtain ⟨cq2, kq2, q2a, q2b, q2c⟩ := isOf hZ e1 E_h
 obtain ⟨_, _, ⟨T2, L2, k2, n2⟩, -, X2, ⟨Lc2, hQ2, l2, y2, z2⟩, st2⟩ := X1.virtualBack hx (y := y_24) (z := y_24) hown (mvT hZ (own_w hw 132 rfl)) (mvT hZ (own_w hw 133 rfl)) (notFace_of_selects (args := #[]) (mvT hZ (own_w hw 135 rfl))) (mvT hZ (own_w hw 135 rfl)) (mvT hZ (own_w hw 134 rfl)) (by decide) (backOf (W := 4) (rmCO2 l Z a0 hw [] hd ke so tb kb x0 x1 cs m1 h0 n0 O F_key E_ke F_value_ke E_so F_value_so F_coder_so V_tb S_CS E_h F_ml hcs) hZ (own_w hw 136 rfl) (own_w hw 39 rfl) (by decide) (by decide)) q2a q2c (g := (mkF m 6 #[rv hd, lv rr, .second] [(.ref hd), (.long rr), (.long q3)])) rfl (by rw [hml]; rfl) (Steps.refl _) (argsL := []) (rest := [(.long rr), (.long q3)]) (lenOf pd__28_29J rfl) rfl (Nat.le_of_eq rfl) (hb hby d22_6) (fun _ _ => ⟨rfl, e1, (by decide : 0 + 0 ≤ _), (by decide : 0 + 0 ≤ _)⟩)
 dsimp only [Pt.U, Pt.locs, Pt.cells, Pt.slots] at X2 l2 y2 z2 st2 hQ2
 subst l2 y2 z2
 obtain ⟨rfl, Nq2, e2⟩ := hQ2
 have N2 := Fr.app N0 Nq2
 refine Go.step (fun t k => st2.trans k) ?_
 refine Go.step (S' := T2.setTop (mkF m 19 #[rv hd, lv rr, .second] [(.int (1 : Int32))])) (fun t k => ?_) ?_
 · refine XS.lsub X2.here hx rfl (hb hby d22_9) rfl ?_
   refine XS.lcmp X2.here hx rfl (hb hby d22_10) rfl ?_
   refine XS.ifNo X2.here hx rfl (hb hby d22_11) rfl ((if0 _ _).trans (flt (fun zq => absurd ((lw_gt q3 (rr - ((42 : Int64) + (m1.toInt64)))).mp zq) hf)).2.2.1) ?_
   refine XS.iconst X2.here hx rfl (hb hby d22_14) ?_
   refine XS.goto X2.here hx rfl (pc0 := 15) (pc' := 19) rfl (hb hby d22_15) (by decide) (by decide) ?_
   exact k
 obtain ⟨fs, hr, hrun, hended, hW, hsame⟩ := X2.leave (v := some (.int (1 : Int32))) (fun h => by rw [Bd.returns] at h; cases h)
 refine Go.fin (S' := T2.setFrames fs) ?_ hrun hended ⟨_, _, rfl, ?_, ⟨_, rfl⟩, hW, hsame.mono (by decide) (by decide)⟩
 · exact retOut X2 hx Bd.returns (by decide) (Or.inl ⟨rfl, Or.inr (Or.inl rfl), _, rfl⟩) (hb hby d22_19) hr
 · show Q_rmFit2Y Z hd rr ke so tb kb x0 x1 cs m1 q3 h0 n0 (some (.int (1 : Int32))) T2.heap _
   rw [e2]
   exact ⟨rfl, N2, rfl⟩
theorem ef_rmFit2N (m : MethodId) (hd : Addr) (rr : Int64) : entryFrame m #[(.ref hd), (.long rr)] 3 = mkF m 0 #[.val (.ref hd), .val (.long rr), .second] [] := by first | (simp [entryFrame, mkF, argsToLocals, Value.category]; done) | rfl
abbrev rm_rmFit2N : Room := ({ frames := 5, cells := 0, slots := 0, locals := 66 } : Room)
def Q_rmFit2N (Z : State) (hd : Addr) (rr : Int64) (ke : Addr) (so : Addr) (tb : Addr) (kb : ClassId) (x0 : Int32) (x1 : Int32) (cs : Int32) (m1 : Int32) (q3 : Int64) (h0 : Heap) (n0 : Nat) (v : Option Value) (h : Heap) (L : List Loc) : Prop := (v = some (.int (0 : Int32))) ∧ (Fr n0 L) ∧ (h = h0)
set_option maxRecDepth 65536 in
set_option maxHeartbeats 4000000 in
theorem rmFit2N (l : Launch) (Z : State) (a0 : Array Value) (hw : ∀ d ∈ tables_1, d.before a0 Z = true) (ws : List Jvm.Cond) (hd : Addr) (rr : Int64) (ke : Addr) (so : Addr) (tb : Addr) (kb : ClassId) (x0 : Int32) (x1 : Int32) (cs : Int32) (m1 : Int32) (q3 : Int64) (h0 : Heap) (n0 : Nat) (O : Old Z n0 h0) (F_key : Fld Z h0 hd "com/example/tombsweep/tombsweep/io/RecordHeader" "key" "Lcom/example/tombsweep/tombsweep/model/BlobKey;" (.ref ke)) (E_ke : Exa Z h0 ke "com/example/tombsweep/tombsweep/model/BlobKey") (F_value_ke : Fld Z h0 ke "com/example/tombsweep/tombsweep/model/BlobKey" "value" "Ljava/lang/String;" (.ref so)) (E_so : Exa Z h0 so "java/lang/String") (F_value_so : Fld Z h0 so "java/lang/String" "value" "[B" (.ref tb)) (F_coder_so : Fld Z h0 so "java/lang/String" "coder" "B" (.int (0 : Int32))) (V_tb : Arv Z h0 tb kb .byte (2 : Int32) [(.int (x0.toInt8.toInt32)), (.int (x1.toInt8.toInt32))] (.int (0 : Int32))) (S_CS : Sta Z Z.heap "java/lang/String" "COMPACT_STRINGS" "Z" (.int cs)) (E_h : Exa Z h0 hd "com/example/tombsweep/tombsweep/io/RecordHeader") (F_ml : Fld Z h0 hd "com/example/tombsweep/tombsweep/io/RecordHeader" "metadataLength" "I" (.int m1)) (F_cl : Fld Z h0 hd "com/example/tombsweep/tombsweep/io/RecordHeader" "contentLength" "J" (.long q3)) (hcs : ¬ (cs = (0 : Int32))) (hf : (rr - ((42 : Int64) + (m1.toInt64))) < q3) :
    MetFree l y_25 (head1 (Jvm.Cond.code y_25 prog_5_method_14_code 3 (some .boolean) :: ws) rm_rmFit2N) (fun A_ U => A_ = #[(.ref hd), (.long rr)] ∧ Z.Warmed39 U.vm ∧ U.heap = h0) (fun _ _ _ _ _ => True) (fun _ U o U' => ∃ v L, o = .returned v ∧ Q_rmFit2N Z hd rr ke so tb kb x0 x1 cs m1 q3 h0 n0 v U'.heap L ∧ FrameEnd U o U' L rm_rmFit2N.cells rm_rmFit2N.slots) := by
 refine MetFree.of_bodySF (plainFor_of_name pn_com_example_tombsweep_tombsweep_io_RecordHeader) hisR ?_
 intro p e s m args below meth c s₁ Bd hml0 hP hK
 obtain ⟨rfl, hZ, hh⟩ := hP
 have hx := Bd.exec
 have hby := Bd.bytes
 have hml : c.maxLocals = 3 := hml0
 have hown : s.vm.findClass "com/example/tombsweep/tombsweep/io/RecordHeader" = some m.cls := findClass_of_methodNamed Bd.named
 have hnm := (name_of_methodNamed Bd.named Bd.method).1
 have X0 : Stand p l e rm_rmFit2N s m #[(.ref hd), (.long rr)] below meth c s₁ [] 0 0 := Stand.of_body Bd
 have e0 : s₁.heap = h0 := by rw [← hh, Bd.state]; rfl
 have N0 := Fr.nil n0
 refine Go.step (p := p) (e := e) (below := below) (G := fun o U' => ∃ v L, o = .returned v ∧ Q_rmFit2N Z hd rr ke so tb kb x0 x1 cs m1 q3 h0 n0 v U'.heap L ∧ FrameEnd s o U' L rm_rmFit2N.cells rm_rmFit2N.slots) (S' := s₁.setTop (mkF m 0 #[rv hd, lv rr, .second] [])) (fun t k => castTop (ef_rmFit2N m hd rr) k) ?_
 refine Go.step (S' := s₁.setTop (mkF m 1 #[rv hd, lv rr, .second] [(.ref hd)])) (fun t k => ?_) ?_
 · refine XS.aloadN X0.here hx rfl (hb hby d22_0) rfl rfl ?_
   exact k
 obtain ⟨T1, X1, e1, st1⟩ := getF X0 hx hZ hown (host := "") (Or.inl (own_w hw 121 rfl)) Via.refl e0 F_cl (g := (mkF m 1 #[rv hd, lv rr, .second] [(.ref hd)])) rfl rfl (hb hby d22_1)
 refine Go.step st1 ?_
 refine Go.step (S' := T1.setTop (mkF m 6 #[rv hd, lv rr, .second] [(.ref hd), (.long rr), (.long q3)])) (fun t k => ?_) ?_
 · refine XS.lloadN X1.here hx rfl (hb hby d22_4) rfl ?_
   refine XS.aloadN X1.here hx rfl (hb hby d22_5) rfl rfl ?_
   exact k
 obtain ⟨cq2, kq2, q2a, q2b, q2c⟩ := isOf hZ e1 E_h
 obtain ⟨_, _, ⟨T2, L2, k2, n2⟩, -, X2, ⟨Lc2, hQ2, l2, y2, z2⟩, st2⟩ := X1.virtualBack hx (y := y_24) (z := y_24) hown (mvT hZ (own_w hw 132 rfl)) (mvT hZ (own_w hw 133 rfl)) (notFace_of_selects (args := #[]) (mvT hZ (own_w hw 135 rfl))) (mvT hZ (own_w hw 135 rfl)) (mvT hZ (own_w hw 134 rfl)) (by decide) (backOf (W := 4) (rmCO2 l Z a0 hw [] hd ke so tb kb x0 x1 cs m1 h0 n0 O F_key E_ke F_value_ke E_so F_value_so F_coder_so V_tb S_CS E_h F_ml hcs) hZ (own_w hw 136 rfl) (own_w hw 39 rfl) (by decide) (by decide)) q2a q2c (g := (mkF m 6 #[rv hd, lv rr, .second] [(.ref hd), (.long rr), (.long q3)])) rfl (by rw [hml]; rfl) (Steps.refl _) (argsL := []) (rest := [(.long rr), (.long q3)]) (lenOf pd__28_29J rfl) rfl (Nat.le_of_eq rfl) (hb hby d22_6) (fun _ _ => ⟨rfl, e1, (by decide : 0 + 0 ≤ _), (by decide : 0 + 0 ≤ _)⟩)
 dsimp only [Pt.U, Pt.locs, Pt.cells, Pt.slots] at X2 l2 y2 z2 st2 hQ2
 subst l2 y2 z2
 obtain ⟨rfl, Nq2, e2⟩ := hQ2
 have N2 := Fr.app N0 Nq2
 refine Go.step (fun t k => st2.trans k) ?_
 refine Go.step (S' := T2.setTop (mkF m 19 #[rv hd, lv rr, .second] [(.int (0 : Int32))])) (fun t k => ?_) ?_
 · refine XS.lsub X2.here hx rfl (hb hby d22_9) rfl ?_
   refine XS.lcmp X2.here hx rfl (hb hby d22_10) rfl ?_
   refine XS.ifYes X2.here hx rfl (pc0 := 11) (pc' := 18) rfl (hb hby d22_11) rfl ((if0 _ _).trans (tlt ((lw_gt q3 (rr - ((42 : Int64) + (m1.toInt64)))).mpr hf)).2.2.1) (by decide) (by decide) ?_
   refine XS.iconst X2.here hx rfl (hb hby d22_18) ?_
   exact k
 obtain ⟨fs, hr, hrun, hended, hW, hsame⟩ := X2.leave (v := some (.int (0 : Int32))) (fun h => by rw [Bd.returns] at h; cases h)
 refine Go.fin (S' := T2.setFrames fs) ?_ hrun hended ⟨_, _, rfl, ?_, ⟨_, rfl⟩, hW, hsame.mono (by decide) (by decide)⟩
 · exact retOut X2 hx Bd.returns (by decide) (Or.inl ⟨rfl, Or.inr (Or.inl rfl), _, rfl⟩) (hb hby d22_19) hr
 · show Q_rmFit2N Z hd rr ke so tb kb x0 x1 cs m1 q3 h0 n0 (some (.int (0 : Int32))) T2.heap _
   rw [e2]
   exact ⟨rfl, N2, rfl⟩
theorem ef_rmBK3 (m : MethodId) (a : Addr) (so : Addr) : entryFrame m #[(.ref a), (.ref so)] 4 = mkF m 0 #[.val (.ref a), .val (.ref so), .unset, .unset] [] := by first | (simp [entryFrame, mkF, argsToLocals, Value.category]; done) | rfl
abbrev rm_rmBK3 : Room := ({ frames := 4, cells := 2, slots := 24, locals := 53 } : Room)
def Q_rmBK3 (Z : State) (a : Addr) (so : Addr) (tb : Addr) (kb : ClassId) (x0 : Int32) (x1 : Int32) (x2 : Int32) (cs : Int32) (sf : Value) (h0 : Heap) (n0 : Nat) (v : Option Value) (h : Heap) (L : List Loc) : Prop := (v = none) ∧ (Fr n0 L) ∧ (Keep h0 h [a]) ∧ (Exa Z h a "com/example/tombsweep/tombsweep/model/BlobKey") ∧ (Fld Z h a "com/example/tombsweep/tombsweep/model/BlobKey" "value" "Ljava/lang/String;" (.ref so))
set_option maxRecDepth 65536 in
set_option maxHeartbeats 4000000 in
theorem rmBK3 (l : Launch) (Z : State) (a0 : Array Value) (hw : ∀ d ∈ tables_1, d.before a0 Z = true) (ws : List Jvm.Cond) (a : Addr) (so : Addr) (tb : Addr) (kb : ClassId) (x0 : Int32) (x1 : Int32) (x2 : Int32) (cs : Int32) (sf : Value) (h0 : Heap) (n0 : Nat) (O : Old Z n0 h0) (S_CS : Sta Z Z.heap "java/lang/String" "COMPACT_STRINGS" "Z" (.int cs)) (S_FM : Sta Z Z.heap "jdk/internal/util/Preconditions" "SIOOBE_FORMATTER" "Ljava/util/function/BiFunction;" sf) (E_so : Exa Z h0 so "java/lang/String") (F_value_so : Fld Z h0 so "java/lang/String" "value" "[B" (.ref tb)) (F_coder_so : Fld Z h0 so "java/lang/String" "coder" "B" (.int (0 : Int32))) (V_tb : Arv Z h0 tb kb .byte (3 : Int32) [(.int (x0.toInt8.toInt32)), (.int (x1.toInt8.toInt32)), (.int (x2.toInt8.toInt32))] (.int (0 : Int32))) (E_a : Exa Z h0 a "com/example/tombsweep/tombsweep/model/BlobKey") (F_value_a : Fld Z h0 a "com/example/tombsweep/tombsweep/model/BlobKey" "value" "Ljava/lang/String;" .null) (g_a : n0 ≤ a) (hcs : ¬ (cs = (0 : Int32))) (hsf : sf.isRef = true) (r0_0 : ¬ (x0 < (97 : Int32))) (r0_1 : ¬ ((122 : Int32) < x0)) (r0_2 : ¬ (x0 < (0 : Int32))) (r0_3 : ¬ ((255 : Int32) < x0)) (r1_0 : ¬ (x1 < (97 : Int32))) (r1_1 : ¬ ((122 : Int32) < x1)) (r1_2 : ¬ (x1 < (0 : Int32))) (r1_3 : ¬ ((255 : Int32) < x1)) (r2_0 : ¬ (x2 < (97 : Int32))) (r2_1 : ¬ ((122 : Int32) < x2)) (r2_2 : ¬ (x2 < (0 : Int32))) (r2_3 : ¬ ((255 : Int32) < x2)) :
    MetFree l y_21 (head1 (Jvm.Cond.code y_21 prog_11_method_1_code 4 none :: ws) rm_rmBK3) (fun A_ U => A_ = #[(.ref a), (.ref so)] ∧ Z.Warmed39 U.vm ∧ U.heap = h0) (fun _ _ _ _ _ => True) (fun _ U o U' => ∃ v L, o = .returned v ∧ Q_rmBK3 Z a so tb kb x0 x1 x2 cs sf h0 n0 v U'.heap L ∧ ReturnedEndW U o U' L rm_rmBK3.cells rm_rmBK3.slots) := by
 refine MetFree.of_bodySF (plainFor_of_name pn_com_example_tombsweep_tombsweep_model_BlobKey) hisR ?_
 intro p e s m args below meth c s₁ Bd hml0 hP hK
 obtain ⟨rfl, hZ, hh⟩ := hP
 have hx := Bd.exec
 have hby := Bd.bytes
 have hml : c.maxLocals = 4 := hml0
 have hown : s.vm.findClass "com/example/tombsweep/tombsweep/model/BlobKey" = some m.cls := findClass_of_methodNamed Bd.named
 have hnm := (name_of_methodNamed Bd.named Bd.method).1
 have X0 : Stand p l e rm_rmBK3 (s.setVm s.vm) m #[(.ref a), (.ref so)] below meth c s₁ [] 0 0 := Stand.of_body Bd
 have e0 : s₁.heap = h0 := by rw [← hh, Bd.state]; rfl
 have N0 := Fr.nil n0
 have K := Keep.refl h0 [a]
 have hS : s.Since s.vm 0 := (State.WarmedH.refl s).since 0
 have hk : 0 ≤ h0.size := Nat.zero_le _
 have wS := own_wS hw
 refine Go.step (p := p) (e := e) (below := below) (G := fun o U' => ∃ v L, o = .returned v ∧ Q_rmBK3 Z a so tb kb x0 x1 x2 cs sf h0 n0 v U'.heap L ∧ ReturnedEndW s o U' L rm_rmBK3.cells rm_rmBK3.slots) (S' := s₁.setTop (mkF m 0 #[rv a, rv so, u_, u_] [])) (fun t k => castTop (ef_rmBK3 m a so) k) ?_
 refine Go.step (S' := s₁.setTop (mkF m 1 #[rv a, rv so, u_, u_] [(.ref a)])) (fun t k => ?_) ?_
 · refine XS.aloadN X0.here hx rfl (hb hby d9_0) rfl rfl ?_
   exact k
 obtain ⟨_, _, ⟨T1, L1, k1, n1⟩, -, X1, ⟨Lc1, hQ1, l1, y1, z1⟩, st1⟩ := X0.specialBack hx (y := y_16) rfl hown (mvT hZ (own_w hw 52 rfl)) (mvT hZ (own_w hw 53 rfl)) (mvT hZ (own_w hw 56 rfl)) (by decide) (backOf (W := 0) (rmRec l Z a0 hw [] a h0 n0 O ) hZ (own_w hw 56 rfl) (own_w hw 55 rfl) (by decide) (by decide)) (g := (mkF m 1 #[rv a, rv so, u_, u_] [(.ref a)])) rfl (by rw [hml]; rfl) (Steps.refl _) (a := a) (argsL := []) (rest := []) (lenOf pd__28_29V rfl) rfl (Nat.le_of_eq rfl) (hb hby d9_1) (fun _ _ => ⟨rfl, e0, (by decide : 0 + 0 ≤ _), (by decide : 0 + 0 ≤ _)⟩)
 dsimp only [Pt.U, Pt.locs, Pt.cells, Pt.slots] at X1 l1 y1 z1 st1 hQ1
 subst l1 y1 z1
 obtain ⟨rfl, Nq1, e1⟩ := hQ1
 have N1 := Fr.app N0 Nq1
 refine Go.step (fun t k => st1.trans k) ?_
 refine Go.step (S' := T1.setTop (mkF m 5 #[rv a, rv so, u_, u_] [(.ref so)])) (fun t k => ?_) ?_
 · refine XS.aloadN X1.here hx rfl (hb hby d9_4) rfl rfl ?_
   exact k
 obtain ⟨a2, T2, h2, k2, X2, e2, E2, hS, hk, hZ, hown, st2⟩ := ldcS X1 hx hZ hown (own_w hw 58 rfl) wS e1 hS hk (g := (mkF m 5 #[rv a, rv so, u_, u_] [(.ref so)])) rfl (hb hby d9_5) (n := 20) (by decide) (by decide) (by decide) (by decide)
 have O := O.ext E2
 have E_so := E_so.ext E2
 have F_value_so := F_value_so.ext E2
 have F_coder_so := F_coder_so.ext E2
 have V_tb := V_tb.ext E2
 have E_a := E_a.ext E2
 have F_value_a := F_value_a.ext E2
 have K := K.ext E2
 refine Go.step st2 ?_
 obtain ⟨_, _, ⟨T3, L3, k3, n3⟩, -, X3, ⟨Lc3, hQ3, l3, y3, z3⟩, st3⟩ := Jvm.LawKit.callS X2 hx (y := y_17) hown (mvT hZ (own_w hw 61 rfl)) (mvT hZ (own_w hw 62 rfl)) (mvT hZ (own_w hw 63 rfl)) (mvT hZ (own_w hw 64 rfl)) (by decide) (backOf (W := 0) (rmReq l Z a0 hw [] so a2 h2 n0 O ) hZ (own_w hw 64 rfl) (own_w hw 63 rfl) (by decide) (by decide)) (g := (mkF m 7 #[rv a, rv so, u_, u_] [(.ref a2), (.ref so)])) rfl (by rw [hml]; rfl) (argsL := [(.ref so), (.ref a2)]) (rest := []) (lenOf pd__28Ljava_2flang_2fObject_3bLjava_2flang_2fString_3b_29Ljava_2flang_2fObject_3b rfl) rfl (Nat.le_of_eq rfl) (hb hby d9_7) (fun _ _ => ⟨rfl, e2, (by decide : 2 + 0 ≤ _), (by decide : 24 + 0 ≤ _)⟩)
 dsimp only [Pt.U, Pt.locs, Pt.cells, Pt.slots] at X3 l3 y3 z3 st3 hQ3
 subst l3 y3 z3
 obtain ⟨rfl, Nq3, e3⟩ := hQ3
 have N3 := Fr.app N1 Nq3
 refine Go.step st3 ?_
 refine Go.step (S' := T3.setTop (mkF m 12 #[rv a, rv so, u_, u_] [(.ref so)])) (fun t k => ?_) ?_
 · refine XS.pop X3.here hx rfl (hb hby d9_10) rfl rfl ?_
   refine XS.aloadN X3.here hx rfl (hb hby d9_11) rfl rfl ?_
   exact k
 obtain ⟨cq4, kq4, q4a, q4b, q4c⟩ := isOf hZ e3 E_so
 obtain ⟨_, _, ⟨T4, L4, k4, n4⟩, -, X4, ⟨Lc4, hQ4, l4, y4, z4⟩, st4⟩ := X3.virtualBack hx (y := y_4) (z := y_4) hown (mvT hZ (own_w hw 65 rfl)) (mvT hZ (own_w hw 66 rfl)) (notFace_of_selects (args := #[]) (mvT hZ (own_w hw 68 rfl))) (mvT hZ (own_w hw 68 rfl)) (mvT hZ (own_w hw 67 rfl)) (by decide) (backOf (W := 0) (rmEmp3 l Z a0 hw [] so tb kb x0 x1 x2 h2 n0 O F_value_so V_tb) hZ (own_w hw 69 rfl) (own_w hw 7 rfl) (by decide) (by decide)) q4a q4c (g := (mkF m 12 #[rv a, rv so, u_, u_] [(.ref so)])) rfl (by rw [hml]; rfl) (Steps.refl _) (argsL := []) (rest := []) (lenOf pd__28_29Z rfl) rfl (Nat.le_of_eq rfl) (hb hby d9_12) (fun _ _ => ⟨rfl, e3, (by decide : 2 + 0 ≤ _), (by decide : 24 + 0 ≤ _)⟩)
 dsimp only [Pt.U, Pt.locs, Pt.cells, Pt.slots] at X4 l4 y4 z4 st4 hQ4
 subst l4 y4 z4
 obtain ⟨rfl, Nq4, e4⟩ := hQ4
 have N4 := Fr.app N3 Nq4
 refine Go.step (fun t k => st4.trans k) ?_
 refine Go.step (S' := T4.setTop (mkF m 19 #[rv a, rv so, u_, u_] [(.ref so)])) (fun t k => ?_) ?_
 · refine XS.ifNo X4.here hx rfl (hb hby d9_15) rfl ((if0 _ _).trans (teq ((by decide) : (0 : Int32) = (0 : Int32))).2) ?_
   refine XS.aloadN X4.here hx rfl (hb hby d9_18) rfl rfl ?_
   exact k
 obtain ⟨cq5, kq5, q5a, q5b, q5c⟩ := isOf hZ e4 E_so
 obtain ⟨_, _, ⟨T5, L5, k5, n5⟩, -, X5, ⟨Lc5, hQ5, l5, y5, z5⟩, st5⟩ := X4.virtualBack hx (y := y_5) (z := y_5) hown (mvT hZ (own_w hw 70 rfl)) (mvT hZ (own_w hw 71 rfl)) (notFace_of_selects (args := #[]) (mvT hZ (own_w hw 73 rfl))) (mvT hZ (own_w hw 73 rfl)) (mvT hZ (own_w hw 72 rfl)) (by decide) (backOf (W := 0) (rmLen3 l Z a0 hw [] so tb kb x0 x1 x2 cs h2 n0 O S_CS E_so F_value_so F_coder_so V_tb hcs) hZ (own_w hw 74 rfl) (own_w hw 7 rfl) (by decide) (by decide)) q5a q5c (g := (mkF m 19 #[rv a, rv so, u_, u_] [(.ref so)])) rfl (by rw [hml]; rfl) (Steps.refl _) (argsL := []) (rest := []) (lenOf pd__28_29I rfl) rfl (Nat.le_of_eq rfl) (hb hby d9_19) (fun _ _ => ⟨rfl, e4, (by decide : 2 + 0 ≤ _), (by decide : 24 + 0 ≤ _)⟩)
 dsimp only [Pt.U, Pt.locs, Pt.cells, Pt.slots] at X5 l5 y5 z5 st5 hQ5
 subst l5 y5 z5
 obtain ⟨rfl, Nq5, e5⟩ := hQ5
 have N5 := Fr.app N4 Nq5
 refine Go.step (fun t k => st5.trans k) ?_
 refine Go.step (S' := T5.setTop (mkF m 49 #[rv a, rv so, iv (0 : Int32), u_] [(.ref so), (.int (0 : Int32))])) (fun t k => ?_) ?_
 · refine XS.sipush X5.here hx rfl (hb hby d9_22) ?_
   refine XS.icmpYes X5.here hx rfl (pc0 := 25) (pc' := 45) rfl (hb hby d9_25) rfl (flt ((by decide) : ¬ ((255 : Int32) < (3 : Int32)))).2.2.2 (by decide) (by decide) ?_
   refine XS.iconst X5.here hx rfl (hb hby d9_45) ?_
   refine XS.istoreN X5.here hx rfl (hb hby d9_46) rfl (l' := #[rv a, rv so, iv (0 : Int32), u_]) rfl ?_
   refine XS.iloadN X5.here hx rfl (hb hby d9_47) rfl ?_
   refine XS.aloadN X5.here hx rfl (hb hby d9_48) rfl rfl ?_
   exact k
 obtain ⟨cq6, kq6, q6a, q6b, q6c⟩ := isOf hZ e5 E_so
 obtain ⟨_, _, ⟨T6, L6, k6, n6⟩, -, X6, ⟨Lc6, hQ6, l6, y6, z6⟩, st6⟩ := X5.virtualBack hx (y := y_5) (z := y_5) hown (mvT hZ (own_w hw 70 rfl)) (mvT hZ (own_w hw 71 rfl)) (notFace_of_selects (args := #[]) (mvT hZ (own_w hw 73 rfl))) (mvT hZ (own_w hw 73 rfl)) (mvT hZ (own_w hw 72 rfl)) (by decide) (backOf (W := 1) (rmLen3 l Z a0 hw [] so tb kb x0 x1 x2 cs h2 n0 O S_CS E_so F_value_so F_coder_so V_tb hcs) hZ (own_w hw 74 rfl) (own_w hw 7 rfl) (by decide) (by decide)) q6a q6c (g := (mkF m 49 #[rv a, rv so, iv (0 : Int32), u_] [(.ref so), (.int (0 : Int32))])) rfl (by rw [hml]; rfl) (Steps.refl _) (argsL := []) (rest := [(.int (0 : Int32))]) (lenOf pd__28_29I rfl) rfl (Nat.le_of_eq rfl) (hb hby d9_49) (fun _ _ => ⟨rfl, e5, (by decide : 2 + 0 ≤ _), (by decide : 24 + 0 ≤ _)⟩)
 dsimp only [Pt.U, Pt.locs, Pt.cells, Pt.slots] at X6 l6 y6 z6 st6 hQ6
 subst l6 y6 z6
 obtain ⟨rfl, Nq6, e6⟩ := hQ6
 have N6 := Fr.app N5 Nq6
 refine Go.step (fun t k => st6.trans k) ?_
 refine Go.step (S' := T6.setTop (mkF m 57 #[rv a, rv so, iv (0 : Int32), u_] [(.int (0 : Int32)), (.ref so)])) (fun t k => ?_) ?_
 · refine XS.icmpNo X6.here hx rfl (hb hby d9_52) rfl (tlt ((by decide) : (0 : Int32) < (3 : Int32))).2.1 ?_
   refine XS.aloadN X6.here hx rfl (hb hby d9_55) rfl rfl ?_
   refine XS.iloadN X6.here hx rfl (hb hby d9_56) rfl ?_
   exact k
 obtain ⟨cq7, kq7, q7a, q7b, q7c⟩ := isOf hZ e6 E_so
 obtain ⟨_, _, ⟨T7, L7, k7, n7⟩, -, X7, ⟨Lc7, hQ7, l7, y7, z7⟩, st7⟩ := X6.virtualBack hx (y := y_7) (z := y_7) hown (mvT hZ (own_w hw 80 rfl)) (mvT hZ (own_w hw 81 rfl)) (notFace_of_selects (args := #[]) (mvT hZ (own_w hw 83 rfl))) (mvT hZ (own_w hw 83 rfl)) (mvT hZ (own_w hw 82 rfl)) (by decide) (backOf (W := 0) (rmCh3_0 l Z a0 hw [] so tb kb x0 x1 x2 cs sf h2 n0 O S_CS S_FM E_so F_value_so F_coder_so V_tb hcs hsf r0_2 r0_3) hZ (own_w hw 84 rfl) (own_w hw 7 rfl) (by decide) (by decide)) q7a q7c (g := (mkF m 57 #[rv a, rv so, iv (0 : Int32), u_] [(.int (0 : Int32)), (.ref so)])) rfl (by rw [hml]; rfl) (Steps.refl _) (argsL := [(.int (0 : Int32))]) (rest := []) (lenOf pd__28I_29C rfl) rfl (Nat.le_of_eq rfl) (hb hby d9_57) (fun _ _ => ⟨rfl, e6, (by decide : 2 + 0 ≤ _), (by decide : 24 + 0 ≤ _)⟩)
 dsimp only [Pt.U, Pt.locs, Pt.cells, Pt.slots] at X7 l7 y7 z7 st7 hQ7
 subst l7 y7 z7
 obtain ⟨rfl, Nq7, e7⟩ := hQ7
 have N7 := Fr.app N6 Nq7
 refine Go.step (fun t k => st7.trans k) ?_
 refine Go.step (S' := T7.setTop (mkF m 62 #[rv a, rv so, iv (0 : Int32), iv x0] [(.int x0)])) (fun t k => ?_) ?_
 · refine XS.istoreN X7.here hx rfl (hb hby d9_60) rfl (l' := #[rv a, rv so, iv (0 : Int32), iv x0]) rfl ?_
   refine XS.iloadN X7.here hx rfl (hb hby d9_61) rfl ?_
   exact k
 obtain ⟨_, _, ⟨T8, L8, k8, n8⟩, -, X8, ⟨Lc8, hQ8, l8, y8, z8⟩, st8⟩ := Jvm.LawKit.callS X7 hx (y := y_18) hown (mvT hZ (own_w hw 102 rfl)) (mvT hZ (own_w hw 103 rfl)) (mvT hZ (own_w hw 48 rfl)) (mvT hZ (own_w hw 104 rfl)) (by decide) (backOf (W := 0) (rmKey l Z a0 hw [] x0 h2 n0 O r0_0 r0_1) hZ (own_w hw 104 rfl) (own_w hw 48 rfl) (by decide) (by decide)) (g := (mkF m 62 #[rv a, rv so, iv (0 : Int32), iv x0] [(.int x0)])) rfl (by rw [hml]; rfl) (argsL := [(.int x0)]) (rest := []) (lenOf pd__28C_29Z rfl) rfl (Nat.le_of_eq rfl) (hb hby d9_62) (fun _ _ => ⟨rfl, e7, (by decide : 2 + 0 ≤ _), (by decide : 24 + 0 ≤ _)⟩)
 dsimp only [Pt.U, Pt.locs, Pt.cells, Pt.slots] at X8 l8 y8 z8 st8 hQ8
 subst l8 y8 z8
 obtain ⟨rfl, Nq8, e8⟩ := hQ8
 have N8 := Fr.app N7 Nq8
 refine Go.step st8 ?_
 refine Go.step (S' := T8.setTop (mkF m 102 #[rv a, rv so, iv ((0 : Int32) + (1 : Int32)), iv x0] [])) (fun t k => ?_) ?_
 · refine XS.ifYes X8.here hx rfl (pc0 := 65) (pc' := 99) rfl (hb hby d9_65) rfl ((if0 _ _).trans (feq ((by decide) : ¬ ((1 : Int32) = (0 : Int32)))).2) (by decide) (by decide) ?_
   refine XS.iinc X8.here hx rfl (hb hby d9_99) rfl (l' := #[rv a, rv so, iv ((0 : Int32) + (1 : Int32)), iv x0]) rfl ?_
   exact k
 rw [show ((0 : Int32) + (1 : Int32)) = (1 : Int32) from by decide]
 show Go p e below _ (T8.setTop (mkF m 102 #[rv a, rv so, iv (1 : Int32), iv x0] []))
 refine Go.step (S' := T8.setTop (mkF m 49 #[rv a, rv so, iv (1 : Int32), iv x0] [(.ref so), (.int (1 : Int32))])) (fun t k => ?_) ?_
 · refine XS.goto X8.here hx rfl (pc0 := 102) (pc' := 47) rfl (hb hby d9_102) (by decide) (by decide) ?_
   refine XS.iloadN X8.here hx rfl (hb hby d9_47) rfl ?_
   refine XS.aloadN X8.here hx rfl (hb hby d9_48) rfl rfl ?_
   exact k
 obtain ⟨cq9, kq9, q9a, q9b, q9c⟩ := isOf hZ e8 E_so
 obtain ⟨_, _, ⟨T9, L9, k9, n9⟩, -, X9, ⟨Lc9, hQ9, l9, y9, z9⟩, st9⟩ := X8.virtualBack hx (y := y_5) (z := y_5) hown (mvT hZ (own_w hw 70 rfl)) (mvT hZ (own_w hw 71 rfl)) (notFace_of_selects (args := #[]) (mvT hZ (own_w hw 73 rfl))) (mvT hZ (own_w hw 73 rfl)) (mvT hZ (own_w hw 72 rfl)) (by decide) (backOf (W := 1) (rmLen3 l Z a0 hw [] so tb kb x0 x1 x2 cs h2 n0 O S_CS E_so F_value_so F_coder_so V_tb hcs) hZ (own_w hw 74 rfl) (own_w hw 7 rfl) (by decide) (by decide)) q9a q9c (g := (mkF m 49 #[rv a, rv so, iv (1 : Int32), iv x0] [(.ref so), (.int (1 : Int32))])) rfl (by rw [hml]; rfl) (Steps.refl _) (argsL := []) (rest := [(.int (1 : Int32))]) (lenOf pd__28_29I rfl) rfl (Nat.le_of_eq rfl) (hb hby d9_49) (fun _ _ => ⟨rfl, e8, (by decide : 2 + 0 ≤ _), (by decide : 24 + 0 ≤ _)⟩)
 dsimp only [Pt.U, Pt.locs, Pt.cells, Pt.slots] at X9 l9 y9 z9 st9 hQ9
 subst l9 y9 z9
 obtain ⟨rfl, Nq9, e9⟩ := hQ9
 have N9 := Fr.app N8 Nq9
 refine Go.step (fun t k => st9.trans k) ?_
 refine Go.step (S' := T9.setTop (mkF m 57 #[rv a, rv so, iv (1 : Int32), iv x0] [(.int (1 : Int32)), (.ref so)])) (fun t k => ?_) ?_
 · refine XS.icmpNo X9.here hx rfl (hb hby d9_52) rfl (tlt ((by decide) : (1 : Int32) < (3 : Int32))).2.1 ?_
   refine XS.aloadN X9.here hx rfl (hb hby d9_55) rfl rfl ?_
   refine XS.iloadN X9.here hx rfl (hb hby d9_56) rfl ?_
   exact k
 obtain ⟨cq10, kq10, q10a, q10b, q10c⟩ := isOf hZ e9 E_so
 obtain ⟨_, _, ⟨T10, L10, k10, n10⟩, -, X10, ⟨Lc10, hQ10, l10, y10, z10⟩, st10⟩ := X9.virtualBack hx (y := y_7) (z := y_7) hown (mvT hZ (own_w hw 80 rfl)) (mvT hZ (own_w hw 81 rfl)) (notFace_of_selects (args := #[]) (mvT hZ (own_w hw 83 rfl))) (mvT hZ (own_w hw 83 rfl)) (mvT hZ (own_w hw 82 rfl)) (by decide) (backOf (W := 0) (rmCh3_1 l Z a0 hw [] so tb kb x0 x1 x2 cs sf h2 n0 O S_CS S_FM E_so F_value_so F_coder_so V_tb hcs hsf r1_2 r1_3) hZ (own_w hw 84 rfl) (own_w hw 7 rfl) (by decide) (by decide)) q10a q10c (g := (mkF m 57 #[rv a, rv so, iv (1 : Int32), iv x0] [(.int (1 : Int32)), (.ref so)])) rfl (by rw [hml]; rfl) (Steps.refl _) (argsL := [(.int (1 : Int32))]) (rest := []) (lenOf pd__28I_29C rfl) rfl (Nat.le_of_eq rfl) (hb hby d9_57) (fun _ _ => ⟨rfl, e9, (by decide : 2 + 0 ≤ _), (by decide : 24 + 0 ≤ _)⟩)
 dsimp only [Pt.U, Pt.locs, Pt.cells, Pt.slots] at X10 l10 y10 z10 st10 hQ10
 subst l10 y10 z10
 obtain ⟨rfl, Nq10, e10⟩ := hQ10
 have N10 := Fr.app N9 Nq10
 refine Go.step (fun t k => st10.trans k) ?_
 refine Go.step (S' := T10.setTop (mkF m 62 #[rv a, rv so, iv (1 : Int32), iv x1] [(.int x1)])) (fun t k => ?_) ?_
 · refine XS.istoreN X10.here hx rfl (hb hby d9_60) rfl (l' := #[rv a, rv so, iv (1 : Int32), iv x1]) rfl ?_
   refine XS.iloadN X10.here hx rfl (hb hby d9_61) rfl ?_
   exact k
 obtain ⟨_, _, ⟨T11, L11, k11, n11⟩, -, X11, ⟨Lc11, hQ11, l11, y11, z11⟩, st11⟩ := Jvm.LawKit.callS X10 hx (y := y_18) hown (mvT hZ (own_w hw 102 rfl)) (mvT hZ (own_w hw 103 rfl)) (mvT hZ (own_w hw 48 rfl)) (mvT hZ (own_w hw 104 rfl)) (by decide) (backOf (W := 0) (rmKey l Z a0 hw [] x1 h2 n0 O r1_0 r1_1) hZ (own_w hw 104 rfl) (own_w hw 48 rfl) (by decide) (by decide)) (g := (mkF m 62 #[rv a, rv so, iv (1 : Int32), iv x1] [(.int x1)])) rfl (by rw [hml]; rfl) (argsL := [(.int x1)]) (rest := []) (lenOf pd__28C_29Z rfl) rfl (Nat.le_of_eq rfl) (hb hby d9_62) (fun _ _ => ⟨rfl, e10, (by decide : 2 + 0 ≤ _), (by decide : 24 + 0 ≤ _)⟩)
 dsimp only [Pt.U, Pt.locs, Pt.cells, Pt.slots] at X11 l11 y11 z11 st11 hQ11
 subst l11 y11 z11
 obtain ⟨rfl, Nq11, e11⟩ := hQ11
 have N11 := Fr.app N10 Nq11
 refine Go.step st11 ?_
 refine Go.step (S' := T11.setTop (mkF m 102 #[rv a, rv so, iv ((1 : Int32) + (1 : Int32)), iv x1] [])) (fun t k => ?_) ?_
 · refine XS.ifYes X11.here hx rfl (pc0 := 65) (pc' := 99) rfl (hb hby d9_65) rfl ((if0 _ _).trans (feq ((by decide) : ¬ ((1 : Int32) = (0 : Int32)))).2) (by decide) (by decide) ?_
   refine XS.iinc X11.here hx rfl (hb hby d9_99) rfl (l' := #[rv a, rv so, iv ((1 : Int32) + (1 : Int32)), iv x1]) rfl ?_
   exact k
 rw [show ((1 : Int32) + (1 : Int32)) = (2 : Int32) from by decide]
 show Go p e below _ (T11.setTop (mkF m 102 #[rv a, rv so, iv (2 : Int32), iv x1] []))
 refine Go.step (S' := T11.setTop (mkF m 49 #[rv a, rv so, iv (2 : Int32), iv x1] [(.ref so), (.int (2 : Int32))])) (fun t k => ?_) ?_
 · refine XS.goto X11.here hx rfl (pc0 := 102) (pc' := 47) rfl (hb hby d9_102) (by decide) (by decide) ?_
   refine XS.iloadN X11.here hx rfl (hb hby d9_47) rfl ?_
   refine XS.aloadN X11.here hx rfl (hb hby d9_48) rfl rfl ?_
   exact k
 obtain ⟨cq12, kq12, q12a, q12b, q12c⟩ := isOf hZ e11 E_so
 obtain ⟨_, _, ⟨T12, L12, k12, n12⟩, -, X12, ⟨Lc12, hQ12, l12, y12, z12⟩, st12⟩ := X11.virtualBack hx (y := y_5) (z := y_5) hown (mvT hZ (own_w hw 70 rfl)) (mvT hZ (own_w hw 71 rfl)) (notFace_of_selects (args := #[]) (mvT hZ (own_w hw 73 rfl))) (mvT hZ (own_w hw 73 rfl)) (mvT hZ (own_w hw 72 rfl)) (by decide) (backOf (W := 1) (rmLen3 l Z a0 hw [] so tb kb x0 x1 x2 cs h2 n0 O S_CS E_so F_value_so F_coder_so V_tb hcs) hZ (own_w hw 74 rfl) (own_w hw 7 rfl) (by decide) (by decide)) q12a q12c (g := (mkF m 49 #[rv a, rv so, iv (2 : Int32), iv x1] [(.ref so), (.int (2 : Int32))])) rfl (by rw [hml]; rfl) (Steps.refl _) (argsL := []) (rest := [(.int (2 : Int32))]) (lenOf pd__28_29I rfl) rfl (Nat.le_of_eq rfl) (hb hby d9_49) (fun _ _ => ⟨rfl, e11, (by decide : 2 + 0 ≤ _), (by decide : 24 + 0 ≤ _)⟩)
 dsimp only [Pt.U, Pt.locs, Pt.cells, Pt.slots] at X12 l12 y12 z12 st12 hQ12
 subst l12 y12 z12
 obtain ⟨rfl, Nq12, e12⟩ := hQ12
 have N12 := Fr.app N11 Nq12
 refine Go.step (fun t k => st12.trans k) ?_
 refine Go.step (S' := T12.setTop (mkF m 57 #[rv a, rv so, iv (2 : Int32), iv x1] [(.int (2 : Int32)), (.ref so)])) (fun t k => ?_) ?_
 · refine XS.icmpNo X12.here hx rfl (hb hby d9_52) rfl (tlt ((by decide) : (2 : Int32) < (3 : Int32))).2.1 ?_
   refine XS.aloadN X12.here hx rfl (hb hby d9_55) rfl rfl ?_
   refine XS.iloadN X12.here hx rfl (hb hby d9_56) rfl ?_
   exact k
 obtain ⟨cq13, kq13, q13a, q13b, q13c⟩ := isOf hZ e12 E_so
 obtain ⟨_, _, ⟨T13, L13, k13, n13⟩, -, X13, ⟨Lc13, hQ13, l13, y13, z13⟩, st13⟩ := X12.virtualBack hx (y := y_7) (z := y_7) hown (mvT hZ (own_w hw 80 rfl)) (mvT hZ (own_w hw 81 rfl)) (notFace_of_selects (args := #[]) (mvT hZ (own_w hw 83 rfl))) (mvT hZ (own_w hw 83 rfl)) (mvT hZ (own_w hw 82 rfl)) (by decide) (backOf (W := 0) (rmCh3_2 l Z a0 hw [] so tb kb x0 x1 x2 cs sf h2 n0 O S_CS S_FM E_so F_value_so F_coder_so V_tb hcs hsf r2_2 r2_3) hZ (own_w hw 84 rfl) (own_w hw 7 rfl) (by decide) (by decide)) q13a q13c (g := (mkF m 57 #[rv a, rv so, iv (2 : Int32), iv x1] [(.int (2 : Int32)), (.ref so)])) rfl (by rw [hml]; rfl) (Steps.refl _) (argsL := [(.int (2 : Int32))]) (rest := []) (lenOf pd__28I_29C rfl) rfl (Nat.le_of_eq rfl) (hb hby d9_57) (fun _ _ => ⟨rfl, e12, (by decide : 2 + 0 ≤ _), (by decide : 24 + 0 ≤ _)⟩)
 dsimp only [Pt.U, Pt.locs, Pt.cells, Pt.slots] at X13 l13 y13 z13 st13 hQ13
 subst l13 y13 z13
 obtain ⟨rfl, Nq13, e13⟩ := hQ13
 have N13 := Fr.app N12 Nq13
 refine Go.step (fun t k => st13.trans k) ?_
 refine Go.step (S' := T13.setTop (mkF m 62 #[rv a, rv so, iv (2 : Int32), iv x2] [(.int x2)])) (fun t k => ?_) ?_
 · refine XS.istoreN X13.here hx rfl (hb hby d9_60) rfl (l' := #[rv a, rv so, iv (2 : Int32), iv x2]) rfl ?_
   refine XS.iloadN X13.here hx rfl (hb hby d9_61) rfl ?_
   exact k
 obtain ⟨_, _, ⟨T14, L14, k14, n14⟩, -, X14, ⟨Lc14, hQ14, l14, y14, z14⟩, st14⟩ := Jvm.LawKit.callS X13 hx (y := y_18) hown (mvT hZ (own_w hw 102 rfl)) (mvT hZ (own_w hw 103 rfl)) (mvT hZ (own_w hw 48 rfl)) (mvT hZ (own_w hw 104 rfl)) (by decide) (backOf (W := 0) (rmKey l Z a0 hw [] x2 h2 n0 O r2_0 r2_1) hZ (own_w hw 104 rfl) (own_w hw 48 rfl) (by decide) (by decide)) (g := (mkF m 62 #[rv a, rv so, iv (2 : Int32), iv x2] [(.int x2)])) rfl (by rw [hml]; rfl) (argsL := [(.int x2)]) (rest := []) (lenOf pd__28C_29Z rfl) rfl (Nat.le_of_eq rfl) (hb hby d9_62) (fun _ _ => ⟨rfl, e13, (by decide : 2 + 0 ≤ _), (by decide : 24 + 0 ≤ _)⟩)
 dsimp only [Pt.U, Pt.locs, Pt.cells, Pt.slots] at X14 l14 y14 z14 st14 hQ14
 subst l14 y14 z14
 obtain ⟨rfl, Nq14, e14⟩ := hQ14
 have N14 := Fr.app N13 Nq14
 refine Go.step st14 ?_
 refine Go.step (S' := T14.setTop (mkF m 102 #[rv a, rv so, iv ((2 : Int32) + (1 : Int32)), iv x2] [])) (fun t k => ?_) ?_
 · refine XS.ifYes X14.here hx rfl (pc0 := 65) (pc' := 99) rfl (hb hby d9_65) rfl ((if0 _ _).trans (feq ((by decide) : ¬ ((1 : Int32) = (0 : Int32)))).2) (by decide) (by decide) ?_
   refine XS.iinc X14.here hx rfl (hb hby d9_99) rfl (l' := #[rv a, rv so, iv ((2 : Int32) + (1 : Int32)), iv x2]) rfl ?_
   exact k
 rw [show ((2 : Int32) + (1 : Int32)) = (3 : Int32) from by decide]
 show Go p e below _ (T14.setTop (mkF m 102 #[rv a, rv so, iv (3 : Int32), iv x2] []))
 refine Go.step (S' := T14.setTop (mkF m 49 #[rv a, rv so, iv (3 : Int32), iv x2] [(.ref so), (.int (3 : Int32))])) (fun t k => ?_) ?_
 · refine XS.goto X14.here hx rfl (pc0 := 102) (pc' := 47) rfl (hb hby d9_102) (by decide) (by decide) ?_
   refine XS.iloadN X14.here hx rfl (hb hby d9_47) rfl ?_
   refine XS.aloadN X14.here hx rfl (hb hby d9_48) rfl rfl ?_
   exact k
 obtain ⟨cq15, kq15, q15a, q15b, q15c⟩ := isOf hZ e14 E_so
 obtain ⟨_, _, ⟨T15, L15, k15, n15⟩, -, X15, ⟨Lc15, hQ15, l15, y15, z15⟩, st15⟩ := X14.virtualBack hx (y := y_5) (z := y_5) hown (mvT hZ (own_w hw 70 rfl)) (mvT hZ (own_w hw 71 rfl)) (notFace_of_selects (args := #[]) (mvT hZ (own_w hw 73 rfl))) (mvT hZ (own_w hw 73 rfl)) (mvT hZ (own_w hw 72 rfl)) (by decide) (backOf (W := 1) (rmLen3 l Z a0 hw [] so tb kb x0 x1 x2 cs h2 n0 O S_CS E_so F_value_so F_coder_so V_tb hcs) hZ (own_w hw 74 rfl) (own_w hw 7 rfl) (by decide) (by decide)) q15a q15c (g := (mkF m 49 #[rv a, rv so, iv (3 : Int32), iv x2] [(.ref so), (.int (3 : Int32))])) rfl (by rw [hml]; rfl) (Steps.refl _) (argsL := []) (rest := [(.int (3 : Int32))]) (lenOf pd__28_29I rfl) rfl (Nat.le_of_eq rfl) (hb hby d9_49) (fun _ _ => ⟨rfl, e14, (by decide : 2 + 0 ≤ _), (by decide : 24 + 0 ≤ _)⟩)
 dsimp only [Pt.U, Pt.locs, Pt.cells, Pt.slots] at X15 l15 y15 z15 st15 hQ15
 subst l15 y15 z15
 obtain ⟨rfl, Nq15, e15⟩ := hQ15
 have N15 := Fr.app N14 Nq15
 refine Go.step (fun t k => st15.trans k) ?_
 refine Go.step (S' := T15.setTop (mkF m 107 #[rv a, rv so, iv (3 : Int32), iv x2] [(.ref so), (.ref a)])) (fun t k => ?_) ?_
 · refine XS.icmpYes X15.here hx rfl (pc0 := 52) (pc' := 105) rfl (hb hby d9_52) rfl (flt ((by decide) : ¬ ((3 : Int32) < (3 : Int32)))).2.1 (by decide) (by decide) ?_
   refine XS.aloadN X15.here hx rfl (hb hby d9_105) rfl rfl ?_
   refine XS.aloadN X15.here hx rfl (hb hby d9_106) rfl rfl ?_
   exact k
 obtain ⟨T16, h16, X16, e16, W16, st16⟩ := putF X15 hx hZ hown (host := "") (Or.inl (own_w hw 105 rfl)) Via.refl e15 F_value_a E_a (Or.inr ⟨(own_w hw 106 rfl), rfl, hnm⟩) (own_w hw 47 rfl) (ty := (.object "java/lang/String")) (by decide) rfl rfl (g := (mkF m 107 #[rv a, rv so, iv (3 : Int32), iv x2] [(.ref so), (.ref a)])) rfl rfl (hb hby d9_107)
 have ne_so_a : so ≠ a := ne_exa E_so E_a (by decide)
 have ne_tb_a : tb ≠ a := Ne.symm (Exa.neArv E_a V_tb (own_w hw 47 rfl))
 have O := O.wr W16 g_a
 have E_so := E_so.wr W16
 have F_value_so := F_value_so.other W16 (Or.inl ne_so_a)
 have F_coder_so := F_coder_so.other W16 (Or.inl ne_so_a)
 have V_tb := V_tb.other W16 ne_tb_a
 have E_a := E_a.wr W16
 have F_value_a := F_value_a.same W16
 have K := K.wr W16 (Or.inl (List.mem_of_getElem? (i := 0) rfl))
 have hk := Nat.le_trans hk (Keep.of_wr W16).1
 have N16 := Fr.snoc X16 N15 g_a
 refine Go.step st16 ?_
 obtain ⟨fs, hr, hrun, hended, hR⟩ := X16.leaveW hS (by rw [e16]; exact hk) (v := none) (fun _ => rfl)
 refine Go.fin (S' := T16.setFrames fs) ?_ hrun hended ⟨_, _, rfl, ?_, hR.1, hR.2.1, hR.2.2.1, hR.2.2.2.mono (by decide) (by decide)⟩
 · exact X16.returnOut hx Bd.returns (hb hby d9_110) hr
 · show Q_rmBK3 Z a so tb kb x0 x1 x2 cs sf h0 n0 (none) T16.heap _
   rw [e16]
   exact ⟨rfl, N16, K, E_a, F_value_a⟩
theorem ef_rmKL3 (m : MethodId) (hd : Addr) : entryFrame m #[(.ref hd)] 1 = mkF m 0 #[.val (.ref hd)] [] := by first | (simp [entryFrame, mkF, argsToLocals, Value.category]; done) | rfl
abbrev rm_rmKL3 : Room := ({ frames := 2, cells := 0, slots := 0, locals := 25 } : Room)
def Q_rmKL3 (Z : State) (hd : Addr) (ke : Addr) (so : Addr) (tb : Addr) (kb : ClassId) (x0 : Int32) (x1 : Int32) (x2 : Int32) (cs : Int32) (h0 : Heap) (n0 : Nat) (v : Option Value) (h : Heap) (L : List Loc) : Prop := (v = some (.int (3 : Int32))) ∧ (Fr n0 L) ∧ (h = h0)
set_option maxRecDepth 65536 in
set_option maxHeartbeats 4000000 in
theorem rmKL3 (l : Launch) (Z : State) (a0 : Array Value) (hw : ∀ d ∈ tables_1, d.before a0 Z = true) (ws : List Jvm.Cond) (hd : Addr) (ke : Addr) (so : Addr) (tb : Addr) (kb : ClassId) (x0 : Int32) (x1 : Int32) (x2 : Int32) (cs : Int32) (h0 : Heap) (n0 : Nat) (O : Old Z n0 h0) (F_key : Fld Z h0 hd "com/example/tombsweep/tombsweep/io/RecordHeader" "key" "Lcom/example/tombsweep/tombsweep/model/BlobKey;" (.ref ke)) (E_ke : Exa Z h0 ke "com/example/tombsweep/tombsweep/model/BlobKey") (F_value_ke : Fld Z h0 ke "com/example/tombsweep/tombsweep/model/BlobKey" "value" "Ljava/lang/String;" (.ref so)) (E_so : Exa Z h0 so "java/lang/String") (F_value_so : Fld Z h0 so "java/lang/String" "value" "[B" (.ref tb)) (F_coder_so : Fld Z h0 so "java/lang/String" "coder" "B" (.int (0 : Int32))) (V_tb : Arv Z h0 tb kb .byte (3 : Int32) [(.int (x0.toInt8.toInt32)), (.int (x1.toInt8.toInt32)), (.int (x2.toInt8.toInt32))] (.int (0 : Int32))) (S_CS : Sta Z Z.heap "java/lang/String" "COMPACT_STRINGS" "Z" (.int cs)) (hcs : ¬ (cs = (0 : Int32))) :
    MetFree l y_22 (head1 (Jvm.Cond.code y_22 prog_5_method_16_code 1 (some .int) :: ws) rm_rmKL3) (fun A_ U => A_ = #[(.ref hd)] ∧ Z.Warmed39 U.vm ∧ U.heap = h0) (fun _ _ _ _ _ => True) (fun _ U o U' => ∃ v L, o = .returned v ∧ Q_rmKL3 Z hd ke so tb kb x0 x1 x2 cs h0 n0 v U'.heap L ∧ FrameEnd U o U' L rm_rmKL3.cells rm_rmKL3.slots) := by
 refine MetFree.of_bodySF (plainFor_of_name pn_com_example_tombsweep_tombsweep_io_RecordHeader) hisR ?_
 intro p e s m args below meth c s₁ Bd hml0 hP hK
 obtain ⟨rfl, hZ, hh⟩ := hP
 have hx := Bd.exec
 have hby := Bd.bytes
 have hml : c.maxLocals = 1 := hml0
 have hown : s.vm.findClass "com/example/tombsweep/tombsweep/io/RecordHeader" = some m.cls := findClass_of_methodNamed Bd.named
 have hnm := (name_of_methodNamed Bd.named Bd.method).1
 have X0 : Stand p l e rm_rmKL3 s m #[(.ref hd)] below meth c s₁ [] 0 0 := Stand.of_body Bd
 have e0 : s₁.heap = h0 := by rw [← hh, Bd.state]; rfl
 have N0 := Fr.nil n0
 refine Go.step (p := p) (e := e) (below := below) (G := fun o U' => ∃ v L, o = .returned v ∧ Q_rmKL3 Z hd ke so tb kb x0 x1 x2 cs h0 n0 v U'.heap L ∧ FrameEnd s o U' L rm_rmKL3.cells rm_rmKL3.slots) (S' := s₁.setTop (mkF m 0 #[rv hd] [])) (fun t k => castTop (ef_rmKL3 m hd) k) ?_
 refine Go.step (S' := s₁.setTop (mkF m 1 #[rv hd] [(.ref hd)])) (fun t k => ?_) ?_
 · refine XS.aloadN X0.here hx rfl (hb hby d25_0) rfl rfl ?_
   exact k
 obtain ⟨T1, X1, e1, st1⟩ := getF X0 hx hZ hown (host := "") (Or.inl (own_w hw 113 rfl)) Via.refl e0 F_key (g := (mkF m 1 #[rv hd] [(.ref hd)])) rfl rfl (hb hby d25_1)
 refine Go.step st1 ?_
 obtain ⟨cq2, kq2, q2a, q2b, q2c⟩ := isOf hZ e1 E_ke
 obtain ⟨_, _, ⟨T2, L2, k2, n2⟩, -, X2, ⟨Lc2, hQ2, l2, y2, z2⟩, st2⟩ := X1.virtualBack hx (y := y_19) (z := y_19) hown (mvT hZ (own_w hw 146 rfl)) (mvT hZ (own_w hw 147 rfl)) (notFace_of_selects (args := #[]) (mvT hZ (own_w hw 149 rfl))) (mvT hZ (own_w hw 149 rfl)) (mvT hZ (own_w hw 148 rfl)) (by decide) (backOf (W := 0) (rmBV l Z a0 hw [] ke so h0 n0 O F_value_ke) hZ (own_w hw 150 rfl) (own_w hw 48 rfl) (by decide) (by decide)) q2a q2c (g := (mkF m 4 #[rv hd] [(.ref ke)])) rfl (by rw [hml]; rfl) (Steps.refl _) (argsL := []) (rest := []) (lenOf pd__28_29Ljava_2flang_2fString_3b rfl) rfl (Nat.le_of_eq rfl) (hb hby d25_4) (fun _ _ => ⟨rfl, e1, (by decide : 0 + 0 ≤ _), (by decide : 0 + 0 ≤ _)⟩)
 dsimp only [Pt.U, Pt.locs, Pt.cells, Pt.slots] at X2 l2 y2 z2 st2 hQ2
 subst l2 y2 z2
 obtain ⟨rfl, Nq2, e2⟩ := hQ2
 have N2 := Fr.app N0 Nq2
 refine Go.step (fun t k => st2.trans k) ?_
 obtain ⟨cq3, kq3, q3a, q3b, q3c⟩ := isOf hZ e2 E_so
 obtain ⟨_, _, ⟨T3, L3, k3, n3⟩, -, X3, ⟨Lc3, hQ3, l3, y3, z3⟩, st3⟩ := X2.virtualBack hx (y := y_5) (z := y_5) hown (mvT hZ (own_w hw 151 rfl)) (mvT hZ (own_w hw 71 rfl)) (notFace_of_selects (args := #[]) (mvT hZ (own_w hw 73 rfl))) (mvT hZ (own_w hw 73 rfl)) (mvT hZ (own_w hw 72 rfl)) (by decide) (backOf (W := 0) (rmLen3 l Z a0 hw [] so tb kb x0 x1 x2 cs h0 n0 O S_CS E_so F_value_so F_coder_so V_tb hcs) hZ (own_w hw 74 rfl) (own_w hw 7 rfl) (by decide) (by decide)) q3a q3c (g := (mkF m 7 #[rv hd] [(.ref so)])) rfl (by rw [hml]; rfl) (Steps.refl _) (argsL := []) (rest := []) (lenOf pd__28_29I rfl) rfl (Nat.le_of_eq rfl) (hb hby d25_7) (fun _ _ => ⟨rfl, e2, (by decide : 0 + 0 ≤ _), (by decide : 0 + 0 ≤ _)⟩)
 dsimp only [Pt.U, Pt.locs, Pt.cells, Pt.slots] at X3 l3 y3 z3 st3 hQ3
 subst l3 y3 z3
 obtain ⟨rfl, Nq3, e3⟩ := hQ3
 have N3 := Fr.app N2 Nq3
 refine Go.step (fun t k => st3.trans k) ?_
 obtain ⟨fs, hr, hrun, hended, hW, hsame⟩ := X3.leave (v := some (.int (3 : Int32))) (fun h => by rw [Bd.returns] at h; cases h)
 refine Go.fin (S' := T3.setFrames fs) ?_ hrun hended ⟨_, _, rfl, ?_, ⟨_, rfl⟩, hW, hsame.mono (by decide) (by decide)⟩
 · exact retOut X3 hx Bd.returns rfl (Or.inl ⟨rfl, Or.inl rfl, _, rfl⟩) (hb hby d25_10) hr
 · show Q_rmKL3 Z hd ke so tb kb x0 x1 x2 cs h0 n0 (some (.int (3 : Int32))) T3.heap _
   rw [e3]
   exact ⟨rfl, N3, rfl⟩
theorem ef_rmMO3 (m : MethodId) (hd : Addr) : entryFrame m #[(.ref hd)] 1 = mkF m 0 #[.val (.ref hd)] [] := by first | (simp [entryFrame, mkF, argsToLocals, Value.category]; done) | rfl
abbrev rm_rmMO3 : Room := ({ frames := 3, cells := 0, slots := 0, locals := 38 } : Room)
def Q_rmMO3 (Z : State) (hd : Addr) (ke : Addr) (so : Addr) (tb : Addr) (kb : ClassId) (x0 : Int32) (x1 : Int32) (x2 : Int32) (cs : Int32) (h0 : Heap) (n0 : Nat) (v : Option Value) (h : Heap) (L : List Loc) : Prop := (v = some (.long (43 : Int64))) ∧ (Fr n0 L) ∧ (h = h0)
set_option maxRecDepth 65536 in
set_option maxHeartbeats 4000000 in
theorem rmMO3 (l : Launch) (Z : State) (a0 : Array Value) (hw : ∀ d ∈ tables_1, d.before a0 Z = true) (ws : List Jvm.Cond) (hd : Addr) (ke : Addr) (so : Addr) (tb : Addr) (kb : ClassId) (x0 : Int32) (x1 : Int32) (x2 : Int32) (cs : Int32) (h0 : Heap) (n0 : Nat) (O : Old Z n0 h0) (F_key : Fld Z h0 hd "com/example/tombsweep/tombsweep/io/RecordHeader" "key" "Lcom/example/tombsweep/tombsweep/model/BlobKey;" (.ref ke)) (E_ke : Exa Z h0 ke "com/example/tombsweep/tombsweep/model/BlobKey") (F_value_ke : Fld Z h0 ke "com/example/tombsweep/tombsweep/model/BlobKey" "value" "Ljava/lang/String;" (.ref so)) (E_so : Exa Z h0 so "java/lang/String") (F_value_so : Fld Z h0 so "java/lang/String" "value" "[B" (.ref tb)) (F_coder_so : Fld Z h0 so "java/lang/String" "coder" "B" (.int (0 : Int32))) (V_tb : Arv Z h0 tb kb .byte (3 : Int32) [(.int (x0.toInt8.toInt32)), (.int (x1.toInt8.toInt32)), (.int (x2.toInt8.toInt32))] (.int (0 : Int32))) (S_CS : Sta Z Z.heap "java/lang/String" "COMPACT_STRINGS" "Z" (.int cs)) (E_h : Exa Z h0 hd "com/example/tombsweep/tombsweep/io/RecordHeader") (hcs : ¬ (cs = (0 : Int32))) :
    MetFree l y_23 (head1 (Jvm.Cond.code y_23 prog_5_method_11_code 1 (some .long) :: ws) rm_rmMO3) (fun A_ U => A_ = #[(.ref hd)] ∧ Z.Warmed39 U.vm ∧ U.heap = h0) (fun _ _ _ _ _ => True) (fun _ U o U' => ∃ v L, o = .returned v ∧ Q_rmMO3 Z hd ke so tb kb x0 x1 x2 cs h0 n0 v U'.heap L ∧ FrameEnd U o U' L rm_rmMO3.cells rm_rmMO3.slots) := by
 refine MetFree.of_bodySF (plainFor_of_name pn_com_example_tombsweep_tombsweep_io_RecordHeader) hisR ?_
 intro p e s m args below meth c s₁ Bd hml0 hP hK
 obtain ⟨rfl, hZ, hh⟩ := hP
 have hx := Bd.exec
 have hby := Bd.bytes
 have hml : c.maxLocals = 1 := hml0
 have hown : s.vm.findClass "com/example/tombsweep/tombsweep/io/RecordHeader" = some m.cls := findClass_of_methodNamed Bd.named
 have hnm := (name_of_methodNamed Bd.named Bd.method).1
 have X0 : Stand p l e rm_rmMO3 s m #[(.ref hd)] below meth c s₁ [] 0 0 := Stand.of_body Bd
 have e0 : s₁.heap = h0 := by rw [← hh, Bd.state]; rfl
 have N0 := Fr.nil n0
 refine Go.step (p := p) (e := e) (below := below) (G := fun o U' => ∃ v L, o = .returned v ∧ Q_rmMO3 Z hd ke so tb kb x0 x1 x2 cs h0 n0 v U'.heap L ∧ FrameEnd s o U' L rm_rmMO3.cells rm_rmMO3.slots) (S' := s₁.setTop (mkF m 0 #[rv hd] [])) (fun t k => castTop (ef_rmMO3 m hd) k) ?_
 refine Go.step (S' := s₁.setTop (mkF m 3 #[rv hd] [(.ref hd), (.int (40 : Int32))])) (fun t k => ?_) ?_
 · refine XS.bipush X0.here hx rfl (hb hby d24_0) ?_
   refine XS.aloadN X0.here hx rfl (hb hby d24_2) rfl rfl ?_
   exact k
 obtain ⟨cq1, q1, q1'⟩ := E_h.cell
 obtain ⟨_, _, ⟨T1, L1, k1, n1⟩, -, X1, ⟨Lc1, hQ1, l1, y1, z1⟩, st1⟩ := X0.privateBack hx (y := y_22) hown (mvT hZ (own_w hw 142 rfl)) (mvT hZ (own_w hw 143 rfl)) (own_selP hZ (own_w hw 38 rfl) (own_w hw 143 rfl) (own_w hw 144 rfl) (by decide)) (Cond.privateMethod_at (mvP hZ (own_w hw 144 rfl) (args := #[]))) (mvT hZ (own_w hw 145 rfl)) (by decide) (backOf (W := 1) (rmKL3 l Z a0 hw [] hd ke so tb kb x0 x1 x2 cs h0 n0 O F_key E_ke F_value_ke E_so F_value_so F_coder_so V_tb S_CS hcs) hZ (own_w hw 145 rfl) (own_w hw 39 rfl) (by decide) (by decide)) (g := (mkF m 3 #[rv hd] [(.ref hd), (.int (40 : Int32))])) rfl (by rw [hml]; rfl) (Steps.refl _) (a := hd) (by rw [e0]; exact q1) q1' (argsL := []) (rest := [(.int (40 : Int32))]) (lenOf pd__28_29I rfl) rfl (Nat.le_of_eq rfl) (hb hby d24_3) (fun _ _ => ⟨rfl, e0, (by decide : 0 + 0 ≤ _), (by decide : 0 + 0 ≤ _)⟩)
 dsimp only [Pt.U, Pt.locs, Pt.cells, Pt.slots] at X1 l1 y1 z1 st1 hQ1
 subst l1 y1 z1
 obtain ⟨rfl, Nq1, e1⟩ := hQ1
 have N1 := Fr.app N0 Nq1
 refine Go.step (fun t k => st1.trans k) ?_
 refine Go.step (S' := T1.setTop (mkF m 7 #[rv hd] [(.int ((40 : Int32) + (3 : Int32)))])) (fun t k => ?_) ?_
 · refine XS.iadd X1.here hx rfl (hb hby d24_6) rfl ?_
   exact k
 rw [show ((40 : Int32) + (3 : Int32)) = (43 : Int32) from by decide]
 show Go p e below _ (T1.setTop (mkF m 7 #[rv hd] [(.int (43 : Int32))]))
 refine Go.step (S' := T1.setTop (mkF m 8 #[rv hd] [(.long ((43 : Int32).toInt64))])) (fun t k => ?_) ?_
 · refine XS.i2l X1.here hx rfl (hb hby d24_7) rfl ?_
   exact k
 rw [show ((43 : Int32).toInt64) = (43 : Int64) from by decide]
 show Go p e below _ (T1.setTop (mkF m 8 #[rv hd] [(.long (43 : Int64))]))
 obtain ⟨fs, hr, hrun, hended, hW, hsame⟩ := X1.leave (v := some (.long (43 : Int64))) (fun h => by rw [Bd.returns] at h; cases h)
 refine Go.fin (S' := T1.setFrames fs) ?_ hrun hended ⟨_, _, rfl, ?_, ⟨_, rfl⟩, hW, hsame.mono (by decide) (by decide)⟩
 · exact retOut X1 hx Bd.returns rfl (Or.inr (Or.inl ⟨rfl, rfl, _, rfl⟩)) (hb hby d24_8) hr
 · show Q_rmMO3 Z hd ke so tb kb x0 x1 x2 cs h0 n0 (some (.long (43 : Int64))) T1.heap _
   rw [e1]
   exact ⟨rfl, N1, rfl⟩
theorem ef_rmCO3 (m : MethodId) (hd : Addr) : entryFrame m #[(.ref hd)] 1 = mkF m 0 #[.val (.ref hd)] [] := by first | (simp [entryFrame, mkF, argsToLocals, Value.category]; done) | rfl
abbrev rm_rmCO3 : Room := ({ frames := 4, cells := 0, slots := 0, locals := 50 } : Room)
def Q_rmCO3 (Z : State) (hd : Addr) (ke : Addr) (so : Addr) (tb : Addr) (kb : ClassId) (x0 : Int32) (x1 : Int32) (x2 : Int32) (cs : Int32) (m1 : Int32) (h0 : Heap) (n0 : Nat) (v : Option Value) (h : Heap) (L : List Loc) : Prop := (v = some (.long ((43 : Int64) + (m1.toInt64)))) ∧ (Fr n0 L) ∧ (h = h0)
set_option maxRecDepth 65536 in
set_option maxHeartbeats 4000000 in
theorem rmCO3 (l : Launch) (Z : State) (a0 : Array Value) (hw : ∀ d ∈ tables_1, d.before a0 Z = true) (ws : List Jvm.Cond) (hd : Addr) (ke : Addr) (so : Addr) (tb : Addr) (kb : ClassId) (x0 : Int32) (x1 : Int32) (x2 : Int32) (cs : Int32) (m1 : Int32) (h0 : Heap) (n0 : Nat) (O : Old Z n0 h0) (F_key : Fld Z h0 hd "com/example/tombsweep/tombsweep/io/RecordHeader" "key" "Lcom/example/tombsweep/tombsweep/model/BlobKey;" (.ref ke)) (E_ke : Exa Z h0 ke "com/example/tombsweep/tombsweep/model/BlobKey") (F_value_ke : Fld Z h0 ke "com/example/tombsweep/tombsweep/model/BlobKey" "value" "Ljava/lang/String;" (.ref so)) (E_so : Exa Z h0 so "java/lang/String") (F_value_so : Fld Z h0 so "java/lang/String" "value" "[B" (.ref tb)) (F_coder_so : Fld Z h0 so "java/lang/String" "coder" "B" (.int (0 : Int32))) (V_tb : Arv Z h0 tb kb .byte (3 : Int32) [(.int (x0.toInt8.toInt32)), (.int (x1.toInt8.toInt32)), (.int (x2.toInt8.toInt32))] (.int (0 : Int32))) (S_CS : Sta Z Z.heap "java/lang/String" "COMPACT_STRINGS" "Z" (.int cs)) (E_h : Exa Z h0 hd "com/example/tombsweep/tombsweep/io/RecordHeader") (F_ml : Fld Z h0 hd "com/example/tombsweep/tombsweep/io/RecordHeader" "metadataLength" "I" (.int m1)) (hcs : ¬ (cs = (0 : Int32))) :
    MetFree l y_24 (head1 (Jvm.Cond.code y_24 prog_5_method_12_code 1 (some .long) :: ws) rm_rmCO3) (fun A_ U => A_ = #[(.ref hd)] ∧ Z.Warmed39 U.vm ∧ U.heap = h0) (fun _ _ _ _ _ => True) (fun _ U o U' => ∃ v L, o = .returned v ∧ Q_rmCO3 Z hd ke so tb kb x0 x1 x2 cs m1 h0 n0 v U'.heap L ∧ FrameEnd U o U' L rm_rmCO3.cells rm_rmCO3.slots) := by
 refine MetFree.of_bodySF (plainFor_of_name pn_com_example_tombsweep_tombsweep_io_RecordHeader) hisR ?_
 intro p e s m args below meth c s₁ Bd hml0 hP hK
 obtain ⟨rfl, hZ, hh⟩ := hP
 have hx := Bd.exec
 have hby := Bd.bytes
 have hml : c.maxLocals = 1 := hml0
 have hown : s.vm.findClass "com/example/tombsweep/tombsweep/io/RecordHeader" = some m.cls := findClass_of_methodNamed Bd.named
 have hnm := (name_of_methodNamed Bd.named Bd.method).1
 have X0 : Stand p l e rm_rmCO3 s m #[(.ref hd)] below meth c s₁ [] 0 0 := Stand.of_body Bd
 have e0 : s₁.heap = h0 := by rw [← hh, Bd.state]; rfl
 have N0 := Fr.nil n0
 refine Go.step (p := p) (e := e) (below := below) (G := fun o U' => ∃ v L, o = .returned v ∧ Q_rmCO3 Z hd ke so tb kb x0 x1 x2 cs m1 h0 n0 v U'.heap L ∧ FrameEnd s o U' L rm_rmCO3.cells rm_rmCO3.slots) (S' := s₁.setTop (mkF m 0 #[rv hd] [])) (fun t k => castTop (ef_rmCO3 m hd) k) ?_
 refine Go.step (S' := s₁.setTop (mkF m 1 #[rv hd] [(.ref hd)])) (fun t k => ?_) ?_
 · refine XS.aloadN X0.here hx rfl (hb hby d23_0) rfl rfl ?_
   exact k
 obtain ⟨cq1, kq1, q1a, q1b, q1c⟩ := isOf hZ e0 E_h
 obtain ⟨_, _, ⟨T1, L1, k1, n1⟩, -, X1, ⟨Lc1, hQ1, l1, y1, z1⟩, st1⟩ := X0.virtualBack hx (y := y_23) (z := y_23) hown (mvT hZ (own_w hw 137 rfl)) (mvT hZ (own_w hw 138 rfl)) (notFace_of_selects (args := #[]) (mvT hZ (own_w hw 140 rfl))) (mvT hZ (own_w hw 140 rfl)) (mvT hZ (own_w hw 139 rfl)) (by decide) (backOf (W := 0) (rmMO3 l Z a0 hw [] hd ke so tb kb x0 x1 x2 cs h0 n0 O F_key E_ke F_value_ke E_so F_value_so F_coder_so V_tb S_CS E_h hcs) hZ (own_w hw 141 rfl) (own_w hw 39 rfl) (by decide) (by decide)) q1a q1c (g := (mkF m 1 #[rv hd] [(.ref hd)])) rfl (by rw [hml]; rfl) (Steps.refl _) (argsL := []) (rest := []) (lenOf pd__28_29J rfl) rfl (Nat.le_of_eq rfl) (hb hby d23_1) (fun _ _ => ⟨rfl, e0, (by decide : 0 + 0 ≤ _), (by decide : 0 + 0 ≤ _)⟩)
 dsimp only [Pt.U, Pt.locs, Pt.cells, Pt.slots] at X1 l1 y1 z1 st1 hQ1
 subst l1 y1 z1
 obtain ⟨rfl, Nq1, e1⟩ := hQ1
 have N1 := Fr.app N0 Nq1
 refine Go.step (fun t k => st1.trans k) ?_
 refine Go.step (S' := T1.setTop (mkF m 5 #[rv hd] [(.ref hd), (.long (43 : Int64))])) (fun t k => ?_) ?_
 · refine XS.aloadN X1.here hx rfl (hb hby d23_4) rfl rfl ?_
   exact k
 obtain ⟨T2, X2, e2, st2⟩ := getF X1 hx hZ hown (host := "") (Or.inl (own_w hw 115 rfl)) Via.refl e1 F_ml (g := (mkF m 5 #[rv hd] [(.ref hd), (.long (43 : Int64))])) rfl rfl (hb hby d23_5)
 refine Go.step st2 ?_
 refine Go.step (S' := T2.setTop (mkF m 10 #[rv hd] [(.long ((43 : Int64) + (m1.toInt64)))])) (fun t k => ?_) ?_
 · refine XS.i2l X2.here hx rfl (hb hby d23_8) rfl ?_
   refine XS.ladd X2.here hx rfl (hb hby d23_9) rfl ?_
   exact k
 obtain ⟨fs, hr, hrun, hended, hW, hsame⟩ := X2.leave (v := some (.long ((43 : Int64) + (m1.toInt64)))) (fun h => by rw [Bd.returns] at h; cases h)
 refine Go.fin (S' := T2.setFrames fs) ?_ hrun hended ⟨_, _, rfl, ?_, ⟨_, rfl⟩, hW, hsame.mono (by decide) (by decide)⟩
 · exact retOut X2 hx Bd.returns rfl (Or.inr (Or.inl ⟨rfl, rfl, _, rfl⟩)) (hb hby d23_10) hr
 · show Q_rmCO3 Z hd ke so tb kb x0 x1 x2 cs m1 h0 n0 (some (.long ((43 : Int64) + (m1.toInt64)))) T2.heap _
   rw [e2]
   exact ⟨rfl, N1, rfl⟩
theorem ef_rmFit3Y (m : MethodId) (hd : Addr) (rr : Int64) : entryFrame m #[(.ref hd), (.long rr)] 3 = mkF m 0 #[.val (.ref hd), .val (.long rr), .second] [] := by first | (simp [entryFrame, mkF, argsToLocals, Value.category]; done) | rfl
abbrev rm_rmFit3Y : Room := ({ frames := 5, cells := 0, slots := 0, locals := 66 } : Room)
def Q_rmFit3Y (Z : State) (hd : Addr) (rr : Int64) (ke : Addr) (so : Addr) (tb : Addr) (kb : ClassId) (x0 : Int32) (x1 : Int32) (x2 : Int32) (cs : Int32) (m1 : Int32) (q3 : Int64) (h0 : Heap) (n0 : Nat) (v : Option Value) (h : Heap) (L : List Loc) : Prop := (v = some (.int (1 : Int32))) ∧ (Fr n0 L) ∧ (h = h0)
set_option maxRecDepth 65536 in
set_option maxHeartbeats 4000000 in
theorem rmFit3Y (l : Launch) (Z : State) (a0 : Array Value) (hw : ∀ d ∈ tables_1, d.before a0 Z = true) (ws : List Jvm.Cond) (hd : Addr) (rr : Int64) (ke : Addr) (so : Addr) (tb : Addr) (kb : ClassId) (x0 : Int32) (x1 : Int32) (x2 : Int32) (cs : Int32) (m1 : Int32) (q3 : Int64) (h0 : Heap) (n0 : Nat) (O : Old Z n0 h0) (F_key : Fld Z h0 hd "com/example/tombsweep/tombsweep/io/RecordHeader" "key" "Lcom/example/tombsweep/tombsweep/model/BlobKey;" (.ref ke)) (E_ke : Exa Z h0 ke "com/example/tombsweep/tombsweep/model/BlobKey") (F_value_ke : Fld Z h0 ke "com/example/tombsweep/tombsweep/model/BlobKey" "value" "Ljava/lang/String;" (.ref so)) (E_so : Exa Z h0 so "java/lang/String") (F_value_so : Fld Z h0 so "java/lang/String" "value" "[B" (.ref tb)) (F_coder_so : Fld Z h0 so "java/lang/String" "coder" "B" (.int (0 : Int32))) (V_tb : Arv Z h0 tb kb .byte (3 : Int32) [(.int (x0.toInt8.toInt32)), (.int (x1.toInt8.toInt32)), (.int (x2.toInt8.toInt32))] (.int (0 : Int32))) (S_CS : Sta Z Z.heap "java/lang/String" "COMPACT_STRINGS" "Z" (.int cs)) (E_h : Exa Z h0 hd "com/example/tombsweep/tombsweep/io/RecordHeader") (F_ml : Fld Z h0 hd "com/example/tombsweep/tombsweep/io/RecordHeader" "metadataLength" "I" (.int m1)) (F_cl : Fld Z h0 hd "com/example/tombsweep/tombsweep/io/RecordHeader" "contentLength" "J" (.long q3)) (hcs : ¬ (cs = (0 : Int32))) (hf : ¬ ((rr - ((43 : Int64) + (m1.toInt64))) < q3)) :
    MetFree l y_25 (head1 (Jvm.Cond.code y_25 prog_5_method_14_code 3 (some .boolean) :: ws) rm_rmFit3Y) (fun A_ U => A_ = #[(.ref hd), (.long rr)] ∧ Z.Warmed39 U.vm ∧ U.heap = h0) (fun _ _ _ _ _ => True) (fun _ U o U' => ∃ v L, o = .returned v ∧ Q_rmFit3Y Z hd rr ke so tb kb x0 x1 x2 cs m1 q3 h0 n0 v U'.heap L ∧ FrameEnd U o U' L rm_rmFit3Y.cells rm_rmFit3Y.slots) := by
 refine MetFree.of_bodySF (plainFor_of_name pn_com_example_tombsweep_tombsweep_io_RecordHeader) hisR ?_
 intro p e s m args below meth c s₁ Bd hml0 hP hK
 obtain ⟨rfl, hZ, hh⟩ := hP
 have hx := Bd.exec
 have hby := Bd.bytes
 have hml : c.maxLocals = 3 := hml0
 have hown : s.vm.findClass "com/example/tombsweep/tombsweep/io/RecordHeader" = some m.cls := findClass_of_methodNamed Bd.named
 have hnm := (name_of_methodNamed Bd.named Bd.method).1
 have X0 : Stand p l e rm_rmFit3Y s m #[(.ref hd), (.long rr)] below meth c s₁ [] 0 0 := Stand.of_body Bd
 have e0 : s₁.heap = h0 := by rw [← hh, Bd.state]; rfl
 have N0 := Fr.nil n0
 refine Go.step (p := p) (e := e) (below := below) (G := fun o U' => ∃ v L, o = .returned v ∧ Q_rmFit3Y Z hd rr ke so tb kb x0 x1 x2 cs m1 q3 h0 n0 v U'.heap L ∧ FrameEnd s o U' L rm_rmFit3Y.cells rm_rmFit3Y.slots) (S' := s₁.setTop (mkF m 0 #[rv hd, lv rr, .second] [])) (fun t k => castTop (ef_rmFit3Y m hd rr) k) ?_
 refine Go.step (S' := s₁.setTop (mkF m 1 #[rv hd, lv rr, .second] [(.ref hd)])) (fun t k => ?_) ?_
 · refine XS.aloadN X0.here hx rfl (hb hby d22_0) rfl rfl ?_
   exact k
 obtain ⟨T1, X1, e1, st1⟩ := getF X0 hx hZ hown (host := "") (Or.inl (own_w hw 121 rfl)) Via.refl e0 F_cl (g := (mkF m 1 #[rv hd, lv rr, .second] [(.ref hd)])) rfl rfl (hb hby d22_1)
 refine Go.step st1 ?_
 refine Go.step (S' := T1.setTop (mkF m 6 #[rv hd, lv rr, .second] [(.ref hd), (.long rr), (.long q3)])) (fun t k => ?_) ?_
 · refine XS.lloadN X1.here hx rfl (hb hby d22_4) rfl ?_
   refine XS.aloadN X1.here hx rfl (hb hby d22_5) rfl rfl ?_
   exact k
 obtain ⟨cq2, kq2, q2a, q2b, q2c⟩ := isOf hZ e1 E_h
 obtain ⟨_, _, ⟨T2, L2, k2, n2⟩, -, X2, ⟨Lc2, hQ2, l2, y2, z2⟩, st2⟩ := X1.virtualBack hx (y := y_24) (z := y_24) hown (mvT hZ (own_w hw 132 rfl)) (mvT hZ (own_w hw 133 rfl)) (notFace_of_selects (args := #[]) (mvT hZ (own_w hw 135 rfl))) (mvT hZ (own_w hw 135 rfl)) (mvT hZ (own_w hw 134 rfl)) (by decide) (backOf (W := 4) (rmCO3 l Z a0 hw [] hd ke so tb kb x0 x1 x2 cs m1 h0 n0 O F_key E_ke F_value_ke E_so F_value_so F_coder_so V_tb S_CS E_h F_ml hcs) hZ (own_w hw 136 rfl) (own_w hw 39 rfl) (by decide) (by decide)) q2a q2c (g := (mkF m 6 #[rv hd, lv rr, .second] [(.ref hd), (.long rr), (.long q3)])) rfl (by rw [hml]; rfl) (Steps.refl _) (argsL := []) (rest := [(.long rr), (.long q3)]) (lenOf pd__28_29J rfl) rfl (Nat.le_of_eq rfl) (hb hby d22_6) (fun _ _ => ⟨rfl, e1, (by decide : 0 + 0 ≤ _), (by decide : 0 + 0 ≤ _)⟩)
 dsimp only [Pt.U, Pt.locs, Pt.cells, Pt.slots] at X2 l2 y2 z2 st2 hQ2
 subst l2 y2 z2
 obtain ⟨rfl, Nq2, e2⟩ := hQ2
 have N2 := Fr.app N0 Nq2
 refine Go.step (fun t k => st2.trans k) ?_
 refine Go.step (S' := T2.setTop (mkF m 19 #[rv hd, lv rr, .second] [(.int (1 : Int32))])) (fun t k => ?_) ?_
 · refine XS.lsub X2.here hx rfl (hb hby d22_9) rfl ?_
   refine XS.lcmp X2.here hx rfl (hb hby d22_10) rfl ?_
   refine XS.ifNo X2.here hx rfl (hb hby d22_11) rfl ((if0 _ _).trans (flt (fun zq => absurd ((lw_gt q3 (rr - ((43 : Int64) + (m1.toInt64)))).mp zq) hf)).2.2.1) ?_
   refine XS.iconst X2.here hx rfl (hb hby d22_14) ?_
   refine XS.goto X2.here hx rfl (pc0 := 15) (pc' := 19) rfl (hb hby d22_15) (by decide) (by decide) ?_
   exact k
 obtain ⟨fs, hr, hrun, hended, hW, hsame⟩ := X2.leave (v := some (.int (1 : Int32))) (fun h => by rw [Bd.returns] at h; cases h)
 refine Go.fin (S' := T2.setFrames fs) ?_ hrun hended ⟨_, _, rfl, ?_, ⟨_, rfl⟩, hW, hsame.mono (by decide) (by decide)⟩
 · exact retOut X2 hx Bd.returns (by decide) (Or.inl ⟨rfl, Or.inr (Or.inl rfl), _, rfl⟩) (hb hby d22_19) hr
 · show Q_rmFit3Y Z hd rr ke so tb kb x0 x1 x2 cs m1 q3 h0 n0 (some (.int (1 : Int32))) T2.heap _
   rw [e2]
   exact ⟨rfl, N2, rfl⟩
theorem ef_rmFit3N (m : MethodId) (hd : Addr) (rr : Int64) : entryFrame m #[(.ref hd), (.long rr)] 3 = mkF m 0 #[.val (.ref hd), .val (.long rr), .second] [] := by first | (simp [entryFrame, mkF, argsToLocals, Value.category]; done) | rfl
abbrev rm_rmFit3N : Room := ({ frames := 5, cells := 0, slots := 0, locals := 66 } : Room)
def Q_rmFit3N (Z : State) (hd : Addr) (rr : Int64) (ke : Addr) (so : Addr) (tb : Addr) (kb : ClassId) (x0 : Int32) (x1 : Int32) (x2 : Int32) (cs : Int32) (m1 : Int32) (q3 : Int64) (h0 : Heap) (n0 : Nat) (v : Option Value) (h : Heap) (L : List Loc) : Prop := (v = some (.int (0 : Int32))) ∧ (Fr n0 L) ∧ (h = h0)
set_option maxRecDepth 65536 in
set_option maxHeartbeats 4000000 in
theorem rmFit3N (l : Launch) (Z : State) (a0 : Array Value) (hw : ∀ d ∈ tables_1, d.before a0 Z = true) (ws : List Jvm.Cond) (hd : Addr) (rr : Int64) (ke : Addr) (so : Addr) (tb : Addr) (kb : ClassId) (x0 : Int32) (x1 : Int32) (x2 : Int32) (cs : Int32) (m1 : Int32) (q3 : Int64) (h0 : Heap) (n0 : Nat) (O : Old Z n0 h0) (F_key : Fld Z h0 hd "com/example/tombsweep/tombsweep/io/RecordHeader" "key" "Lcom/example/tombsweep/tombsweep/model/BlobKey;" (.ref ke)) (E_ke : Exa Z h0 ke "com/example/tombsweep/tombsweep/model/BlobKey") (F_value_ke : Fld Z h0 ke "com/example/tombsweep/tombsweep/model/BlobKey" "value" "Ljava/lang/String;" (.ref so)) (E_so : Exa Z h0 so "java/lang/String") (F_value_so : Fld Z h0 so "java/lang/String" "value" "[B" (.ref tb)) (F_coder_so : Fld Z h0 so "java/lang/String" "coder" "B" (.int (0 : Int32))) (V_tb : Arv Z h0 tb kb .byte (3 : Int32) [(.int (x0.toInt8.toInt32)), (.int (x1.toInt8.toInt32)), (.int (x2.toInt8.toInt32))] (.int (0 : Int32))) (S_CS : Sta Z Z.heap "java/lang/String" "COMPACT_STRINGS" "Z" (.int cs)) (E_h : Exa Z h0 hd "com/example/tombsweep/tombsweep/io/RecordHeader") (F_ml : Fld Z h0 hd "com/example/tombsweep/tombsweep/io/RecordHeader" "metadataLength" "I" (.int m1)) (F_cl : Fld Z h0 hd "com/example/tombsweep/tombsweep/io/RecordHeader" "contentLength" "J" (.long q3)) (hcs : ¬ (cs = (0 : Int32))) (hf : (rr - ((43 : Int64) + (m1.toInt64))) < q3) :
    MetFree l y_25 (head1 (Jvm.Cond.code y_25 prog_5_method_14_code 3 (some .boolean) :: ws) rm_rmFit3N) (fun A_ U => A_ = #[(.ref hd), (.long rr)] ∧ Z.Warmed39 U.vm ∧ U.heap = h0) (fun _ _ _ _ _ => True) (fun _ U o U' => ∃ v L, o = .returned v ∧ Q_rmFit3N Z hd rr ke so tb kb x0 x1 x2 cs m1 q3 h0 n0 v U'.heap L ∧ FrameEnd U o U' L rm_rmFit3N.cells rm_rmFit3N.slots) := by
 refine MetFree.of_bodySF (plainFor_of_name pn_com_example_tombsweep_tombsweep_io_RecordHeader) hisR ?_
 intro p e s m args below meth c s₁ Bd hml0 hP hK
 obtain ⟨rfl, hZ, hh⟩ := hP
 have hx := Bd.exec
 have hby := Bd.bytes
 have hml : c.maxLocals = 3 := hml0
 have hown : s.vm.findClass "com/example/tombsweep/tombsweep/io/RecordHeader" = some m.cls := findClass_of_methodNamed Bd.named
 have hnm := (name_of_methodNamed Bd.named Bd.method).1
 have X0 : Stand p l e rm_rmFit3N s m #[(.ref hd), (.long rr)] below meth c s₁ [] 0 0 := Stand.of_body Bd
 have e0 : s₁.heap = h0 := by rw [← hh, Bd.state]; rfl
 have N0 := Fr.nil n0
 refine Go.step (p := p) (e := e) (below := below) (G := fun o U' => ∃ v L, o = .returned v ∧ Q_rmFit3N Z hd rr ke so tb kb x0 x1 x2 cs m1 q3 h0 n0 v U'.heap L ∧ FrameEnd s o U' L rm_rmFit3N.cells rm_rmFit3N.slots) (S' := s₁.setTop (mkF m 0 #[rv hd, lv rr, .second] [])) (fun t k => castTop (ef_rmFit3N m hd rr) k) ?_
 refine Go.step (S' := s₁.setTop (mkF m 1 #[rv hd, lv rr, .second] [(.ref hd)])) (fun t k => ?_) ?_
 · refine XS.aloadN X0.here hx rfl (hb hby d22_0) rfl rfl ?_
   exact k
 obtain ⟨T1, X1, e1, st1⟩ := getF X0 hx hZ hown (host := "") (Or.inl (own_w hw 121 rfl)) Via.refl e0 F_cl (g := (mkF m 1 #[rv hd, lv rr, .second] [(.ref hd)])) rfl rfl (hb hby d22_1)
 refine Go.step st1 ?_
 refine Go.step (S' := T1.setTop (mkF m 6 #[rv hd, lv rr, .second] [(.ref hd), (.long rr), (.long q3)])) (fun t k => ?_) ?_
 · refine XS.lloadN X1.here hx rfl (hb hby d22_4) rfl ?_
   refine XS.aloadN X1.here hx rfl (hb hby d22_5) rfl rfl ?_
   exact k
 obtain ⟨cq2, kq2, q2a, q2b, q2c⟩ := isOf hZ e1 E_h
 obtain ⟨_, _, ⟨T2, L2, k2, n2⟩, -, X2, ⟨Lc2, hQ2, l2, y2, z2⟩, st2⟩ := X1.virtualBack hx (y := y_24) (z := y_24) hown (mvT hZ (own_w hw 132 rfl)) (mvT hZ (own_w hw 133 rfl)) (notFace_of_selects (args := #[]) (mvT hZ (own_w hw 135 rfl))) (mvT hZ (own_w hw 135 rfl)) (mvT hZ (own_w hw 134 rfl)) (by decide) (backOf (W := 4) (rmCO3 l Z a0 hw [] hd ke so tb kb x0 x1 x2 cs m1 h0 n0 O F_key E_ke F_value_ke E_so F_value_so F_coder_so V_tb S_CS E_h F_ml hcs) hZ (own_w hw 136 rfl) (own_w hw 39 rfl) (by decide) (by decide)) q2a q2c (g := (mkF m 6 #[rv hd, lv rr, .second] [(.ref hd), (.long rr), (.long q3)])) rfl (by rw [hml]; rfl) (Steps.refl _) (argsL := []) (rest := [(.long rr), (.long q3)]) (lenOf pd__28_29J rfl) rfl (Nat.le_of_eq rfl) (hb hby d22_6) (fun _ _ => ⟨rfl, e1, (by decide : 0 + 0 ≤ _), (by decide : 0 + 0 ≤ _)⟩)
 dsimp only [Pt.U, Pt.locs, Pt.cells, Pt.slots] at X2 l2 y2 z2 st2 hQ2
 subst l2 y2 z2
 obtain ⟨rfl, Nq2, e2⟩ := hQ2
 have N2 := Fr.app N0 Nq2
 refine Go.step (fun t k => st2.trans k) ?_
 refine Go.step (S' := T2.setTop (mkF m 19 #[rv hd, lv rr, .second] [(.int (0 : Int32))])) (fun t k => ?_) ?_
 · refine XS.lsub X2.here hx rfl (hb hby d22_9) rfl ?_
   refine XS.lcmp X2.here hx rfl (hb hby d22_10) rfl ?_
   refine XS.ifYes X2.here hx rfl (pc0 := 11) (pc' := 18) rfl (hb hby d22_11) rfl ((if0 _ _).trans (tlt ((lw_gt q3 (rr - ((43 : Int64) + (m1.toInt64)))).mpr hf)).2.2.1) (by decide) (by decide) ?_
   refine XS.iconst X2.here hx rfl (hb hby d22_18) ?_
   exact k
 obtain ⟨fs, hr, hrun, hended, hW, hsame⟩ := X2.leave (v := some (.int (0 : Int32))) (fun h => by rw [Bd.returns] at h; cases h)
 refine Go.fin (S' := T2.setFrames fs) ?_ hrun hended ⟨_, _, rfl, ?_, ⟨_, rfl⟩, hW, hsame.mono (by decide) (by decide)⟩
 · exact retOut X2 hx Bd.returns (by decide) (Or.inl ⟨rfl, Or.inr (Or.inl rfl), _, rfl⟩) (hb hby d22_19) hr
 · show Q_rmFit3N Z hd rr ke so tb kb x0 x1 x2 cs m1 q3 h0 n0 (some (.int (0 : Int32))) T2.heap _
   rw [e2]
   exact ⟨rfl, N2, rfl⟩
theorem ef_rmBK4 (m : MethodId) (a : Addr) (so : Addr) : entryFrame m #[(.ref a), (.ref so)] 4 = mkF m 0 #[.val (.ref a), .val (.ref so), .unset, .unset] [] := by first | (simp [entryFrame, mkF, argsToLocals, Value.category]; done) | rfl
abbrev rm_rmBK4 : Room := ({ frames := 4, cells := 2, slots := 24, locals := 53 } : Room)
def Q_rmBK4 (Z : State) (a : Addr) (so : Addr) (tb : Addr) (kb : ClassId) (x0 : Int32) (x1 : Int32) (x2 : Int32) (x3 : Int32) (cs : Int32) (sf : Value) (h0 : Heap) (n0 : Nat) (v : Option Value) (h : Heap) (L : List Loc) : Prop := (v = none) ∧ (Fr n0 L) ∧ (Keep h0 h [a]) ∧ (Exa Z h a "com/example/tombsweep/tombsweep/model/BlobKey") ∧ (Fld Z h a "com/example/tombsweep/tombsweep/model/BlobKey" "value" "Ljava/lang/String;" (.ref so))
set_option maxRecDepth 65536 in
set_option maxHeartbeats 4000000 in
theorem rmBK4 (l : Launch) (Z : State) (a0 : Array Value) (hw : ∀ d ∈ tables_1, d.before a0 Z = true) (ws : List Jvm.Cond) (a : Addr) (so : Addr) (tb : Addr) (kb : ClassId) (x0 : Int32) (x1 : Int32) (x2 : Int32) (x3 : Int32) (cs : Int32) (sf : Value) (h0 : Heap) (n0 : Nat) (O : Old Z n0 h0) (S_CS : Sta Z Z.heap "java/lang/String" "COMPACT_STRINGS" "Z" (.int cs)) (S_FM : Sta Z Z.heap "jdk/internal/util/Preconditions" "SIOOBE_FORMATTER" "Ljava/util/function/BiFunction;" sf) (E_so : Exa Z h0 so "java/lang/String") (F_value_so : Fld Z h0 so "java/lang/String" "value" "[B" (.ref tb)) (F_coder_so : Fld Z h0 so "java/lang/String" "coder" "B" (.int (0 : Int32))) (V_tb : Arv Z h0 tb kb .byte (4 : Int32) [(.int (x0.toInt8.toInt32)), (.int (x1.toInt8.toInt32)), (.int (x2.toInt8.toInt32)), (.int (x3.toInt8.toInt32))] (.int (0 : Int32))) (E_a : Exa Z h0 a "com/example/tombsweep/tombsweep/model/BlobKey") (F_value_a : Fld Z h0 a "com/example/tombsweep/tombsweep/model/BlobKey" "value" "Ljava/lang/String;" .null) (g_a : n0 ≤ a) (hcs : ¬ (cs = (0 : Int32))) (hsf : sf.isRef = true) (r0_0 : ¬ (x0 < (97 : Int32))) (r0_1 : ¬ ((122 : Int32) < x0)) (r0_2 : ¬ (x0 < (0 : Int32))) (r0_3 : ¬ ((255 : Int32) < x0)) (r1_0 : ¬ (x1 < (97 : Int32))) (r1_1 : ¬ ((122 : Int32) < x1)) (r1_2 : ¬ (x1 < (0 : Int32))) (r1_3 : ¬ ((255 : Int32) < x1)) (r2_0 : ¬ (x2 < (97 : Int32))) (r2_1 : ¬ ((122 : Int32) < x2)) (r2_2 : ¬ (x2 < (0 : Int32))) (r2_3 : ¬ ((255 : Int32) < x2)) (r3_0 : ¬ (x3 < (97 : Int32))) (r3_1 : ¬ ((122 : Int32) < x3)) (r3_2 : ¬ (x3 < (0 : Int32))) (r3_3 : ¬ ((255 : Int32) < x3)) :
    MetFree l y_21 (head1 (Jvm.Cond.code y_21 prog_11_method_1_code 4 none :: ws) rm_rmBK4) (fun A_ U => A_ = #[(.ref a), (.ref so)] ∧ Z.Warmed39 U.vm ∧ U.heap = h0) (fun _ _ _ _ _ => True) (fun _ U o U' => ∃ v L, o = .returned v ∧ Q_rmBK4 Z a so tb kb x0 x1 x2 x3 cs sf h0 n0 v U'.heap L ∧ ReturnedEndW U o U' L rm_rmBK4.cells rm_rmBK4.slots) := by
 refine MetFree.of_bodySF (plainFor_of_name pn_com_example_tombsweep_tombsweep_model_BlobKey) hisR ?_
 intro p e s m args below meth c s₁ Bd hml0 hP hK
 obtain ⟨rfl, hZ, hh⟩ := hP
 have hx := Bd.exec
 have hby := Bd.bytes
 have hml : c.maxLocals = 4 := hml0
 have hown : s.vm.findClass "com/example/tombsweep/tombsweep/model/BlobKey" = some m.cls := findClass_of_methodNamed Bd.named
 have hnm := (name_of_methodNamed Bd.named Bd.method).1
 have X0 : Stand p l e rm_rmBK4 (s.setVm s.vm) m #[(.ref a), (.ref so)] below meth c s₁ [] 0 0 := Stand.of_body Bd
 have e0 : s₁.heap = h0 := by rw [← hh, Bd.state]; rfl
 have N0 := Fr.nil n0
 have K := Keep.refl h0 [a]
 have hS : s.Since s.vm 0 := (State.WarmedH.refl s).since 0
 have hk : 0 ≤ h0.size := Nat.zero_le _
 have wS := own_wS hw
 refine Go.step (p := p) (e := e) (below := below) (G := fun o U' => ∃ v L, o = .returned v ∧ Q_rmBK4 Z a so tb kb x0 x1 x2 x3 cs sf h0 n0 v U'.heap L ∧ ReturnedEndW s o U' L rm_rmBK4.cells rm_rmBK4.slots) (S' := s₁.setTop (mkF m 0 #[rv a, rv so, u_, u_] [])) (fun t k => castTop (ef_rmBK4 m a so) k) ?_
 refine Go.step (S' := s₁.setTop (mkF m 1 #[rv a, rv so, u_, u_] [(.ref a)])) (fun t k => ?_) ?_
 · refine XS.aloadN X0.here hx rfl (hb hby d9_0) rfl rfl ?_
   exact k
 obtain ⟨_, _, ⟨T1, L1, k1, n1⟩, -, X1, ⟨Lc1, hQ1, l1, y1, z1⟩, st1⟩ := X0.specialBack hx (y := y_16) rfl hown (mvT hZ (own_w hw 52 rfl)) (mvT hZ (own_w hw 53 rfl)) (mvT hZ (own_w hw 56 rfl)) (by decide) (backOf (W := 0) (rmRec l Z a0 hw [] a h0 n0 O ) hZ (own_w hw 56 rfl) (own_w hw 55 rfl) (by decide) (by decide)) (g := (mkF m 1 #[rv a, rv so, u_, u_] [(.ref a)])) rfl (by rw [hml]; rfl) (Steps.refl _) (a := a) (argsL := []) (rest := []) (lenOf pd__28_29V rfl) rfl (Nat.le_of_eq rfl) (hb hby d9_1) (fun _ _ => ⟨rfl, e0, (by decide : 0 + 0 ≤ _), (by decide : 0 + 0 ≤ _)⟩)
 dsimp only [Pt.U, Pt.locs, Pt.cells, Pt.slots] at X1 l1 y1 z1 st1 hQ1
 subst l1 y1 z1
 obtain ⟨rfl, Nq1, e1⟩ := hQ1
 have N1 := Fr.app N0 Nq1
 refine Go.step (fun t k => st1.trans k) ?_
 refine Go.step (S' := T1.setTop (mkF m 5 #[rv a, rv so, u_, u_] [(.ref so)])) (fun t k => ?_) ?_
 · refine XS.aloadN X1.here hx rfl (hb hby d9_4) rfl rfl ?_
   exact k
 obtain ⟨a2, T2, h2, k2, X2, e2, E2, hS, hk, hZ, hown, st2⟩ := ldcS X1 hx hZ hown (own_w hw 58 rfl) wS e1 hS hk (g := (mkF m 5 #[rv a, rv so, u_, u_] [(.ref so)])) rfl (hb hby d9_5) (n := 20) (by decide) (by decide) (by decide) (by decide)
 have O := O.ext E2
 have E_so := E_so.ext E2
 have F_value_so := F_value_so.ext E2
 have F_coder_so := F_coder_so.ext E2
 have V_tb := V_tb.ext E2
 have E_a := E_a.ext E2
 have F_value_a := F_value_a.ext E2
 have K := K.ext E2
 refine Go.step st2 ?_
 obtain ⟨_, _, ⟨T3, L3, k3, n3⟩, -, X3, ⟨Lc3, hQ3, l3, y3, z3⟩, st3⟩ := Jvm.LawKit.callS X2 hx (y := y_17) hown (mvT hZ (own_w hw 61 rfl)) (mvT hZ (own_w hw 62 rfl)) (mvT hZ (own_w hw 63 rfl)) (mvT hZ (own_w hw 64 rfl)) (by decide) (backOf (W := 0) (rmReq l Z a0 hw [] so a2 h2 n0 O ) hZ (own_w hw 64 rfl) (own_w hw 63 rfl) (by decide) (by decide)) (g := (mkF m 7 #[rv a, rv so, u_, u_] [(.ref a2), (.ref so)])) rfl (by rw [hml]; rfl) (argsL := [(.ref so), (.ref a2)]) (rest := []) (lenOf pd__28Ljava_2flang_2fObject_3bLjava_2flang_2fString_3b_29Ljava_2flang_2fObject_3b rfl) rfl (Nat.le_of_eq rfl) (hb hby d9_7) (fun _ _ => ⟨rfl, e2, (by decide : 2 + 0 ≤ _), (by decide : 24 + 0 ≤ _)⟩)
 dsimp only [Pt.U, Pt.locs, Pt.cells, Pt.slots] at X3 l3 y3 z3 st3 hQ3
 subst l3 y3 z3
 obtain ⟨rfl, Nq3, e3⟩ := hQ3
 have N3 := Fr.app N1 Nq3
 refine Go.step st3 ?_
 refine Go.step (S' := T3.setTop (mkF m 12 #[rv a, rv so, u_, u_] [(.ref so)])) (fun t k => ?_) ?_
 · refine XS.pop X3.here hx rfl (hb hby d9_10) rfl rfl ?_
   refine XS.aloadN X3.here hx rfl (hb hby d9_11) rfl rfl ?_
   exact k
 obtain ⟨cq4, kq4, q4a, q4b, q4c⟩ := isOf hZ e3 E_so
 obtain ⟨_, _, ⟨T4, L4, k4, n4⟩, -, X4, ⟨Lc4, hQ4, l4, y4, z4⟩, st4⟩ := X3.virtualBack hx (y := y_4) (z := y_4) hown (mvT hZ (own_w hw 65 rfl)) (mvT hZ (own_w hw 66 rfl)) (notFace_of_selects (args := #[]) (mvT hZ (own_w hw 68 rfl))) (mvT hZ (own_w hw 68 rfl)) (mvT hZ (own_w hw 67 rfl)) (by decide) (backOf (W := 0) (rmEmp4 l Z a0 hw [] so tb kb x0 x1 x2 x3 h2 n0 O F_value_so V_tb) hZ (own_w hw 69 rfl) (own_w hw 7 rfl) (by decide) (by decide)) q4a q4c (g := (mkF m 12 #[rv a, rv so, u_, u_] [(.ref so)])) rfl (by rw [hml]; rfl) (Steps.refl _) (argsL := []) (rest := []) (lenOf pd__28_29Z rfl) rfl (Nat.le_of_eq rfl) (hb hby d9_12) (fun _ _ => ⟨rfl, e3, (by decide : 2 + 0 ≤ _), (by decide : 24 + 0 ≤ _)⟩)
 dsimp only [Pt.U, Pt.locs, Pt.cells, Pt.slots] at X4 l4 y4 z4 st4 hQ4
 subst l4 y4 z4
 obtain ⟨rfl, Nq4, e4⟩ := hQ4
 have N4 := Fr.app N3 Nq4
 refine Go.step (fun t k => st4.trans k) ?_
 refine Go.step (S' := T4.setTop (mkF m 19 #[rv a, rv so, u_, u_] [(.ref so)])) (fun t k => ?_) ?_
 · refine XS.ifNo X4.here hx rfl (hb hby d9_15) rfl ((if0 _ _).trans (teq ((by decide) : (0 : Int32) = (0 : Int32))).2) ?_
   refine XS.aloadN X4.here hx rfl (hb hby d9_18) rfl rfl ?_
   exact k
 obtain ⟨cq5, kq5, q5a, q5b, q5c⟩ := isOf hZ e4 E_so
 obtain ⟨_, _, ⟨T5, L5, k5, n5⟩, -, X5, ⟨Lc5, hQ5, l5, y5, z5⟩, st5⟩ := X4.virtualBack hx (y := y_5) (z := y_5) hown (mvT hZ (own_w hw 70 rfl)) (mvT hZ (own_w hw 71 rfl)) (notFace_of_selects (args := #[]) (mvT hZ (own_w hw 73 rfl))) (mvT hZ (own_w hw 73 rfl)) (mvT hZ (own_w hw 72 rfl)) (by decide) (backOf (W := 0) (rmLen4 l Z a0 hw [] so tb kb x0 x1 x2 x3 cs h2 n0 O S_CS E_so F_value_so F_coder_so V_tb hcs) hZ (own_w hw 74 rfl) (own_w hw 7 rfl) (by decide) (by decide)) q5a q5c (g := (mkF m 19 #[rv a, rv so, u_, u_] [(.ref so)])) rfl (by rw [hml]; rfl) (Steps.refl _) (argsL := []) (rest := []) (lenOf pd__28_29I rfl) rfl (Nat.le_of_eq rfl) (hb hby d9_19) (fun _ _ => ⟨rfl, e4, (by decide : 2 + 0 ≤ _), (by decide : 24 + 0 ≤ _)⟩)
 dsimp only [Pt.U, Pt.locs, Pt.cells, Pt.slots] at X5 l5 y5 z5 st5 hQ5
 subst l5 y5 z5
 obtain ⟨rfl, Nq5, e5⟩ := hQ5
 have N5 := Fr.app N4 Nq5
 refine Go.step (fun t k => st5.trans k) ?_
 refine Go.step (S' := T5.setTop (mkF m 49 #[rv a, rv so, iv (0 : Int32), u_] [(.ref so), (.int (0 : Int32))])) (fun t k => ?_) ?_
 · refine XS.sipush X5.here hx rfl (hb hby d9_22) ?_
   refine XS.icmpYes X5.here hx rfl (pc0 := 25) (pc' := 45) rfl (hb hby d9_25) rfl (flt ((by decide) : ¬ ((255 : Int32) < (4 : Int32)))).2.2.2 (by decide) (by decide) ?_
   refine XS.iconst X5.here hx rfl (hb hby d9_45) ?_
   refine XS.istoreN X5.here hx rfl (hb hby d9_46) rfl (l' := #[rv a, rv so, iv (0 : Int32), u_]) rfl ?_
   refine XS.iloadN X5.here hx rfl (hb hby d9_47) rfl ?_
   refine XS.aloadN X5.here hx rfl (hb hby d9_48) rfl rfl ?_
   exact k
 obtain ⟨cq6, kq6, q6a, q6b, q6c⟩ := isOf hZ e5 E_so
 obtain ⟨_, _, ⟨T6, L6, k6, n6⟩, -, X6, ⟨Lc6, hQ6, l6, y6, z6⟩, st6⟩ := X5.virtualBack hx (y := y_5) (z := y_5) hown (mvT hZ (own_w hw 70 rfl)) (mvT hZ (own_w hw 71 rfl)) (notFace_of_selects (args := #[]) (mvT hZ (own_w hw 73 rfl))) (mvT hZ (own_w hw 73 rfl)) (mvT hZ (own_w hw 72 rfl)) (by decide) (backOf (W := 1) (rmLen4 l Z a0 hw [] so tb kb x0 x1 x2 x3 cs h2 n0 O S_CS E_so F_value_so F_coder_so V_tb hcs) hZ (own_w hw 74 rfl) (own_w hw 7 rfl) (by decide) (by decide)) q6a q6c (g := (mkF m 49 #[rv a, rv so, iv (0 : Int32), u_] [(.ref so), (.int (0 : Int32))])) rfl (by rw [hml]; rfl) (Steps.refl _) (argsL := []) (rest := [(.int (0 : Int32))]) (lenOf pd__28_29I rfl) rfl (Nat.le_of_eq rfl) (hb hby d9_49) (fun _ _ => ⟨rfl, e5, (by decide : 2 + 0 ≤ _), (by decide : 24 + 0 ≤ _)⟩)
 dsimp only [Pt.U, Pt.locs, Pt.cells, Pt.slots] at X6 l6 y6 z6 st6 hQ6
 subst l6 y6 z6
 obtain ⟨rfl, Nq6, e6⟩ := hQ6
 have N6 := Fr.app N5 Nq6
 refine Go.step (fun t k => st6.trans k) ?_
 refine Go.step (S' := T6.setTop (mkF m 57 #[rv a, rv so, iv (0 : Int32), u_] [(.int (0 : Int32)), (.ref so)])) (fun t k => ?_) ?_
 · refine XS.icmpNo X6.here hx rfl (hb hby d9_52) rfl (tlt ((by decide) : (0 : Int32) < (4 : Int32))).2.1 ?_
   refine XS.aloadN X6.here hx rfl (hb hby d9_55) rfl rfl ?_
   refine XS.iloadN X6.here hx rfl (hb hby d9_56) rfl ?_
   exact k
 obtain ⟨cq7, kq7, q7a, q7b, q7c⟩ := isOf hZ e6 E_so
 obtain ⟨_, _, ⟨T7, L7, k7, n7⟩, -, X7, ⟨Lc7, hQ7, l7, y7, z7⟩, st7⟩ := X6.virtualBack hx (y := y_7) (z := y_7) hown (mvT hZ (own_w hw 80 rfl)) (mvT hZ (own_w hw 81 rfl)) (notFace_of_selects (args := #[]) (mvT hZ (own_w hw 83 rfl))) (mvT hZ (own_w hw 83 rfl)) (mvT hZ (own_w hw 82 rfl)) (by decide) (backOf (W := 0) (rmCh4_0 l Z a0 hw [] so tb kb x0 x1 x2 x3 cs sf h2 n0 O S_CS S_FM E_so F_value_so F_coder_so V_tb hcs hsf r0_2 r0_3) hZ (own_w hw 84 rfl) (own_w hw 7 rfl) (by decide) (by decide)) q7a q7c (g := (mkF m 57 #[rv a, rv so, iv (0 : Int32), u_] [(.int (0 : Int32)), (.ref so)])) rfl (by rw [hml]; rfl) (Steps.refl _) (argsL := [(.int (0 : Int32))]) (rest := []) (lenOf pd__28I_29C rfl) rfl (Nat.le_of_eq rfl) (hb hby d9_57) (fun _ _ => ⟨rfl, e6, (by decide : 2 + 0 ≤ _), (by decide : 24 + 0 ≤ _)⟩)
 dsimp only [Pt.U, Pt.locs, Pt.cells, Pt.slots] at X7 l7 y7 z7 st7 hQ7
 subst l7 y7 z7
 obtain ⟨rfl, Nq7, e7⟩ := hQ7
 have N7 := Fr.app N6 Nq7
 refine Go.step (fun t k => st7.trans k) ?_
 refine Go.step (S' := T7.setTop (mkF m 62 #[rv a, rv so, iv (0 : Int32), iv x0] [(.int x0)])) (fun t k => ?_) ?_
 · refine XS.istoreN X7.here hx rfl (hb hby d9_60) rfl (l' := #[rv a, rv so, iv (0 : Int32), iv x0]) rfl ?_
   refine XS.iloadN X7.here hx rfl (hb hby d9_61) rfl ?_
   exact k
 obtain ⟨_, _, ⟨T8, L8, k8, n8⟩, -, X8, ⟨Lc8, hQ8, l8, y8, z8⟩, st8⟩ := Jvm.LawKit.callS X7 hx (y := y_18) hown (mvT hZ (own_w hw 102 rfl)) (mvT hZ (own_w hw 103 rfl)) (mvT hZ (own_w hw 48 rfl)) (mvT hZ (own_w hw 104 rfl)) (by decide) (backOf (W := 0) (rmKey l Z a0 hw [] x0 h2 n0 O r0_0 r0_1) hZ (own_w hw 104 rfl) (own_w hw 48 rfl) (by decide) (by decide)) (g := (mkF m 62 #[rv a, rv so, iv (0 : Int32), iv x0] [(.int x0)])) rfl (by rw [hml]; rfl) (argsL := [(.int x0)]) (rest := []) (lenOf pd__28C_29Z rfl) rfl (Nat.le_of_eq rfl) (hb hby d9_62) (fun _ _ => ⟨rfl, e7, (by decide : 2 + 0 ≤ _), (by decide : 24 + 0 ≤ _)⟩)
 dsimp only [Pt.U, Pt.locs, Pt.cells, Pt.slots] at X8 l8 y8 z8 st8 hQ8
 subst l8 y8 z8
 obtain ⟨rfl, Nq8, e8⟩ := hQ8
 have N8 := Fr.app N7 Nq8
 refine Go.step st8 ?_
 refine Go.step (S' := T8.setTop (mkF m 102 #[rv a, rv so, iv ((0 : Int32) + (1 : Int32)), iv x0] [])) (fun t k => ?_) ?_
 · refine XS.ifYes X8.here hx rfl (pc0 := 65) (pc' := 99) rfl (hb hby d9_65) rfl ((if0 _ _).trans (feq ((by decide) : ¬ ((1 : Int32) = (0 : Int32)))).2) (by decide) (by decide) ?_
   refine XS.iinc X8.here hx rfl (hb hby d9_99) rfl (l' := #[rv a, rv so, iv ((0 : Int32) + (1 : Int32)), iv x0]) rfl ?_
   exact k
 rw [show ((0 : Int32) + (1 : Int32)) = (1 : Int32) from by decide]
 show Go p e below _ (T8.setTop (mkF m 102 #[rv a, rv so, iv (1 : Int32), iv x0] []))
 refine Go.step (S' := T8.setTop (mkF m 49 #[rv a, rv so, iv (1 : Int32), iv x0] [(.ref so), (.int (1 : Int32))])) (fun t k => ?_) ?_
 · refine XS.goto X8.here hx rfl (pc0 := 102) (pc' := 47) rfl (hb hby d9_102) (by decide) (by decide) ?_
   refine XS.iloadN X8.here hx rfl (hb hby d9_47) rfl ?_
   refine XS.aloadN X8.here hx rfl (hb hby d9_48) rfl rfl ?_
   exact k
 obtain ⟨cq9, kq9, q9a, q9b, q9c⟩ := isOf hZ e8 E_so
 obtain ⟨_, _, ⟨T9, L9, k9, n9⟩, -, X9, ⟨Lc9, hQ9, l9, y9, z9⟩, st9⟩ := X8.virtualBack hx (y := y_5) (z := y_5) hown (mvT hZ (own_w hw 70 rfl)) (mvT hZ (own_w hw 71 rfl)) (notFace_of_selects (args := #[]) (mvT hZ (own_w hw 73 rfl))) (mvT hZ (own_w hw 73 rfl)) (mvT hZ (own_w hw 72 rfl)) (by decide) (backOf (W := 1) (rmLen4 l Z a0 hw [] so tb kb x0 x1 x2 x3 cs h2 n0 O S_CS E_so F_value_so F_coder_so V_tb hcs) hZ (own_w hw 74 rfl) (own_w hw 7 rfl) (by decide) (by decide)) q9a q9c (g := (mkF m 49 #[rv a, rv so, iv (1 : Int32), iv x0] [(.ref so), (.int (1 : Int32))])) rfl (by rw [hml]; rfl) (Steps.refl _) (argsL := []) (rest := [(.int (1 : Int32))]) (lenOf pd__28_29I rfl) rfl (Nat.le_of_eq rfl) (hb hby d9_49) (fun _ _ => ⟨rfl, e8, (by decide : 2 + 0 ≤ _), (by decide : 24 + 0 ≤ _)⟩)
 dsimp only [Pt.U, Pt.locs, Pt.cells, Pt.slots] at X9 l9 y9 z9 st9 hQ9
 subst l9 y9 z9
 obtain ⟨rfl, Nq9, e9⟩ := hQ9
 have N9 := Fr.app N8 Nq9
 refine Go.step (fun t k => st9.trans k) ?_
 refine Go.step (S' := T9.setTop (mkF m 57 #[rv a, rv so, iv (1 : Int32), iv x0] [(.int (1 : Int32)), (.ref so)])) (fun t k => ?_) ?_
 · refine XS.icmpNo X9.here hx rfl (hb hby d9_52) rfl (tlt ((by decide) : (1 : Int32) < (4 : Int32))).2.1 ?_
   refine XS.aloadN X9.here hx rfl (hb hby d9_55) rfl rfl ?_
   refine XS.iloadN X9.here hx rfl (hb hby d9_56) rfl ?_
   exact k
 obtain ⟨cq10, kq10, q10a, q10b, q10c⟩ := isOf hZ e9 E_so
 obtain ⟨_, _, ⟨T10, L10, k10, n10⟩, -, X10, ⟨Lc10, hQ10, l10, y10, z10⟩, st10⟩ := X9.virtualBack hx (y := y_7) (z := y_7) hown (mvT hZ (own_w hw 80 rfl)) (mvT hZ (own_w hw 81 rfl)) (notFace_of_selects (args := #[]) (mvT hZ (own_w hw 83 rfl))) (mvT hZ (own_w hw 83 rfl)) (mvT hZ (own_w hw 82 rfl)) (by decide) (backOf (W := 0) (rmCh4_1 l Z a0 hw [] so tb kb x0 x1 x2 x3 cs sf h2 n0 O S_CS S_FM E_so F_value_so F_coder_so V_tb hcs hsf r1_2 r1_3) hZ (own_w hw 84 rfl) (own_w hw 7 rfl) (by decide) (by decide)) q10a q10c (g := (mkF m 57 #[rv a, rv so, iv (1 : Int32), iv x0] [(.int (1 : Int32)), (.ref so)])) rfl (by rw [hml]; rfl) (Steps.refl _) (argsL := [(.int (1 : Int32))]) (rest := []) (lenOf pd__28I_29C rfl) rfl (Nat.le_of_eq rfl) (hb hby d9_57) (fun _ _ => ⟨rfl, e9, (by decide : 2 + 0 ≤ _), (by decide : 24 + 0 ≤ _)⟩)
 dsimp only [Pt.U, Pt.locs, Pt.cells, Pt.slots] at X10 l10 y10 z10 st10 hQ10
 subst l10 y10 z10
 obtain ⟨rfl, Nq10, e10⟩ := hQ10
 have N10 := Fr.app N9 Nq10
 refine Go.step (fun t k => st10.trans k) ?_
 refine Go.step (S' := T10.setTop (mkF m 62 #[rv a, rv so, iv (1 : Int32), iv x1] [(.int x1)])) (fun t k => ?_) ?_
 · refine XS.istoreN X10.here hx rfl (hb hby d9_60) rfl (l' := #[rv a, rv so, iv (1 : Int32), iv x1]) rfl ?_
   refine XS.iloadN X10.here hx rfl (hb hby d9_61) rfl ?_
   exact k
 obtain ⟨_, _, ⟨T11, L11, k11, n11⟩, -, X11, ⟨Lc11, hQ11, l11, y11, z11⟩, st11⟩ := Jvm.LawKit.callS X10 hx (y := y_18) hown (mvT hZ (own_w hw 102 rfl)) (mvT hZ (own_w hw 103 rfl)) (mvT hZ (own_w hw 48 rfl)) (mvT hZ (own_w hw 104 rfl)) (by decide) (backOf (W := 0) (rmKey l Z a0 hw [] x1 h2 n0 O r1_0 r1_1) hZ (own_w hw 104 rfl) (own_w hw 48 rfl) (by decide) (by decide)) (g := (mkF m 62 #[rv a, rv so, iv (1 : Int32), iv x1] [(.int x1)])) rfl (by rw [hml]; rfl) (argsL := [(.int x1)]) (rest := []) (lenOf pd__28C_29Z rfl) rfl (Nat.le_of_eq rfl) (hb hby d9_62) (fun _ _ => ⟨rfl, e10, (by decide : 2 + 0 ≤ _), (by decide : 24 + 0 ≤ _)⟩)
 dsimp only [Pt.U, Pt.locs, Pt.cells, Pt.slots] at X11 l11 y11 z11 st11 hQ11
 subst l11 y11 z11
 obtain ⟨rfl, Nq11, e11⟩ := hQ11
 have N11 := Fr.app N10 Nq11
 refine Go.step st11 ?_
 refine Go.step (S' := T11.setTop (mkF m 102 #[rv a, rv so, iv ((1 : Int32) + (1 : Int32)), iv x1] [])) (fun t k => ?_) ?_
 · refine XS.ifYes X11.here hx rfl (pc0 := 65) (pc' := 99) rfl (hb hby d9_65) rfl ((if0 _ _).trans (feq ((by decide) : ¬ ((1 : Int32) = (0 : Int32)))).2) (by decide) (by decide) ?_
   refine XS.iinc X11.here hx rfl (hb hby d9_99) rfl (l' := #[rv a, rv so, iv ((1 : Int32) + (1 : Int32)), iv x1]) rfl ?_
   exact k
 rw [show ((1 : Int32) + (1 : Int32)) = (2 : Int32) from by decide]
 show Go p e below _ (T11.setTop (mkF m 102 #[rv a, rv so, iv (2 : Int32), iv x1] []))
 refine Go.step (S' := T11.setTop (mkF m 49 #[rv a, rv so, iv (2 : Int32), iv x1] [(.ref so), (.int (2 : Int32))])) (fun t k => ?_) ?_
 · refine XS.goto X11.here hx rfl (pc0 := 102) (pc' := 47) rfl (hb hby d9_102) (by decide) (by decide) ?_
   refine XS.iloadN X11.here hx rfl (hb hby d9_47) rfl ?_
   refine XS.aloadN X11.here hx rfl (hb hby d9_48) rfl rfl ?_
   exact k
 obtain ⟨cq12, kq12, q12a, q12b, q12c⟩ := isOf hZ e11 E_so
 obtain ⟨_, _, ⟨T12, L12, k12, n12⟩, -, X12, ⟨Lc12, hQ12, l12, y12, z12⟩, st12⟩ := X11.virtualBack hx (y := y_5) (z := y_5) hown (mvT hZ (own_w hw 70 rfl)) (mvT hZ (own_w hw 71 rfl)) (notFace_of_selects (args := #[]) (mvT hZ (own_w hw 73 rfl))) (mvT hZ (own_w hw 73 rfl)) (mvT hZ (own_w hw 72 rfl)) (by decide) (backOf (W := 1) (rmLen4 l Z a0 hw [] so tb kb x0 x1 x2 x3 cs h2 n0 O S_CS E_so F_value_so F_coder_so V_tb hcs) hZ (own_w hw 74 rfl) (own_w hw 7 rfl) (by decide) (by decide)) q12a q12c (g := (mkF m 49 #[rv a, rv so, iv (2 : Int32), iv x1] [(.ref so), (.int (2 : Int32))])) rfl (by rw [hml]; rfl) (Steps.refl _) (argsL := []) (rest := [(.int (2 : Int32))]) (lenOf pd__28_29I rfl) rfl (Nat.le_of_eq rfl) (hb hby d9_49) (fun _ _ => ⟨rfl, e11, (by decide : 2 + 0 ≤ _), (by decide : 24 + 0 ≤ _)⟩)
 dsimp only [Pt.U, Pt.locs, Pt.cells, Pt.slots] at X12 l12 y12 z12 st12 hQ12
 subst l12 y12 z12
 obtain ⟨rfl, Nq12, e12⟩ := hQ12
 have N12 := Fr.app N11 Nq12
 refine Go.step (fun t k => st12.trans k) ?_
 refine Go.step (S' := T12.setTop (mkF m 57 #[rv a, rv so, iv (2 : Int32), iv x1] [(.int (2 : Int32)), (.ref so)])) (fun t k => ?_) ?_
 · refine XS.icmpNo X12.here hx rfl (hb hby d9_52) rfl (tlt ((by decide) : (2 : Int32) < (4 : Int32))).2.1 ?_
   refine XS.aloadN X12.here hx rfl (hb hby d9_55) rfl rfl ?_
   refine XS.iloadN X12.here hx rfl (hb hby d9_56) rfl ?_
   exact k
 obtain ⟨cq13, kq13, q13a, q13b, q13c⟩ := isOf hZ e12 E_so
 obtain ⟨_, _, ⟨T13, L13, k13, n13⟩, -, X13, ⟨Lc13, hQ13, l13, y13, z13⟩, st13⟩ := X12.virtualBack hx (y := y_7) (z := y_7) hown (mvT hZ (own_w hw 80 rfl)) (mvT hZ (own_w hw 81 rfl)) (notFace_of_selects (args := #[]) (mvT hZ (own_w hw 83 rfl))) (mvT hZ (own_w hw 83 rfl)) (mvT hZ (own_w hw 82 rfl)) (by decide) (backOf (W := 0) (rmCh4_2 l Z a0 hw [] so tb kb x0 x1 x2 x3 cs sf h2 n0 O S_CS S_FM E_so F_value_so F_coder_so V_tb hcs hsf r2_2 r2_3) hZ (own_w hw 84 rfl) (own_w hw 7 rfl) (by decide) (by decide)) q13a q13c (g := (mkF m 57 #[rv a, rv so, iv (2 : Int32), iv x1] [(.int (2 : Int32)), (.ref so)])) rfl (by rw [hml]; rfl) (Steps.refl _) (argsL := [(.int (2 : Int32))]) (rest := []) (lenOf pd__28I_29C rfl) rfl (Nat.le_of_eq rfl) (hb hby d9_57) (fun _ _ => ⟨rfl, e12, (by decide : 2 + 0 ≤ _), (by decide : 24 + 0 ≤ _)⟩)
 dsimp only [Pt.U, Pt.locs, Pt.cells, Pt.slots] at X13 l13 y13 z13 st13 hQ13
 subst l13 y13 z13
 obtain ⟨rfl, Nq13, e13⟩ := hQ13
 have N13 := Fr.app N12 Nq13
 refine Go.step (fun t k => st13.trans k) ?_
 refine Go.step (S' := T13.setTop (mkF m 62 #[rv a, rv so, iv (2 : Int32), iv x2] [(.int x2)])) (fun t k => ?_) ?_
 · refine XS.istoreN X13.here hx rfl (hb hby d9_60) rfl (l' := #[rv a, rv so, iv (2 : Int32), iv x2]) rfl ?_
   refine XS.iloadN X13.here hx rfl (hb hby d9_61) rfl ?_
   exact k
 obtain ⟨_, _, ⟨T14, L14, k14, n14⟩, -, X14, ⟨Lc14, hQ14, l14, y14, z14⟩, st14⟩ := Jvm.LawKit.callS X13 hx (y := y_18) hown (mvT hZ (own_w hw 102 rfl)) (mvT hZ (own_w hw 103 rfl)) (mvT hZ (own_w hw 48 rfl)) (mvT hZ (own_w hw 104 rfl)) (by decide) (backOf (W := 0) (rmKey l Z a0 hw [] x2 h2 n0 O r2_0 r2_1) hZ (own_w hw 104 rfl) (own_w hw 48 rfl) (by decide) (by decide)) (g := (mkF m 62 #[rv a, rv so, iv (2 : Int32), iv x2] [(.int x2)])) rfl (by rw [hml]; rfl) (argsL := [(.int x2)]) (rest := []) (lenOf pd__28C_29Z rfl) rfl (Nat.le_of_eq rfl) (hb hby d9_62) (fun _ _ => ⟨rfl, e13, (by decide : 2 + 0 ≤ _), (by decide : 24 + 0 ≤ _)⟩)
 dsimp only [Pt.U, Pt.locs, Pt.cells, Pt.slots] at X14 l14 y14 z14 st14 hQ14
 subst l14 y14 z14
 obtain ⟨rfl, Nq14, e14⟩ := hQ14
 have N14 := Fr.app N13 Nq14
 refine Go.step st14 ?_
 refine Go.step (S' := T14.setTop (mkF m 102 #[rv a, rv so, iv ((2 : Int32) + (1 : Int32)), iv x2] [])) (fun t k => ?_) ?_
 · refine XS.ifYes X14.here hx rfl (pc0 := 65) (pc' := 99) rfl (hb hby d9_65) rfl ((if0 _ _).trans (feq ((by decide) : ¬ ((1 : Int32) = (0 : Int32)))).2) (by decide) (by decide) ?_
   refine XS.iinc X14.here hx rfl (hb hby d9_99) rfl (l' := #[rv a, rv so, iv ((2 : Int32) + (1 : Int32)), iv x2]) rfl ?_
   exact k
 rw [show ((2 : Int32) + (1 : Int32)) = (3 : Int32) from by decide]
 show Go p e below _ (T14.setTop (mkF m 102 #[rv a, rv so, iv (3 : Int32), iv x2] []))
 refine Go.step (S' := T14.setTop (mkF m 49 #[rv a, rv so, iv (3 : Int32), iv x2] [(.ref so), (.int (3 : Int32))])) (fun t k => ?_) ?_
 · refine XS.goto X14.here hx rfl (pc0 := 102) (pc' := 47) rfl (hb hby d9_102) (by decide) (by decide) ?_
   refine XS.iloadN X14.here hx rfl (hb hby d9_47) rfl ?_
   refine XS.aloadN X14.here hx rfl (hb hby d9_48) rfl rfl ?_
   exact k
 obtain ⟨cq15, kq15, q15a, q15b, q15c⟩ := isOf hZ e14 E_so
 obtain ⟨_, _, ⟨T15, L15, k15, n15⟩, -, X15, ⟨Lc15, hQ15, l15, y15, z15⟩, st15⟩ := X14.virtualBack hx (y := y_5) (z := y_5) hown (mvT hZ (own_w hw 70 rfl)) (mvT hZ (own_w hw 71 rfl)) (notFace_of_selects (args := #[]) (mvT hZ (own_w hw 73 rfl))) (mvT hZ (own_w hw 73 rfl)) (mvT hZ (own_w hw 72 rfl)) (by decide) (backOf (W := 1) (rmLen4 l Z a0 hw [] so tb kb x0 x1 x2 x3 cs h2 n0 O S_CS E_so F_value_so F_coder_so V_tb hcs) hZ (own_w hw 74 rfl) (own_w hw 7 rfl) (by decide) (by decide)) q15a q15c (g := (mkF m 49 #[rv a, rv so, iv (3 : Int32), iv x2] [(.ref so), (.int (3 : Int32))])) rfl (by rw [hml]; rfl) (Steps.refl _) (argsL := []) (rest := [(.int (3 : Int32))]) (lenOf pd__28_29I rfl) rfl (Nat.le_of_eq rfl) (hb hby d9_49) (fun _ _ => ⟨rfl, e14, (by decide : 2 + 0 ≤ _), (by decide : 24 + 0 ≤ _)⟩)
 dsimp only [Pt.U, Pt.locs, Pt.cells, Pt.slots] at X15 l15 y15 z15 st15 hQ15
 subst l15 y15 z15
 obtain ⟨rfl, Nq15, e15⟩ := hQ15
 have N15 := Fr.app N14 Nq15
 refine Go.step (fun t k => st15.trans k) ?_
 refine Go.step (S' := T15.setTop (mkF m 57 #[rv a, rv so, iv (3 : Int32), iv x2] [(.int (3 : Int32)), (.ref so)])) (fun t k => ?_) ?_
 · refine XS.icmpNo X15.here hx rfl (hb hby d9_52) rfl (tlt ((by decide) : (3 : Int32) < (4 : Int32))).2.1 ?_
   refine XS.aloadN X15.here hx rfl (hb hby d9_55) rfl rfl ?_
   refine XS.iloadN X15.here hx rfl (hb hby d9_56) rfl ?_
   exact k
 obtain ⟨cq16, kq16, q16a, q16b, q16c⟩ := isOf hZ e15 E_so
 obtain ⟨_, _, ⟨T16, L16, k16, n16⟩, -, X16, ⟨Lc16, hQ16, l16, y16, z16⟩, st16⟩ := X15.virtualBack hx (y := y_7) (z := y_7) hown (mvT hZ (own_w hw 80 rfl)) (mvT hZ (own_w hw 81 rfl)) (notFace_of_selects (args := #[]) (mvT hZ (own_w hw 83 rfl))) (mvT hZ (own_w hw 83 rfl)) (mvT hZ (own_w hw 82 rfl)) (by decide) (backOf (W := 0) (rmCh4_3 l Z a0 hw [] so tb kb x0 x1 x2 x3 cs sf h2 n0 O S_CS S_FM E_so F_value_so F_coder_so V_tb hcs hsf r3_2 r3_3) hZ (own_w hw 84 rfl) (own_w hw 7 rfl) (by decide) (by decide)) q16a q16c (g := (mkF m 57 #[rv a, rv so, iv (3 : Int32), iv x2] [(.int (3 : Int32)), (.ref so)])) rfl (by rw [hml]; rfl) (Steps.refl _) (argsL := [(.int (3 : Int32))]) (rest := []) (lenOf pd__28I_29C rfl) rfl (Nat.le_of_eq rfl) (hb hby d9_57) (fun _ _ => ⟨rfl, e15, (by decide : 2 + 0 ≤ _), (by decide : 24 + 0 ≤ _)⟩)
 dsimp only [Pt.U, Pt.locs, Pt.cells, Pt.slots] at X16 l16 y16 z16 st16 hQ16
 subst l16 y16 z16
 obtain ⟨rfl, Nq16, e16⟩ := hQ16
 have N16 := Fr.app N15 Nq16
 refine Go.step (fun t k => st16.trans k) ?_
 refine Go.step (S' := T16.setTop (mkF m 62 #[rv a, rv so, iv (3 : Int32), iv x3] [(.int x3)])) (fun t k => ?_) ?_
 · refine XS.istoreN X16.here hx rfl (hb hby d9_60) rfl (l' := #[rv a, rv so, iv (3 : Int32), iv x3]) rfl ?_
   refine XS.iloadN X16.here hx rfl (hb hby d9_61) rfl ?_
   exact k
 obtain ⟨_, _, ⟨T17, L17, k17, n17⟩, -, X17, ⟨Lc17, hQ17, l17, y17, z17⟩, st17⟩ := Jvm.LawKit.callS X16 hx (y := y_18) hown (mvT hZ (own_w hw 102 rfl)) (mvT hZ (own_w hw 103 rfl)) (mvT hZ (own_w hw 48 rfl)) (mvT hZ (own_w hw 104 rfl)) (by decide) (backOf (W := 0) (rmKey l Z a0 hw [] x3 h2 n0 O r3_0 r3_1) hZ (own_w hw 104 rfl) (own_w hw 48 rfl) (by decide) (by decide)) (g := (mkF m 62 #[rv a, rv so, iv (3 : Int32), iv x3] [(.int x3)])) rfl (by rw [hml]; rfl) (argsL := [(.int x3)]) (rest := []) (lenOf pd__28C_29Z rfl) rfl (Nat.le_of_eq rfl) (hb hby d9_62) (fun _ _ => ⟨rfl, e16, (by decide : 2 + 0 ≤ _), (by decide : 24 + 0 ≤ _)⟩)
 dsimp only [Pt.U, Pt.locs, Pt.cells, Pt.slots] at X17 l17 y17 z17 st17 hQ17
 subst l17 y17 z17
 obtain ⟨rfl, Nq17, e17⟩ := hQ17
 have N17 := Fr.app N16 Nq17
 refine Go.step st17 ?_
 refine Go.step (S' := T17.setTop (mkF m 102 #[rv a, rv so, iv ((3 : Int32) + (1 : Int32)), iv x3] [])) (fun t k => ?_) ?_
 · refine XS.ifYes X17.here hx rfl (pc0 := 65) (pc' := 99) rfl (hb hby d9_65) rfl ((if0 _ _).trans (feq ((by decide) : ¬ ((1 : Int32) = (0 : Int32)))).2) (by decide) (by decide) ?_
   refine XS.iinc X17.here hx rfl (hb hby d9_99) rfl (l' := #[rv a, rv so, iv ((3 : Int32) + (1 : Int32)), iv x3]) rfl ?_
   exact k
 rw [show ((3 : Int32) + (1 : Int32)) = (4 : Int32) from by decide]
 show Go p e below _ (T17.setTop (mkF m 102 #[rv a, rv so, iv (4 : Int32), iv x3] []))
 refine Go.step (S' := T17.setTop (mkF m 49 #[rv a, rv so, iv (4 : Int32), iv x3] [(.ref so), (.int (4 : Int32))])) (fun t k => ?_) ?_
 · refine XS.goto X17.here hx rfl (pc0 := 102) (pc' := 47) rfl (hb hby d9_102) (by decide) (by decide) ?_
   refine XS.iloadN X17.here hx rfl (hb hby d9_47) rfl ?_
   refine XS.aloadN X17.here hx rfl (hb hby d9_48) rfl rfl ?_
   exact k
 obtain ⟨cq18, kq18, q18a, q18b, q18c⟩ := isOf hZ e17 E_so
 obtain ⟨_, _, ⟨T18, L18, k18, n18⟩, -, X18, ⟨Lc18, hQ18, l18, y18, z18⟩, st18⟩ := X17.virtualBack hx (y := y_5) (z := y_5) hown (mvT hZ (own_w hw 70 rfl)) (mvT hZ (own_w hw 71 rfl)) (notFace_of_selects (args := #[]) (mvT hZ (own_w hw 73 rfl))) (mvT hZ (own_w hw 73 rfl)) (mvT hZ (own_w hw 72 rfl)) (by decide) (backOf (W := 1) (rmLen4 l Z a0 hw [] so tb kb x0 x1 x2 x3 cs h2 n0 O S_CS E_so F_value_so F_coder_so V_tb hcs) hZ (own_w hw 74 rfl) (own_w hw 7 rfl) (by decide) (by decide)) q18a q18c (g := (mkF m 49 #[rv a, rv so, iv (4 : Int32), iv x3] [(.ref so), (.int (4 : Int32))])) rfl (by rw [hml]; rfl) (Steps.refl _) (argsL := []) (rest := [(.int (4 : Int32))]) (lenOf pd__28_29I rfl) rfl (Nat.le_of_eq rfl) (hb hby d9_49) (fun _ _ => ⟨rfl, e17, (by decide : 2 + 0 ≤ _), (by decide : 24 + 0 ≤ _)⟩)
 dsimp only [Pt.U, Pt.locs, Pt.cells, Pt.slots] at X18 l18 y18 z18 st18 hQ18
 subst l18 y18 z18
 obtain ⟨rfl, Nq18, e18⟩ := hQ18
 have N18 := Fr.app N17 Nq18
 refine Go.step (fun t k => st18.trans k) ?_
 refine Go.step (S' := T18.setTop (mkF m 107 #[rv a, rv so, iv (4 : Int32), iv x3] [(.ref so), (.ref a)])) (fun t k => ?_) ?_
 · refine XS.icmpYes X18.here hx rfl (pc0 := 52) (pc' := 105) rfl (hb hby d9_52) rfl (flt ((by decide) : ¬ ((4 : Int32) < (4 : Int32)))).2.1 (by decide) (by decide) ?_
   refine XS.aloadN X18.here hx rfl (hb hby d9_105) rfl rfl ?_
   refine XS.aloadN X18.here hx rfl (hb hby d9_106) rfl rfl ?_
   exact k
 obtain ⟨T19, h19, X19, e19, W19, st19⟩ := putF X18 hx hZ hown (host := "") (Or.inl (own_w hw 105 rfl)) Via.refl e18 F_value_a E_a (Or.inr ⟨(own_w hw 106 rfl), rfl, hnm⟩) (own_w hw 47 rfl) (ty := (.object "java/lang/String")) (by decide) rfl rfl (g := (mkF m 107 #[rv a, rv so, iv (4 : Int32), iv x3] [(.ref so), (.ref a)])) rfl rfl (hb hby d9_107)
 have ne_so_a : so ≠ a := ne_exa E_so E_a (by decide)
 have ne_tb_a : tb ≠ a := Ne.symm (Exa.neArv E_a V_tb (own_w hw 47 rfl))
 have O := O.wr W19 g_a
 have E_so := E_so.wr W19
 have F_value_so := F_value_so.other W19 (Or.inl ne_so_a)
 have F_coder_so := F_coder_so.other W19 (Or.inl ne_so_a)
 have V_tb := V_tb.other W19 ne_tb_a
 have E_a := E_a.wr W19
 have F_value_a := F_value_a.same W19
 have K := K.wr W19 (Or.inl (List.mem_of_getElem? (i := 0) rfl))
 have hk := Nat.le_trans hk (Keep.of_wr W19).1
 have N19 := Fr.snoc X19 N18 g_a
 refine Go.step st19 ?_
 obtain ⟨fs, hr, hrun, hended, hR⟩ := X19.leaveW hS (by rw [e19]; exact hk) (v := none) (fun _ => rfl)
 refine Go.fin (S' := T19.setFrames fs) ?_ hrun hended ⟨_, _, rfl, ?_, hR.1, hR.2.1, hR.2.2.1, hR.2.2.2.mono (by decide) (by decide)⟩
 · exact X19.returnOut hx Bd.returns (hb hby d9_110) hr
 · show Q_rmBK4 Z a so tb kb x0 x1 x2 x3 cs sf h0 n0 (none) T19.heap _
   rw [e19]
   exact ⟨rfl, N19, K, E_a, F_value_a⟩
theorem ef_rmKL4 (m : MethodId) (hd : Addr) : entryFrame m #[(.ref hd)] 1 = mkF m 0 #[.val (.ref hd)] [] := by first | (simp [entryFrame, mkF, argsToLocals, Value.category]; done) | rfl
abbrev rm_rmKL4 : Room := ({ frames := 2, cells := 0, slots := 0, locals := 25 } : Room)
def Q_rmKL4 (Z : State) (hd : Addr) (ke : Addr) (so : Addr) (tb : Addr) (kb : ClassId) (x0 : Int32) (x1 : Int32) (x2 : Int32) (x3 : Int32) (cs : Int32) (h0 : Heap) (n0 : Nat) (v : Option Value) (h : Heap) (L : List Loc) : Prop := (v = some (.int (4 : Int32))) ∧ (Fr n0 L) ∧ (h = h0)
set_option maxRecDepth 65536 in
set_option maxHeartbeats 4000000 in
theorem rmKL4 (l : Launch) (Z : State) (a0 : Array Value) (hw : ∀ d ∈ tables_1, d.before a0 Z = true) (ws : List Jvm.Cond) (hd : Addr) (ke : Addr) (so : Addr) (tb : Addr) (kb : ClassId) (x0 : Int32) (x1 : Int32) (x2 : Int32) (x3 : Int32) (cs : Int32) (h0 : Heap) (n0 : Nat) (O : Old Z n0 h0) (F_key : Fld Z h0 hd "com/example/tombsweep/tombsweep/io/RecordHeader" "key" "Lcom/example/tombsweep/tombsweep/model/BlobKey;" (.ref ke)) (E_ke : Exa Z h0 ke "com/example/tombsweep/tombsweep/model/BlobKey") (F_value_ke : Fld Z h0 ke "com/example/tombsweep/tombsweep/model/BlobKey" "value" "Ljava/lang/String;" (.ref so)) (E_so : Exa Z h0 so "java/lang/String") (F_value_so : Fld Z h0 so "java/lang/String" "value" "[B" (.ref tb)) (F_coder_so : Fld Z h0 so "java/lang/String" "coder" "B" (.int (0 : Int32))) (V_tb : Arv Z h0 tb kb .byte (4 : Int32) [(.int (x0.toInt8.toInt32)), (.int (x1.toInt8.toInt32)), (.int (x2.toInt8.toInt32)), (.int (x3.toInt8.toInt32))] (.int (0 : Int32))) (S_CS : Sta Z Z.heap "java/lang/String" "COMPACT_STRINGS" "Z" (.int cs)) (hcs : ¬ (cs = (0 : Int32))) :
    MetFree l y_22 (head1 (Jvm.Cond.code y_22 prog_5_method_16_code 1 (some .int) :: ws) rm_rmKL4) (fun A_ U => A_ = #[(.ref hd)] ∧ Z.Warmed39 U.vm ∧ U.heap = h0) (fun _ _ _ _ _ => True) (fun _ U o U' => ∃ v L, o = .returned v ∧ Q_rmKL4 Z hd ke so tb kb x0 x1 x2 x3 cs h0 n0 v U'.heap L ∧ FrameEnd U o U' L rm_rmKL4.cells rm_rmKL4.slots) := by
 refine MetFree.of_bodySF (plainFor_of_name pn_com_example_tombsweep_tombsweep_io_RecordHeader) hisR ?_
 intro p e s m args below meth c s₁ Bd hml0 hP hK
 obtain ⟨rfl, hZ, hh⟩ := hP
 have hx := Bd.exec
 have hby := Bd.bytes
 have hml : c.maxLocals = 1 := hml0
 have hown : s.vm.findClass "com/example/tombsweep/tombsweep/io/RecordHeader" = some m.cls := findClass_of_methodNamed Bd.named
 have hnm := (name_of_methodNamed Bd.named Bd.method).1
 have X0 : Stand p l e rm_rmKL4 s m #[(.ref hd)] below meth c s₁ [] 0 0 := Stand.of_body Bd
 have e0 : s₁.heap = h0 := by rw [← hh, Bd.state]; rfl
 have N0 := Fr.nil n0
 refine Go.step (p := p) (e := e) (below := below) (G := fun o U' => ∃ v L, o = .returned v ∧ Q_rmKL4 Z hd ke so tb kb x0 x1 x2 x3 cs h0 n0 v U'.heap L ∧ FrameEnd s o U' L rm_rmKL4.cells rm_rmKL4.slots) (S' := s₁.setTop (mkF m 0 #[rv hd] [])) (fun t k => castTop (ef_rmKL4 m hd) k) ?_
 refine Go.step (S' := s₁.setTop (mkF m 1 #[rv hd] [(.ref hd)])) (fun t k => ?_) ?_
 · refine XS.aloadN X0.here hx rfl (hb hby d25_0) rfl rfl ?_
   exact k
 obtain ⟨T1, X1, e1, st1⟩ := getF X0 hx hZ hown (host := "") (Or.inl (own_w hw 113 rfl)) Via.refl e0 F_key (g := (mkF m 1 #[rv hd] [(.ref hd)])) rfl rfl (hb hby d25_1)
 refine Go.step st1 ?_
 obtain ⟨cq2, kq2, q2a, q2b, q2c⟩ := isOf hZ e1 E_ke
 obtain ⟨_, _, ⟨T2, L2, k2, n2⟩, -, X2, ⟨Lc2, hQ2, l2, y2, z2⟩, st2⟩ := X1.virtualBack hx (y := y_19) (z := y_19) hown (mvT hZ (own_w hw 146 rfl)) (mvT hZ (own_w hw 147 rfl)) (notFace_of_selects (args := #[]) (mvT hZ (own_w hw 149 rfl))) (mvT hZ (own_w hw 149 rfl)) (mvT hZ (own_w hw 148 rfl)) (by decide) (backOf (W := 0) (rmBV l Z a0 hw [] ke so h0 n0 O F_value_ke) hZ (own_w hw 150 rfl) (own_w hw 48 rfl) (by decide) (by decide)) q2a q2c (g := (mkF m 4 #[rv hd] [(.ref ke)])) rfl (by rw [hml]; rfl) (Steps.refl _) (argsL := []) (rest := []) (lenOf pd__28_29Ljava_2flang_2fString_3b rfl) rfl (Nat.le_of_eq rfl) (hb hby d25_4) (fun _ _ => ⟨rfl, e1, (by decide : 0 + 0 ≤ _), (by decide : 0 + 0 ≤ _)⟩)
 dsimp only [Pt.U, Pt.locs, Pt.cells, Pt.slots] at X2 l2 y2 z2 st2 hQ2
 subst l2 y2 z2
 obtain ⟨rfl, Nq2, e2⟩ := hQ2
 have N2 := Fr.app N0 Nq2
 refine Go.step (fun t k => st2.trans k) ?_
 obtain ⟨cq3, kq3, q3a, q3b, q3c⟩ := isOf hZ e2 E_so
 obtain ⟨_, _, ⟨T3, L3, k3, n3⟩, -, X3, ⟨Lc3, hQ3, l3, y3, z3⟩, st3⟩ := X2.virtualBack hx (y := y_5) (z := y_5) hown (mvT hZ (own_w hw 151 rfl)) (mvT hZ (own_w hw 71 rfl)) (notFace_of_selects (args := #[]) (mvT hZ (own_w hw 73 rfl))) (mvT hZ (own_w hw 73 rfl)) (mvT hZ (own_w hw 72 rfl)) (by decide) (backOf (W := 0) (rmLen4 l Z a0 hw [] so tb kb x0 x1 x2 x3 cs h0 n0 O S_CS E_so F_value_so F_coder_so V_tb hcs) hZ (own_w hw 74 rfl) (own_w hw 7 rfl) (by decide) (by decide)) q3a q3c (g := (mkF m 7 #[rv hd] [(.ref so)])) rfl (by rw [hml]; rfl) (Steps.refl _) (argsL := []) (rest := []) (lenOf pd__28_29I rfl) rfl (Nat.le_of_eq rfl) (hb hby d25_7) (fun _ _ => ⟨rfl, e2, (by decide : 0 + 0 ≤ _), (by decide : 0 + 0 ≤ _)⟩)
 dsimp only [Pt.U, Pt.locs, Pt.cells, Pt.slots] at X3 l3 y3 z3 st3 hQ3
 subst l3 y3 z3
 obtain ⟨rfl, Nq3, e3⟩ := hQ3
 have N3 := Fr.app N2 Nq3
 refine Go.step (fun t k => st3.trans k) ?_
 obtain ⟨fs, hr, hrun, hended, hW, hsame⟩ := X3.leave (v := some (.int (4 : Int32))) (fun h => by rw [Bd.returns] at h; cases h)
 refine Go.fin (S' := T3.setFrames fs) ?_ hrun hended ⟨_, _, rfl, ?_, ⟨_, rfl⟩, hW, hsame.mono (by decide) (by decide)⟩
 · exact retOut X3 hx Bd.returns rfl (Or.inl ⟨rfl, Or.inl rfl, _, rfl⟩) (hb hby d25_10) hr
 · show Q_rmKL4 Z hd ke so tb kb x0 x1 x2 x3 cs h0 n0 (some (.int (4 : Int32))) T3.heap _
   rw [e3]
   exact ⟨rfl, N3, rfl⟩
theorem ef_rmMO4 (m : MethodId) (hd : Addr) : entryFrame m #[(.ref hd)] 1 = mkF m 0 #[.val (.ref hd)] [] := by first | (simp [entryFrame, mkF, argsToLocals, Value.category]; done) | rfl
abbrev rm_rmMO4 : Room := ({ frames := 3, cells := 0, slots := 0, locals := 38 } : Room)
def Q_rmMO4 (Z : State) (hd : Addr) (ke : Addr) (so : Addr) (tb : Addr) (kb : ClassId) (x0 : Int32) (x1 : Int32) (x2 : Int32) (x3 : Int32) (cs : Int32) (h0 : Heap) (n0 : Nat) (v : Option Value) (h : Heap) (L : List Loc) : Prop := (v = some (.long (44 : Int64))) ∧ (Fr n0 L) ∧ (h = h0)
set_option maxRecDepth 65536 in
set_option maxHeartbeats 4000000 in
theorem rmMO4 (l : Launch) (Z : State) (a0 : Array Value) (hw : ∀ d ∈ tables_1, d.before a0 Z = true) (ws : List Jvm.Cond) (hd : Addr) (ke : Addr) (so : Addr) (tb : Addr) (kb : ClassId) (x0 : Int32) (x1 : Int32) (x2 : Int32) (x3 : Int32) (cs : Int32) (h0 : Heap) (n0 : Nat) (O : Old Z n0 h0) (F_key : Fld Z h0 hd "com/example/tombsweep/tombsweep/io/RecordHeader" "key" "Lcom/example/tombsweep/tombsweep/model/BlobKey;" (.ref ke)) (E_ke : Exa Z h0 ke "com/example/tombsweep/tombsweep/model/BlobKey") (F_value_ke : Fld Z h0 ke "com/example/tombsweep/tombsweep/model/BlobKey" "value" "Ljava/lang/String;" (.ref so)) (E_so : Exa Z h0 so "java/lang/String") (F_value_so : Fld Z h0 so "java/lang/String" "value" "[B" (.ref tb)) (F_coder_so : Fld Z h0 so "java/lang/String" "coder" "B" (.int (0 : Int32))) (V_tb : Arv Z h0 tb kb .byte (4 : Int32) [(.int (x0.toInt8.toInt32)), (.int (x1.toInt8.toInt32)), (.int (x2.toInt8.toInt32)), (.int (x3.toInt8.toInt32))] (.int (0 : Int32))) (S_CS : Sta Z Z.heap "java/lang/String" "COMPACT_STRINGS" "Z" (.int cs)) (E_h : Exa Z h0 hd "com/example/tombsweep/tombsweep/io/RecordHeader") (hcs : ¬ (cs = (0 : Int32))) :
    MetFree l y_23 (head1 (Jvm.Cond.code y_23 prog_5_method_11_code 1 (some .long) :: ws) rm_rmMO4) (fun A_ U => A_ = #[(.ref hd)] ∧ Z.Warmed39 U.vm ∧ U.heap = h0) (fun _ _ _ _ _ => True) (fun _ U o U' => ∃ v L, o = .returned v ∧ Q_rmMO4 Z hd ke so tb kb x0 x1 x2 x3 cs h0 n0 v U'.heap L ∧ FrameEnd U o U' L rm_rmMO4.cells rm_rmMO4.slots) := by
 refine MetFree.of_bodySF (plainFor_of_name pn_com_example_tombsweep_tombsweep_io_RecordHeader) hisR ?_
 intro p e s m args below meth c s₁ Bd hml0 hP hK
 obtain ⟨rfl, hZ, hh⟩ := hP
 have hx := Bd.exec
 have hby := Bd.bytes
 have hml : c.maxLocals = 1 := hml0
 have hown : s.vm.findClass "com/example/tombsweep/tombsweep/io/RecordHeader" = some m.cls := findClass_of_methodNamed Bd.named
 have hnm := (name_of_methodNamed Bd.named Bd.method).1
 have X0 : Stand p l e rm_rmMO4 s m #[(.ref hd)] below meth c s₁ [] 0 0 := Stand.of_body Bd
 have e0 : s₁.heap = h0 := by rw [← hh, Bd.state]; rfl
 have N0 := Fr.nil n0
 refine Go.step (p := p) (e := e) (below := below) (G := fun o U' => ∃ v L, o = .returned v ∧ Q_rmMO4 Z hd ke so tb kb x0 x1 x2 x3 cs h0 n0 v U'.heap L ∧ FrameEnd s o U' L rm_rmMO4.cells rm_rmMO4.slots) (S' := s₁.setTop (mkF m 0 #[rv hd] [])) (fun t k => castTop (ef_rmMO4 m hd) k) ?_
 refine Go.step (S' := s₁.setTop (mkF m 3 #[rv hd] [(.ref hd), (.int (40 : Int32))])) (fun t k => ?_) ?_
 · refine XS.bipush X0.here hx rfl (hb hby d24_0) ?_
   refine XS.aloadN X0.here hx rfl (hb hby d24_2) rfl rfl ?_
   exact k
 obtain ⟨cq1, q1, q1'⟩ := E_h.cell
 obtain ⟨_, _, ⟨T1, L1, k1, n1⟩, -, X1, ⟨Lc1, hQ1, l1, y1, z1⟩, st1⟩ := X0.privateBack hx (y := y_22) hown (mvT hZ (own_w hw 142 rfl)) (mvT hZ (own_w hw 143 rfl)) (own_selP hZ (own_w hw 38 rfl) (own_w hw 143 rfl) (own_w hw 144 rfl) (by decide)) (Cond.privateMethod_at (mvP hZ (own_w hw 144 rfl) (args := #[]))) (mvT hZ (own_w hw 145 rfl)) (by decide) (backOf (W := 1) (rmKL4 l Z a0 hw [] hd ke so tb kb x0 x1 x2 x3 cs h0 n0 O F_key E_ke F_value_ke E_so F_value_so F_coder_so V_tb S_CS hcs) hZ (own_w hw 145 rfl) (own_w hw 39 rfl) (by decide) (by decide)) (g := (mkF m 3 #[rv hd] [(.ref hd), (.int (40 : Int32))])) rfl (by rw [hml]; rfl) (Steps.refl _) (a := hd) (by rw [e0]; exact q1) q1' (argsL := []) (rest := [(.int (40 : Int32))]) (lenOf pd__28_29I rfl) rfl (Nat.le_of_eq rfl) (hb hby d24_3) (fun _ _ => ⟨rfl, e0, (by decide : 0 + 0 ≤ _), (by decide : 0 + 0 ≤ _)⟩)
 dsimp only [Pt.U, Pt.locs, Pt.cells, Pt.slots] at X1 l1 y1 z1 st1 hQ1
 subst l1 y1 z1
 obtain ⟨rfl, Nq1, e1⟩ := hQ1
 have N1 := Fr.app N0 Nq1
 refine Go.step (fun t k => st1.trans k) ?_
 refine Go.step (S' := T1.setTop (mkF m 7 #[rv hd] [(.int ((40 : Int32) + (4 : Int32)))])) (fun t k => ?_) ?_
 · refine XS.iadd X1.here hx rfl (hb hby d24_6) rfl ?_
   exact k
 rw [show ((40 : Int32) + (4 : Int32)) = (44 : Int32) from by decide]
 show Go p e below _ (T1.setTop (mkF m 7 #[rv hd] [(.int (44 : Int32))]))
 refine Go.step (S' := T1.setTop (mkF m 8 #[rv hd] [(.long ((44 : Int32).toInt64))])) (fun t k => ?_) ?_
 · refine XS.i2l X1.here hx rfl (hb hby d24_7) rfl ?_
   exact k
 rw [show ((44 : Int32).toInt64) = (44 : Int64) from by decide]
 show Go p e below _ (T1.setTop (mkF m 8 #[rv hd] [(.long (44 : Int64))]))
 obtain ⟨fs, hr, hrun, hended, hW, hsame⟩ := X1.leave (v := some (.long (44 : Int64))) (fun h => by rw [Bd.returns] at h; cases h)
 refine Go.fin (S' := T1.setFrames fs) ?_ hrun hended ⟨_, _, rfl, ?_, ⟨_, rfl⟩, hW, hsame.mono (by decide) (by decide)⟩
 · exact retOut X1 hx Bd.returns rfl (Or.inr (Or.inl ⟨rfl, rfl, _, rfl⟩)) (hb hby d24_8) hr
 · show Q_rmMO4 Z hd ke so tb kb x0 x1 x2 x3 cs h0 n0 (some (.long (44 : Int64))) T1.heap _
   rw [e1]
   exact ⟨rfl, N1, rfl⟩
theorem ef_rmCO4 (m : MethodId) (hd : Addr) : entryFrame m #[(.ref hd)] 1 = mkF m 0 #[.val (.ref hd)] [] := by first | (simp [entryFrame, mkF, argsToLocals, Value.category]; done) | rfl
abbrev rm_rmCO4 : Room := ({ frames := 4, cells := 0, slots := 0, locals := 50 } : Room)
def Q_rmCO4 (Z : State) (hd : Addr) (ke : Addr) (so : Addr) (tb : Addr) (kb : ClassId) (x0 : Int32) (x1 : Int32) (x2 : Int32) (x3 : Int32) (cs : Int32) (m1 : Int32) (h0 : Heap) (n0 : Nat) (v : Option Value) (h : Heap) (L : List Loc) : Prop := (v = some (.long ((44 : Int64) + (m1.toInt64)))) ∧ (Fr n0 L) ∧ (h = h0)
set_option maxRecDepth 65536 in
set_option maxHeartbeats 4000000 in
theorem rmCO4 (l : Launch) (Z : State) (a0 : Array Value) (hw : ∀ d ∈ tables_1, d.before a0 Z = true) (ws : List Jvm.Cond) (hd : Addr) (ke : Addr) (so : Addr) (tb : Addr) (kb : ClassId) (x0 : Int32) (x1 : Int32) (x2 : Int32) (x3 : Int32) (cs : Int32) (m1 : Int32) (h0 : Heap) (n0 : Nat) (O : Old Z n0 h0) (F_key : Fld Z h0 hd "com/example/tombsweep/tombsweep/io/RecordHeader" "key" "Lcom/example/tombsweep/tombsweep/model/BlobKey;" (.ref ke)) (E_ke : Exa Z h0 ke "com/example/tombsweep/tombsweep/model/BlobKey") (F_value_ke : Fld Z h0 ke "com/example/tombsweep/tombsweep/model/BlobKey" "value" "Ljava/lang/String;" (.ref so)) (E_so : Exa Z h0 so "java/lang/String") (F_value_so : Fld Z h0 so "java/lang/String" "value" "[B" (.ref tb)) (F_coder_so : Fld Z h0 so "java/lang/String" "coder" "B" (.int (0 : Int32))) (V_tb : Arv Z h0 tb kb .byte (4 : Int32) [(.int (x0.toInt8.toInt32)), (.int (x1.toInt8.toInt32)), (.int (x2.toInt8.toInt32)), (.int (x3.toInt8.toInt32))] (.int (0 : Int32))) (S_CS : Sta Z Z.heap "java/lang/String" "COMPACT_STRINGS" "Z" (.int cs)) (E_h : Exa Z h0 hd "com/example/tombsweep/tombsweep/io/RecordHeader") (F_ml : Fld Z h0 hd "com/example/tombsweep/tombsweep/io/RecordHeader" "metadataLength" "I" (.int m1)) (hcs : ¬ (cs = (0 : Int32))) :
    MetFree l y_24 (head1 (Jvm.Cond.code y_24 prog_5_method_12_code 1 (some .long) :: ws) rm_rmCO4) (fun A_ U => A_ = #[(.ref hd)] ∧ Z.Warmed39 U.vm ∧ U.heap = h0) (fun _ _ _ _ _ => True) (fun _ U o U' => ∃ v L, o = .returned v ∧ Q_rmCO4 Z hd ke so tb kb x0 x1 x2 x3 cs m1 h0 n0 v U'.heap L ∧ FrameEnd U o U' L rm_rmCO4.cells rm_rmCO4.slots) := by
 refine MetFree.of_bodySF (plainFor_of_name pn_com_example_tombsweep_tombsweep_io_RecordHeader) hisR ?_
 intro p e s m args below meth c s₁ Bd hml0 hP hK
 obtain ⟨rfl, hZ, hh⟩ := hP
 have hx := Bd.exec
 have hby := Bd.bytes
 have hml : c.maxLocals = 1 := hml0
 have hown : s.vm.findClass "com/example/tombsweep/tombsweep/io/RecordHeader" = some m.cls := findClass_of_methodNamed Bd.named
 have hnm := (name_of_methodNamed Bd.named Bd.method).1
 have X0 : Stand p l e rm_rmCO4 s m #[(.ref hd)] below meth c s₁ [] 0 0 := Stand.of_body Bd
 have e0 : s₁.heap = h0 := by rw [← hh, Bd.state]; rfl
 have N0 := Fr.nil n0
 refine Go.step (p := p) (e := e) (below := below) (G := fun o U' => ∃ v L, o = .returned v ∧ Q_rmCO4 Z hd ke so tb kb x0 x1 x2 x3 cs m1 h0 n0 v U'.heap L ∧ FrameEnd s o U' L rm_rmCO4.cells rm_rmCO4.slots) (S' := s₁.setTop (mkF m 0 #[rv hd] [])) (fun t k => castTop (ef_rmCO4 m hd) k) ?_
 refine Go.step (S' := s₁.setTop (mkF m 1 #[rv hd] [(.ref hd)])) (fun t k => ?_) ?_
 · refine XS.aloadN X0.here hx rfl (hb hby d23_0) rfl rfl ?_
   exact k
 obtain ⟨cq1, kq1, q1a, q1b, q1c⟩ := isOf hZ e0 E_h
 obtain ⟨_, _, ⟨T1, L1, k1, n1⟩, -, X1, ⟨Lc1, hQ1, l1, y1, z1⟩, st1⟩ := X0.virtualBack hx (y := y_23) (z := y_23) hown (mvT hZ (own_w hw 137 rfl)) (mvT hZ (own_w hw 138 rfl)) (notFace_of_selects (args := #[]) (mvT hZ (own_w hw 140 rfl))) (mvT hZ (own_w hw 140 rfl)) (mvT hZ (own_w hw 139 rfl)) (by decide) (backOf (W := 0) (rmMO4 l Z a0 hw [] hd ke so tb kb x0 x1 x2 x3 cs h0 n0 O F_key E_ke F_value_ke E_so F_value_so F_coder_so V_tb S_CS E_h hcs) hZ (own_w hw 141 rfl) (own_w hw 39 rfl) (by decide) (by decide)) q1a q1c (g := (mkF m 1 #[rv hd] [(.ref hd)])) rfl (by rw [hml]; rfl) (Steps.refl _) (argsL := []) (rest := []) (lenOf pd__28_29J rfl) rfl (Nat.le_of_eq rfl) (hb hby d23_1) (fun _ _ => ⟨rfl, e0, (by decide : 0 + 0 ≤ _), (by decide : 0 + 0 ≤ _)⟩)
 dsimp only [Pt.U, Pt.locs, Pt.cells, Pt.slots] at X1 l1 y1 z1 st1 hQ1
 subst l1 y1 z1
 obtain ⟨rfl, Nq1, e1⟩ := hQ1
 have N1 := Fr.app N0 Nq1
 refine Go.step (fun t k => st1.trans k) ?_
 refine Go.step (S' := T1.setTop (mkF m 5 #[rv hd] [(.ref hd), (.long (44 : Int64))])) (fun t k => ?_) ?_
 · refine XS.aloadN X1.here hx rfl (hb hby d23_4) rfl rfl ?_
   exact k
 obtain ⟨T2, X2, e2, st2⟩ := getF X1 hx hZ hown (host := "") (Or.inl (own_w hw 115 rfl)) Via.refl e1 F_ml (g := (mkF m 5 #[rv hd] [(.ref hd), (.long (44 : Int64))])) rfl rfl (hb hby d23_5)
 refine Go.step st2 ?_
 refine Go.step (S' := T2.setTop (mkF m 10 #[rv hd] [(.long ((44 : Int64) + (m1.toInt64)))])) (fun t k => ?_) ?_
 · refine XS.i2l X2.here hx rfl (hb hby d23_8) rfl ?_
   refine XS.ladd X2.here hx rfl (hb hby d23_9) rfl ?_
   exact k
 obtain ⟨fs, hr, hrun, hended, hW, hsame⟩ := X2.leave (v := some (.long ((44 : Int64) + (m1.toInt64)))) (fun h => by rw [Bd.returns] at h; cases h)
 refine Go.fin (S' := T2.setFrames fs) ?_ hrun hended ⟨_, _, rfl, ?_, ⟨_, rfl⟩, hW, hsame.mono (by decide) (by decide)⟩
 · exact retOut X2 hx Bd.returns rfl (Or.inr (Or.inl ⟨rfl, rfl, _, rfl⟩)) (hb hby d23_10) hr
 · show Q_rmCO4 Z hd ke so tb kb x0 x1 x2 x3 cs m1 h0 n0 (some (.long ((44 : Int64) + (m1.toInt64)))) T2.heap _
   rw [e2]
   exact ⟨rfl, N1, rfl⟩
theorem ef_rmFit4Y (m : MethodId) (hd : Addr) (rr : Int64) : entryFrame m #[(.ref hd), (.long rr)] 3 = mkF m 0 #[.val (.ref hd), .val (.long rr), .second] [] := by first | (simp [entryFrame, mkF, argsToLocals, Value.category]; done) | rfl
abbrev rm_rmFit4Y : Room := ({ frames := 5, cells := 0, slots := 0, locals := 66 } : Room)
def Q_rmFit4Y (Z : State) (hd : Addr) (rr : Int64) (ke : Addr) (so : Addr) (tb : Addr) (kb : ClassId) (x0 : Int32) (x1 : Int32) (x2 : Int32) (x3 : Int32) (cs : Int32) (m1 : Int32) (q3 : Int64) (h0 : Heap) (n0 : Nat) (v : Option Value) (h : Heap) (L : List Loc) : Prop := (v = some (.int (1 : Int32))) ∧ (Fr n0 L) ∧ (h = h0)
set_option maxRecDepth 65536 in
set_option maxHeartbeats 4000000 in
theorem rmFit4Y (l : Launch) (Z : State) (a0 : Array Value) (hw : ∀ d ∈ tables_1, d.before a0 Z = true) (ws : List Jvm.Cond) (hd : Addr) (rr : Int64) (ke : Addr) (so : Addr) (tb : Addr) (kb : ClassId) (x0 : Int32) (x1 : Int32) (x2 : Int32) (x3 : Int32) (cs : Int32) (m1 : Int32) (q3 : Int64) (h0 : Heap) (n0 : Nat) (O : Old Z n0 h0) (F_key : Fld Z h0 hd "com/example/tombsweep/tombsweep/io/RecordHeader" "key" "Lcom/example/tombsweep/tombsweep/model/BlobKey;" (.ref ke)) (E_ke : Exa Z h0 ke "com/example/tombsweep/tombsweep/model/BlobKey") (F_value_ke : Fld Z h0 ke "com/example/tombsweep/tombsweep/model/BlobKey" "value" "Ljava/lang/String;" (.ref so)) (E_so : Exa Z h0 so "java/lang/String") (F_value_so : Fld Z h0 so "java/lang/String" "value" "[B" (.ref tb)) (F_coder_so : Fld Z h0 so "java/lang/String" "coder" "B" (.int (0 : Int32))) (V_tb : Arv Z h0 tb kb .byte (4 : Int32) [(.int (x0.toInt8.toInt32)), (.int (x1.toInt8.toInt32)), (.int (x2.toInt8.toInt32)), (.int (x3.toInt8.toInt32))] (.int (0 : Int32))) (S_CS : Sta Z Z.heap "java/lang/String" "COMPACT_STRINGS" "Z" (.int cs)) (E_h : Exa Z h0 hd "com/example/tombsweep/tombsweep/io/RecordHeader") (F_ml : Fld Z h0 hd "com/example/tombsweep/tombsweep/io/RecordHeader" "metadataLength" "I" (.int m1)) (F_cl : Fld Z h0 hd "com/example/tombsweep/tombsweep/io/RecordHeader" "contentLength" "J" (.long q3)) (hcs : ¬ (cs = (0 : Int32))) (hf : ¬ ((rr - ((44 : Int64) + (m1.toInt64))) < q3)) :
    MetFree l y_25 (head1 (Jvm.Cond.code y_25 prog_5_method_14_code 3 (some .boolean) :: ws) rm_rmFit4Y) (fun A_ U => A_ = #[(.ref hd), (.long rr)] ∧ Z.Warmed39 U.vm ∧ U.heap = h0) (fun _ _ _ _ _ => True) (fun _ U o U' => ∃ v L, o = .returned v ∧ Q_rmFit4Y Z hd rr ke so tb kb x0 x1 x2 x3 cs m1 q3 h0 n0 v U'.heap L ∧ FrameEnd U o U' L rm_rmFit4Y.cells rm_rmFit4Y.slots) := by
 refine MetFree.of_bodySF (plainFor_of_name pn_com_example_tombsweep_tombsweep_io_RecordHeader) hisR ?_
 intro p e s m args below meth c s₁ Bd hml0 hP hK
 obtain ⟨rfl, hZ, hh⟩ := hP
 have hx := Bd.exec
 have hby := Bd.bytes
 have hml : c.maxLocals = 3 := hml0
 have hown : s.vm.findClass "com/example/tombsweep/tombsweep/io/RecordHeader" = some m.cls := findClass_of_methodNamed Bd.named
 have hnm := (name_of_methodNamed Bd.named Bd.method).1
 have X0 : Stand p l e rm_rmFit4Y s m #[(.ref hd), (.long rr)] below meth c s₁ [] 0 0 := Stand.of_body Bd
 have e0 : s₁.heap = h0 := by rw [← hh, Bd.state]; rfl
 have N0 := Fr.nil n0
 refine Go.step (p := p) (e := e) (below := below) (G := fun o U' => ∃ v L, o = .returned v ∧ Q_rmFit4Y Z hd rr ke so tb kb x0 x1 x2 x3 cs m1 q3 h0 n0 v U'.heap L ∧ FrameEnd s o U' L rm_rmFit4Y.cells rm_rmFit4Y.slots) (S' := s₁.setTop (mkF m 0 #[rv hd, lv rr, .second] [])) (fun t k => castTop (ef_rmFit4Y m hd rr) k) ?_
 refine Go.step (S' := s₁.setTop (mkF m 1 #[rv hd, lv rr, .second] [(.ref hd)])) (fun t k => ?_) ?_
 · refine XS.aloadN X0.here hx rfl (hb hby d22_0) rfl rfl ?_
   exact k
 obtain ⟨T1, X1, e1, st1⟩ := getF X0 hx hZ hown (host := "") (Or.inl (own_w hw 121 rfl)) Via.refl e0 F_cl (g := (mkF m 1 #[rv hd, lv rr, .second] [(.ref hd)])) rfl rfl (hb hby d22_1)
 refine Go.step st1 ?_
 refine Go.step (S' := T1.setTop (mkF m 6 #[rv hd, lv rr, .second] [(.ref hd), (.long rr), (.long q3)])) (fun t k => ?_) ?_
 · refine XS.lloadN X1.here hx rfl (hb hby d22_4) rfl ?_
   refine XS.aloadN X1.here hx rfl (hb hby d22_5) rfl rfl ?_
   exact k
 obtain ⟨cq2, kq2, q2a, q2b, q2c⟩ := isOf hZ e1 E_h
 obtain ⟨_, _, ⟨T2, L2, k2, n2⟩, -, X2, ⟨Lc2, hQ2, l2, y2, z2⟩, st2⟩ := X1.virtualBack hx (y := y_24) (z := y_24) hown (mvT hZ (own_w hw 132 rfl)) (mvT hZ (own_w hw 133 rfl)) (notFace_of_selects (args := #[]) (mvT hZ (own_w hw 135 rfl))) (mvT hZ (own_w hw 135 rfl)) (mvT hZ (own_w hw 134 rfl)) (by decide) (backOf (W := 4) (rmCO4 l Z a0 hw [] hd ke so tb kb x0 x1 x2 x3 cs m1 h0 n0 O F_key E_ke F_value_ke E_so F_value_so F_coder_so V_tb S_CS E_h F_ml hcs) hZ (own_w hw 136 rfl) (own_w hw 39 rfl) (by decide) (by decide)) q2a q2c (g := (mkF m 6 #[rv hd, lv rr, .second] [(.ref hd), (.long rr), (.long q3)])) rfl (by rw [hml]; rfl) (Steps.refl _) (argsL := []) (rest := [(.long rr), (.long q3)]) (lenOf pd__28_29J rfl) rfl (Nat.le_of_eq rfl) (hb hby d22_6) (fun _ _ => ⟨rfl, e1, (by decide : 0 + 0 ≤ _), (by decide : 0 + 0 ≤ _)⟩)
 dsimp only [Pt.U, Pt.locs, Pt.cells, Pt.slots] at X2 l2 y2 z2 st2 hQ2
 subst l2 y2 z2
 obtain ⟨rfl, Nq2, e2⟩ := hQ2
 have N2 := Fr.app N0 Nq2
 refine Go.step (fun t k => st2.trans k) ?_
 refine Go.step (S' := T2.setTop (mkF m 19 #[rv hd, lv rr, .second] [(.int (1 : Int32))])) (fun t k => ?_) ?_
 · refine XS.lsub X2.here hx rfl (hb hby d22_9) rfl ?_
   refine XS.lcmp X2.here hx rfl (hb hby d22_10) rfl ?_
   refine XS.ifNo X2.here hx rfl (hb hby d22_11) rfl ((if0 _ _).trans (flt (fun zq => absurd ((lw_gt q3 (rr - ((44 : Int64) + (m1.toInt64)))).mp zq) hf)).2.2.1) ?_
   refine XS.iconst X2.here hx rfl (hb hby d22_14) ?_
   refine XS.goto X2.here hx rfl (pc0 := 15) (pc' := 19) rfl (hb hby d22_15) (by decide) (by decide) ?_
   exact k
 obtain ⟨fs, hr, hrun, hended, hW, hsame⟩ := X2.leave (v := some (.int (1 : Int32))) (fun h => by rw [Bd.returns] at h; cases h)
 refine Go.fin (S' := T2.setFrames fs) ?_ hrun hended ⟨_, _, rfl, ?_, ⟨_, rfl⟩, hW, hsame.mono (by decide) (by decide)⟩
 · exact retOut X2 hx Bd.returns (by decide) (Or.inl ⟨rfl, Or.inr (Or.inl rfl), _, rfl⟩) (hb hby d22_19) hr
 · show Q_rmFit4Y Z hd rr ke so tb kb x0 x1 x2 x3 cs m1 q3 h0 n0 (some (.int (1 : Int32))) T2.heap _
   rw [e2]
   exact ⟨rfl, N2, rfl⟩
theorem ef_rmFit4N (m : MethodId) (hd : Addr) (rr : Int64) : entryFrame m #[(.ref hd), (.long rr)] 3 = mkF m 0 #[.val (.ref hd), .val (.long rr), .second] [] := by first | (simp [entryFrame, mkF, argsToLocals, Value.category]; done) | rfl
abbrev rm_rmFit4N : Room := ({ frames := 5, cells := 0, slots := 0, locals := 66 } : Room)
def Q_rmFit4N (Z : State) (hd : Addr) (rr : Int64) (ke : Addr) (so : Addr) (tb : Addr) (kb : ClassId) (x0 : Int32) (x1 : Int32) (x2 : Int32) (x3 : Int32) (cs : Int32) (m1 : Int32) (q3 : Int64) (h0 : Heap) (n0 : Nat) (v : Option Value) (h : Heap) (L : List Loc) : Prop := (v = some (.int (0 : Int32))) ∧ (Fr n0 L) ∧ (h = h0)
set_option maxRecDepth 65536 in
set_option maxHeartbeats 4000000 in
theorem rmFit4N (l : Launch) (Z : State) (a0 : Array Value) (hw : ∀ d ∈ tables_1, d.before a0 Z = true) (ws : List Jvm.Cond) (hd : Addr) (rr : Int64) (ke : Addr) (so : Addr) (tb : Addr) (kb : ClassId) (x0 : Int32) (x1 : Int32) (x2 : Int32) (x3 : Int32) (cs : Int32) (m1 : Int32) (q3 : Int64) (h0 : Heap) (n0 : Nat) (O : Old Z n0 h0) (F_key : Fld Z h0 hd "com/example/tombsweep/tombsweep/io/RecordHeader" "key" "Lcom/example/tombsweep/tombsweep/model/BlobKey;" (.ref ke)) (E_ke : Exa Z h0 ke "com/example/tombsweep/tombsweep/model/BlobKey") (F_value_ke : Fld Z h0 ke "com/example/tombsweep/tombsweep/model/BlobKey" "value" "Ljava/lang/String;" (.ref so)) (E_so : Exa Z h0 so "java/lang/String") (F_value_so : Fld Z h0 so "java/lang/String" "value" "[B" (.ref tb)) (F_coder_so : Fld Z h0 so "java/lang/String" "coder" "B" (.int (0 : Int32))) (V_tb : Arv Z h0 tb kb .byte (4 : Int32) [(.int (x0.toInt8.toInt32)), (.int (x1.toInt8.toInt32)), (.int (x2.toInt8.toInt32)), (.int (x3.toInt8.toInt32))] (.int (0 : Int32))) (S_CS : Sta Z Z.heap "java/lang/String" "COMPACT_STRINGS" "Z" (.int cs)) (E_h : Exa Z h0 hd "com/example/tombsweep/tombsweep/io/RecordHeader") (F_ml : Fld Z h0 hd "com/example/tombsweep/tombsweep/io/RecordHeader" "metadataLength" "I" (.int m1)) (F_cl : Fld Z h0 hd "com/example/tombsweep/tombsweep/io/RecordHeader" "contentLength" "J" (.long q3)) (hcs : ¬ (cs = (0 : Int32))) (hf : (rr - ((44 : Int64) + (m1.toInt64))) < q3) :
    MetFree l y_25 (head1 (Jvm.Cond.code y_25 prog_5_method_14_code 3 (some .boolean) :: ws) rm_rmFit4N) (fun A_ U => A_ = #[(.ref hd), (.long rr)] ∧ Z.Warmed39 U.vm ∧ U.heap = h0) (fun _ _ _ _ _ => True) (fun _ U o U' => ∃ v L, o = .returned v ∧ Q_rmFit4N Z hd rr ke so tb kb x0 x1 x2 x3 cs m1 q3 h0 n0 v U'.heap L ∧ FrameEnd U o U' L rm_rmFit4N.cells rm_rmFit4N.slots) := by
 refine MetFree.of_bodySF (plainFor_of_name pn_com_example_tombsweep_tombsweep_io_RecordHeader) hisR ?_
 intro p e s m args below meth c s₁ Bd hml0 hP hK
 obtain ⟨rfl, hZ, hh⟩ := hP
 have hx := Bd.exec
 have hby := Bd.bytes
 have hml : c.maxLocals = 3 := hml0
 have hown : s.vm.findClass "com/example/tombsweep/tombsweep/io/RecordHeader" = some m.cls := findClass_of_methodNamed Bd.named
 have hnm := (name_of_methodNamed Bd.named Bd.method).1
 have X0 : Stand p l e rm_rmFit4N s m #[(.ref hd), (.long rr)] below meth c s₁ [] 0 0 := Stand.of_body Bd
 have e0 : s₁.heap = h0 := by rw [← hh, Bd.state]; rfl
 have N0 := Fr.nil n0
 refine Go.step (p := p) (e := e) (below := below) (G := fun o U' => ∃ v L, o = .returned v ∧ Q_rmFit4N Z hd rr ke so tb kb x0 x1 x2 x3 cs m1 q3 h0 n0 v U'.heap L ∧ FrameEnd s o U' L rm_rmFit4N.cells rm_rmFit4N.slots) (S' := s₁.setTop (mkF m 0 #[rv hd, lv rr, .second] [])) (fun t k => castTop (ef_rmFit4N m hd rr) k) ?_
 refine Go.step (S' := s₁.setTop (mkF m 1 #[rv hd, lv rr, .second] [(.ref hd)])) (fun t k => ?_) ?_
 · refine XS.aloadN X0.here hx rfl (hb hby d22_0) rfl rfl ?_
   exact k
 obtain ⟨T1, X1, e1, st1⟩ := getF X0 hx hZ hown (host := "") (Or.inl (own_w hw 121 rfl)) Via.refl e0 F_cl (g := (mkF m 1 #[rv hd, lv rr, .second] [(.ref hd)])) rfl rfl (hb hby d22_1)
 refine Go.step st1 ?_
 refine Go.step (S' := T1.setTop (mkF m 6 #[rv hd, lv rr, .second] [(.ref hd), (.long rr), (.long q3)])) (fun t k => ?_) ?_
 · refine XS.lloadN X1.here hx rfl (hb hby d22_4) rfl ?_
   refine XS.aloadN X1.here hx rfl (hb hby d22_5) rfl rfl ?_
   exact k
 obtain ⟨cq2, kq2, q2a, q2b, q2c⟩ := isOf hZ e1 E_h
 obtain ⟨_, _, ⟨T2, L2, k2, n2⟩, -, X2, ⟨Lc2, hQ2, l2, y2, z2⟩, st2⟩ := X1.virtualBack hx (y := y_24) (z := y_24) hown (mvT hZ (own_w hw 132 rfl)) (mvT hZ (own_w hw 133 rfl)) (notFace_of_selects (args := #[]) (mvT hZ (own_w hw 135 rfl))) (mvT hZ (own_w hw 135 rfl)) (mvT hZ (own_w hw 134 rfl)) (by decide) (backOf (W := 4) (rmCO4 l Z a0 hw [] hd ke so tb kb x0 x1 x2 x3 cs m1 h0 n0 O F_key E_ke F_value_ke E_so F_value_so F_coder_so V_tb S_CS E_h F_ml hcs) hZ (own_w hw 136 rfl) (own_w hw 39 rfl) (by decide) (by decide)) q2a q2c (g := (mkF m 6 #[rv hd, lv rr, .second] [(.ref hd), (.long rr), (.long q3)])) rfl (by rw [hml]; rfl) (Steps.refl _) (argsL := []) (rest := [(.long rr), (.long q3)]) (lenOf pd__28_29J rfl) rfl (Nat.le_of_eq rfl) (hb hby d22_6) (fun _ _ => ⟨rfl, e1, (by decide : 0 + 0 ≤ _), (by decide : 0 + 0 ≤ _)⟩)
 dsimp only [Pt.U, Pt.locs, Pt.cells, Pt.slots] at X2 l2 y2 z2 st2 hQ2
 subst l2 y2 z2
 obtain ⟨rfl, Nq2, e2⟩ := hQ2
 have N2 := Fr.app N0 Nq2
 refine Go.step (fun t k => st2.trans k) ?_
 refine Go.step (S' := T2.setTop (mkF m 19 #[rv hd, lv rr, .second] [(.int (0 : Int32))])) (fun t k => ?_) ?_
 · refine XS.lsub X2.here hx rfl (hb hby d22_9) rfl ?_
   refine XS.lcmp X2.here hx rfl (hb hby d22_10) rfl ?_
   refine XS.ifYes X2.here hx rfl (pc0 := 11) (pc' := 18) rfl (hb hby d22_11) rfl ((if0 _ _).trans (tlt ((lw_gt q3 (rr - ((44 : Int64) + (m1.toInt64)))).mpr hf)).2.2.1) (by decide) (by decide) ?_
   refine XS.iconst X2.here hx rfl (hb hby d22_18) ?_
   exact k
 obtain ⟨fs, hr, hrun, hended, hW, hsame⟩ := X2.leave (v := some (.int (0 : Int32))) (fun h => by rw [Bd.returns] at h; cases h)
 refine Go.fin (S' := T2.setFrames fs) ?_ hrun hended ⟨_, _, rfl, ?_, ⟨_, rfl⟩, hW, hsame.mono (by decide) (by decide)⟩
 · exact retOut X2 hx Bd.returns (by decide) (Or.inl ⟨rfl, Or.inr (Or.inl rfl), _, rfl⟩) (hb hby d22_19) hr
 · show Q_rmFit4N Z hd rr ke so tb kb x0 x1 x2 x3 cs m1 q3 h0 n0 (some (.int (0 : Int32))) T2.heap _
   rw [e2]
   exact ⟨rfl, N2, rfl⟩
theorem pd__28_5bC_29V : parseMethodDescriptor "([C)V" = some ⟨[(.array .char)], none⟩ := by decide +kernel
theorem pd__28I_29Lcom_2fexample_2ftombsweep_2ftombsweep_2fio_2fRecordHeader_24Kind_3b : parseMethodDescriptor "(I)Lcom/example/tombsweep/tombsweep/io/RecordHeader$Kind;" = some ⟨[.int], some (.object "com/example/tombsweep/tombsweep/io/RecordHeader$Kind")⟩ := by decide +kernel
theorem pd__28Ljava_2flang_2fString_3b_29V : parseMethodDescriptor "(Ljava/lang/String;)V" = some ⟨[(.object "java/lang/String")], none⟩ := by decide +kernel
theorem pd__28Lcom_2fexample_2ftombsweep_2ftombsweep_2fio_2fRecordHeader_24Kind_3bLcom_2fexample_2ftombsweep_2ftombsweep_2fmodel_2fBlobKey_3bIJJJII_29V : parseMethodDescriptor "(Lcom/example/tombsweep/tombsweep/io/RecordHeader$Kind;Lcom/example/tombsweep/tombsweep/model/BlobKey;IJJJII)V" = some ⟨[(.object "com/example/tombsweep/tombsweep/io/RecordHeader$Kind"), (.object "com/example/tombsweep/tombsweep/model/BlobKey"), .int, .long, .long, .long, .int, .int], none⟩ := by decide +kernel
theorem pd__28J_29Z : parseMethodDescriptor "(J)Z" = some ⟨[.long], some .boolean⟩ := by decide +kernel
theorem pd__28JJ_29J : parseMethodDescriptor "(JJ)J" = some ⟨[.long, .long], some .long⟩ := by decide +kernel
theorem ef_rm0 (m : MethodId) (p0 : Int32) (p1 : Int32) (q2 : Int64) (q3 : Int64) (p4 : Int32) : entryFrame m #[(.int p0), (.int p1), (.long q2), (.long q3), (.int p4)] maxLocals = mkF m 0 #[.val (.int p0), .val (.int p1), .val (.long q2), .second, .val (.long q3), .second, .val (.int p4), .unset, .unset, .unset, .unset, .unset, .unset, .unset, .unset, .unset, .unset, .unset, .unset, .unset, .unset, .unset] [] := by first | (simp [entryFrame, mkF, argsToLocals, Value.category, maxLocals]; done) | rfl
def Q_rm0 (Z : State) (p0 : Int32) (p1 : Int32) (q2 : Int64) (q3 : Int64) (p4 : Int32) (w_PUT : Addr) (w_ERASED : Addr) (w_DELETE : Addr) (w_GONE : Addr) (w_UNFINISHED : Addr) (cs : Int32) (sf : Value) (h0 : Heap) (n0 : Nat) (v : Option Value) (h : Heap) (L : List Loc) : Prop := (v = some (.int (1 : Int32))) ∧ (Fr n0 L) ∧ (Keep h0 h [])
set_option maxRecDepth 65536 in
set_option maxHeartbeats 4000000 in
theorem rm0 (l : Launch) (Z : State) (a0 : Array Value) (hw : ∀ d ∈ tables_1, d.before a0 Z = true) (ws : List Jvm.Cond) (p0 : Int32) (p1 : Int32) (q2 : Int64) (q3 : Int64) (p4 : Int32) (w_PUT : Addr) (w_ERASED : Addr) (w_DELETE : Addr) (w_GONE : Addr) (w_UNFINISHED : Addr) (cs : Int32) (sf : Value) (h0 : Heap) (n0 : Nat) (O : Old Z n0 h0) (S_PUT : Sta Z Z.heap "com/example/tombsweep/tombsweep/io/RecordHeader$Kind" "PUT" "Lcom/example/tombsweep/tombsweep/io/RecordHeader$Kind;" (.ref w_PUT)) (S_ERASED : Sta Z Z.heap "com/example/tombsweep/tombsweep/io/RecordHeader$Kind" "ERASED" "Lcom/example/tombsweep/tombsweep/io/RecordHeader$Kind;" (.ref w_ERASED)) (S_DELETE : Sta Z Z.heap "com/example/tombsweep/tombsweep/io/RecordHeader$Kind" "DELETE" "Lcom/example/tombsweep/tombsweep/io/RecordHeader$Kind;" (.ref w_DELETE)) (S_GONE : Sta Z Z.heap "com/example/tombsweep/tombsweep/io/RecordHeader$Kind" "GONE" "Lcom/example/tombsweep/tombsweep/io/RecordHeader$Kind;" (.ref w_GONE)) (S_UNFINISHED : Sta Z Z.heap "com/example/tombsweep/tombsweep/io/RecordHeader$Kind" "UNFINISHED" "Lcom/example/tombsweep/tombsweep/io/RecordHeader$Kind;" (.ref w_UNFINISHED)) (S_CS : Sta Z Z.heap "java/lang/String" "COMPACT_STRINGS" "Z" (.int cs)) (S_FM : Sta Z Z.heap "jdk/internal/util/Preconditions" "SIOOBE_FORMATTER" "Ljava/util/function/BiFunction;" sf) (hcs : ¬ (cs = (0 : Int32))) (hsf : sf.isRef = true) :
    MetFree l x (head1 (Jvm.Cond.code x code maxLocals ret :: ws) room_1) (fun A_ U => A_ = #[(.int p0), (.int p1), (.long q2), (.long q3), (.int p4)] ∧ Z.Warmed39 U.vm ∧ U.heap = h0) (fun _ _ _ _ _ => True) (fun _ U o U' => ∃ v L, o = .returned v ∧ Q_rm0 Z p0 p1 q2 q3 p4 w_PUT w_ERASED w_DELETE w_GONE w_UNFINISHED cs sf h0 n0 v U'.heap L ∧ ReturnedEndW U o U' L room_1.cells room_1.slots) := by
 refine MetFree.of_bodySF (plainFor_of_name pn_com_example_tombsweep_tombsweep_io_RecordHeaderFitsInPinLaw) hisR ?_
 intro p e s m args below meth c s₁ Bd hml0 hP hK
 obtain ⟨rfl, hZ, hh⟩ := hP
 have hx := Bd.exec
 have hby := Bd.bytes
 have hml : c.maxLocals = 22 := hml0
 have hown : s.vm.findClass "com/example/tombsweep/tombsweep/io/RecordHeaderFitsInPinLaw" = some m.cls := findClass_of_methodNamed Bd.named
 have hnm := (name_of_methodNamed Bd.named Bd.method).1
 have X0 : Stand p l e room_1 (s.setVm s.vm) m #[(.int p0), (.int p1), (.long q2), (.long q3), (.int p4)] below meth c s₁ [] 0 0 := Stand.of_body Bd
 have e0 : s₁.heap = h0 := by rw [← hh, Bd.state]; rfl
 have N0 := Fr.nil n0
 have K := Keep.refl h0 []
 have hS : s.Since s.vm 0 := (State.WarmedH.refl s).since 0
 have hk : 0 ≤ h0.size := Nat.zero_le _
 have wS := own_wS hw
 refine Go.step (p := p) (e := e) (below := below) (G := fun o U' => ∃ v L, o = .returned v ∧ Q_rm0 Z p0 p1 q2 q3 p4 w_PUT w_ERASED w_DELETE w_GONE w_UNFINISHED cs sf h0 n0 v U'.heap L ∧ ReturnedEndW s o U' L room_1.cells room_1.slots) (S' := s₁.setTop (mkF m 0 #[iv p0, iv p1, lv q2, .second, lv q3, .second, iv p4, u_, u_, u_, u_, u_, u_, u_, u_, u_, u_, u_, u_, u_, u_, u_] [])) (fun t k => castTop (ef_rm0 m p0 p1 q2 q3 p4) k) ?_
 refine Go.step (S' := s₁.setTop (mkF m 10 #[iv p0, iv p1, lv q2, .second, lv q3, .second, iv p4, iv ((p0 &&& (3 : Int32)) + (1 : Int32)), u_, u_, u_, u_, u_, u_, u_, u_, u_, u_, u_, u_, u_, u_] [(.int ((p0.toUInt32 >>> ((2 : Int32) &&& 31).toUInt32).toInt32))])) (fun t k => ?_) ?_
 · refine XS.iloadN X0.here hx rfl (hb hby at_0) rfl ?_
   refine XS.iconst X0.here hx rfl (hb hby at_1) ?_
   refine XS.iand X0.here hx rfl (hb hby at_2) rfl ?_
   refine XS.iconst X0.here hx rfl (hb hby at_3) ?_
   refine XS.iadd X0.here hx rfl (hb hby at_4) rfl ?_
   refine XS.istore X0.here hx rfl (hb hby at_5) rfl (l' := #[iv p0, iv p1, lv q2, .second, lv q3, .second, iv p4, iv ((p0 &&& (3 : Int32)) + (1 : Int32)), u_, u_, u_, u_, u_, u_, u_, u_, u_, u_, u_, u_, u_, u_]) rfl ?_
   show Steps p.tables e below (s₁.setTop (mkF m 7 #[iv p0, iv p1, lv q2, .second, lv q3, .second, iv p4, iv ((p0 &&& (3 : Int32)) + (1 : Int32)), u_, u_, u_, u_, u_, u_, u_, u_, u_, u_, u_, u_, u_, u_] [])) _
   refine XS.iloadN X0.here hx rfl (hb hby at_7) rfl ?_
   refine XS.iconst X0.here hx rfl (hb hby at_8) ?_
   refine XS.iushr X0.here hx rfl (hb hby at_9) rfl ?_
   exact k
 obtain ⟨_, _, ⟨T1, L1, k1, n1⟩, -, X1, ⟨Lc1, hQ1, l1, y1, z1⟩, st1⟩ := Jvm.LawKit.callS X0 hx (y := y_14) hown (mvT hZ (own_w hw 0 rfl)) (mvT hZ (own_w hw 1 rfl)) (mvT hZ (own_w hw 2 rfl)) (mvT hZ (own_w hw 3 rfl)) (by decide) (backOf (W := 0) (rmKc l Z a0 hw [] ((p0.toUInt32 >>> ((2 : Int32) &&& 31).toUInt32).toInt32) h0 n0 O ) hZ (own_w hw 3 rfl) (own_w hw 2 rfl) (by decide) (by decide)) (g := (mkF m 10 #[iv p0, iv p1, lv q2, .second, lv q3, .second, iv p4, iv ((p0 &&& (3 : Int32)) + (1 : Int32)), u_, u_, u_, u_, u_, u_, u_, u_, u_, u_, u_, u_, u_, u_] [(.int ((p0.toUInt32 >>> ((2 : Int32) &&& 31).toUInt32).toInt32))])) rfl (by rw [hml]; rfl) (argsL := [(.int ((p0.toUInt32 >>> ((2 : Int32) &&& 31).toUInt32).toInt32))]) (rest := []) (lenOf pd__28I_29C rfl) rfl (Nat.le_of_eq rfl) (hb hby at_10) (fun _ _ => ⟨rfl, e0, (by decide : 0 + 0 ≤ _), (by decide : 0 + 0 ≤ _)⟩)
 dsimp only [Pt.U, Pt.locs, Pt.cells, Pt.slots] at X1 l1 y1 z1 st1 hQ1
 subst l1 y1 z1
 obtain ⟨r_1, rfl, Nq1, e1, k0_1, k1_1, k2_1, k3_1⟩ := hQ1
 have N1 := Fr.app N0 Nq1
 refine Go.step st1 ?_
 refine Go.step (S' := T1.setTop (mkF m 19 #[iv p0, iv p1, lv q2, .second, lv q3, .second, iv p4, iv ((p0 &&& (3 : Int32)) + (1 : Int32)), iv r_1, u_, u_, u_, u_, u_, u_, u_, u_, u_, u_, u_, u_, u_] [(.int ((p0.toUInt32 >>> ((9 : Int32) &&& 31).toUInt32).toInt32))])) (fun t k => ?_) ?_
 · refine XS.istore X1.here hx rfl (hb hby at_13) rfl (l' := #[iv p0, iv p1, lv q2, .second, lv q3, .second, iv p4, iv ((p0 &&& (3 : Int32)) + (1 : Int32)), iv r_1, u_, u_, u_, u_, u_, u_, u_, u_, u_, u_, u_, u_, u_]) rfl ?_
   refine XS.iloadN X1.here hx rfl (hb hby at_15) rfl ?_
   refine XS.bipush X1.here hx rfl (hb hby at_16) ?_
   refine XS.iushr X1.here hx rfl (hb hby at_18) rfl ?_
   exact k
 obtain ⟨_, _, ⟨T2, L2, k2, n2⟩, -, X2, ⟨Lc2, hQ2, l2, y2, z2⟩, st2⟩ := Jvm.LawKit.callS X1 hx (y := y_14) hown (mvT hZ (own_w hw 0 rfl)) (mvT hZ (own_w hw 1 rfl)) (mvT hZ (own_w hw 2 rfl)) (mvT hZ (own_w hw 3 rfl)) (by decide) (backOf (W := 0) (rmKc l Z a0 hw [] ((p0.toUInt32 >>> ((9 : Int32) &&& 31).toUInt32).toInt32) h0 n0 O ) hZ (own_w hw 3 rfl) (own_w hw 2 rfl) (by decide) (by decide)) (g := (mkF m 19 #[iv p0, iv p1, lv q2, .second, lv q3, .second, iv p4, iv ((p0 &&& (3 : Int32)) + (1 : Int32)), iv r_1, u_, u_, u_, u_, u_, u_, u_, u_, u_, u_, u_, u_, u_] [(.int ((p0.toUInt32 >>> ((9 : Int32) &&& 31).toUInt32).toInt32))])) rfl (by rw [hml]; rfl) (argsL := [(.int ((p0.toUInt32 >>> ((9 : Int32) &&& 31).toUInt32).toInt32))]) (rest := []) (lenOf pd__28I_29C rfl) rfl (Nat.le_of_eq rfl) (hb hby at_19) (fun _ _ => ⟨rfl, e1, (by decide : 0 + 0 ≤ _), (by decide : 0 + 0 ≤ _)⟩)
 dsimp only [Pt.U, Pt.locs, Pt.cells, Pt.slots] at X2 l2 y2 z2 st2 hQ2
 subst l2 y2 z2
 obtain ⟨r_2, rfl, Nq2, e2, k0_2, k1_2, k2_2, k3_2⟩ := hQ2
 have N2 := Fr.app N1 Nq2
 refine Go.step st2 ?_
 refine Go.step (S' := T2.setTop (mkF m 28 #[iv p0, iv p1, lv q2, .second, lv q3, .second, iv p4, iv ((p0 &&& (3 : Int32)) + (1 : Int32)), iv r_1, iv r_2, u_, u_, u_, u_, u_, u_, u_, u_, u_, u_, u_, u_] [(.int ((p0.toUInt32 >>> ((16 : Int32) &&& 31).toUInt32).toInt32))])) (fun t k => ?_) ?_
 · refine XS.istore X2.here hx rfl (hb hby at_22) rfl (l' := #[iv p0, iv p1, lv q2, .second, lv q3, .second, iv p4, iv ((p0 &&& (3 : Int32)) + (1 : Int32)), iv r_1, iv r_2, u_, u_, u_, u_, u_, u_, u_, u_, u_, u_, u_, u_]) rfl ?_
   refine XS.iloadN X2.here hx rfl (hb hby at_24) rfl ?_
   refine XS.bipush X2.here hx rfl (hb hby at_25) ?_
   refine XS.iushr X2.here hx rfl (hb hby at_27) rfl ?_
   exact k
 obtain ⟨_, _, ⟨T3, L3, k3, n3⟩, -, X3, ⟨Lc3, hQ3, l3, y3, z3⟩, st3⟩ := Jvm.LawKit.callS X2 hx (y := y_14) hown (mvT hZ (own_w hw 0 rfl)) (mvT hZ (own_w hw 1 rfl)) (mvT hZ (own_w hw 2 rfl)) (mvT hZ (own_w hw 3 rfl)) (by decide) (backOf (W := 0) (rmKc l Z a0 hw [] ((p0.toUInt32 >>> ((16 : Int32) &&& 31).toUInt32).toInt32) h0 n0 O ) hZ (own_w hw 3 rfl) (own_w hw 2 rfl) (by decide) (by decide)) (g := (mkF m 28 #[iv p0, iv p1, lv q2, .second, lv q3, .second, iv p4, iv ((p0 &&& (3 : Int32)) + (1 : Int32)), iv r_1, iv r_2, u_, u_, u_, u_, u_, u_, u_, u_, u_, u_, u_, u_] [(.int ((p0.toUInt32 >>> ((16 : Int32) &&& 31).toUInt32).toInt32))])) rfl (by rw [hml]; rfl) (argsL := [(.int ((p0.toUInt32 >>> ((16 : Int32) &&& 31).toUInt32).toInt32))]) (rest := []) (lenOf pd__28I_29C rfl) rfl (Nat.le_of_eq rfl) (hb hby at_28) (fun _ _ => ⟨rfl, e2, (by decide : 0 + 0 ≤ _), (by decide : 0 + 0 ≤ _)⟩)
 dsimp only [Pt.U, Pt.locs, Pt.cells, Pt.slots] at X3 l3 y3 z3 st3 hQ3
 subst l3 y3 z3
 obtain ⟨r_3, rfl, Nq3, e3, k0_3, k1_3, k2_3, k3_3⟩ := hQ3
 have N3 := Fr.app N2 Nq3
 refine Go.step st3 ?_
 refine Go.step (S' := T3.setTop (mkF m 37 #[iv p0, iv p1, lv q2, .second, lv q3, .second, iv p4, iv ((p0 &&& (3 : Int32)) + (1 : Int32)), iv r_1, iv r_2, iv r_3, u_, u_, u_, u_, u_, u_, u_, u_, u_, u_, u_] [(.int ((p0.toUInt32 >>> ((23 : Int32) &&& 31).toUInt32).toInt32))])) (fun t k => ?_) ?_
 · refine XS.istore X3.here hx rfl (hb hby at_31) rfl (l' := #[iv p0, iv p1, lv q2, .second, lv q3, .second, iv p4, iv ((p0 &&& (3 : Int32)) + (1 : Int32)), iv r_1, iv r_2, iv r_3, u_, u_, u_, u_, u_, u_, u_, u_, u_, u_, u_]) rfl ?_
   refine XS.iloadN X3.here hx rfl (hb hby at_33) rfl ?_
   refine XS.bipush X3.here hx rfl (hb hby at_34) ?_
   refine XS.iushr X3.here hx rfl (hb hby at_36) rfl ?_
   exact k
 obtain ⟨_, _, ⟨T4, L4, k4, n4⟩, -, X4, ⟨Lc4, hQ4, l4, y4, z4⟩, st4⟩ := Jvm.LawKit.callS X3 hx (y := y_14) hown (mvT hZ (own_w hw 0 rfl)) (mvT hZ (own_w hw 1 rfl)) (mvT hZ (own_w hw 2 rfl)) (mvT hZ (own_w hw 3 rfl)) (by decide) (backOf (W := 0) (rmKc l Z a0 hw [] ((p0.toUInt32 >>> ((23 : Int32) &&& 31).toUInt32).toInt32) h0 n0 O ) hZ (own_w hw 3 rfl) (own_w hw 2 rfl) (by decide) (by decide)) (g := (mkF m 37 #[iv p0, iv p1, lv q2, .second, lv q3, .second, iv p4, iv ((p0 &&& (3 : Int32)) + (1 : Int32)), iv r_1, iv r_2, iv r_3, u_, u_, u_, u_, u_, u_, u_, u_, u_, u_, u_] [(.int ((p0.toUInt32 >>> ((23 : Int32) &&& 31).toUInt32).toInt32))])) rfl (by rw [hml]; rfl) (argsL := [(.int ((p0.toUInt32 >>> ((23 : Int32) &&& 31).toUInt32).toInt32))]) (rest := []) (lenOf pd__28I_29C rfl) rfl (Nat.le_of_eq rfl) (hb hby at_37) (fun _ _ => ⟨rfl, e3, (by decide : 0 + 0 ≤ _), (by decide : 0 + 0 ≤ _)⟩)
 dsimp only [Pt.U, Pt.locs, Pt.cells, Pt.slots] at X4 l4 y4 z4 st4 hQ4
 subst l4 y4 z4
 obtain ⟨r_4, rfl, Nq4, e4, k0_4, k1_4, k2_4, k3_4⟩ := hQ4
 have N4 := Fr.app N3 Nq4
 refine Go.step st4 ?_
 refine Go.step (S' := T4.setTop (mkF m 45 #[iv p0, iv p1, lv q2, .second, lv q3, .second, iv p4, iv ((p0 &&& (3 : Int32)) + (1 : Int32)), iv r_1, iv r_2, iv r_3, iv r_4, u_, u_, u_, u_, u_, u_, u_, u_, u_, u_] [(.int (1 : Int32)), (.int ((p0 &&& (3 : Int32)) + (1 : Int32)))])) (fun t k => ?_) ?_
 · refine XS.istore X4.here hx rfl (hb hby at_40) rfl (l' := #[iv p0, iv p1, lv q2, .second, lv q3, .second, iv p4, iv ((p0 &&& (3 : Int32)) + (1 : Int32)), iv r_1, iv r_2, iv r_3, iv r_4, u_, u_, u_, u_, u_, u_, u_, u_, u_, u_]) rfl ?_
   refine XS.iload X4.here hx rfl (hb hby at_42) rfl ?_
   refine XS.iconst X4.here hx rfl (hb hby at_44) ?_
   exact k
 by_cases hc45 : ((p0 &&& (3 : Int32)) + (1 : Int32)) = (1 : Int32)
 ·skip
  refine Go.step (S' := T4.setTop (mkF m 48 #[iv p0, iv p1, lv q2, .second, lv q3, .second, iv p4, iv ((p0 &&& (3 : Int32)) + (1 : Int32)), iv r_1, iv r_2, iv r_3, iv r_4, u_, u_, u_, u_, u_, u_, u_, u_, u_, u_] [])) (fun t k => ?_) ?_
  · refine XS.icmpNo X4.here hx rfl (hb hby at_45) rfl (teq (hc45 : ((p0 &&& (3 : Int32)) + (1 : Int32)) = (1 : Int32))).2 ?_
    exact k
  obtain ⟨T5, h5, X5, e5, E5, A5, D5, -, st5⟩ := newO X4 hx hZ hown (own_w hw 5 rfl) (own_w hw 6 rfl) (own_w hw 7 rfl) e4 (g := (mkF m 48 #[iv p0, iv p1, lv q2, .second, lv q3, .second, iv p4, iv ((p0 &&& (3 : Int32)) + (1 : Int32)), iv r_1, iv r_2, iv r_3, iv r_4, u_, u_, u_, u_, u_, u_, u_, u_, u_, u_] [])) rfl (hb hby at_48) (by decide) (by decide)
  obtain ⟨b5, g5⟩ : ∃ z, z = Array.size h0 := ⟨_, rfl⟩
  have g_b5 : n0 ≤ b5 := Nat.le_trans (old_le O) (Nat.le_of_eq g5.symm)
  have sz_b5 : h0.size ≤ b5 := Nat.le_trans K.1 (Nat.le_of_eq g5.symm)
  rw [← g5] at A5 D5 st5
  have O := O.ext E5
  have hk := Nat.le_trans hk E5.1
  have K := K.ext E5
  have E_b5 := A5
  have F_coder_b5 : Fld Z h5 b5 "java/lang/String" "coder" "B" (.int (0 : Int32)) := D5 (Or.inr (own_w hw 32 rfl)) (ty := .byte) (by decide)
  have F_value_b5 : Fld Z h5 b5 "java/lang/String" "value" "[B" .null := D5 (Or.inr (own_w hw 34 rfl)) (ty := (.array .byte)) (by decide)
  refine Go.step st5 ?_
  refine Go.step (S' := T5.setTop (mkF m 53 #[iv p0, iv p1, lv q2, .second, lv q3, .second, iv p4, iv ((p0 &&& (3 : Int32)) + (1 : Int32)), iv r_1, iv r_2, iv r_3, iv r_4, u_, u_, u_, u_, u_, u_, u_, u_, u_, u_] [(.int (1 : Int32)), (.ref b5), (.ref b5)])) (fun t k => ?_) ?_
  · refine XS.dup X5.here hx rfl (hb hby at_51) rfl rfl ?_
    refine XS.iconst X5.here hx rfl (hb hby at_52) ?_
    exact k
  obtain ⟨T6, h6, k6, X6, e6, E6, A6, st6⟩ := newP X5 hx hZ (own_w hw 8 rfl) e5 (g := (mkF m 53 #[iv p0, iv p1, lv q2, .second, lv q3, .second, iv p4, iv ((p0 &&& (3 : Int32)) + (1 : Int32)), iv r_1, iv r_2, iv r_3, iv r_4, u_, u_, u_, u_, u_, u_, u_, u_, u_, u_] [(.int (1 : Int32)), (.ref b5), (.ref b5)])) rfl (hb hby at_53) rfl (by decide) (cap := 1) (by decide) (by decide) (by decide) (by decide)
  obtain ⟨b6, g6⟩ : ∃ z, z = Array.size h5 := ⟨_, rfl⟩
  have g_b6 : n0 ≤ b6 := Nat.le_trans (old_le O) (Nat.le_of_eq g6.symm)
  have sz_b6 : h0.size ≤ b6 := Nat.le_trans K.1 (Nat.le_of_eq g6.symm)
  have ne_b5_b6 : b5 ≠ b6 := Nat.ne_of_lt (Nat.lt_of_lt_of_le E_b5.lt (Nat.le_of_eq g6.symm))
  rw [← g6] at A6 st6
  have O := O.ext E6
  have hk := Nat.le_trans hk E6.1
  have K := K.ext E6
  have E_b5 := E_b5.ext E6
  have F_coder_b5 := F_coder_b5.ext E6
  have F_value_b5 := F_value_b5.ext E6
  have V_b6 : Arv Z h6 b6 k6 .char (1 : Int32) [(.int (0 : Int32))] (.int (0 : Int32)) := (Arv.new A6 (by decide)).pad (pad_rep [] (.int (0 : Int32)) 1)
  refine Go.step st6 ?_
  refine Go.step (S' := T6.setTop (mkF m 59 #[iv p0, iv p1, lv q2, .second, lv q3, .second, iv p4, iv ((p0 &&& (3 : Int32)) + (1 : Int32)), iv r_1, iv r_2, iv r_3, iv r_4, u_, u_, u_, u_, u_, u_, u_, u_, u_, u_] [(.int r_1), (.int (0 : Int32)), (.ref b6), (.ref b6), (.ref b5), (.ref b5)])) (fun t k => ?_) ?_
  · refine XS.dup X6.here hx rfl (hb hby at_55) rfl rfl ?_
    refine XS.iconst X6.here hx rfl (hb hby at_56) ?_
    refine XS.iload X6.here hx rfl (hb hby at_57) rfl ?_
    exact k
  obtain ⟨cl7, Ar7, q7, S7, N7_, H7, G7⟩ := V_b6
  have hin7 : ¬ ((0 : Int32) < 0 ∨ cl7.slots.size ≤ ((0 : Int32)).toNatClampNeg) := inb_of S7 ⟨by decide, by decide⟩
  obtain ⟨T7, h7, X7, e7, W7, st7⟩ := stC X6 hx hZ e6 Ar7 (j := (0 : Int32)) hin7 (g := (mkF m 59 #[iv p0, iv p1, lv q2, .second, lv q3, .second, iv p4, iv ((p0 &&& (3 : Int32)) + (1 : Int32)), iv r_1, iv r_2, iv r_3, iv r_4, u_, u_, u_, u_, u_, u_, u_, u_, u_, u_] [(.int r_1), (.int (0 : Int32)), (.ref b6), (.ref b6), (.ref b5), (.ref b5)])) rfl rfl (hb hby at_59)
  have O := O.wr W7 g_b6
  have hk := Nat.le_trans hk (Keep.of_wr W7).1
  have K := K.wr W7 (Or.inr sz_b6)
  have E_b5 := E_b5.wr W7
  have F_coder_b5 := F_coder_b5.other W7 (Or.inl ne_b5_b6)
  have F_value_b5 := F_value_b5.other W7 (Or.inl ne_b5_b6)
  have V_b6 : Arv Z h7 b6 k6 .char (1 : Int32) [(.int (r_1.toUInt32.toUInt16.toUInt32.toInt32))] (.int (0 : Int32)) := Arv.set Ar7 q7 S7 N7_ H7 G7 (fits_nar_char _) W7 0 rfl (Nat.le_of_ble_eq_true rfl)
  rw [(own_i2c (by assumption) (by assumption) : (r_1.toUInt32.toUInt16.toUInt32.toInt32) = r_1)] at V_b6
  have N7 := Fr.snoc X7 N4 g_b6
  refine Go.step st7 ?_
  obtain ⟨_, _, ⟨T8, L8, k8, n8⟩, -, X8, ⟨Lc8, hQ8, l8, y8, z8⟩, st8⟩ := X7.specialBack hx (y := y_12) rfl hown (mvT hZ (own_w hw 9 rfl)) (mvT hZ (own_w hw 10 rfl)) (mvT hZ (own_w hw 11 rfl)) (by decide) (backOf (W := 1) (rmNS1 l Z a0 hw [] b5 b6 k6 cs r_1 h7 n0 O S_CS E_b5 F_value_b5 F_coder_b5 V_b6 (by assumption) hcs k3_1) hZ (own_w hw 11 rfl) (own_w hw 7 rfl) (by decide) (by decide)) (g := (mkF m 60 #[iv p0, iv p1, lv q2, .second, lv q3, .second, iv p4, iv ((p0 &&& (3 : Int32)) + (1 : Int32)), iv r_1, iv r_2, iv r_3, iv r_4, u_, u_, u_, u_, u_, u_, u_, u_, u_, u_] [(.ref b6), (.ref b5), (.ref b5)])) rfl (by rw [hml]; rfl) (Steps.refl _) (a := b5) (argsL := [(.ref b6)]) (rest := [(.ref b5)]) (lenOf pd__28_5bC_29V rfl) rfl (Nat.le_of_eq rfl) (hb hby at_60) (fun _ _ => ⟨rfl, e7, (by decide : 2 + 1 ≤ _), (by decide : 5 + 1 ≤ _)⟩)
  dsimp only [Pt.U, Pt.locs, Pt.cells, Pt.slots] at X8 l8 y8 z8 st8 hQ8
  subst l8 y8 z8
  obtain ⟨tb_8, kb_8, rfl, Nq8, K8, P8_E, P8_Fv, P8_Fc, P8_V⟩ := hQ8
  have N8 := Fr.app N7 Nq8
  have O := O.keep K8 (allS g_b5 all0)
  have hk := Nat.le_trans hk K8.1
  have K := K.trans K8 (allS (Or.inr sz_b5) all0)
  have E_b5 := E_b5.keep K8
  have V_b6 := V_b6.keep K8 (ninS (Ne.symm ne_b5_b6) nin0)
  have E_8 := P8_E
  have Fv_8 := P8_Fv
  have Fc_8 := P8_Fc
  have V_8 := P8_V
  refine Go.step (fun t k => st8.trans k) ?_
  refine Go.step (S' := T8.setTop (mkF m 167 #[iv p0, iv p1, lv q2, .second, lv q3, .second, iv p4, iv ((p0 &&& (3 : Int32)) + (1 : Int32)), iv r_1, iv r_2, iv r_3, iv r_4, rv b5, u_, u_, u_, u_, u_, u_, u_, u_, u_] [])) (fun t k => ?_) ?_
  · refine XS.astore X8.here hx rfl (hb hby at_63) rfl rfl (l' := #[iv p0, iv p1, lv q2, .second, lv q3, .second, iv p4, iv ((p0 &&& (3 : Int32)) + (1 : Int32)), iv r_1, iv r_2, iv r_3, iv r_4, rv b5, u_, u_, u_, u_, u_, u_, u_, u_, u_]) rfl ?_
    refine XS.goto X8.here hx rfl (pc0 := 65) (pc' := 167) rfl (hb hby at_65) (by decide) (by decide) ?_
    exact k
  rw [(hc45 : ((p0 &&& (3 : Int32)) + (1 : Int32)) = (1 : Int32))]
  show Go p e below _ (T8.setTop (mkF m 167 #[iv p0, iv p1, lv q2, .second, lv q3, .second, iv p4, iv (1 : Int32), iv r_1, iv r_2, iv r_3, iv r_4, rv b5, u_, u_, u_, u_, u_, u_, u_, u_, u_] []))
  refine Go.step (S' := T8.setTop (mkF m 177 #[iv p0, iv p1, lv q2, .second, lv q3, .second, iv p4, iv (1 : Int32), iv r_1, iv r_2, iv r_3, iv r_4, rv b5, iv ((p1 &&& (2147483647 : Int32)) % (1025 : Int32)), u_, u_, u_, u_, u_, u_, u_, u_] [])) (fun t k => ?_) ?_
  · refine XS.iloadN X8.here hx rfl (hb hby at_167) rfl ?_
    refine X8.ldcInt hx hown (mvT hZ (own_w hw 4 rfl)) (g := (mkF m 168 #[iv p0, iv p1, lv q2, .second, lv q3, .second, iv p4, iv (1 : Int32), iv r_1, iv r_2, iv r_3, iv r_4, rv b5, u_, u_, u_, u_, u_, u_, u_, u_, u_] [(.int p1)])) rfl (hb hby at_168) _ ?_
    refine XS.iand X8.here hx rfl (hb hby at_170) rfl ?_
    refine XS.sipush X8.here hx rfl (hb hby at_171) ?_
    refine iremM X8 hx rfl (hb hby at_174) rfl (by decide) ?_
    refine XS.istore X8.here hx rfl (hb hby at_175) rfl (l' := #[iv p0, iv p1, lv q2, .second, lv q3, .second, iv p4, iv (1 : Int32), iv r_1, iv r_2, iv r_3, iv r_4, rv b5, iv ((p1 &&& (2147483647 : Int32)) % (1025 : Int32)), u_, u_, u_, u_, u_, u_, u_, u_]) rfl ?_
    exact k
  obtain ⟨mt, hd_mt⟩ : ∃ z : Int32, ((p1 &&& (2147483647 : Int32)) % (1025 : Int32)) = z := ⟨_, rfl⟩
  rw [hd_mt]
  show Go p e below _ (T8.setTop (mkF m 177 #[iv p0, iv p1, lv q2, .second, lv q3, .second, iv p4, iv (1 : Int32), iv r_1, iv r_2, iv r_3, iv r_4, rv b5, iv mt, u_, u_, u_, u_, u_, u_, u_, u_] []))
  refine Go.step (S' := T8.setTop (mkF m 183 #[iv p0, iv p1, lv q2, .second, lv q3, .second, iv p4, iv (1 : Int32), iv r_1, iv r_2, iv r_3, iv r_4, rv b5, iv mt, u_, u_, u_, u_, u_, u_, u_, u_] [(.long ((1 : Int32).toInt64)), (.long (40 : Int64))])) (fun t k => ?_) ?_
  · refine X8.ldc2Long hx hown (mvT hZ (own_w hw 35 rfl)) (g := (mkF m 177 #[iv p0, iv p1, lv q2, .second, lv q3, .second, iv p4, iv (1 : Int32), iv r_1, iv r_2, iv r_3, iv r_4, rv b5, iv mt, u_, u_, u_, u_, u_, u_, u_, u_] [])) rfl (hb hby at_177) _ ?_
    refine XS.iload X8.here hx rfl (hb hby at_180) rfl ?_
    refine XS.i2l X8.here hx rfl (hb hby at_182) rfl ?_
    exact k
  rw [show ((1 : Int32).toInt64) = (1 : Int64) from by decide]
  show Go p e below _ (T8.setTop (mkF m 183 #[iv p0, iv p1, lv q2, .second, lv q3, .second, iv p4, iv (1 : Int32), iv r_1, iv r_2, iv r_3, iv r_4, rv b5, iv mt, u_, u_, u_, u_, u_, u_, u_, u_] [(.long (1 : Int64)), (.long (40 : Int64))]))
  refine Go.step (S' := T8.setTop (mkF m 184 #[iv p0, iv p1, lv q2, .second, lv q3, .second, iv p4, iv (1 : Int32), iv r_1, iv r_2, iv r_3, iv r_4, rv b5, iv mt, u_, u_, u_, u_, u_, u_, u_, u_] [(.long ((40 : Int64) + (1 : Int64)))])) (fun t k => ?_) ?_
  · refine XS.ladd X8.here hx rfl (hb hby at_183) rfl ?_
    exact k
  rw [show ((40 : Int64) + (1 : Int64)) = (41 : Int64) from by decide]
  show Go p e below _ (T8.setTop (mkF m 184 #[iv p0, iv p1, lv q2, .second, lv q3, .second, iv p4, iv (1 : Int32), iv r_1, iv r_2, iv r_3, iv r_4, rv b5, iv mt, u_, u_, u_, u_, u_, u_, u_, u_] [(.long (41 : Int64))]))
  refine Go.step (S' := T8.setTop (mkF m 190 #[iv p0, iv p1, lv q2, .second, lv q3, .second, iv p4, iv (1 : Int32), iv r_1, iv r_2, iv r_3, iv r_4, rv b5, iv mt, lv ((41 : Int64) + (mt.toInt64)), .second, u_, u_, u_, u_, u_, u_] [])) (fun t k => ?_) ?_
  · refine XS.iload X8.here hx rfl (hb hby at_184) rfl ?_
    refine XS.i2l X8.here hx rfl (hb hby at_186) rfl ?_
    refine XS.ladd X8.here hx rfl (hb hby at_187) rfl ?_
    refine XS.lstore X8.here hx rfl (hb hby at_188) rfl (l' := #[iv p0, iv p1, lv q2, .second, lv q3, .second, iv p4, iv (1 : Int32), iv r_1, iv r_2, iv r_3, iv r_4, rv b5, iv mt, lv ((41 : Int64) + (mt.toInt64)), .second, u_, u_, u_, u_, u_, u_]) rfl ?_
    exact k
  obtain ⟨off, hd_off⟩ : ∃ z : Int64, ((41 : Int64) + (mt.toInt64)) = z := ⟨_, rfl⟩
  rw [hd_off]
  show Go p e below _ (T8.setTop (mkF m 190 #[iv p0, iv p1, lv q2, .second, lv q3, .second, iv p4, iv (1 : Int32), iv r_1, iv r_2, iv r_3, iv r_4, rv b5, iv mt, lv off, .second, u_, u_, u_, u_, u_, u_] []))
  refine Go.step (S' := T8.setTop (mkF m 198 #[iv p0, iv p1, lv q2, .second, lv q3, .second, iv p4, iv (1 : Int32), iv r_1, iv r_2, iv r_3, iv r_4, rv b5, iv mt, lv off, .second, lv (q3 &&& (9223372036854775807 : Int64)), .second, u_, u_, u_, u_] [])) (fun t k => ?_) ?_
  · refine XS.lload X8.here hx rfl (hb hby at_190) rfl ?_
    refine X8.ldc2Long hx hown (mvT hZ (own_w hw 36 rfl)) (g := (mkF m 192 #[iv p0, iv p1, lv q2, .second, lv q3, .second, iv p4, iv (1 : Int32), iv r_1, iv r_2, iv r_3, iv r_4, rv b5, iv mt, lv off, .second, u_, u_, u_, u_, u_, u_] [(.long q3)])) rfl (hb hby at_192) _ ?_
    refine XS.land X8.here hx rfl (hb hby at_195) rfl ?_
    refine XS.lstore X8.here hx rfl (hb hby at_196) rfl (l' := #[iv p0, iv p1, lv q2, .second, lv q3, .second, iv p4, iv (1 : Int32), iv r_1, iv r_2, iv r_3, iv r_4, rv b5, iv mt, lv off, .second, lv (q3 &&& (9223372036854775807 : Int64)), .second, u_, u_, u_, u_]) rfl ?_
    exact k
  obtain ⟨rr, hd_rr⟩ : ∃ z : Int64, (q3 &&& (9223372036854775807 : Int64)) = z := ⟨_, rfl⟩
  rw [hd_rr]
  show Go p e below _ (T8.setTop (mkF m 198 #[iv p0, iv p1, lv q2, .second, lv q3, .second, iv p4, iv (1 : Int32), iv r_1, iv r_2, iv r_3, iv r_4, rv b5, iv mt, lv off, .second, lv rr, .second, u_, u_, u_, u_] []))
  have bm := own_mt hd_mt
  have bo := own_off (k := (41 : Int64)) (by decide) bm hd_off
  have br := own_pos hd_rr
  have tail : ∀ (TT : State) (LL : List Loc) (XX : Stand p l e room_1 (s.setVm s.vm) m #[(.int p0), (.int p1), (.long q2), (.long q3), (.int p4)] below meth c TT LL 3 6) (eTT : TT.heap = T8.heap) (NN : Fr n0 LL) (ct : Int64) (sA sB : Slot), ((sA = u_ ∧ sB = u_) ∨ ∃ dl, sA = lv dl ∧ sB = .second) → 0 ≤ ct.toInt → Go p e below (fun o U' => ∃ v L, o = .returned v ∧ Q_rm0 Z p0 p1 q2 q3 p4 w_PUT w_ERASED w_DELETE w_GONE w_UNFINISHED cs sf h0 n0 v U'.heap L ∧ ReturnedEndW s o U' L room_1.cells room_1.slots) (TT.setTop (mkF m 242 #[iv p0, iv p1, lv q2, .second, lv q3, .second, iv p4, iv (1 : Int32), iv r_1, iv r_2, iv r_3, iv r_4, rv b5, iv mt, lv off, .second, lv rr, .second, lv ct, .second, sA, sB] [])) := by
   intro TT LL XX eTT NN ct sA sB hAB bc
   obtain ⟨T9, h9, X9, e9, E9, A9, D9, -, st9⟩ := newO XX hx hZ hown (own_w hw 37 rfl) (own_w hw 38 rfl) (own_w hw 39 rfl) eTT (g := (mkF m 242 #[iv p0, iv p1, lv q2, .second, lv q3, .second, iv p4, iv (1 : Int32), iv r_1, iv r_2, iv r_3, iv r_4, rv b5, iv mt, lv off, .second, lv rr, .second, lv ct, .second, sA, sB] [])) rfl (hb hby at_242) (by decide) (by decide)
   obtain ⟨b9, g9⟩ : ∃ z, z = Array.size T8.heap := ⟨_, rfl⟩
   have g_b9 : n0 ≤ b9 := Nat.le_trans (old_le O) (Nat.le_of_eq g9.symm)
   have sz_b9 : h0.size ≤ b9 := Nat.le_trans K.1 (Nat.le_of_eq g9.symm)
   have ne_b5_b9 : b5 ≠ b9 := Nat.ne_of_lt (Nat.lt_of_lt_of_le E_b5.lt (Nat.le_of_eq g9.symm))
   have ne_b6_b9 : b6 ≠ b9 := Nat.ne_of_lt (Nat.lt_of_lt_of_le V_b6.lt (Nat.le_of_eq g9.symm))
   have ne_tb_8_b9 : tb_8 ≠ b9 := Nat.ne_of_lt (Nat.lt_of_lt_of_le V_8.lt (Nat.le_of_eq g9.symm))
   rw [← g9] at A9 D9 st9
   have O := O.ext E9
   have hk := Nat.le_trans hk E9.1
   have K := K.ext E9
   have E_b5 := E_b5.ext E9
   have V_b6 := V_b6.ext E9
   have E_8 := E_8.ext E9
   have Fv_8 := Fv_8.ext E9
   have Fc_8 := Fc_8.ext E9
   have V_8 := V_8.ext E9
   have E_b9 := A9
   have F_kind_b9 : Fld Z h9 b9 "com/example/tombsweep/tombsweep/io/RecordHeader" "kind" "Lcom/example/tombsweep/tombsweep/io/RecordHeader$Kind;" .null := D9 (Or.inr (own_w hw 112 rfl)) (ty := (.object "com/example/tombsweep/tombsweep/io/RecordHeader$Kind")) (by decide)
   have F_key_b9 : Fld Z h9 b9 "com/example/tombsweep/tombsweep/io/RecordHeader" "key" "Lcom/example/tombsweep/tombsweep/model/BlobKey;" .null := D9 (Or.inr (own_w hw 114 rfl)) (ty := (.object "com/example/tombsweep/tombsweep/model/BlobKey")) (by decide)
   have F_metadataLength_b9 : Fld Z h9 b9 "com/example/tombsweep/tombsweep/io/RecordHeader" "metadataLength" "I" (.int (0 : Int32)) := D9 (Or.inr (own_w hw 116 rfl)) (ty := .int) (by decide)
   have F_sequence_b9 : Fld Z h9 b9 "com/example/tombsweep/tombsweep/io/RecordHeader" "sequence" "J" (.long (0 : Int64)) := D9 (Or.inr (own_w hw 118 rfl)) (ty := .long) (by decide)
   have F_time_b9 : Fld Z h9 b9 "com/example/tombsweep/tombsweep/io/RecordHeader" "time" "J" (.long (0 : Int64)) := D9 (Or.inr (own_w hw 120 rfl)) (ty := .long) (by decide)
   have F_contentLength_b9 : Fld Z h9 b9 "com/example/tombsweep/tombsweep/io/RecordHeader" "contentLength" "J" (.long (0 : Int64)) := D9 (Or.inr (own_w hw 122 rfl)) (ty := .long) (by decide)
   have F_contentCheck_b9 : Fld Z h9 b9 "com/example/tombsweep/tombsweep/io/RecordHeader" "contentCheck" "I" (.int (0 : Int32)) := D9 (Or.inr (own_w hw 124 rfl)) (ty := .int) (by decide)
   have F_metadataCheck_b9 : Fld Z h9 b9 "com/example/tombsweep/tombsweep/io/RecordHeader" "metadataCheck" "I" (.int (0 : Int32)) := D9 (Or.inr (own_w hw 126 rfl)) (ty := .int) (by decide)
   refine Go.step st9 ?_
   refine Go.step (S' := T9.setTop (mkF m 250 #[iv p0, iv p1, lv q2, .second, lv q3, .second, iv p4, iv (1 : Int32), iv r_1, iv r_2, iv r_3, iv r_4, rv b5, iv mt, lv off, .second, lv rr, .second, lv ct, .second, sA, sB] [(.int ((p4.toUInt32 >>> ((1 : Int32) &&& 31).toUInt32).toInt32)), (.ref b9), (.ref b9)])) (fun t k => ?_) ?_
   · refine XS.dup X9.here hx rfl (hb hby at_245) rfl rfl ?_
     refine XS.iload X9.here hx rfl (hb hby at_246) rfl ?_
     refine XS.iconst X9.here hx rfl (hb hby at_248) ?_
     refine XS.iushr X9.here hx rfl (hb hby at_249) rfl ?_
     exact k
   obtain ⟨_, _, ⟨T10, L10, k10, n10⟩, -, X10, ⟨Lc10, hQ10, l10, y10, z10⟩, st10⟩ := Jvm.LawKit.callS X9 hx (y := y_13) hown (mvT hZ (own_w hw 40 rfl)) (mvT hZ (own_w hw 41 rfl)) (mvT hZ (own_w hw 2 rfl)) (mvT hZ (own_w hw 42 rfl)) (by decide) (backOf (W := 2) (rmKind l Z a0 hw [] ((p4.toUInt32 >>> ((1 : Int32) &&& 31).toUInt32).toInt32) w_PUT w_ERASED w_DELETE w_GONE w_UNFINISHED h9 n0 O S_PUT S_ERASED S_DELETE S_GONE S_UNFINISHED) hZ (own_w hw 42 rfl) (own_w hw 2 rfl) (by decide) (by decide)) (g := (mkF m 250 #[iv p0, iv p1, lv q2, .second, lv q3, .second, iv p4, iv (1 : Int32), iv r_1, iv r_2, iv r_3, iv r_4, rv b5, iv mt, lv off, .second, lv rr, .second, lv ct, .second, sA, sB] [(.int ((p4.toUInt32 >>> ((1 : Int32) &&& 31).toUInt32).toInt32)), (.ref b9), (.ref b9)])) rfl (by rw [hml]; rfl) (argsL := [(.int ((p4.toUInt32 >>> ((1 : Int32) &&& 31).toUInt32).toInt32))]) (rest := [(.ref b9), (.ref b9)]) (lenOf pd__28I_29Lcom_2fexample_2ftombsweep_2ftombsweep_2fio_2fRecordHeader_24Kind_3b rfl) rfl (Nat.le_of_eq rfl) (hb hby at_250) (fun _ _ => ⟨rfl, e9, (by decide : 4 + 0 ≤ _), (by decide : 14 + 0 ≤ _)⟩)
   dsimp only [Pt.U, Pt.locs, Pt.cells, Pt.slots] at X10 l10 y10 z10 st10 hQ10
   subst l10 y10 z10
   obtain ⟨b_10, rfl, Nq10, e10⟩ := hQ10
   have N10 := Fr.app NN Nq10
   refine Go.step st10 ?_
   obtain ⟨T11, h11, X11, e11, E11, A11, D11, -, st11⟩ := newO X10 hx hZ hown (own_w hw 46 rfl) (own_w hw 47 rfl) (own_w hw 48 rfl) e10 (g := (mkF m 253 #[iv p0, iv p1, lv q2, .second, lv q3, .second, iv p4, iv (1 : Int32), iv r_1, iv r_2, iv r_3, iv r_4, rv b5, iv mt, lv off, .second, lv rr, .second, lv ct, .second, sA, sB] [(.ref b_10), (.ref b9), (.ref b9)])) rfl (hb hby at_253) (by decide) (by decide)
   obtain ⟨b11, g11⟩ : ∃ z, z = Array.size h9 := ⟨_, rfl⟩
   have g_b11 : n0 ≤ b11 := Nat.le_trans (old_le O) (Nat.le_of_eq g11.symm)
   have sz_b11 : h0.size ≤ b11 := Nat.le_trans K.1 (Nat.le_of_eq g11.symm)
   have ne_b5_b11 : b5 ≠ b11 := Nat.ne_of_lt (Nat.lt_of_lt_of_le E_b5.lt (Nat.le_of_eq g11.symm))
   have ne_b6_b11 : b6 ≠ b11 := Nat.ne_of_lt (Nat.lt_of_lt_of_le V_b6.lt (Nat.le_of_eq g11.symm))
   have ne_tb_8_b11 : tb_8 ≠ b11 := Nat.ne_of_lt (Nat.lt_of_lt_of_le V_8.lt (Nat.le_of_eq g11.symm))
   have ne_b9_b11 : b9 ≠ b11 := Nat.ne_of_lt (Nat.lt_of_lt_of_le E_b9.lt (Nat.le_of_eq g11.symm))
   rw [← g11] at A11 D11 st11
   have O := O.ext E11
   have hk := Nat.le_trans hk E11.1
   have K := K.ext E11
   have E_b5 := E_b5.ext E11
   have V_b6 := V_b6.ext E11
   have E_8 := E_8.ext E11
   have Fv_8 := Fv_8.ext E11
   have Fc_8 := Fc_8.ext E11
   have V_8 := V_8.ext E11
   have E_b9 := E_b9.ext E11
   have F_kind_b9 := F_kind_b9.ext E11
   have F_key_b9 := F_key_b9.ext E11
   have F_metadataLength_b9 := F_metadataLength_b9.ext E11
   have F_sequence_b9 := F_sequence_b9.ext E11
   have F_time_b9 := F_time_b9.ext E11
   have F_contentLength_b9 := F_contentLength_b9.ext E11
   have F_contentCheck_b9 := F_contentCheck_b9.ext E11
   have F_metadataCheck_b9 := F_metadataCheck_b9.ext E11
   have E_b11 := A11
   have F_value_b11 : Fld Z h11 b11 "com/example/tombsweep/tombsweep/model/BlobKey" "value" "Ljava/lang/String;" .null := D11 (Or.inr (own_w hw 106 rfl)) (ty := (.object "java/lang/String")) (by decide)
   refine Go.step st11 ?_
   refine Go.step (S' := T11.setTop (mkF m 259 #[iv p0, iv p1, lv q2, .second, lv q3, .second, iv p4, iv (1 : Int32), iv r_1, iv r_2, iv r_3, iv r_4, rv b5, iv mt, lv off, .second, lv rr, .second, lv ct, .second, sA, sB] [(.ref b5), (.ref b11), (.ref b11), (.ref b_10), (.ref b9), (.ref b9)])) (fun t k => ?_) ?_
   · refine XS.dup X11.here hx rfl (hb hby at_256) rfl rfl ?_
     refine XS.aload X11.here hx rfl (hb hby at_257) rfl rfl ?_
     exact k
   obtain ⟨_, _, ⟨T12, L12, k12, n12⟩, -, X12, hS12, hgr12, ⟨Lc12, hQ12, l12, y12, z12⟩, st12⟩ := X11.specialBackS hx (y := y_21) rfl hown (mvT hZ (own_w hw 49 rfl)) (mvT hZ (own_w hw 50 rfl)) (mvT hZ (own_w hw 51 rfl)) (by decide) (backOfS (W := 4) (rmBK1 l Z a0 hw [] b11 b5 tb_8 kb_8 r_1 cs sf h11 n0 O S_CS S_FM E_b5 Fv_8 Fc_8 V_8 E_b11 F_value_b11 (by assumption) hcs hsf k0_1 k1_1 k2_1 k3_1) hZ (own_w hw 51 rfl) (own_w hw 48 rfl) (by decide) (by decide)) (g := (mkF m 259 #[iv p0, iv p1, lv q2, .second, lv q3, .second, iv p4, iv (1 : Int32), iv r_1, iv r_2, iv r_3, iv r_4, rv b5, iv mt, lv off, .second, lv rr, .second, lv ct, .second, sA, sB] [(.ref b5), (.ref b11), (.ref b11), (.ref b_10), (.ref b9), (.ref b9)])) rfl (by rw [hml]; rfl) (Steps.refl _) (a := b11) (argsL := [(.ref b5)]) (rest := [(.ref b11), (.ref b_10), (.ref b9), (.ref b9)]) (lenOf pd__28Ljava_2flang_2fString_3b_29V rfl) rfl (Nat.le_of_eq rfl) (hb hby at_259) (fun _ _ => ⟨rfl, e11, (by decide : 5 + 2 ≤ _), (by decide : 15 + 24 ≤ _)⟩)
   dsimp only [Pt.U, Pt.locs, Pt.cells, Pt.slots] at X12 l12 y12 z12 st12 hQ12 hS12 hgr12
   subst l12 y12 z12
   have hS := foldS hS (by rw [e11]; exact hk) hS12 hgr12
   have hown : (s.setVm T12.vm).vm.findClass "com/example/tombsweep/tombsweep/io/RecordHeaderFitsInPinLaw" = some m.cls := by show T12.vm.findClass _ = _; rw [hS12.1.alike.findClass]; exact hown
   have hZ : Z.Warmed39 (s.setVm T12.vm).vm := State.Warmed39.trans hZ hS12.1
   have X12 : Stand p l e room_1 (s.setVm T12.vm) m #[(.int p0), (.int p1), (.long q2), (.long q3), (.int p4)] below meth c T12 _ _ _ := X12
   obtain ⟨rfl, Nq12, K12, P12_E, P12_F⟩ := hQ12
   have N12 := Fr.app N10 Nq12
   have O := O.keep K12 (allS g_b11 all0)
   have K := K.trans K12 (allS (Or.inr sz_b11) all0)
   have E_b5 := E_b5.keep K12
   have V_b6 := V_b6.keep K12 (ninS ne_b6_b11 nin0)
   have E_8 := E_8.keep K12
   have Fv_8 := Fv_8.keep K12 (ninS ne_b5_b11 nin0)
   have Fc_8 := Fc_8.keep K12 (ninS ne_b5_b11 nin0)
   have V_8 := V_8.keep K12 (ninS ne_tb_8_b11 nin0)
   have E_b9 := E_b9.keep K12
   have F_kind_b9 := F_kind_b9.keep K12 (ninS ne_b9_b11 nin0)
   have F_key_b9 := F_key_b9.keep K12 (ninS ne_b9_b11 nin0)
   have F_metadataLength_b9 := F_metadataLength_b9.keep K12 (ninS ne_b9_b11 nin0)
   have F_sequence_b9 := F_sequence_b9.keep K12 (ninS ne_b9_b11 nin0)
   have F_time_b9 := F_time_b9.keep K12 (ninS ne_b9_b11 nin0)
   have F_contentLength_b9 := F_contentLength_b9.keep K12 (ninS ne_b9_b11 nin0)
   have F_contentCheck_b9 := F_contentCheck_b9.keep K12 (ninS ne_b9_b11 nin0)
   have F_metadataCheck_b9 := F_metadataCheck_b9.keep K12 (ninS ne_b9_b11 nin0)
   have E_b11 := E_b11.keep K12
   have E_12 := P12_E
   have F_12 := P12_F
   have hk : T12.heap.size ≤ (T12.heap).size := Nat.le_refl _
   refine Go.step (fun t k => st12.trans k) ?_
   refine Go.step (S' := T12.setTop (mkF m 271 #[iv p0, iv p1, lv q2, .second, lv q3, .second, iv p4, iv (1 : Int32), iv r_1, iv r_2, iv r_3, iv r_4, rv b5, iv mt, lv off, .second, lv rr, .second, lv ct, .second, sA, sB] [(.int p1), (.int p0), (.long ct), (.long q2), (.long q3), (.int mt), (.ref b11), (.ref b_10), (.ref b9), (.ref b9)])) (fun t k => ?_) ?_
   · refine XS.iload X12.here hx rfl (hb hby at_262) rfl ?_
     refine XS.lload X12.here hx rfl (hb hby at_264) rfl ?_
     refine XS.lloadN X12.here hx rfl (hb hby at_266) rfl ?_
     refine XS.lload X12.here hx rfl (hb hby at_267) rfl ?_
     refine XS.iloadN X12.here hx rfl (hb hby at_269) rfl ?_
     refine XS.iloadN X12.here hx rfl (hb hby at_270) rfl ?_
     exact k
   obtain ⟨_, _, ⟨T13, L13, k13, n13⟩, -, X13, ⟨Lc13, hQ13, l13, y13, z13⟩, st13⟩ := X12.specialBack hx (y := y_20) rfl hown (mvT hZ (own_w hw 107 rfl)) (mvT hZ (own_w hw 108 rfl)) (mvT hZ (own_w hw 109 rfl)) (by decide) (backOf (W := 1) (rmRH l Z a0 hw [] b9 b_10 b11 mt q3 q2 ct p0 p1 T12.heap n0 O E_b9 F_kind_b9 F_key_b9 F_metadataLength_b9 F_sequence_b9 F_time_b9 F_contentLength_b9 F_contentCheck_b9 F_metadataCheck_b9 (by assumption)) hZ (own_w hw 109 rfl) (own_w hw 39 rfl) (by decide) (by decide)) (g := (mkF m 271 #[iv p0, iv p1, lv q2, .second, lv q3, .second, iv p4, iv (1 : Int32), iv r_1, iv r_2, iv r_3, iv r_4, rv b5, iv mt, lv off, .second, lv rr, .second, lv ct, .second, sA, sB] [(.int p1), (.int p0), (.long ct), (.long q2), (.long q3), (.int mt), (.ref b11), (.ref b_10), (.ref b9), (.ref b9)])) rfl (by rw [hml]; rfl) (Steps.refl _) (a := b9) (argsL := [(.ref b_10), (.ref b11), (.int mt), (.long q3), (.long q2), (.long ct), (.int p0), (.int p1)]) (rest := [(.ref b9)]) (lenOf pd__28Lcom_2fexample_2ftombsweep_2ftombsweep_2fio_2fRecordHeader_24Kind_3bLcom_2fexample_2ftombsweep_2ftombsweep_2fmodel_2fBlobKey_3bIJJJII_29V rfl) rfl (Nat.le_of_eq rfl) (hb hby at_271) (fun _ _ => ⟨rfl, (Eq.refl T12.heap), (by decide : 7 + 0 ≤ _), (by decide : 39 + 0 ≤ _)⟩)
   dsimp only [Pt.U, Pt.locs, Pt.cells, Pt.slots] at X13 l13 y13 z13 st13 hQ13
   subst l13 y13 z13
   obtain ⟨rfl, Nq13, K13, P13_E, P13_Fkey, P13_FmetadataLength, P13_FcontentLength⟩ := hQ13
   have N13 := Fr.app N12 Nq13
   have O := O.keep K13 (allS g_b9 all0)
   have K := K.trans K13 (allS (Or.inr sz_b9) all0)
   have E_b5 := E_b5.keep K13
   have V_b6 := V_b6.keep K13 (ninS ne_b6_b9 nin0)
   have E_8 := E_8.keep K13
   have Fv_8 := Fv_8.keep K13 (ninS ne_b5_b9 nin0)
   have Fc_8 := Fc_8.keep K13 (ninS ne_b5_b9 nin0)
   have V_8 := V_8.keep K13 (ninS ne_tb_8_b9 nin0)
   have E_b9 := E_b9.keep K13
   have E_b11 := E_b11.keep K13
   have E_12 := E_12.keep K13
   have F_12 := F_12.keep K13 (ninS (Ne.symm ne_b9_b11) nin0)
   have hk := Nat.le_trans hk K13.1
   have E_13 := P13_E
   have Fkey_13 := P13_Fkey
   have FmetadataLength_13 := P13_FmetadataLength
   have FcontentLength_13 := P13_FcontentLength
   refine Go.step (fun t k => st13.trans k) ?_
   have hst : storeLocals #[iv p0, iv p1, lv q2, .second, lv q3, .second, iv p4, iv (1 : Int32), iv r_1, iv r_2, iv r_3, iv r_4, rv b5, iv mt, lv off, .second, lv rr, .second, lv ct, .second, sA, sB] 20 (.ref b9) = some #[iv p0, iv p1, lv q2, .second, lv q3, .second, iv p4, iv (1 : Int32), iv r_1, iv r_2, iv r_3, iv r_4, rv b5, iv mt, lv off, .second, lv rr, .second, lv ct, .second, rv b9, u_] := by rcases hAB with ⟨rfl, rfl⟩ | ⟨dl, rfl, rfl⟩ <;> rfl
   refine Go.step (S' := T13.setTop (mkF m 276 #[iv p0, iv p1, lv q2, .second, lv q3, .second, iv p4, iv (1 : Int32), iv r_1, iv r_2, iv r_3, iv r_4, rv b5, iv mt, lv off, .second, lv rr, .second, lv ct, .second, rv b9, u_] [])) (fun t k => XS.astore X13.here hx rfl (hb hby at_274) rfl rfl (l' := #[iv p0, iv p1, lv q2, .second, lv q3, .second, iv p4, iv (1 : Int32), iv r_1, iv r_2, iv r_3, iv r_4, rv b5, iv mt, lv off, .second, lv rr, .second, lv ct, .second, rv b9, u_]) hst k) ?_
   refine Go.step (S' := T13.setTop (mkF m 281 #[iv p0, iv p1, lv q2, .second, lv q3, .second, iv p4, iv (1 : Int32), iv r_1, iv r_2, iv r_3, iv r_4, rv b5, iv mt, lv off, .second, lv rr, .second, lv ct, .second, rv b9, u_] [(.int (lcmpW ct rr))])) (fun t k => ?_) ?_
   · refine XS.lload X13.here hx rfl (hb hby at_276) rfl ?_
     refine XS.lload X13.here hx rfl (hb hby at_278) rfl ?_
     refine XS.lcmp X13.here hx rfl (hb hby at_280) rfl ?_
     exact k
   by_cases hc281 : rr < ct
   ·skip
    refine Go.step (S' := T13.setTop (mkF m 306 #[iv p0, iv p1, lv q2, .second, lv q3, .second, iv p4, iv (1 : Int32), iv r_1, iv r_2, iv r_3, iv r_4, rv b5, iv mt, lv off, .second, lv rr, .second, lv ct, .second, rv b9, iv (0 : Int32)] [(.long rr), (.ref b9)])) (fun t k => ?_) ?_
    · refine XS.ifYes X13.here hx rfl (pc0 := 281) (pc' := 299) rfl (hb hby at_281) rfl ((if0 _ _).trans (tlt ((lw_gt ct rr).mpr hc281)).2.2.1) (by decide) (by decide) ?_
      refine XS.iconst X13.here hx rfl (hb hby at_299) ?_
      refine XS.istore X13.here hx rfl (hb hby at_300) rfl (l' := #[iv p0, iv p1, lv q2, .second, lv q3, .second, iv p4, iv (1 : Int32), iv r_1, iv r_2, iv r_3, iv r_4, rv b5, iv mt, lv off, .second, lv rr, .second, lv ct, .second, rv b9, iv (0 : Int32)]) rfl ?_
      refine XS.aload X13.here hx rfl (hb hby at_302) rfl rfl ?_
      refine XS.lload X13.here hx rfl (hb hby at_304) rfl ?_
      exact k
    have hfit : (rr - ((41 : Int64) + (mt.toInt64))) < ct := by rw [hd_off]; exact own_fit0 bc br bo hc281
    obtain ⟨cq14, kq14, q14a, q14b, q14c⟩ := isOf hZ (Eq.refl T13.heap) E_b9
    obtain ⟨_, _, ⟨T14, L14, k14, n14⟩, -, X14, ⟨Lc14, hQ14, l14, y14, z14⟩, st14⟩ := X13.virtualBack hx (y := y_25) (z := y_25) hown (mvT hZ (own_w hw 127 rfl)) (mvT hZ (own_w hw 128 rfl)) (notFace_of_selects (args := #[]) (mvT hZ (own_w hw 130 rfl))) (mvT hZ (own_w hw 130 rfl)) (mvT hZ (own_w hw 129 rfl)) (by decide) (backOf (W := 0) (rmFit1N l Z a0 hw [] b9 rr b11 b5 tb_8 kb_8 r_1 cs mt ct T13.heap n0 O Fkey_13 E_b11 F_12 E_b5 Fv_8 Fc_8 V_8 S_CS E_b9 FmetadataLength_13 FcontentLength_13 hcs hfit) hZ (own_w hw 131 rfl) (own_w hw 39 rfl) (by decide) (by decide)) q14a q14c (g := (mkF m 306 #[iv p0, iv p1, lv q2, .second, lv q3, .second, iv p4, iv (1 : Int32), iv r_1, iv r_2, iv r_3, iv r_4, rv b5, iv mt, lv off, .second, lv rr, .second, lv ct, .second, rv b9, iv (0 : Int32)] [(.long rr), (.ref b9)])) rfl (by rw [hml]; rfl) (Steps.refl _) (argsL := [(.long rr)]) (rest := []) (lenOf pd__28J_29Z rfl) rfl (Nat.le_of_eq rfl) (hb hby at_306) (fun _ _ => ⟨rfl, (Eq.refl T13.heap), (by decide : 7 + 0 ≤ _), (by decide : 39 + 0 ≤ _)⟩)
    dsimp only [Pt.U, Pt.locs, Pt.cells, Pt.slots] at X14 l14 y14 z14 st14 hQ14
    subst l14 y14 z14
    obtain ⟨rfl, Nq14, e14⟩ := hQ14
    have N14 := Fr.app N13 Nq14
    refine Go.step (fun t k => st14.trans k) ?_
    refine Go.step (S' := T14.setTop (mkF m 319 #[iv p0, iv p1, lv q2, .second, lv q3, .second, iv p4, iv (1 : Int32), iv r_1, iv r_2, iv r_3, iv r_4, rv b5, iv mt, lv off, .second, lv rr, .second, lv ct, .second, rv b9, iv (0 : Int32)] [(.int (1 : Int32))])) (fun t k => ?_) ?_
    · refine XS.iload X14.here hx rfl (hb hby at_309) rfl ?_
      refine XS.icmpNo X14.here hx rfl (hb hby at_311) rfl (teq ((by decide) : (0 : Int32) = (0 : Int32))).2 ?_
      refine XS.iconst X14.here hx rfl (hb hby at_314) ?_
      refine XS.goto X14.here hx rfl (pc0 := 315) (pc' := 319) rfl (hb hby at_315) (by decide) (by decide) ?_
      exact k
    obtain ⟨fs, hr, hrun, hended, hR⟩ := X14.leaveW hS (by rw [e14]; exact hk) (v := some (.int (1 : Int32))) (fun h => by rw [Bd.returns] at h; cases h)
    refine Go.fin (S' := T14.setFrames fs) ?_ hrun hended ⟨_, _, rfl, ?_, hR.1, hR.2.1, hR.2.2.1, hR.2.2.2.mono (by decide) (by decide)⟩
    · exact retOut X14 hx Bd.returns (by decide) (Or.inl ⟨rfl, Or.inr (Or.inl rfl), _, rfl⟩) (hb hby at_319) hr
    · show Q_rm0 Z p0 p1 q2 q3 p4 w_PUT w_ERASED w_DELETE w_GONE w_UNFINISHED cs sf h0 n0 (some (.int (1 : Int32))) T14.heap _
      rw [e14]
      exact ⟨rfl, N14, K⟩
   ·skip
    refine Go.step (S' := T13.setTop (mkF m 292 #[iv p0, iv p1, lv q2, .second, lv q3, .second, iv p4, iv (1 : Int32), iv r_1, iv r_2, iv r_3, iv r_4, rv b5, iv mt, lv off, .second, lv rr, .second, lv ct, .second, rv b9, u_] [(.int (lcmpW (rr - ct) off))])) (fun t k => ?_) ?_
    · refine XS.ifNo X13.here hx rfl (hb hby at_281) rfl ((if0 _ _).trans (flt (fun zq => absurd ((lw_gt ct rr).mp zq) hc281)).2.2.1) ?_
      refine XS.lload X13.here hx rfl (hb hby at_284) rfl ?_
      refine XS.lload X13.here hx rfl (hb hby at_286) rfl ?_
      refine XS.lsub X13.here hx rfl (hb hby at_288) rfl ?_
      refine XS.lload X13.here hx rfl (hb hby at_289) rfl ?_
      refine XS.lcmp X13.here hx rfl (hb hby at_291) rfl ?_
      exact k
    by_cases hc292 : (rr - ct) < off
    ·skip
     refine Go.step (S' := T13.setTop (mkF m 306 #[iv p0, iv p1, lv q2, .second, lv q3, .second, iv p4, iv (1 : Int32), iv r_1, iv r_2, iv r_3, iv r_4, rv b5, iv mt, lv off, .second, lv rr, .second, lv ct, .second, rv b9, iv (0 : Int32)] [(.long rr), (.ref b9)])) (fun t k => ?_) ?_
     · refine XS.ifYes X13.here hx rfl (pc0 := 292) (pc' := 299) rfl (hb hby at_292) rfl ((if0 _ _).trans (tlt ((lw_lt (rr - ct) off).mpr hc292)).1) (by decide) (by decide) ?_
       refine XS.iconst X13.here hx rfl (hb hby at_299) ?_
       refine XS.istore X13.here hx rfl (hb hby at_300) rfl (l' := #[iv p0, iv p1, lv q2, .second, lv q3, .second, iv p4, iv (1 : Int32), iv r_1, iv r_2, iv r_3, iv r_4, rv b5, iv mt, lv off, .second, lv rr, .second, lv ct, .second, rv b9, iv (0 : Int32)]) rfl ?_
       refine XS.aload X13.here hx rfl (hb hby at_302) rfl rfl ?_
       refine XS.lload X13.here hx rfl (hb hby at_304) rfl ?_
       exact k
     have hfit : (rr - ((41 : Int64) + (mt.toInt64))) < ct := by rw [hd_off]; exact (own_fit bc br bo hc281).mpr hc292
     obtain ⟨cq15, kq15, q15a, q15b, q15c⟩ := isOf hZ (Eq.refl T13.heap) E_b9
     obtain ⟨_, _, ⟨T15, L15, k15, n15⟩, -, X15, ⟨Lc15, hQ15, l15, y15, z15⟩, st15⟩ := X13.virtualBack hx (y := y_25) (z := y_25) hown (mvT hZ (own_w hw 127 rfl)) (mvT hZ (own_w hw 128 rfl)) (notFace_of_selects (args := #[]) (mvT hZ (own_w hw 130 rfl))) (mvT hZ (own_w hw 130 rfl)) (mvT hZ (own_w hw 129 rfl)) (by decide) (backOf (W := 0) (rmFit1N l Z a0 hw [] b9 rr b11 b5 tb_8 kb_8 r_1 cs mt ct T13.heap n0 O Fkey_13 E_b11 F_12 E_b5 Fv_8 Fc_8 V_8 S_CS E_b9 FmetadataLength_13 FcontentLength_13 hcs hfit) hZ (own_w hw 131 rfl) (own_w hw 39 rfl) (by decide) (by decide)) q15a q15c (g := (mkF m 306 #[iv p0, iv p1, lv q2, .second, lv q3, .second, iv p4, iv (1 : Int32), iv r_1, iv r_2, iv r_3, iv r_4, rv b5, iv mt, lv off, .second, lv rr, .second, lv ct, .second, rv b9, iv (0 : Int32)] [(.long rr), (.ref b9)])) rfl (by rw [hml]; rfl) (Steps.refl _) (argsL := [(.long rr)]) (rest := []) (lenOf pd__28J_29Z rfl) rfl (Nat.le_of_eq rfl) (hb hby at_306) (fun _ _ => ⟨rfl, (Eq.refl T13.heap), (by decide : 7 + 0 ≤ _), (by decide : 39 + 0 ≤ _)⟩)
     dsimp only [Pt.U, Pt.locs, Pt.cells, Pt.slots] at X15 l15 y15 z15 st15 hQ15
     subst l15 y15 z15
     obtain ⟨rfl, Nq15, e15⟩ := hQ15
     have N15 := Fr.app N13 Nq15
     refine Go.step (fun t k => st15.trans k) ?_
     refine Go.step (S' := T15.setTop (mkF m 319 #[iv p0, iv p1, lv q2, .second, lv q3, .second, iv p4, iv (1 : Int32), iv r_1, iv r_2, iv r_3, iv r_4, rv b5, iv mt, lv off, .second, lv rr, .second, lv ct, .second, rv b9, iv (0 : Int32)] [(.int (1 : Int32))])) (fun t k => ?_) ?_
     · refine XS.iload X15.here hx rfl (hb hby at_309) rfl ?_
       refine XS.icmpNo X15.here hx rfl (hb hby at_311) rfl (teq ((by decide) : (0 : Int32) = (0 : Int32))).2 ?_
       refine XS.iconst X15.here hx rfl (hb hby at_314) ?_
       refine XS.goto X15.here hx rfl (pc0 := 315) (pc' := 319) rfl (hb hby at_315) (by decide) (by decide) ?_
       exact k
     obtain ⟨fs, hr, hrun, hended, hR⟩ := X15.leaveW hS (by rw [e15]; exact hk) (v := some (.int (1 : Int32))) (fun h => by rw [Bd.returns] at h; cases h)
     refine Go.fin (S' := T15.setFrames fs) ?_ hrun hended ⟨_, _, rfl, ?_, hR.1, hR.2.1, hR.2.2.1, hR.2.2.2.mono (by decide) (by decide)⟩
     · exact retOut X15 hx Bd.returns (by decide) (Or.inl ⟨rfl, Or.inr (Or.inl rfl), _, rfl⟩) (hb hby at_319) hr
     · show Q_rm0 Z p0 p1 q2 q3 p4 w_PUT w_ERASED w_DELETE w_GONE w_UNFINISHED cs sf h0 n0 (some (.int (1 : Int32))) T15.heap _
       rw [e15]
       exact ⟨rfl, N15, K⟩
    ·skip
     refine Go.step (S' := T13.setTop (mkF m 306 #[iv p0, iv p1, lv q2, .second, lv q3, .second, iv p4, iv (1 : Int32), iv r_1, iv r_2, iv r_3, iv r_4, rv b5, iv mt, lv off, .second, lv rr, .second, lv ct, .second, rv b9, iv (1 : Int32)] [(.long rr), (.ref b9)])) (fun t k => ?_) ?_
     · refine XS.ifNo X13.here hx rfl (hb hby at_292) rfl ((if0 _ _).trans (flt (fun zq => absurd ((lw_lt (rr - ct) off).mp zq) hc292)).1) ?_
       refine XS.iconst X13.here hx rfl (hb hby at_295) ?_
       refine XS.goto X13.here hx rfl (pc0 := 296) (pc' := 300) rfl (hb hby at_296) (by decide) (by decide) ?_
       refine XS.istore X13.here hx rfl (hb hby at_300) rfl (l' := #[iv p0, iv p1, lv q2, .second, lv q3, .second, iv p4, iv (1 : Int32), iv r_1, iv r_2, iv r_3, iv r_4, rv b5, iv mt, lv off, .second, lv rr, .second, lv ct, .second, rv b9, iv (1 : Int32)]) rfl ?_
       refine XS.aload X13.here hx rfl (hb hby at_302) rfl rfl ?_
       refine XS.lload X13.here hx rfl (hb hby at_304) rfl ?_
       exact k
     have hfit : ¬ ((rr - ((41 : Int64) + (mt.toInt64))) < ct) := by rw [hd_off]; exact fun q => hc292 ((own_fit bc br bo hc281).mp q)
     obtain ⟨cq16, kq16, q16a, q16b, q16c⟩ := isOf hZ (Eq.refl T13.heap) E_b9
     obtain ⟨_, _, ⟨T16, L16, k16, n16⟩, -, X16, ⟨Lc16, hQ16, l16, y16, z16⟩, st16⟩ := X13.virtualBack hx (y := y_25) (z := y_25) hown (mvT hZ (own_w hw 127 rfl)) (mvT hZ (own_w hw 128 rfl)) (notFace_of_selects (args := #[]) (mvT hZ (own_w hw 130 rfl))) (mvT hZ (own_w hw 130 rfl)) (mvT hZ (own_w hw 129 rfl)) (by decide) (backOf (W := 0) (rmFit1Y l Z a0 hw [] b9 rr b11 b5 tb_8 kb_8 r_1 cs mt ct T13.heap n0 O Fkey_13 E_b11 F_12 E_b5 Fv_8 Fc_8 V_8 S_CS E_b9 FmetadataLength_13 FcontentLength_13 hcs hfit) hZ (own_w hw 131 rfl) (own_w hw 39 rfl) (by decide) (by decide)) q16a q16c (g := (mkF m 306 #[iv p0, iv p1, lv q2, .second, lv q3, .second, iv p4, iv (1 : Int32), iv r_1, iv r_2, iv r_3, iv r_4, rv b5, iv mt, lv off, .second, lv rr, .second, lv ct, .second, rv b9, iv (1 : Int32)] [(.long rr), (.ref b9)])) rfl (by rw [hml]; rfl) (Steps.refl _) (argsL := [(.long rr)]) (rest := []) (lenOf pd__28J_29Z rfl) rfl (Nat.le_of_eq rfl) (hb hby at_306) (fun _ _ => ⟨rfl, (Eq.refl T13.heap), (by decide : 7 + 0 ≤ _), (by decide : 39 + 0 ≤ _)⟩)
     dsimp only [Pt.U, Pt.locs, Pt.cells, Pt.slots] at X16 l16 y16 z16 st16 hQ16
     subst l16 y16 z16
     obtain ⟨rfl, Nq16, e16⟩ := hQ16
     have N16 := Fr.app N13 Nq16
     refine Go.step (fun t k => st16.trans k) ?_
     refine Go.step (S' := T16.setTop (mkF m 319 #[iv p0, iv p1, lv q2, .second, lv q3, .second, iv p4, iv (1 : Int32), iv r_1, iv r_2, iv r_3, iv r_4, rv b5, iv mt, lv off, .second, lv rr, .second, lv ct, .second, rv b9, iv (1 : Int32)] [(.int (1 : Int32))])) (fun t k => ?_) ?_
     · refine XS.iload X16.here hx rfl (hb hby at_309) rfl ?_
       refine XS.icmpNo X16.here hx rfl (hb hby at_311) rfl (teq ((by decide) : (1 : Int32) = (1 : Int32))).2 ?_
       refine XS.iconst X16.here hx rfl (hb hby at_314) ?_
       refine XS.goto X16.here hx rfl (pc0 := 315) (pc' := 319) rfl (hb hby at_315) (by decide) (by decide) ?_
       exact k
     obtain ⟨fs, hr, hrun, hended, hR⟩ := X16.leaveW hS (by rw [e16]; exact hk) (v := some (.int (1 : Int32))) (fun h => by rw [Bd.returns] at h; cases h)
     refine Go.fin (S' := T16.setFrames fs) ?_ hrun hended ⟨_, _, rfl, ?_, hR.1, hR.2.1, hR.2.2.1, hR.2.2.2.mono (by decide) (by decide)⟩
     · exact retOut X16 hx Bd.returns (by decide) (Or.inl ⟨rfl, Or.inr (Or.inl rfl), _, rfl⟩) (hb hby at_319) hr
     · show Q_rm0 Z p0 p1 q2 q3 p4 w_PUT w_ERASED w_DELETE w_GONE w_UNFINISHED cs sf h0 n0 (some (.int (1 : Int32))) T16.heap _
       rw [e16]
       exact ⟨rfl, N16, K⟩
  refine Go.step (S' := T8.setTop (mkF m 202 #[iv p0, iv p1, lv q2, .second, lv q3, .second, iv p4, iv (1 : Int32), iv r_1, iv r_2, iv r_3, iv r_4, rv b5, iv mt, lv off, .second, lv rr, .second, u_, u_, u_, u_] [(.int (p4 &&& (1 : Int32)))])) (fun t k => ?_) ?_
  · refine XS.iload X8.here hx rfl (hb hby at_198) rfl ?_
    refine XS.iconst X8.here hx rfl (hb hby at_200) ?_
    refine XS.iand X8.here hx rfl (hb hby at_201) rfl ?_
    exact k
  by_cases hc202 : (p4 &&& (1 : Int32)) = (0 : Int32)
  ·skip
   refine Go.step (S' := T8.setTop (mkF m 212 #[iv p0, iv p1, lv q2, .second, lv q3, .second, iv p4, iv (1 : Int32), iv r_1, iv r_2, iv r_3, iv r_4, rv b5, iv mt, lv off, .second, lv rr, .second, lv (q2 &&& (9223372036854775807 : Int64)), .second, u_, u_] [])) (fun t k => ?_) ?_
   · refine XS.ifNo X8.here hx rfl (hb hby at_202) rfl ((if0 _ _).trans (teq (hc202 : (p4 &&& (1 : Int32)) = (0 : Int32))).2) ?_
     refine XS.lloadN X8.here hx rfl (hb hby at_205) rfl ?_
     refine X8.ldc2Long hx hown (mvT hZ (own_w hw 36 rfl)) (g := (mkF m 206 #[iv p0, iv p1, lv q2, .second, lv q3, .second, iv p4, iv (1 : Int32), iv r_1, iv r_2, iv r_3, iv r_4, rv b5, iv mt, lv off, .second, lv rr, .second, u_, u_, u_, u_] [(.long q2)])) rfl (hb hby at_206) _ ?_
     refine XS.land X8.here hx rfl (hb hby at_209) rfl ?_
     refine XS.lstore X8.here hx rfl (hb hby at_210) rfl (l' := #[iv p0, iv p1, lv q2, .second, lv q3, .second, iv p4, iv (1 : Int32), iv r_1, iv r_2, iv r_3, iv r_4, rv b5, iv mt, lv off, .second, lv rr, .second, lv (q2 &&& (9223372036854775807 : Int64)), .second, u_, u_]) rfl ?_
     exact k
   obtain ⟨ct, hd_ct⟩ : ∃ z : Int64, (q2 &&& (9223372036854775807 : Int64)) = z := ⟨_, rfl⟩
   rw [hd_ct]
   show Go p e below _ (T8.setTop (mkF m 212 #[iv p0, iv p1, lv q2, .second, lv q3, .second, iv p4, iv (1 : Int32), iv r_1, iv r_2, iv r_3, iv r_4, rv b5, iv mt, lv off, .second, lv rr, .second, lv ct, .second, u_, u_] []))
   refine Go.step (S' := T8.setTop (mkF m 242 #[iv p0, iv p1, lv q2, .second, lv q3, .second, iv p4, iv (1 : Int32), iv r_1, iv r_2, iv r_3, iv r_4, rv b5, iv mt, lv off, .second, lv rr, .second, lv ct, .second, u_, u_] [])) (fun t k => ?_) ?_
   · refine XS.goto X8.here hx rfl (pc0 := 212) (pc' := 242) rfl (hb hby at_212) (by decide) (by decide) ?_
     exact k
   exact tail _ _ X8 (Eq.refl T8.heap) N8 _ _ _ (Or.inl ⟨rfl, rfl⟩) (own_pos hd_ct)
  ·skip
   refine Go.step (S' := T8.setTop (mkF m 228 #[iv p0, iv p1, lv q2, .second, lv q3, .second, iv p4, iv (1 : Int32), iv r_1, iv r_2, iv r_3, iv r_4, rv b5, iv mt, lv off, .second, lv rr, .second, u_, u_, lv (((q2 &&& (9223372036854775807 : Int64)) - ((q2 &&& (9223372036854775807 : Int64)) / (3 : Int64)) * (3 : Int64)) - (1 : Int64)), .second] [])) (fun t k => ?_) ?_
   · refine XS.ifYes X8.here hx rfl (pc0 := 202) (pc' := 215) rfl (hb hby at_202) rfl ((if0 _ _).trans (feq (hc202 : ¬ ((p4 &&& (1 : Int32)) = (0 : Int32)))).2) (by decide) (by decide) ?_
     refine XS.lloadN X8.here hx rfl (hb hby at_215) rfl ?_
     refine X8.ldc2Long hx hown (mvT hZ (own_w hw 36 rfl)) (g := (mkF m 216 #[iv p0, iv p1, lv q2, .second, lv q3, .second, iv p4, iv (1 : Int32), iv r_1, iv r_2, iv r_3, iv r_4, rv b5, iv mt, lv off, .second, lv rr, .second, u_, u_, u_, u_] [(.long q2)])) rfl (hb hby at_216) _ ?_
     refine XS.land X8.here hx rfl (hb hby at_219) rfl ?_
     refine X8.ldc2Long hx hown (mvT hZ (own_w hw 154 rfl)) (g := (mkF m 220 #[iv p0, iv p1, lv q2, .second, lv q3, .second, iv p4, iv (1 : Int32), iv r_1, iv r_2, iv r_3, iv r_4, rv b5, iv mt, lv off, .second, lv rr, .second, u_, u_, u_, u_] [(.long (q2 &&& (9223372036854775807 : Int64)))])) rfl (hb hby at_220) _ ?_
     refine XS.lrem X8.here hx rfl (hb hby at_223) rfl (by decide) ?_
     show Steps p.tables e below (T8.setTop (mkF m 224 #[iv p0, iv p1, lv q2, .second, lv q3, .second, iv p4, iv (1 : Int32), iv r_1, iv r_2, iv r_3, iv r_4, rv b5, iv mt, lv off, .second, lv rr, .second, u_, u_, u_, u_] [(.long ((q2 &&& (9223372036854775807 : Int64)) - ((q2 &&& (9223372036854775807 : Int64)) / (3 : Int64)) * (3 : Int64)))])) _
     refine XS.lconst X8.here hx rfl (hb hby at_224) ?_
     refine XS.lsub X8.here hx rfl (hb hby at_225) rfl ?_
     refine XS.lstore X8.here hx rfl (hb hby at_226) rfl (l' := #[iv p0, iv p1, lv q2, .second, lv q3, .second, iv p4, iv (1 : Int32), iv r_1, iv r_2, iv r_3, iv r_4, rv b5, iv mt, lv off, .second, lv rr, .second, u_, u_, lv (((q2 &&& (9223372036854775807 : Int64)) - ((q2 &&& (9223372036854775807 : Int64)) / (3 : Int64)) * (3 : Int64)) - (1 : Int64)), .second]) rfl ?_
     exact k
   obtain ⟨dl_, hd_dl_⟩ : ∃ z : Int64, (((q2 &&& (9223372036854775807 : Int64)) - ((q2 &&& (9223372036854775807 : Int64)) / (3 : Int64)) * (3 : Int64)) - (1 : Int64)) = z := ⟨_, rfl⟩
   rw [hd_dl_]
   show Go p e below _ (T8.setTop (mkF m 228 #[iv p0, iv p1, lv q2, .second, lv q3, .second, iv p4, iv (1 : Int32), iv r_1, iv r_2, iv r_3, iv r_4, rv b5, iv mt, lv off, .second, lv rr, .second, u_, u_, lv dl_, .second] []))
   refine Go.step (S' := T8.setTop (mkF m 237 #[iv p0, iv p1, lv q2, .second, lv q3, .second, iv p4, iv (1 : Int32), iv r_1, iv r_2, iv r_3, iv r_4, rv b5, iv mt, lv off, .second, lv rr, .second, u_, u_, lv dl_, .second] [(.long ((rr - off) + dl_)), (.long (0 : Int64))])) (fun t k => ?_) ?_
   · refine XS.lconst X8.here hx rfl (hb hby at_228) ?_
     refine XS.lload X8.here hx rfl (hb hby at_229) rfl ?_
     refine XS.lload X8.here hx rfl (hb hby at_231) rfl ?_
     refine XS.lsub X8.here hx rfl (hb hby at_233) rfl ?_
     refine XS.lload X8.here hx rfl (hb hby at_234) rfl ?_
     refine XS.ladd X8.here hx rfl (hb hby at_236) rfl ?_
     exact k
   by_cases hmx : (0 : Int64) < ((rr - off) + dl_)
   ·skip
    obtain ⟨_, _, ⟨T17, L17, k17, n17⟩, -, X17, ⟨Lc17, hQ17, l17, y17, z17⟩, st17⟩ := Jvm.LawKit.callS X8 hx (y := y_15) hown (mvT hZ (own_w hw 155 rfl)) (mvT hZ (own_w hw 156 rfl)) (mvT hZ (own_w hw 157 rfl)) (mvT hZ (own_w hw 158 rfl)) (by decide) (backOf (W := 0) (rmMaxB l Z a0 hw [] (0 : Int64) ((rr - off) + dl_) T8.heap n0 O hmx) hZ (own_w hw 158 rfl) (own_w hw 157 rfl) (by decide) (by decide)) (g := (mkF m 237 #[iv p0, iv p1, lv q2, .second, lv q3, .second, iv p4, iv (1 : Int32), iv r_1, iv r_2, iv r_3, iv r_4, rv b5, iv mt, lv off, .second, lv rr, .second, u_, u_, lv dl_, .second] [(.long ((rr - off) + dl_)), (.long (0 : Int64))])) rfl (by rw [hml]; rfl) (argsL := [(.long (0 : Int64)), (.long ((rr - off) + dl_))]) (rest := []) (lenOf pd__28JJ_29J rfl) rfl (Nat.le_of_eq rfl) (hb hby at_237) (fun _ _ => ⟨rfl, (Eq.refl T8.heap), (by decide : 3 + 0 ≤ _), (by decide : 6 + 0 ≤ _)⟩)
    dsimp only [Pt.U, Pt.locs, Pt.cells, Pt.slots] at X17 l17 y17 z17 st17 hQ17
    subst l17 y17 z17
    obtain ⟨rfl, Nq17, e17⟩ := hQ17
    have N17 := Fr.app N8 Nq17
    refine Go.step st17 ?_
    refine Go.step (S' := T17.setTop (mkF m 242 #[iv p0, iv p1, lv q2, .second, lv q3, .second, iv p4, iv (1 : Int32), iv r_1, iv r_2, iv r_3, iv r_4, rv b5, iv mt, lv off, .second, lv rr, .second, lv ((rr - off) + dl_), .second, lv dl_, .second] [])) (fun t k => ?_) ?_
    · refine XS.lstore X17.here hx rfl (hb hby at_240) rfl (l' := #[iv p0, iv p1, lv q2, .second, lv q3, .second, iv p4, iv (1 : Int32), iv r_1, iv r_2, iv r_3, iv r_4, rv b5, iv mt, lv off, .second, lv rr, .second, lv ((rr - off) + dl_), .second, lv dl_, .second]) rfl ?_
      exact k
    exact tail _ _ X17 e17 N17 _ _ _ (Or.inr ⟨_, rfl, rfl⟩) (own_nn hmx)
   ·skip
    obtain ⟨_, _, ⟨T18, L18, k18, n18⟩, -, X18, ⟨Lc18, hQ18, l18, y18, z18⟩, st18⟩ := Jvm.LawKit.callS X8 hx (y := y_15) hown (mvT hZ (own_w hw 155 rfl)) (mvT hZ (own_w hw 156 rfl)) (mvT hZ (own_w hw 157 rfl)) (mvT hZ (own_w hw 158 rfl)) (by decide) (backOf (W := 0) (rmMaxA l Z a0 hw [] (0 : Int64) ((rr - off) + dl_) T8.heap n0 O hmx) hZ (own_w hw 158 rfl) (own_w hw 157 rfl) (by decide) (by decide)) (g := (mkF m 237 #[iv p0, iv p1, lv q2, .second, lv q3, .second, iv p4, iv (1 : Int32), iv r_1, iv r_2, iv r_3, iv r_4, rv b5, iv mt, lv off, .second, lv rr, .second, u_, u_, lv dl_, .second] [(.long ((rr - off) + dl_)), (.long (0 : Int64))])) rfl (by rw [hml]; rfl) (argsL := [(.long (0 : Int64)), (.long ((rr - off) + dl_))]) (rest := []) (lenOf pd__28JJ_29J rfl) rfl (Nat.le_of_eq rfl) (hb hby at_237) (fun _ _ => ⟨rfl, (Eq.refl T8.heap), (by decide : 3 + 0 ≤ _), (by decide : 6 + 0 ≤ _)⟩)
    dsimp only [Pt.U, Pt.locs, Pt.cells, Pt.slots] at X18 l18 y18 z18 st18 hQ18
    subst l18 y18 z18
    obtain ⟨rfl, Nq18, e18⟩ := hQ18
    have N18 := Fr.app N8 Nq18
    refine Go.step st18 ?_
    refine Go.step (S' := T18.setTop (mkF m 242 #[iv p0, iv p1, lv q2, .second, lv q3, .second, iv p4, iv (1 : Int32), iv r_1, iv r_2, iv r_3, iv r_4, rv b5, iv mt, lv off, .second, lv rr, .second, lv (0 : Int64), .second, lv dl_, .second] [])) (fun t k => ?_) ?_
    · refine XS.lstore X18.here hx rfl (hb hby at_240) rfl (l' := #[iv p0, iv p1, lv q2, .second, lv q3, .second, iv p4, iv (1 : Int32), iv r_1, iv r_2, iv r_3, iv r_4, rv b5, iv mt, lv off, .second, lv rr, .second, lv (0 : Int64), .second, lv dl_, .second]) rfl ?_
      exact k
    exact tail _ _ X18 e18 N18 _ _ _ (Or.inr ⟨_, rfl, rfl⟩) (by decide)
 ·skip
  refine Go.step (S' := T4.setTop (mkF m 71 #[iv p0, iv p1, lv q2, .second, lv q3, .second, iv p4, iv ((p0 &&& (3 : Int32)) + (1 : Int32)), iv r_1, iv r_2, iv r_3, iv r_4, u_, u_, u_, u_, u_, u_, u_, u_, u_, u_] [(.int (2 : Int32)), (.int ((p0 &&& (3 : Int32)) + (1 : Int32)))])) (fun t k => ?_) ?_
  · refine XS.icmpYes X4.here hx rfl (pc0 := 45) (pc' := 68) rfl (hb hby at_45) rfl (feq (hc45 : ¬ (((p0 &&& (3 : Int32)) + (1 : Int32)) = (1 : Int32)))).2 (by decide) (by decide) ?_
    refine XS.iload X4.here hx rfl (hb hby at_68) rfl ?_
    refine XS.iconst X4.here hx rfl (hb hby at_70) ?_
    exact k
  by_cases hc71 : ((p0 &&& (3 : Int32)) + (1 : Int32)) = (2 : Int32)
  ·skip
   refine Go.step (S' := T4.setTop (mkF m 74 #[iv p0, iv p1, lv q2, .second, lv q3, .second, iv p4, iv ((p0 &&& (3 : Int32)) + (1 : Int32)), iv r_1, iv r_2, iv r_3, iv r_4, u_, u_, u_, u_, u_, u_, u_, u_, u_, u_] [])) (fun t k => ?_) ?_
   · refine XS.icmpNo X4.here hx rfl (hb hby at_71) rfl (teq (hc71 : ((p0 &&& (3 : Int32)) + (1 : Int32)) = (2 : Int32))).2 ?_
     exact k
   obtain ⟨T19, h19, X19, e19, E19, A19, D19, -, st19⟩ := newO X4 hx hZ hown (own_w hw 5 rfl) (own_w hw 6 rfl) (own_w hw 7 rfl) e4 (g := (mkF m 74 #[iv p0, iv p1, lv q2, .second, lv q3, .second, iv p4, iv ((p0 &&& (3 : Int32)) + (1 : Int32)), iv r_1, iv r_2, iv r_3, iv r_4, u_, u_, u_, u_, u_, u_, u_, u_, u_, u_] [])) rfl (hb hby at_74) (by decide) (by decide)
   obtain ⟨b19, g19⟩ : ∃ z, z = Array.size h0 := ⟨_, rfl⟩
   have g_b19 : n0 ≤ b19 := Nat.le_trans (old_le O) (Nat.le_of_eq g19.symm)
   have sz_b19 : h0.size ≤ b19 := Nat.le_trans K.1 (Nat.le_of_eq g19.symm)
   rw [← g19] at A19 D19 st19
   have O := O.ext E19
   have hk := Nat.le_trans hk E19.1
   have K := K.ext E19
   have E_b19 := A19
   have F_coder_b19 : Fld Z h19 b19 "java/lang/String" "coder" "B" (.int (0 : Int32)) := D19 (Or.inr (own_w hw 32 rfl)) (ty := .byte) (by decide)
   have F_value_b19 : Fld Z h19 b19 "java/lang/String" "value" "[B" .null := D19 (Or.inr (own_w hw 34 rfl)) (ty := (.array .byte)) (by decide)
   refine Go.step st19 ?_
   refine Go.step (S' := T19.setTop (mkF m 79 #[iv p0, iv p1, lv q2, .second, lv q3, .second, iv p4, iv ((p0 &&& (3 : Int32)) + (1 : Int32)), iv r_1, iv r_2, iv r_3, iv r_4, u_, u_, u_, u_, u_, u_, u_, u_, u_, u_] [(.int (2 : Int32)), (.ref b19), (.ref b19)])) (fun t k => ?_) ?_
   · refine XS.dup X19.here hx rfl (hb hby at_77) rfl rfl ?_
     refine XS.iconst X19.here hx rfl (hb hby at_78) ?_
     exact k
   obtain ⟨T20, h20, k20, X20, e20, E20, A20, st20⟩ := newP X19 hx hZ (own_w hw 8 rfl) e19 (g := (mkF m 79 #[iv p0, iv p1, lv q2, .second, lv q3, .second, iv p4, iv ((p0 &&& (3 : Int32)) + (1 : Int32)), iv r_1, iv r_2, iv r_3, iv r_4, u_, u_, u_, u_, u_, u_, u_, u_, u_, u_] [(.int (2 : Int32)), (.ref b19), (.ref b19)])) rfl (hb hby at_79) rfl (by decide) (cap := 2) (by decide) (by decide) (by decide) (by decide)
   obtain ⟨b20, g20⟩ : ∃ z, z = Array.size h19 := ⟨_, rfl⟩
   have g_b20 : n0 ≤ b20 := Nat.le_trans (old_le O) (Nat.le_of_eq g20.symm)
   have sz_b20 : h0.size ≤ b20 := Nat.le_trans K.1 (Nat.le_of_eq g20.symm)
   have ne_b19_b20 : b19 ≠ b20 := Nat.ne_of_lt (Nat.lt_of_lt_of_le E_b19.lt (Nat.le_of_eq g20.symm))
   rw [← g20] at A20 st20
   have O := O.ext E20
   have hk := Nat.le_trans hk E20.1
   have K := K.ext E20
   have E_b19 := E_b19.ext E20
   have F_coder_b19 := F_coder_b19.ext E20
   have F_value_b19 := F_value_b19.ext E20
   have V_b20 : Arv Z h20 b20 k20 .char (2 : Int32) [(.int (0 : Int32)), (.int (0 : Int32))] (.int (0 : Int32)) := (Arv.new A20 (by decide)).pad (pad_rep [] (.int (0 : Int32)) 2)
   refine Go.step st20 ?_
   refine Go.step (S' := T20.setTop (mkF m 85 #[iv p0, iv p1, lv q2, .second, lv q3, .second, iv p4, iv ((p0 &&& (3 : Int32)) + (1 : Int32)), iv r_1, iv r_2, iv r_3, iv r_4, u_, u_, u_, u_, u_, u_, u_, u_, u_, u_] [(.int r_1), (.int (0 : Int32)), (.ref b20), (.ref b20), (.ref b19), (.ref b19)])) (fun t k => ?_) ?_
   · refine XS.dup X20.here hx rfl (hb hby at_81) rfl rfl ?_
     refine XS.iconst X20.here hx rfl (hb hby at_82) ?_
     refine XS.iload X20.here hx rfl (hb hby at_83) rfl ?_
     exact k
   obtain ⟨cl21, Ar21, q21, S21, N21_, H21, G21⟩ := V_b20
   have hin21 : ¬ ((0 : Int32) < 0 ∨ cl21.slots.size ≤ ((0 : Int32)).toNatClampNeg) := inb_of S21 ⟨by decide, by decide⟩
   obtain ⟨T21, h21, X21, e21, W21, st21⟩ := stC X20 hx hZ e20 Ar21 (j := (0 : Int32)) hin21 (g := (mkF m 85 #[iv p0, iv p1, lv q2, .second, lv q3, .second, iv p4, iv ((p0 &&& (3 : Int32)) + (1 : Int32)), iv r_1, iv r_2, iv r_3, iv r_4, u_, u_, u_, u_, u_, u_, u_, u_, u_, u_] [(.int r_1), (.int (0 : Int32)), (.ref b20), (.ref b20), (.ref b19), (.ref b19)])) rfl rfl (hb hby at_85)
   have O := O.wr W21 g_b20
   have hk := Nat.le_trans hk (Keep.of_wr W21).1
   have K := K.wr W21 (Or.inr sz_b20)
   have E_b19 := E_b19.wr W21
   have F_coder_b19 := F_coder_b19.other W21 (Or.inl ne_b19_b20)
   have F_value_b19 := F_value_b19.other W21 (Or.inl ne_b19_b20)
   have V_b20 : Arv Z h21 b20 k20 .char (2 : Int32) [(.int (r_1.toUInt32.toUInt16.toUInt32.toInt32)), (.int (0 : Int32))] (.int (0 : Int32)) := Arv.set Ar21 q21 S21 N21_ H21 G21 (fits_nar_char _) W21 0 rfl (Nat.le_of_ble_eq_true rfl)
   rw [(own_i2c (by assumption) (by assumption) : (r_1.toUInt32.toUInt16.toUInt32.toInt32) = r_1)] at V_b20
   have N21 := Fr.snoc X21 N4 g_b20
   refine Go.step st21 ?_
   refine Go.step (S' := T21.setTop (mkF m 90 #[iv p0, iv p1, lv q2, .second, lv q3, .second, iv p4, iv ((p0 &&& (3 : Int32)) + (1 : Int32)), iv r_1, iv r_2, iv r_3, iv r_4, u_, u_, u_, u_, u_, u_, u_, u_, u_, u_] [(.int r_2), (.int (1 : Int32)), (.ref b20), (.ref b20), (.ref b19), (.ref b19)])) (fun t k => ?_) ?_
   · refine XS.dup X21.here hx rfl (hb hby at_86) rfl rfl ?_
     refine XS.iconst X21.here hx rfl (hb hby at_87) ?_
     refine XS.iload X21.here hx rfl (hb hby at_88) rfl ?_
     exact k
   obtain ⟨cl22, Ar22, q22, S22, N22_, H22, G22⟩ := V_b20
   have hin22 : ¬ ((1 : Int32) < 0 ∨ cl22.slots.size ≤ ((1 : Int32)).toNatClampNeg) := inb_of S22 ⟨by decide, by decide⟩
   obtain ⟨T22, h22, X22, e22, W22, st22⟩ := stC X21 hx hZ e21 Ar22 (j := (1 : Int32)) hin22 (g := (mkF m 90 #[iv p0, iv p1, lv q2, .second, lv q3, .second, iv p4, iv ((p0 &&& (3 : Int32)) + (1 : Int32)), iv r_1, iv r_2, iv r_3, iv r_4, u_, u_, u_, u_, u_, u_, u_, u_, u_, u_] [(.int r_2), (.int (1 : Int32)), (.ref b20), (.ref b20), (.ref b19), (.ref b19)])) rfl rfl (hb hby at_90)
   have O := O.wr W22 g_b20
   have hk := Nat.le_trans hk (Keep.of_wr W22).1
   have K := K.wr W22 (Or.inr sz_b20)
   have E_b19 := E_b19.wr W22
   have F_coder_b19 := F_coder_b19.other W22 (Or.inl ne_b19_b20)
   have F_value_b19 := F_value_b19.other W22 (Or.inl ne_b19_b20)
   have V_b20 : Arv Z h22 b20 k20 .char (2 : Int32) [(.int r_1), (.int (r_2.toUInt32.toUInt16.toUInt32.toInt32))] (.int (0 : Int32)) := Arv.set Ar22 q22 S22 N22_ H22 G22 (fits_nar_char _) W22 1 rfl (Nat.le_of_ble_eq_true rfl)
   rw [(own_i2c (by assumption) (by assumption) : (r_2.toUInt32.toUInt16.toUInt32.toInt32) = r_2)] at V_b20
   have N22 := Fr.snoc X22 N21 g_b20
   refine Go.step st22 ?_
   obtain ⟨_, _, ⟨T23, L23, k23, n23⟩, -, X23, ⟨Lc23, hQ23, l23, y23, z23⟩, st23⟩ := X22.specialBack hx (y := y_12) rfl hown (mvT hZ (own_w hw 9 rfl)) (mvT hZ (own_w hw 10 rfl)) (mvT hZ (own_w hw 11 rfl)) (by decide) (backOf (W := 1) (rmNS2 l Z a0 hw [] b19 b20 k20 cs r_1 r_2 h22 n0 O S_CS E_b19 F_value_b19 F_coder_b19 V_b20 (by assumption) hcs k3_1 k3_2) hZ (own_w hw 11 rfl) (own_w hw 7 rfl) (by decide) (by decide)) (g := (mkF m 91 #[iv p0, iv p1, lv q2, .second, lv q3, .second, iv p4, iv ((p0 &&& (3 : Int32)) + (1 : Int32)), iv r_1, iv r_2, iv r_3, iv r_4, u_, u_, u_, u_, u_, u_, u_, u_, u_, u_] [(.ref b20), (.ref b19), (.ref b19)])) rfl (by rw [hml]; rfl) (Steps.refl _) (a := b19) (argsL := [(.ref b20)]) (rest := [(.ref b19)]) (lenOf pd__28_5bC_29V rfl) rfl (Nat.le_of_eq rfl) (hb hby at_91) (fun _ _ => ⟨rfl, e22, (by decide : 2 + 1 ≤ _), (by decide : 6 + 2 ≤ _)⟩)
   dsimp only [Pt.U, Pt.locs, Pt.cells, Pt.slots] at X23 l23 y23 z23 st23 hQ23
   subst l23 y23 z23
   obtain ⟨tb_23, kb_23, rfl, Nq23, K23, P23_E, P23_Fv, P23_Fc, P23_V⟩ := hQ23
   have N23 := Fr.app N22 Nq23
   have O := O.keep K23 (allS g_b19 all0)
   have hk := Nat.le_trans hk K23.1
   have K := K.trans K23 (allS (Or.inr sz_b19) all0)
   have E_b19 := E_b19.keep K23
   have V_b20 := V_b20.keep K23 (ninS (Ne.symm ne_b19_b20) nin0)
   have E_23 := P23_E
   have Fv_23 := P23_Fv
   have Fc_23 := P23_Fc
   have V_23 := P23_V
   refine Go.step (fun t k => st23.trans k) ?_
   refine Go.step (S' := T23.setTop (mkF m 167 #[iv p0, iv p1, lv q2, .second, lv q3, .second, iv p4, iv ((p0 &&& (3 : Int32)) + (1 : Int32)), iv r_1, iv r_2, iv r_3, iv r_4, rv b19, u_, u_, u_, u_, u_, u_, u_, u_, u_] [])) (fun t k => ?_) ?_
   · refine XS.astore X23.here hx rfl (hb hby at_94) rfl rfl (l' := #[iv p0, iv p1, lv q2, .second, lv q3, .second, iv p4, iv ((p0 &&& (3 : Int32)) + (1 : Int32)), iv r_1, iv r_2, iv r_3, iv r_4, rv b19, u_, u_, u_, u_, u_, u_, u_, u_, u_]) rfl ?_
     refine XS.goto X23.here hx rfl (pc0 := 96) (pc' := 167) rfl (hb hby at_96) (by decide) (by decide) ?_
     exact k
   rw [(hc71 : ((p0 &&& (3 : Int32)) + (1 : Int32)) = (2 : Int32))]
   show Go p e below _ (T23.setTop (mkF m 167 #[iv p0, iv p1, lv q2, .second, lv q3, .second, iv p4, iv (2 : Int32), iv r_1, iv r_2, iv r_3, iv r_4, rv b19, u_, u_, u_, u_, u_, u_, u_, u_, u_] []))
   refine Go.step (S' := T23.setTop (mkF m 177 #[iv p0, iv p1, lv q2, .second, lv q3, .second, iv p4, iv (2 : Int32), iv r_1, iv r_2, iv r_3, iv r_4, rv b19, iv ((p1 &&& (2147483647 : Int32)) % (1025 : Int32)), u_, u_, u_, u_, u_, u_, u_, u_] [])) (fun t k => ?_) ?_
   · refine XS.iloadN X23.here hx rfl (hb hby at_167) rfl ?_
     refine X23.ldcInt hx hown (mvT hZ (own_w hw 4 rfl)) (g := (mkF m 168 #[iv p0, iv p1, lv q2, .second, lv q3, .second, iv p4, iv (2 : Int32), iv r_1, iv r_2, iv r_3, iv r_4, rv b19, u_, u_, u_, u_, u_, u_, u_, u_, u_] [(.int p1)])) rfl (hb hby at_168) _ ?_
     refine XS.iand X23.here hx rfl (hb hby at_170) rfl ?_
     refine XS.sipush X23.here hx rfl (hb hby at_171) ?_
     refine iremM X23 hx rfl (hb hby at_174) rfl (by decide) ?_
     refine XS.istore X23.here hx rfl (hb hby at_175) rfl (l' := #[iv p0, iv p1, lv q2, .second, lv q3, .second, iv p4, iv (2 : Int32), iv r_1, iv r_2, iv r_3, iv r_4, rv b19, iv ((p1 &&& (2147483647 : Int32)) % (1025 : Int32)), u_, u_, u_, u_, u_, u_, u_, u_]) rfl ?_
     exact k
   obtain ⟨mt, hd_mt⟩ : ∃ z : Int32, ((p1 &&& (2147483647 : Int32)) % (1025 : Int32)) = z := ⟨_, rfl⟩
   rw [hd_mt]
   show Go p e below _ (T23.setTop (mkF m 177 #[iv p0, iv p1, lv q2, .second, lv q3, .second, iv p4, iv (2 : Int32), iv r_1, iv r_2, iv r_3, iv r_4, rv b19, iv mt, u_, u_, u_, u_, u_, u_, u_, u_] []))
   refine Go.step (S' := T23.setTop (mkF m 183 #[iv p0, iv p1, lv q2, .second, lv q3, .second, iv p4, iv (2 : Int32), iv r_1, iv r_2, iv r_3, iv r_4, rv b19, iv mt, u_, u_, u_, u_, u_, u_, u_, u_] [(.long ((2 : Int32).toInt64)), (.long (40 : Int64))])) (fun t k => ?_) ?_
   · refine X23.ldc2Long hx hown (mvT hZ (own_w hw 35 rfl)) (g := (mkF m 177 #[iv p0, iv p1, lv q2, .second, lv q3, .second, iv p4, iv (2 : Int32), iv r_1, iv r_2, iv r_3, iv r_4, rv b19, iv mt, u_, u_, u_, u_, u_, u_, u_, u_] [])) rfl (hb hby at_177) _ ?_
     refine XS.iload X23.here hx rfl (hb hby at_180) rfl ?_
     refine XS.i2l X23.here hx rfl (hb hby at_182) rfl ?_
     exact k
   rw [show ((2 : Int32).toInt64) = (2 : Int64) from by decide]
   show Go p e below _ (T23.setTop (mkF m 183 #[iv p0, iv p1, lv q2, .second, lv q3, .second, iv p4, iv (2 : Int32), iv r_1, iv r_2, iv r_3, iv r_4, rv b19, iv mt, u_, u_, u_, u_, u_, u_, u_, u_] [(.long (2 : Int64)), (.long (40 : Int64))]))
   refine Go.step (S' := T23.setTop (mkF m 184 #[iv p0, iv p1, lv q2, .second, lv q3, .second, iv p4, iv (2 : Int32), iv r_1, iv r_2, iv r_3, iv r_4, rv b19, iv mt, u_, u_, u_, u_, u_, u_, u_, u_] [(.long ((40 : Int64) + (2 : Int64)))])) (fun t k => ?_) ?_
   · refine XS.ladd X23.here hx rfl (hb hby at_183) rfl ?_
     exact k
   rw [show ((40 : Int64) + (2 : Int64)) = (42 : Int64) from by decide]
   show Go p e below _ (T23.setTop (mkF m 184 #[iv p0, iv p1, lv q2, .second, lv q3, .second, iv p4, iv (2 : Int32), iv r_1, iv r_2, iv r_3, iv r_4, rv b19, iv mt, u_, u_, u_, u_, u_, u_, u_, u_] [(.long (42 : Int64))]))
   refine Go.step (S' := T23.setTop (mkF m 190 #[iv p0, iv p1, lv q2, .second, lv q3, .second, iv p4, iv (2 : Int32), iv r_1, iv r_2, iv r_3, iv r_4, rv b19, iv mt, lv ((42 : Int64) + (mt.toInt64)), .second, u_, u_, u_, u_, u_, u_] [])) (fun t k => ?_) ?_
   · refine XS.iload X23.here hx rfl (hb hby at_184) rfl ?_
     refine XS.i2l X23.here hx rfl (hb hby at_186) rfl ?_
     refine XS.ladd X23.here hx rfl (hb hby at_187) rfl ?_
     refine XS.lstore X23.here hx rfl (hb hby at_188) rfl (l' := #[iv p0, iv p1, lv q2, .second, lv q3, .second, iv p4, iv (2 : Int32), iv r_1, iv r_2, iv r_3, iv r_4, rv b19, iv mt, lv ((42 : Int64) + (mt.toInt64)), .second, u_, u_, u_, u_, u_, u_]) rfl ?_
     exact k
   obtain ⟨off, hd_off⟩ : ∃ z : Int64, ((42 : Int64) + (mt.toInt64)) = z := ⟨_, rfl⟩
   rw [hd_off]
   show Go p e below _ (T23.setTop (mkF m 190 #[iv p0, iv p1, lv q2, .second, lv q3, .second, iv p4, iv (2 : Int32), iv r_1, iv r_2, iv r_3, iv r_4, rv b19, iv mt, lv off, .second, u_, u_, u_, u_, u_, u_] []))
   refine Go.step (S' := T23.setTop (mkF m 198 #[iv p0, iv p1, lv q2, .second, lv q3, .second, iv p4, iv (2 : Int32), iv r_1, iv r_2, iv r_3, iv r_4, rv b19, iv mt, lv off, .second, lv (q3 &&& (9223372036854775807 : Int64)), .second, u_, u_, u_, u_] [])) (fun t k => ?_) ?_
   · refine XS.lload X23.here hx rfl (hb hby at_190) rfl ?_
     refine X23.ldc2Long hx hown (mvT hZ (own_w hw 36 rfl)) (g := (mkF m 192 #[iv p0, iv p1, lv q2, .second, lv q3, .second, iv p4, iv (2 : Int32), iv r_1, iv r_2, iv r_3, iv r_4, rv b19, iv mt, lv off, .second, u_, u_, u_, u_, u_, u_] [(.long q3)])) rfl (hb hby at_192) _ ?_
     refine XS.land X23.here hx rfl (hb hby at_195) rfl ?_
     refine XS.lstore X23.here hx rfl (hb hby at_196) rfl (l' := #[iv p0, iv p1, lv q2, .second, lv q3, .second, iv p4, iv (2 : Int32), iv r_1, iv r_2, iv r_3, iv r_4, rv b19, iv mt, lv off, .second, lv (q3 &&& (9223372036854775807 : Int64)), .second, u_, u_, u_, u_]) rfl ?_
     exact k
   obtain ⟨rr, hd_rr⟩ : ∃ z : Int64, (q3 &&& (9223372036854775807 : Int64)) = z := ⟨_, rfl⟩
   rw [hd_rr]
   show Go p e below _ (T23.setTop (mkF m 198 #[iv p0, iv p1, lv q2, .second, lv q3, .second, iv p4, iv (2 : Int32), iv r_1, iv r_2, iv r_3, iv r_4, rv b19, iv mt, lv off, .second, lv rr, .second, u_, u_, u_, u_] []))
   have bm := own_mt hd_mt
   have bo := own_off (k := (42 : Int64)) (by decide) bm hd_off
   have br := own_pos hd_rr
   have tail : ∀ (TT : State) (LL : List Loc) (XX : Stand p l e room_1 (s.setVm s.vm) m #[(.int p0), (.int p1), (.long q2), (.long q3), (.int p4)] below meth c TT LL 3 8) (eTT : TT.heap = T23.heap) (NN : Fr n0 LL) (ct : Int64) (sA sB : Slot), ((sA = u_ ∧ sB = u_) ∨ ∃ dl, sA = lv dl ∧ sB = .second) → 0 ≤ ct.toInt → Go p e below (fun o U' => ∃ v L, o = .returned v ∧ Q_rm0 Z p0 p1 q2 q3 p4 w_PUT w_ERASED w_DELETE w_GONE w_UNFINISHED cs sf h0 n0 v U'.heap L ∧ ReturnedEndW s o U' L room_1.cells room_1.slots) (TT.setTop (mkF m 242 #[iv p0, iv p1, lv q2, .second, lv q3, .second, iv p4, iv (2 : Int32), iv r_1, iv r_2, iv r_3, iv r_4, rv b19, iv mt, lv off, .second, lv rr, .second, lv ct, .second, sA, sB] [])) := by
    intro TT LL XX eTT NN ct sA sB hAB bc
    obtain ⟨T24, h24, X24, e24, E24, A24, D24, -, st24⟩ := newO XX hx hZ hown (own_w hw 37 rfl) (own_w hw 38 rfl) (own_w hw 39 rfl) eTT (g := (mkF m 242 #[iv p0, iv p1, lv q2, .second, lv q3, .second, iv p4, iv (2 : Int32), iv r_1, iv r_2, iv r_3, iv r_4, rv b19, iv mt, lv off, .second, lv rr, .second, lv ct, .second, sA, sB] [])) rfl (hb hby at_242) (by decide) (by decide)
    obtain ⟨b24, g24⟩ : ∃ z, z = Array.size T23.heap := ⟨_, rfl⟩
    have g_b24 : n0 ≤ b24 := Nat.le_trans (old_le O) (Nat.le_of_eq g24.symm)
    have sz_b24 : h0.size ≤ b24 := Nat.le_trans K.1 (Nat.le_of_eq g24.symm)
    have ne_b19_b24 : b19 ≠ b24 := Nat.ne_of_lt (Nat.lt_of_lt_of_le E_b19.lt (Nat.le_of_eq g24.symm))
    have ne_b20_b24 : b20 ≠ b24 := Nat.ne_of_lt (Nat.lt_of_lt_of_le V_b20.lt (Nat.le_of_eq g24.symm))
    have ne_tb_23_b24 : tb_23 ≠ b24 := Nat.ne_of_lt (Nat.lt_of_lt_of_le V_23.lt (Nat.le_of_eq g24.symm))
    rw [← g24] at A24 D24 st24
    have O := O.ext E24
    have hk := Nat.le_trans hk E24.1
    have K := K.ext E24
    have E_b19 := E_b19.ext E24
    have V_b20 := V_b20.ext E24
    have E_23 := E_23.ext E24
    have Fv_23 := Fv_23.ext E24
    have Fc_23 := Fc_23.ext E24
    have V_23 := V_23.ext E24
    have E_b24 := A24
    have F_kind_b24 : Fld Z h24 b24 "com/example/tombsweep/tombsweep/io/RecordHeader" "kind" "Lcom/example/tombsweep/tombsweep/io/RecordHeader$Kind;" .null := D24 (Or.inr (own_w hw 112 rfl)) (ty := (.object "com/example/tombsweep/tombsweep/io/RecordHeader$Kind")) (by decide)
    have F_key_b24 : Fld Z h24 b24 "com/example/tombsweep/tombsweep/io/RecordHeader" "key" "Lcom/example/tombsweep/tombsweep/model/BlobKey;" .null := D24 (Or.inr (own_w hw 114 rfl)) (ty := (.object "com/example/tombsweep/tombsweep/model/BlobKey")) (by decide)
    have F_metadataLength_b24 : Fld Z h24 b24 "com/example/tombsweep/tombsweep/io/RecordHeader" "metadataLength" "I" (.int (0 : Int32)) := D24 (Or.inr (own_w hw 116 rfl)) (ty := .int) (by decide)
    have F_sequence_b24 : Fld Z h24 b24 "com/example/tombsweep/tombsweep/io/RecordHeader" "sequence" "J" (.long (0 : Int64)) := D24 (Or.inr (own_w hw 118 rfl)) (ty := .long) (by decide)
    have F_time_b24 : Fld Z h24 b24 "com/example/tombsweep/tombsweep/io/RecordHeader" "time" "J" (.long (0 : Int64)) := D24 (Or.inr (own_w hw 120 rfl)) (ty := .long) (by decide)
    have F_contentLength_b24 : Fld Z h24 b24 "com/example/tombsweep/tombsweep/io/RecordHeader" "contentLength" "J" (.long (0 : Int64)) := D24 (Or.inr (own_w hw 122 rfl)) (ty := .long) (by decide)
    have F_contentCheck_b24 : Fld Z h24 b24 "com/example/tombsweep/tombsweep/io/RecordHeader" "contentCheck" "I" (.int (0 : Int32)) := D24 (Or.inr (own_w hw 124 rfl)) (ty := .int) (by decide)
    have F_metadataCheck_b24 : Fld Z h24 b24 "com/example/tombsweep/tombsweep/io/RecordHeader" "metadataCheck" "I" (.int (0 : Int32)) := D24 (Or.inr (own_w hw 126 rfl)) (ty := .int) (by decide)
    refine Go.step st24 ?_
    refine Go.step (S' := T24.setTop (mkF m 250 #[iv p0, iv p1, lv q2, .second, lv q3, .second, iv p4, iv (2 : Int32), iv r_1, iv r_2, iv r_3, iv r_4, rv b19, iv mt, lv off, .second, lv rr, .second, lv ct, .second, sA, sB] [(.int ((p4.toUInt32 >>> ((1 : Int32) &&& 31).toUInt32).toInt32)), (.ref b24), (.ref b24)])) (fun t k => ?_) ?_
    · refine XS.dup X24.here hx rfl (hb hby at_245) rfl rfl ?_
      refine XS.iload X24.here hx rfl (hb hby at_246) rfl ?_
      refine XS.iconst X24.here hx rfl (hb hby at_248) ?_
      refine XS.iushr X24.here hx rfl (hb hby at_249) rfl ?_
      exact k
    obtain ⟨_, _, ⟨T25, L25, k25, n25⟩, -, X25, ⟨Lc25, hQ25, l25, y25, z25⟩, st25⟩ := Jvm.LawKit.callS X24 hx (y := y_13) hown (mvT hZ (own_w hw 40 rfl)) (mvT hZ (own_w hw 41 rfl)) (mvT hZ (own_w hw 2 rfl)) (mvT hZ (own_w hw 42 rfl)) (by decide) (backOf (W := 2) (rmKind l Z a0 hw [] ((p4.toUInt32 >>> ((1 : Int32) &&& 31).toUInt32).toInt32) w_PUT w_ERASED w_DELETE w_GONE w_UNFINISHED h24 n0 O S_PUT S_ERASED S_DELETE S_GONE S_UNFINISHED) hZ (own_w hw 42 rfl) (own_w hw 2 rfl) (by decide) (by decide)) (g := (mkF m 250 #[iv p0, iv p1, lv q2, .second, lv q3, .second, iv p4, iv (2 : Int32), iv r_1, iv r_2, iv r_3, iv r_4, rv b19, iv mt, lv off, .second, lv rr, .second, lv ct, .second, sA, sB] [(.int ((p4.toUInt32 >>> ((1 : Int32) &&& 31).toUInt32).toInt32)), (.ref b24), (.ref b24)])) rfl (by rw [hml]; rfl) (argsL := [(.int ((p4.toUInt32 >>> ((1 : Int32) &&& 31).toUInt32).toInt32))]) (rest := [(.ref b24), (.ref b24)]) (lenOf pd__28I_29Lcom_2fexample_2ftombsweep_2ftombsweep_2fio_2fRecordHeader_24Kind_3b rfl) rfl (Nat.le_of_eq rfl) (hb hby at_250) (fun _ _ => ⟨rfl, e24, (by decide : 4 + 0 ≤ _), (by decide : 16 + 0 ≤ _)⟩)
    dsimp only [Pt.U, Pt.locs, Pt.cells, Pt.slots] at X25 l25 y25 z25 st25 hQ25
    subst l25 y25 z25
    obtain ⟨b_25, rfl, Nq25, e25⟩ := hQ25
    have N25 := Fr.app NN Nq25
    refine Go.step st25 ?_
    obtain ⟨T26, h26, X26, e26, E26, A26, D26, -, st26⟩ := newO X25 hx hZ hown (own_w hw 46 rfl) (own_w hw 47 rfl) (own_w hw 48 rfl) e25 (g := (mkF m 253 #[iv p0, iv p1, lv q2, .second, lv q3, .second, iv p4, iv (2 : Int32), iv r_1, iv r_2, iv r_3, iv r_4, rv b19, iv mt, lv off, .second, lv rr, .second, lv ct, .second, sA, sB] [(.ref b_25), (.ref b24), (.ref b24)])) rfl (hb hby at_253) (by decide) (by decide)
    obtain ⟨b26, g26⟩ : ∃ z, z = Array.size h24 := ⟨_, rfl⟩
    have g_b26 : n0 ≤ b26 := Nat.le_trans (old_le O) (Nat.le_of_eq g26.symm)
    have sz_b26 : h0.size ≤ b26 := Nat.le_trans K.1 (Nat.le_of_eq g26.symm)
    have ne_b19_b26 : b19 ≠ b26 := Nat.ne_of_lt (Nat.lt_of_lt_of_le E_b19.lt (Nat.le_of_eq g26.symm))
    have ne_b20_b26 : b20 ≠ b26 := Nat.ne_of_lt (Nat.lt_of_lt_of_le V_b20.lt (Nat.le_of_eq g26.symm))
    have ne_tb_23_b26 : tb_23 ≠ b26 := Nat.ne_of_lt (Nat.lt_of_lt_of_le V_23.lt (Nat.le_of_eq g26.symm))
    have ne_b24_b26 : b24 ≠ b26 := Nat.ne_of_lt (Nat.lt_of_lt_of_le E_b24.lt (Nat.le_of_eq g26.symm))
    rw [← g26] at A26 D26 st26
    have O := O.ext E26
    have hk := Nat.le_trans hk E26.1
    have K := K.ext E26
    have E_b19 := E_b19.ext E26
    have V_b20 := V_b20.ext E26
    have E_23 := E_23.ext E26
    have Fv_23 := Fv_23.ext E26
    have Fc_23 := Fc_23.ext E26
    have V_23 := V_23.ext E26
    have E_b24 := E_b24.ext E26
    have F_kind_b24 := F_kind_b24.ext E26
    have F_key_b24 := F_key_b24.ext E26
    have F_metadataLength_b24 := F_metadataLength_b24.ext E26
    have F_sequence_b24 := F_sequence_b24.ext E26
    have F_time_b24 := F_time_b24.ext E26
    have F_contentLength_b24 := F_contentLength_b24.ext E26
    have F_contentCheck_b24 := F_contentCheck_b24.ext E26
    have F_metadataCheck_b24 := F_metadataCheck_b24.ext E26
    have E_b26 := A26
    have F_value_b26 : Fld Z h26 b26 "com/example/tombsweep/tombsweep/model/BlobKey" "value" "Ljava/lang/String;" .null := D26 (Or.inr (own_w hw 106 rfl)) (ty := (.object "java/lang/String")) (by decide)
    refine Go.step st26 ?_
    refine Go.step (S' := T26.setTop (mkF m 259 #[iv p0, iv p1, lv q2, .second, lv q3, .second, iv p4, iv (2 : Int32), iv r_1, iv r_2, iv r_3, iv r_4, rv b19, iv mt, lv off, .second, lv rr, .second, lv ct, .second, sA, sB] [(.ref b19), (.ref b26), (.ref b26), (.ref b_25), (.ref b24), (.ref b24)])) (fun t k => ?_) ?_
    · refine XS.dup X26.here hx rfl (hb hby at_256) rfl rfl ?_
      refine XS.aload X26.here hx rfl (hb hby at_257) rfl rfl ?_
      exact k
    obtain ⟨_, _, ⟨T27, L27, k27, n27⟩, -, X27, hS27, hgr27, ⟨Lc27, hQ27, l27, y27, z27⟩, st27⟩ := X26.specialBackS hx (y := y_21) rfl hown (mvT hZ (own_w hw 49 rfl)) (mvT hZ (own_w hw 50 rfl)) (mvT hZ (own_w hw 51 rfl)) (by decide) (backOfS (W := 4) (rmBK2 l Z a0 hw [] b26 b19 tb_23 kb_23 r_1 r_2 cs sf h26 n0 O S_CS S_FM E_b19 Fv_23 Fc_23 V_23 E_b26 F_value_b26 (by assumption) hcs hsf k0_1 k1_1 k2_1 k3_1 k0_2 k1_2 k2_2 k3_2) hZ (own_w hw 51 rfl) (own_w hw 48 rfl) (by decide) (by decide)) (g := (mkF m 259 #[iv p0, iv p1, lv q2, .second, lv q3, .second, iv p4, iv (2 : Int32), iv r_1, iv r_2, iv r_3, iv r_4, rv b19, iv mt, lv off, .second, lv rr, .second, lv ct, .second, sA, sB] [(.ref b19), (.ref b26), (.ref b26), (.ref b_25), (.ref b24), (.ref b24)])) rfl (by rw [hml]; rfl) (Steps.refl _) (a := b26) (argsL := [(.ref b19)]) (rest := [(.ref b26), (.ref b_25), (.ref b24), (.ref b24)]) (lenOf pd__28Ljava_2flang_2fString_3b_29V rfl) rfl (Nat.le_of_eq rfl) (hb hby at_259) (fun _ _ => ⟨rfl, e26, (by decide : 5 + 2 ≤ _), (by decide : 17 + 24 ≤ _)⟩)
    dsimp only [Pt.U, Pt.locs, Pt.cells, Pt.slots] at X27 l27 y27 z27 st27 hQ27 hS27 hgr27
    subst l27 y27 z27
    have hS := foldS hS (by rw [e26]; exact hk) hS27 hgr27
    have hown : (s.setVm T27.vm).vm.findClass "com/example/tombsweep/tombsweep/io/RecordHeaderFitsInPinLaw" = some m.cls := by show T27.vm.findClass _ = _; rw [hS27.1.alike.findClass]; exact hown
    have hZ : Z.Warmed39 (s.setVm T27.vm).vm := State.Warmed39.trans hZ hS27.1
    have X27 : Stand p l e room_1 (s.setVm T27.vm) m #[(.int p0), (.int p1), (.long q2), (.long q3), (.int p4)] below meth c T27 _ _ _ := X27
    obtain ⟨rfl, Nq27, K27, P27_E, P27_F⟩ := hQ27
    have N27 := Fr.app N25 Nq27
    have O := O.keep K27 (allS g_b26 all0)
    have K := K.trans K27 (allS (Or.inr sz_b26) all0)
    have E_b19 := E_b19.keep K27
    have V_b20 := V_b20.keep K27 (ninS ne_b20_b26 nin0)
    have E_23 := E_23.keep K27
    have Fv_23 := Fv_23.keep K27 (ninS ne_b19_b26 nin0)
    have Fc_23 := Fc_23.keep K27 (ninS ne_b19_b26 nin0)
    have V_23 := V_23.keep K27 (ninS ne_tb_23_b26 nin0)
    have E_b24 := E_b24.keep K27
    have F_kind_b24 := F_kind_b24.keep K27 (ninS ne_b24_b26 nin0)
    have F_key_b24 := F_key_b24.keep K27 (ninS ne_b24_b26 nin0)
    have F_metadataLength_b24 := F_metadataLength_b24.keep K27 (ninS ne_b24_b26 nin0)
    have F_sequence_b24 := F_sequence_b24.keep K27 (ninS ne_b24_b26 nin0)
    have F_time_b24 := F_time_b24.keep K27 (ninS ne_b24_b26 nin0)
    have F_contentLength_b24 := F_contentLength_b24.keep K27 (ninS ne_b24_b26 nin0)
    have F_contentCheck_b24 := F_contentCheck_b24.keep K27 (ninS ne_b24_b26 nin0)
    have F_metadataCheck_b24 := F_metadataCheck_b24.keep K27 (ninS ne_b24_b26 nin0)
    have E_b26 := E_b26.keep K27
    have E_27 := P27_E
    have F_27 := P27_F
    have hk : T27.heap.size ≤ (T27.heap).size := Nat.le_refl _
    refine Go.step (fun t k => st27.trans k) ?_
    refine Go.step (S' := T27.setTop (mkF m 271 #[iv p0, iv p1, lv q2, .second, lv q3, .second, iv p4, iv (2 : Int32), iv r_1, iv r_2, iv r_3, iv r_4, rv b19, iv mt, lv off, .second, lv rr, .second, lv ct, .second, sA, sB] [(.int p1), (.int p0), (.long ct), (.long q2), (.long q3), (.int mt), (.ref b26), (.ref b_25), (.ref b24), (.ref b24)])) (fun t k => ?_) ?_
    · refine XS.iload X27.here hx rfl (hb hby at_262) rfl ?_
      refine XS.lload X27.here hx rfl (hb hby at_264) rfl ?_
      refine XS.lloadN X27.here hx rfl (hb hby at_266) rfl ?_
      refine XS.lload X27.here hx rfl (hb hby at_267) rfl ?_
      refine XS.iloadN X27.here hx rfl (hb hby at_269) rfl ?_
      refine XS.iloadN X27.here hx rfl (hb hby at_270) rfl ?_
      exact k
    obtain ⟨_, _, ⟨T28, L28, k28, n28⟩, -, X28, ⟨Lc28, hQ28, l28, y28, z28⟩, st28⟩ := X27.specialBack hx (y := y_20) rfl hown (mvT hZ (own_w hw 107 rfl)) (mvT hZ (own_w hw 108 rfl)) (mvT hZ (own_w hw 109 rfl)) (by decide) (backOf (W := 1) (rmRH l Z a0 hw [] b24 b_25 b26 mt q3 q2 ct p0 p1 T27.heap n0 O E_b24 F_kind_b24 F_key_b24 F_metadataLength_b24 F_sequence_b24 F_time_b24 F_contentLength_b24 F_contentCheck_b24 F_metadataCheck_b24 (by assumption)) hZ (own_w hw 109 rfl) (own_w hw 39 rfl) (by decide) (by decide)) (g := (mkF m 271 #[iv p0, iv p1, lv q2, .second, lv q3, .second, iv p4, iv (2 : Int32), iv r_1, iv r_2, iv r_3, iv r_4, rv b19, iv mt, lv off, .second, lv rr, .second, lv ct, .second, sA, sB] [(.int p1), (.int p0), (.long ct), (.long q2), (.long q3), (.int mt), (.ref b26), (.ref b_25), (.ref b24), (.ref b24)])) rfl (by rw [hml]; rfl) (Steps.refl _) (a := b24) (argsL := [(.ref b_25), (.ref b26), (.int mt), (.long q3), (.long q2), (.long ct), (.int p0), (.int p1)]) (rest := [(.ref b24)]) (lenOf pd__28Lcom_2fexample_2ftombsweep_2ftombsweep_2fio_2fRecordHeader_24Kind_3bLcom_2fexample_2ftombsweep_2ftombsweep_2fmodel_2fBlobKey_3bIJJJII_29V rfl) rfl (Nat.le_of_eq rfl) (hb hby at_271) (fun _ _ => ⟨rfl, (Eq.refl T27.heap), (by decide : 7 + 0 ≤ _), (by decide : 41 + 0 ≤ _)⟩)
    dsimp only [Pt.U, Pt.locs, Pt.cells, Pt.slots] at X28 l28 y28 z28 st28 hQ28
    subst l28 y28 z28
    obtain ⟨rfl, Nq28, K28, P28_E, P28_Fkey, P28_FmetadataLength, P28_FcontentLength⟩ := hQ28
    have N28 := Fr.app N27 Nq28
    have O := O.keep K28 (allS g_b24 all0)
    have K := K.trans K28 (allS (Or.inr sz_b24) all0)
    have E_b19 := E_b19.keep K28
    have V_b20 := V_b20.keep K28 (ninS ne_b20_b24 nin0)
    have E_23 := E_23.keep K28
    have Fv_23 := Fv_23.keep K28 (ninS ne_b19_b24 nin0)
    have Fc_23 := Fc_23.keep K28 (ninS ne_b19_b24 nin0)
    have V_23 := V_23.keep K28 (ninS ne_tb_23_b24 nin0)
    have E_b24 := E_b24.keep K28
    have E_b26 := E_b26.keep K28
    have E_27 := E_27.keep K28
    have F_27 := F_27.keep K28 (ninS (Ne.symm ne_b24_b26) nin0)
    have hk := Nat.le_trans hk K28.1
    have E_28 := P28_E
    have Fkey_28 := P28_Fkey
    have FmetadataLength_28 := P28_FmetadataLength
    have FcontentLength_28 := P28_FcontentLength
    refine Go.step (fun t k => st28.trans k) ?_
    have hst : storeLocals #[iv p0, iv p1, lv q2, .second, lv q3, .second, iv p4, iv (2 : Int32), iv r_1, iv r_2, iv r_3, iv r_4, rv b19, iv mt, lv off, .second, lv rr, .second, lv ct, .second, sA, sB] 20 (.ref b24) = some #[iv p0, iv p1, lv q2, .second, lv q3, .second, iv p4, iv (2 : Int32), iv r_1, iv r_2, iv r_3, iv r_4, rv b19, iv mt, lv off, .second, lv rr, .second, lv ct, .second, rv b24, u_] := by rcases hAB with ⟨rfl, rfl⟩ | ⟨dl, rfl, rfl⟩ <;> rfl
    refine Go.step (S' := T28.setTop (mkF m 276 #[iv p0, iv p1, lv q2, .second, lv q3, .second, iv p4, iv (2 : Int32), iv r_1, iv r_2, iv r_3, iv r_4, rv b19, iv mt, lv off, .second, lv rr, .second, lv ct, .second, rv b24, u_] [])) (fun t k => XS.astore X28.here hx rfl (hb hby at_274) rfl rfl (l' := #[iv p0, iv p1, lv q2, .second, lv q3, .second, iv p4, iv (2 : Int32), iv r_1, iv r_2, iv r_3, iv r_4, rv b19, iv mt, lv off, .second, lv rr, .second, lv ct, .second, rv b24, u_]) hst k) ?_
    refine Go.step (S' := T28.setTop (mkF m 281 #[iv p0, iv p1, lv q2, .second, lv q3, .second, iv p4, iv (2 : Int32), iv r_1, iv r_2, iv r_3, iv r_4, rv b19, iv mt, lv off, .second, lv rr, .second, lv ct, .second, rv b24, u_] [(.int (lcmpW ct rr))])) (fun t k => ?_) ?_
    · refine XS.lload X28.here hx rfl (hb hby at_276) rfl ?_
      refine XS.lload X28.here hx rfl (hb hby at_278) rfl ?_
      refine XS.lcmp X28.here hx rfl (hb hby at_280) rfl ?_
      exact k
    by_cases hc281 : rr < ct
    ·skip
     refine Go.step (S' := T28.setTop (mkF m 306 #[iv p0, iv p1, lv q2, .second, lv q3, .second, iv p4, iv (2 : Int32), iv r_1, iv r_2, iv r_3, iv r_4, rv b19, iv mt, lv off, .second, lv rr, .second, lv ct, .second, rv b24, iv (0 : Int32)] [(.long rr), (.ref b24)])) (fun t k => ?_) ?_
     · refine XS.ifYes X28.here hx rfl (pc0 := 281) (pc' := 299) rfl (hb hby at_281) rfl ((if0 _ _).trans (tlt ((lw_gt ct rr).mpr hc281)).2.2.1) (by decide) (by decide) ?_
       refine XS.iconst X28.here hx rfl (hb hby at_299) ?_
       refine XS.istore X28.here hx rfl (hb hby at_300) rfl (l' := #[iv p0, iv p1, lv q2, .second, lv q3, .second, iv p4, iv (2 : Int32), iv r_1, iv r_2, iv r_3, iv r_4, rv b19, iv mt, lv off, .second, lv rr, .second, lv ct, .second, rv b24, iv (0 : Int32)]) rfl ?_
       refine XS.aload X28.here hx rfl (hb hby at_302) rfl rfl ?_
       refine XS.lload X28.here hx rfl (hb hby at_304) rfl ?_
       exact k
     have hfit : (rr - ((42 : Int64) + (mt.toInt64))) < ct := by rw [hd_off]; exact own_fit0 bc br bo hc281
     obtain ⟨cq29, kq29, q29a, q29b, q29c⟩ := isOf hZ (Eq.refl T28.heap) E_b24
     obtain ⟨_, _, ⟨T29, L29, k29, n29⟩, -, X29, ⟨Lc29, hQ29, l29, y29, z29⟩, st29⟩ := X28.virtualBack hx (y := y_25) (z := y_25) hown (mvT hZ (own_w hw 127 rfl)) (mvT hZ (own_w hw 128 rfl)) (notFace_of_selects (args := #[]) (mvT hZ (own_w hw 130 rfl))) (mvT hZ (own_w hw 130 rfl)) (mvT hZ (own_w hw 129 rfl)) (by decide) (backOf (W := 0) (rmFit2N l Z a0 hw [] b24 rr b26 b19 tb_23 kb_23 r_1 r_2 cs mt ct T28.heap n0 O Fkey_28 E_b26 F_27 E_b19 Fv_23 Fc_23 V_23 S_CS E_b24 FmetadataLength_28 FcontentLength_28 hcs hfit) hZ (own_w hw 131 rfl) (own_w hw 39 rfl) (by decide) (by decide)) q29a q29c (g := (mkF m 306 #[iv p0, iv p1, lv q2, .second, lv q3, .second, iv p4, iv (2 : Int32), iv r_1, iv r_2, iv r_3, iv r_4, rv b19, iv mt, lv off, .second, lv rr, .second, lv ct, .second, rv b24, iv (0 : Int32)] [(.long rr), (.ref b24)])) rfl (by rw [hml]; rfl) (Steps.refl _) (argsL := [(.long rr)]) (rest := []) (lenOf pd__28J_29Z rfl) rfl (Nat.le_of_eq rfl) (hb hby at_306) (fun _ _ => ⟨rfl, (Eq.refl T28.heap), (by decide : 7 + 0 ≤ _), (by decide : 41 + 0 ≤ _)⟩)
     dsimp only [Pt.U, Pt.locs, Pt.cells, Pt.slots] at X29 l29 y29 z29 st29 hQ29
     subst l29 y29 z29
     obtain ⟨rfl, Nq29, e29⟩ := hQ29
     have N29 := Fr.app N28 Nq29
     refine Go.step (fun t k => st29.trans k) ?_
     refine Go.step (S' := T29.setTop (mkF m 319 #[iv p0, iv p1, lv q2, .second, lv q3, .second, iv p4, iv (2 : Int32), iv r_1, iv r_2, iv r_3, iv r_4, rv b19, iv mt, lv off, .second, lv rr, .second, lv ct, .second, rv b24, iv (0 : Int32)] [(.int (1 : Int32))])) (fun t k => ?_) ?_
     · refine XS.iload X29.here hx rfl (hb hby at_309) rfl ?_
       refine XS.icmpNo X29.here hx rfl (hb hby at_311) rfl (teq ((by decide) : (0 : Int32) = (0 : Int32))).2 ?_
       refine XS.iconst X29.here hx rfl (hb hby at_314) ?_
       refine XS.goto X29.here hx rfl (pc0 := 315) (pc' := 319) rfl (hb hby at_315) (by decide) (by decide) ?_
       exact k
     obtain ⟨fs, hr, hrun, hended, hR⟩ := X29.leaveW hS (by rw [e29]; exact hk) (v := some (.int (1 : Int32))) (fun h => by rw [Bd.returns] at h; cases h)
     refine Go.fin (S' := T29.setFrames fs) ?_ hrun hended ⟨_, _, rfl, ?_, hR.1, hR.2.1, hR.2.2.1, hR.2.2.2.mono (by decide) (by decide)⟩
     · exact retOut X29 hx Bd.returns (by decide) (Or.inl ⟨rfl, Or.inr (Or.inl rfl), _, rfl⟩) (hb hby at_319) hr
     · show Q_rm0 Z p0 p1 q2 q3 p4 w_PUT w_ERASED w_DELETE w_GONE w_UNFINISHED cs sf h0 n0 (some (.int (1 : Int32))) T29.heap _
       rw [e29]
       exact ⟨rfl, N29, K⟩
    ·skip
     refine Go.step (S' := T28.setTop (mkF m 292 #[iv p0, iv p1, lv q2, .second, lv q3, .second, iv p4, iv (2 : Int32), iv r_1, iv r_2, iv r_3, iv r_4, rv b19, iv mt, lv off, .second, lv rr, .second, lv ct, .second, rv b24, u_] [(.int (lcmpW (rr - ct) off))])) (fun t k => ?_) ?_
     · refine XS.ifNo X28.here hx rfl (hb hby at_281) rfl ((if0 _ _).trans (flt (fun zq => absurd ((lw_gt ct rr).mp zq) hc281)).2.2.1) ?_
       refine XS.lload X28.here hx rfl (hb hby at_284) rfl ?_
       refine XS.lload X28.here hx rfl (hb hby at_286) rfl ?_
       refine XS.lsub X28.here hx rfl (hb hby at_288) rfl ?_
       refine XS.lload X28.here hx rfl (hb hby at_289) rfl ?_
       refine XS.lcmp X28.here hx rfl (hb hby at_291) rfl ?_
       exact k
     by_cases hc292 : (rr - ct) < off
     ·skip
      refine Go.step (S' := T28.setTop (mkF m 306 #[iv p0, iv p1, lv q2, .second, lv q3, .second, iv p4, iv (2 : Int32), iv r_1, iv r_2, iv r_3, iv r_4, rv b19, iv mt, lv off, .second, lv rr, .second, lv ct, .second, rv b24, iv (0 : Int32)] [(.long rr), (.ref b24)])) (fun t k => ?_) ?_
      · refine XS.ifYes X28.here hx rfl (pc0 := 292) (pc' := 299) rfl (hb hby at_292) rfl ((if0 _ _).trans (tlt ((lw_lt (rr - ct) off).mpr hc292)).1) (by decide) (by decide) ?_
        refine XS.iconst X28.here hx rfl (hb hby at_299) ?_
        refine XS.istore X28.here hx rfl (hb hby at_300) rfl (l' := #[iv p0, iv p1, lv q2, .second, lv q3, .second, iv p4, iv (2 : Int32), iv r_1, iv r_2, iv r_3, iv r_4, rv b19, iv mt, lv off, .second, lv rr, .second, lv ct, .second, rv b24, iv (0 : Int32)]) rfl ?_
        refine XS.aload X28.here hx rfl (hb hby at_302) rfl rfl ?_
        refine XS.lload X28.here hx rfl (hb hby at_304) rfl ?_
        exact k
      have hfit : (rr - ((42 : Int64) + (mt.toInt64))) < ct := by rw [hd_off]; exact (own_fit bc br bo hc281).mpr hc292
      obtain ⟨cq30, kq30, q30a, q30b, q30c⟩ := isOf hZ (Eq.refl T28.heap) E_b24
      obtain ⟨_, _, ⟨T30, L30, k30, n30⟩, -, X30, ⟨Lc30, hQ30, l30, y30, z30⟩, st30⟩ := X28.virtualBack hx (y := y_25) (z := y_25) hown (mvT hZ (own_w hw 127 rfl)) (mvT hZ (own_w hw 128 rfl)) (notFace_of_selects (args := #[]) (mvT hZ (own_w hw 130 rfl))) (mvT hZ (own_w hw 130 rfl)) (mvT hZ (own_w hw 129 rfl)) (by decide) (backOf (W := 0) (rmFit2N l Z a0 hw [] b24 rr b26 b19 tb_23 kb_23 r_1 r_2 cs mt ct T28.heap n0 O Fkey_28 E_b26 F_27 E_b19 Fv_23 Fc_23 V_23 S_CS E_b24 FmetadataLength_28 FcontentLength_28 hcs hfit) hZ (own_w hw 131 rfl) (own_w hw 39 rfl) (by decide) (by decide)) q30a q30c (g := (mkF m 306 #[iv p0, iv p1, lv q2, .second, lv q3, .second, iv p4, iv (2 : Int32), iv r_1, iv r_2, iv r_3, iv r_4, rv b19, iv mt, lv off, .second, lv rr, .second, lv ct, .second, rv b24, iv (0 : Int32)] [(.long rr), (.ref b24)])) rfl (by rw [hml]; rfl) (Steps.refl _) (argsL := [(.long rr)]) (rest := []) (lenOf pd__28J_29Z rfl) rfl (Nat.le_of_eq rfl) (hb hby at_306) (fun _ _ => ⟨rfl, (Eq.refl T28.heap), (by decide : 7 + 0 ≤ _), (by decide : 41 + 0 ≤ _)⟩)
      dsimp only [Pt.U, Pt.locs, Pt.cells, Pt.slots] at X30 l30 y30 z30 st30 hQ30
      subst l30 y30 z30
      obtain ⟨rfl, Nq30, e30⟩ := hQ30
      have N30 := Fr.app N28 Nq30
      refine Go.step (fun t k => st30.trans k) ?_
      refine Go.step (S' := T30.setTop (mkF m 319 #[iv p0, iv p1, lv q2, .second, lv q3, .second, iv p4, iv (2 : Int32), iv r_1, iv r_2, iv r_3, iv r_4, rv b19, iv mt, lv off, .second, lv rr, .second, lv ct, .second, rv b24, iv (0 : Int32)] [(.int (1 : Int32))])) (fun t k => ?_) ?_
      · refine XS.iload X30.here hx rfl (hb hby at_309) rfl ?_
        refine XS.icmpNo X30.here hx rfl (hb hby at_311) rfl (teq ((by decide) : (0 : Int32) = (0 : Int32))).2 ?_
        refine XS.iconst X30.here hx rfl (hb hby at_314) ?_
        refine XS.goto X30.here hx rfl (pc0 := 315) (pc' := 319) rfl (hb hby at_315) (by decide) (by decide) ?_
        exact k
      obtain ⟨fs, hr, hrun, hended, hR⟩ := X30.leaveW hS (by rw [e30]; exact hk) (v := some (.int (1 : Int32))) (fun h => by rw [Bd.returns] at h; cases h)
      refine Go.fin (S' := T30.setFrames fs) ?_ hrun hended ⟨_, _, rfl, ?_, hR.1, hR.2.1, hR.2.2.1, hR.2.2.2.mono (by decide) (by decide)⟩
      · exact retOut X30 hx Bd.returns (by decide) (Or.inl ⟨rfl, Or.inr (Or.inl rfl), _, rfl⟩) (hb hby at_319) hr
      · show Q_rm0 Z p0 p1 q2 q3 p4 w_PUT w_ERASED w_DELETE w_GONE w_UNFINISHED cs sf h0 n0 (some (.int (1 : Int32))) T30.heap _
        rw [e30]
        exact ⟨rfl, N30, K⟩
     ·skip
      refine Go.step (S' := T28.setTop (mkF m 306 #[iv p0, iv p1, lv q2, .second, lv q3, .second, iv p4, iv (2 : Int32), iv r_1, iv r_2, iv r_3, iv r_4, rv b19, iv mt, lv off, .second, lv rr, .second, lv ct, .second, rv b24, iv (1 : Int32)] [(.long rr), (.ref b24)])) (fun t k => ?_) ?_
      · refine XS.ifNo X28.here hx rfl (hb hby at_292) rfl ((if0 _ _).trans (flt (fun zq => absurd ((lw_lt (rr - ct) off).mp zq) hc292)).1) ?_
        refine XS.iconst X28.here hx rfl (hb hby at_295) ?_
        refine XS.goto X28.here hx rfl (pc0 := 296) (pc' := 300) rfl (hb hby at_296) (by decide) (by decide) ?_
        refine XS.istore X28.here hx rfl (hb hby at_300) rfl (l' := #[iv p0, iv p1, lv q2, .second, lv q3, .second, iv p4, iv (2 : Int32), iv r_1, iv r_2, iv r_3, iv r_4, rv b19, iv mt, lv off, .second, lv rr, .second, lv ct, .second, rv b24, iv (1 : Int32)]) rfl ?_
        refine XS.aload X28.here hx rfl (hb hby at_302) rfl rfl ?_
        refine XS.lload X28.here hx rfl (hb hby at_304) rfl ?_
        exact k
      have hfit : ¬ ((rr - ((42 : Int64) + (mt.toInt64))) < ct) := by rw [hd_off]; exact fun q => hc292 ((own_fit bc br bo hc281).mp q)
      obtain ⟨cq31, kq31, q31a, q31b, q31c⟩ := isOf hZ (Eq.refl T28.heap) E_b24
      obtain ⟨_, _, ⟨T31, L31, k31, n31⟩, -, X31, ⟨Lc31, hQ31, l31, y31, z31⟩, st31⟩ := X28.virtualBack hx (y := y_25) (z := y_25) hown (mvT hZ (own_w hw 127 rfl)) (mvT hZ (own_w hw 128 rfl)) (notFace_of_selects (args := #[]) (mvT hZ (own_w hw 130 rfl))) (mvT hZ (own_w hw 130 rfl)) (mvT hZ (own_w hw 129 rfl)) (by decide) (backOf (W := 0) (rmFit2Y l Z a0 hw [] b24 rr b26 b19 tb_23 kb_23 r_1 r_2 cs mt ct T28.heap n0 O Fkey_28 E_b26 F_27 E_b19 Fv_23 Fc_23 V_23 S_CS E_b24 FmetadataLength_28 FcontentLength_28 hcs hfit) hZ (own_w hw 131 rfl) (own_w hw 39 rfl) (by decide) (by decide)) q31a q31c (g := (mkF m 306 #[iv p0, iv p1, lv q2, .second, lv q3, .second, iv p4, iv (2 : Int32), iv r_1, iv r_2, iv r_3, iv r_4, rv b19, iv mt, lv off, .second, lv rr, .second, lv ct, .second, rv b24, iv (1 : Int32)] [(.long rr), (.ref b24)])) rfl (by rw [hml]; rfl) (Steps.refl _) (argsL := [(.long rr)]) (rest := []) (lenOf pd__28J_29Z rfl) rfl (Nat.le_of_eq rfl) (hb hby at_306) (fun _ _ => ⟨rfl, (Eq.refl T28.heap), (by decide : 7 + 0 ≤ _), (by decide : 41 + 0 ≤ _)⟩)
      dsimp only [Pt.U, Pt.locs, Pt.cells, Pt.slots] at X31 l31 y31 z31 st31 hQ31
      subst l31 y31 z31
      obtain ⟨rfl, Nq31, e31⟩ := hQ31
      have N31 := Fr.app N28 Nq31
      refine Go.step (fun t k => st31.trans k) ?_
      refine Go.step (S' := T31.setTop (mkF m 319 #[iv p0, iv p1, lv q2, .second, lv q3, .second, iv p4, iv (2 : Int32), iv r_1, iv r_2, iv r_3, iv r_4, rv b19, iv mt, lv off, .second, lv rr, .second, lv ct, .second, rv b24, iv (1 : Int32)] [(.int (1 : Int32))])) (fun t k => ?_) ?_
      · refine XS.iload X31.here hx rfl (hb hby at_309) rfl ?_
        refine XS.icmpNo X31.here hx rfl (hb hby at_311) rfl (teq ((by decide) : (1 : Int32) = (1 : Int32))).2 ?_
        refine XS.iconst X31.here hx rfl (hb hby at_314) ?_
        refine XS.goto X31.here hx rfl (pc0 := 315) (pc' := 319) rfl (hb hby at_315) (by decide) (by decide) ?_
        exact k
      obtain ⟨fs, hr, hrun, hended, hR⟩ := X31.leaveW hS (by rw [e31]; exact hk) (v := some (.int (1 : Int32))) (fun h => by rw [Bd.returns] at h; cases h)
      refine Go.fin (S' := T31.setFrames fs) ?_ hrun hended ⟨_, _, rfl, ?_, hR.1, hR.2.1, hR.2.2.1, hR.2.2.2.mono (by decide) (by decide)⟩
      · exact retOut X31 hx Bd.returns (by decide) (Or.inl ⟨rfl, Or.inr (Or.inl rfl), _, rfl⟩) (hb hby at_319) hr
      · show Q_rm0 Z p0 p1 q2 q3 p4 w_PUT w_ERASED w_DELETE w_GONE w_UNFINISHED cs sf h0 n0 (some (.int (1 : Int32))) T31.heap _
        rw [e31]
        exact ⟨rfl, N31, K⟩
   refine Go.step (S' := T23.setTop (mkF m 202 #[iv p0, iv p1, lv q2, .second, lv q3, .second, iv p4, iv (2 : Int32), iv r_1, iv r_2, iv r_3, iv r_4, rv b19, iv mt, lv off, .second, lv rr, .second, u_, u_, u_, u_] [(.int (p4 &&& (1 : Int32)))])) (fun t k => ?_) ?_
   · refine XS.iload X23.here hx rfl (hb hby at_198) rfl ?_
     refine XS.iconst X23.here hx rfl (hb hby at_200) ?_
     refine XS.iand X23.here hx rfl (hb hby at_201) rfl ?_
     exact k
   by_cases hc202 : (p4 &&& (1 : Int32)) = (0 : Int32)
   ·skip
    refine Go.step (S' := T23.setTop (mkF m 212 #[iv p0, iv p1, lv q2, .second, lv q3, .second, iv p4, iv (2 : Int32), iv r_1, iv r_2, iv r_3, iv r_4, rv b19, iv mt, lv off, .second, lv rr, .second, lv (q2 &&& (9223372036854775807 : Int64)), .second, u_, u_] [])) (fun t k => ?_) ?_
    · refine XS.ifNo X23.here hx rfl (hb hby at_202) rfl ((if0 _ _).trans (teq (hc202 : (p4 &&& (1 : Int32)) = (0 : Int32))).2) ?_
      refine XS.lloadN X23.here hx rfl (hb hby at_205) rfl ?_
      refine X23.ldc2Long hx hown (mvT hZ (own_w hw 36 rfl)) (g := (mkF m 206 #[iv p0, iv p1, lv q2, .second, lv q3, .second, iv p4, iv (2 : Int32), iv r_1, iv r_2, iv r_3, iv r_4, rv b19, iv mt, lv off, .second, lv rr, .second, u_, u_, u_, u_] [(.long q2)])) rfl (hb hby at_206) _ ?_
      refine XS.land X23.here hx rfl (hb hby at_209) rfl ?_
      refine XS.lstore X23.here hx rfl (hb hby at_210) rfl (l' := #[iv p0, iv p1, lv q2, .second, lv q3, .second, iv p4, iv (2 : Int32), iv r_1, iv r_2, iv r_3, iv r_4, rv b19, iv mt, lv off, .second, lv rr, .second, lv (q2 &&& (9223372036854775807 : Int64)), .second, u_, u_]) rfl ?_
      exact k
    obtain ⟨ct, hd_ct⟩ : ∃ z : Int64, (q2 &&& (9223372036854775807 : Int64)) = z := ⟨_, rfl⟩
    rw [hd_ct]
    show Go p e below _ (T23.setTop (mkF m 212 #[iv p0, iv p1, lv q2, .second, lv q3, .second, iv p4, iv (2 : Int32), iv r_1, iv r_2, iv r_3, iv r_4, rv b19, iv mt, lv off, .second, lv rr, .second, lv ct, .second, u_, u_] []))
    refine Go.step (S' := T23.setTop (mkF m 242 #[iv p0, iv p1, lv q2, .second, lv q3, .second, iv p4, iv (2 : Int32), iv r_1, iv r_2, iv r_3, iv r_4, rv b19, iv mt, lv off, .second, lv rr, .second, lv ct, .second, u_, u_] [])) (fun t k => ?_) ?_
    · refine XS.goto X23.here hx rfl (pc0 := 212) (pc' := 242) rfl (hb hby at_212) (by decide) (by decide) ?_
      exact k
    exact tail _ _ X23 (Eq.refl T23.heap) N23 _ _ _ (Or.inl ⟨rfl, rfl⟩) (own_pos hd_ct)
   ·skip
    refine Go.step (S' := T23.setTop (mkF m 228 #[iv p0, iv p1, lv q2, .second, lv q3, .second, iv p4, iv (2 : Int32), iv r_1, iv r_2, iv r_3, iv r_4, rv b19, iv mt, lv off, .second, lv rr, .second, u_, u_, lv (((q2 &&& (9223372036854775807 : Int64)) - ((q2 &&& (9223372036854775807 : Int64)) / (3 : Int64)) * (3 : Int64)) - (1 : Int64)), .second] [])) (fun t k => ?_) ?_
    · refine XS.ifYes X23.here hx rfl (pc0 := 202) (pc' := 215) rfl (hb hby at_202) rfl ((if0 _ _).trans (feq (hc202 : ¬ ((p4 &&& (1 : Int32)) = (0 : Int32)))).2) (by decide) (by decide) ?_
      refine XS.lloadN X23.here hx rfl (hb hby at_215) rfl ?_
      refine X23.ldc2Long hx hown (mvT hZ (own_w hw 36 rfl)) (g := (mkF m 216 #[iv p0, iv p1, lv q2, .second, lv q3, .second, iv p4, iv (2 : Int32), iv r_1, iv r_2, iv r_3, iv r_4, rv b19, iv mt, lv off, .second, lv rr, .second, u_, u_, u_, u_] [(.long q2)])) rfl (hb hby at_216) _ ?_
      refine XS.land X23.here hx rfl (hb hby at_219) rfl ?_
      refine X23.ldc2Long hx hown (mvT hZ (own_w hw 154 rfl)) (g := (mkF m 220 #[iv p0, iv p1, lv q2, .second, lv q3, .second, iv p4, iv (2 : Int32), iv r_1, iv r_2, iv r_3, iv r_4, rv b19, iv mt, lv off, .second, lv rr, .second, u_, u_, u_, u_] [(.long (q2 &&& (9223372036854775807 : Int64)))])) rfl (hb hby at_220) _ ?_
      refine XS.lrem X23.here hx rfl (hb hby at_223) rfl (by decide) ?_
      show Steps p.tables e below (T23.setTop (mkF m 224 #[iv p0, iv p1, lv q2, .second, lv q3, .second, iv p4, iv (2 : Int32), iv r_1, iv r_2, iv r_3, iv r_4, rv b19, iv mt, lv off, .second, lv rr, .second, u_, u_, u_, u_] [(.long ((q2 &&& (9223372036854775807 : Int64)) - ((q2 &&& (9223372036854775807 : Int64)) / (3 : Int64)) * (3 : Int64)))])) _
      refine XS.lconst X23.here hx rfl (hb hby at_224) ?_
      refine XS.lsub X23.here hx rfl (hb hby at_225) rfl ?_
      refine XS.lstore X23.here hx rfl (hb hby at_226) rfl (l' := #[iv p0, iv p1, lv q2, .second, lv q3, .second, iv p4, iv (2 : Int32), iv r_1, iv r_2, iv r_3, iv r_4, rv b19, iv mt, lv off, .second, lv rr, .second, u_, u_, lv (((q2 &&& (9223372036854775807 : Int64)) - ((q2 &&& (9223372036854775807 : Int64)) / (3 : Int64)) * (3 : Int64)) - (1 : Int64)), .second]) rfl ?_
      exact k
    obtain ⟨dl_, hd_dl_⟩ : ∃ z : Int64, (((q2 &&& (9223372036854775807 : Int64)) - ((q2 &&& (9223372036854775807 : Int64)) / (3 : Int64)) * (3 : Int64)) - (1 : Int64)) = z := ⟨_, rfl⟩
    rw [hd_dl_]
    show Go p e below _ (T23.setTop (mkF m 228 #[iv p0, iv p1, lv q2, .second, lv q3, .second, iv p4, iv (2 : Int32), iv r_1, iv r_2, iv r_3, iv r_4, rv b19, iv mt, lv off, .second, lv rr, .second, u_, u_, lv dl_, .second] []))
    refine Go.step (S' := T23.setTop (mkF m 237 #[iv p0, iv p1, lv q2, .second, lv q3, .second, iv p4, iv (2 : Int32), iv r_1, iv r_2, iv r_3, iv r_4, rv b19, iv mt, lv off, .second, lv rr, .second, u_, u_, lv dl_, .second] [(.long ((rr - off) + dl_)), (.long (0 : Int64))])) (fun t k => ?_) ?_
    · refine XS.lconst X23.here hx rfl (hb hby at_228) ?_
      refine XS.lload X23.here hx rfl (hb hby at_229) rfl ?_
      refine XS.lload X23.here hx rfl (hb hby at_231) rfl ?_
      refine XS.lsub X23.here hx rfl (hb hby at_233) rfl ?_
      refine XS.lload X23.here hx rfl (hb hby at_234) rfl ?_
      refine XS.ladd X23.here hx rfl (hb hby at_236) rfl ?_
      exact k
    by_cases hmx : (0 : Int64) < ((rr - off) + dl_)
    ·skip
     obtain ⟨_, _, ⟨T32, L32, k32, n32⟩, -, X32, ⟨Lc32, hQ32, l32, y32, z32⟩, st32⟩ := Jvm.LawKit.callS X23 hx (y := y_15) hown (mvT hZ (own_w hw 155 rfl)) (mvT hZ (own_w hw 156 rfl)) (mvT hZ (own_w hw 157 rfl)) (mvT hZ (own_w hw 158 rfl)) (by decide) (backOf (W := 0) (rmMaxB l Z a0 hw [] (0 : Int64) ((rr - off) + dl_) T23.heap n0 O hmx) hZ (own_w hw 158 rfl) (own_w hw 157 rfl) (by decide) (by decide)) (g := (mkF m 237 #[iv p0, iv p1, lv q2, .second, lv q3, .second, iv p4, iv (2 : Int32), iv r_1, iv r_2, iv r_3, iv r_4, rv b19, iv mt, lv off, .second, lv rr, .second, u_, u_, lv dl_, .second] [(.long ((rr - off) + dl_)), (.long (0 : Int64))])) rfl (by rw [hml]; rfl) (argsL := [(.long (0 : Int64)), (.long ((rr - off) + dl_))]) (rest := []) (lenOf pd__28JJ_29J rfl) rfl (Nat.le_of_eq rfl) (hb hby at_237) (fun _ _ => ⟨rfl, (Eq.refl T23.heap), (by decide : 3 + 0 ≤ _), (by decide : 8 + 0 ≤ _)⟩)
     dsimp only [Pt.U, Pt.locs, Pt.cells, Pt.slots] at X32 l32 y32 z32 st32 hQ32
     subst l32 y32 z32
     obtain ⟨rfl, Nq32, e32⟩ := hQ32
     have N32 := Fr.app N23 Nq32
     refine Go.step st32 ?_
     refine Go.step (S' := T32.setTop (mkF m 242 #[iv p0, iv p1, lv q2, .second, lv q3, .second, iv p4, iv (2 : Int32), iv r_1, iv r_2, iv r_3, iv r_4, rv b19, iv mt, lv off, .second, lv rr, .second, lv ((rr - off) + dl_), .second, lv dl_, .second] [])) (fun t k => ?_) ?_
     · refine XS.lstore X32.here hx rfl (hb hby at_240) rfl (l' := #[iv p0, iv p1, lv q2, .second, lv q3, .second, iv p4, iv (2 : Int32), iv r_1, iv r_2, iv r_3, iv r_4, rv b19, iv mt, lv off, .second, lv rr, .second, lv ((rr - off) + dl_), .second, lv dl_, .second]) rfl ?_
       exact k
     exact tail _ _ X32 e32 N32 _ _ _ (Or.inr ⟨_, rfl, rfl⟩) (own_nn hmx)
    ·skip
     obtain ⟨_, _, ⟨T33, L33, k33, n33⟩, -, X33, ⟨Lc33, hQ33, l33, y33, z33⟩, st33⟩ := Jvm.LawKit.callS X23 hx (y := y_15) hown (mvT hZ (own_w hw 155 rfl)) (mvT hZ (own_w hw 156 rfl)) (mvT hZ (own_w hw 157 rfl)) (mvT hZ (own_w hw 158 rfl)) (by decide) (backOf (W := 0) (rmMaxA l Z a0 hw [] (0 : Int64) ((rr - off) + dl_) T23.heap n0 O hmx) hZ (own_w hw 158 rfl) (own_w hw 157 rfl) (by decide) (by decide)) (g := (mkF m 237 #[iv p0, iv p1, lv q2, .second, lv q3, .second, iv p4, iv (2 : Int32), iv r_1, iv r_2, iv r_3, iv r_4, rv b19, iv mt, lv off, .second, lv rr, .second, u_, u_, lv dl_, .second] [(.long ((rr - off) + dl_)), (.long (0 : Int64))])) rfl (by rw [hml]; rfl) (argsL := [(.long (0 : Int64)), (.long ((rr - off) + dl_))]) (rest := []) (lenOf pd__28JJ_29J rfl) rfl (Nat.le_of_eq rfl) (hb hby at_237) (fun _ _ => ⟨rfl, (Eq.refl T23.heap), (by decide : 3 + 0 ≤ _), (by decide : 8 + 0 ≤ _)⟩)
     dsimp only [Pt.U, Pt.locs, Pt.cells, Pt.slots] at X33 l33 y33 z33 st33 hQ33
     subst l33 y33 z33
     obtain ⟨rfl, Nq33, e33⟩ := hQ33
     have N33 := Fr.app N23 Nq33
     refine Go.step st33 ?_
     refine Go.step (S' := T33.setTop (mkF m 242 #[iv p0, iv p1, lv q2, .second, lv q3, .second, iv p4, iv (2 : Int32), iv r_1, iv r_2, iv r_3, iv r_4, rv b19, iv mt, lv off, .second, lv rr, .second, lv (0 : Int64), .second, lv dl_, .second] [])) (fun t k => ?_) ?_
     · refine XS.lstore X33.here hx rfl (hb hby at_240) rfl (l' := #[iv p0, iv p1, lv q2, .second, lv q3, .second, iv p4, iv (2 : Int32), iv r_1, iv r_2, iv r_3, iv r_4, rv b19, iv mt, lv off, .second, lv rr, .second, lv (0 : Int64), .second, lv dl_, .second]) rfl ?_
       exact k
     exact tail _ _ X33 e33 N33 _ _ _ (Or.inr ⟨_, rfl, rfl⟩) (by decide)
  ·skip
   refine Go.step (S' := T4.setTop (mkF m 102 #[iv p0, iv p1, lv q2, .second, lv q3, .second, iv p4, iv ((p0 &&& (3 : Int32)) + (1 : Int32)), iv r_1, iv r_2, iv r_3, iv r_4, u_, u_, u_, u_, u_, u_, u_, u_, u_, u_] [(.int (3 : Int32)), (.int ((p0 &&& (3 : Int32)) + (1 : Int32)))])) (fun t k => ?_) ?_
   · refine XS.icmpYes X4.here hx rfl (pc0 := 71) (pc' := 99) rfl (hb hby at_71) rfl (feq (hc71 : ¬ (((p0 &&& (3 : Int32)) + (1 : Int32)) = (2 : Int32)))).2 (by decide) (by decide) ?_
     refine XS.iload X4.here hx rfl (hb hby at_99) rfl ?_
     refine XS.iconst X4.here hx rfl (hb hby at_101) ?_
     exact k
   by_cases hc102 : ((p0 &&& (3 : Int32)) + (1 : Int32)) = (3 : Int32)
   ·skip
    refine Go.step (S' := T4.setTop (mkF m 105 #[iv p0, iv p1, lv q2, .second, lv q3, .second, iv p4, iv ((p0 &&& (3 : Int32)) + (1 : Int32)), iv r_1, iv r_2, iv r_3, iv r_4, u_, u_, u_, u_, u_, u_, u_, u_, u_, u_] [])) (fun t k => ?_) ?_
    · refine XS.icmpNo X4.here hx rfl (hb hby at_102) rfl (teq (hc102 : ((p0 &&& (3 : Int32)) + (1 : Int32)) = (3 : Int32))).2 ?_
      exact k
    obtain ⟨T34, h34, X34, e34, E34, A34, D34, -, st34⟩ := newO X4 hx hZ hown (own_w hw 5 rfl) (own_w hw 6 rfl) (own_w hw 7 rfl) e4 (g := (mkF m 105 #[iv p0, iv p1, lv q2, .second, lv q3, .second, iv p4, iv ((p0 &&& (3 : Int32)) + (1 : Int32)), iv r_1, iv r_2, iv r_3, iv r_4, u_, u_, u_, u_, u_, u_, u_, u_, u_, u_] [])) rfl (hb hby at_105) (by decide) (by decide)
    obtain ⟨b34, g34⟩ : ∃ z, z = Array.size h0 := ⟨_, rfl⟩
    have g_b34 : n0 ≤ b34 := Nat.le_trans (old_le O) (Nat.le_of_eq g34.symm)
    have sz_b34 : h0.size ≤ b34 := Nat.le_trans K.1 (Nat.le_of_eq g34.symm)
    rw [← g34] at A34 D34 st34
    have O := O.ext E34
    have hk := Nat.le_trans hk E34.1
    have K := K.ext E34
    have E_b34 := A34
    have F_coder_b34 : Fld Z h34 b34 "java/lang/String" "coder" "B" (.int (0 : Int32)) := D34 (Or.inr (own_w hw 32 rfl)) (ty := .byte) (by decide)
    have F_value_b34 : Fld Z h34 b34 "java/lang/String" "value" "[B" .null := D34 (Or.inr (own_w hw 34 rfl)) (ty := (.array .byte)) (by decide)
    refine Go.step st34 ?_
    refine Go.step (S' := T34.setTop (mkF m 110 #[iv p0, iv p1, lv q2, .second, lv q3, .second, iv p4, iv ((p0 &&& (3 : Int32)) + (1 : Int32)), iv r_1, iv r_2, iv r_3, iv r_4, u_, u_, u_, u_, u_, u_, u_, u_, u_, u_] [(.int (3 : Int32)), (.ref b34), (.ref b34)])) (fun t k => ?_) ?_
    · refine XS.dup X34.here hx rfl (hb hby at_108) rfl rfl ?_
      refine XS.iconst X34.here hx rfl (hb hby at_109) ?_
      exact k
    obtain ⟨T35, h35, k35, X35, e35, E35, A35, st35⟩ := newP X34 hx hZ (own_w hw 8 rfl) e34 (g := (mkF m 110 #[iv p0, iv p1, lv q2, .second, lv q3, .second, iv p4, iv ((p0 &&& (3 : Int32)) + (1 : Int32)), iv r_1, iv r_2, iv r_3, iv r_4, u_, u_, u_, u_, u_, u_, u_, u_, u_, u_] [(.int (3 : Int32)), (.ref b34), (.ref b34)])) rfl (hb hby at_110) rfl (by decide) (cap := 3) (by decide) (by decide) (by decide) (by decide)
    obtain ⟨b35, g35⟩ : ∃ z, z = Array.size h34 := ⟨_, rfl⟩
    have g_b35 : n0 ≤ b35 := Nat.le_trans (old_le O) (Nat.le_of_eq g35.symm)
    have sz_b35 : h0.size ≤ b35 := Nat.le_trans K.1 (Nat.le_of_eq g35.symm)
    have ne_b34_b35 : b34 ≠ b35 := Nat.ne_of_lt (Nat.lt_of_lt_of_le E_b34.lt (Nat.le_of_eq g35.symm))
    rw [← g35] at A35 st35
    have O := O.ext E35
    have hk := Nat.le_trans hk E35.1
    have K := K.ext E35
    have E_b34 := E_b34.ext E35
    have F_coder_b34 := F_coder_b34.ext E35
    have F_value_b34 := F_value_b34.ext E35
    have V_b35 : Arv Z h35 b35 k35 .char (3 : Int32) [(.int (0 : Int32)), (.int (0 : Int32)), (.int (0 : Int32))] (.int (0 : Int32)) := (Arv.new A35 (by decide)).pad (pad_rep [] (.int (0 : Int32)) 3)
    refine Go.step st35 ?_
    refine Go.step (S' := T35.setTop (mkF m 116 #[iv p0, iv p1, lv q2, .second, lv q3, .second, iv p4, iv ((p0 &&& (3 : Int32)) + (1 : Int32)), iv r_1, iv r_2, iv r_3, iv r_4, u_, u_, u_, u_, u_, u_, u_, u_, u_, u_] [(.int r_1), (.int (0 : Int32)), (.ref b35), (.ref b35), (.ref b34), (.ref b34)])) (fun t k => ?_) ?_
    · refine XS.dup X35.here hx rfl (hb hby at_112) rfl rfl ?_
      refine XS.iconst X35.here hx rfl (hb hby at_113) ?_
      refine XS.iload X35.here hx rfl (hb hby at_114) rfl ?_
      exact k
    obtain ⟨cl36, Ar36, q36, S36, N36_, H36, G36⟩ := V_b35
    have hin36 : ¬ ((0 : Int32) < 0 ∨ cl36.slots.size ≤ ((0 : Int32)).toNatClampNeg) := inb_of S36 ⟨by decide, by decide⟩
    obtain ⟨T36, h36, X36, e36, W36, st36⟩ := stC X35 hx hZ e35 Ar36 (j := (0 : Int32)) hin36 (g := (mkF m 116 #[iv p0, iv p1, lv q2, .second, lv q3, .second, iv p4, iv ((p0 &&& (3 : Int32)) + (1 : Int32)), iv r_1, iv r_2, iv r_3, iv r_4, u_, u_, u_, u_, u_, u_, u_, u_, u_, u_] [(.int r_1), (.int (0 : Int32)), (.ref b35), (.ref b35), (.ref b34), (.ref b34)])) rfl rfl (hb hby at_116)
    have O := O.wr W36 g_b35
    have hk := Nat.le_trans hk (Keep.of_wr W36).1
    have K := K.wr W36 (Or.inr sz_b35)
    have E_b34 := E_b34.wr W36
    have F_coder_b34 := F_coder_b34.other W36 (Or.inl ne_b34_b35)
    have F_value_b34 := F_value_b34.other W36 (Or.inl ne_b34_b35)
    have V_b35 : Arv Z h36 b35 k35 .char (3 : Int32) [(.int (r_1.toUInt32.toUInt16.toUInt32.toInt32)), (.int (0 : Int32)), (.int (0 : Int32))] (.int (0 : Int32)) := Arv.set Ar36 q36 S36 N36_ H36 G36 (fits_nar_char _) W36 0 rfl (Nat.le_of_ble_eq_true rfl)
    rw [(own_i2c (by assumption) (by assumption) : (r_1.toUInt32.toUInt16.toUInt32.toInt32) = r_1)] at V_b35
    have N36 := Fr.snoc X36 N4 g_b35
    refine Go.step st36 ?_
    refine Go.step (S' := T36.setTop (mkF m 121 #[iv p0, iv p1, lv q2, .second, lv q3, .second, iv p4, iv ((p0 &&& (3 : Int32)) + (1 : Int32)), iv r_1, iv r_2, iv r_3, iv r_4, u_, u_, u_, u_, u_, u_, u_, u_, u_, u_] [(.int r_2), (.int (1 : Int32)), (.ref b35), (.ref b35), (.ref b34), (.ref b34)])) (fun t k => ?_) ?_
    · refine XS.dup X36.here hx rfl (hb hby at_117) rfl rfl ?_
      refine XS.iconst X36.here hx rfl (hb hby at_118) ?_
      refine XS.iload X36.here hx rfl (hb hby at_119) rfl ?_
      exact k
    obtain ⟨cl37, Ar37, q37, S37, N37_, H37, G37⟩ := V_b35
    have hin37 : ¬ ((1 : Int32) < 0 ∨ cl37.slots.size ≤ ((1 : Int32)).toNatClampNeg) := inb_of S37 ⟨by decide, by decide⟩
    obtain ⟨T37, h37, X37, e37, W37, st37⟩ := stC X36 hx hZ e36 Ar37 (j := (1 : Int32)) hin37 (g := (mkF m 121 #[iv p0, iv p1, lv q2, .second, lv q3, .second, iv p4, iv ((p0 &&& (3 : Int32)) + (1 : Int32)), iv r_1, iv r_2, iv r_3, iv r_4, u_, u_, u_, u_, u_, u_, u_, u_, u_, u_] [(.int r_2), (.int (1 : Int32)), (.ref b35), (.ref b35), (.ref b34), (.ref b34)])) rfl rfl (hb hby at_121)
    have O := O.wr W37 g_b35
    have hk := Nat.le_trans hk (Keep.of_wr W37).1
    have K := K.wr W37 (Or.inr sz_b35)
    have E_b34 := E_b34.wr W37
    have F_coder_b34 := F_coder_b34.other W37 (Or.inl ne_b34_b35)
    have F_value_b34 := F_value_b34.other W37 (Or.inl ne_b34_b35)
    have V_b35 : Arv Z h37 b35 k35 .char (3 : Int32) [(.int r_1), (.int (r_2.toUInt32.toUInt16.toUInt32.toInt32)), (.int (0 : Int32))] (.int (0 : Int32)) := Arv.set Ar37 q37 S37 N37_ H37 G37 (fits_nar_char _) W37 1 rfl (Nat.le_of_ble_eq_true rfl)
    rw [(own_i2c (by assumption) (by assumption) : (r_2.toUInt32.toUInt16.toUInt32.toInt32) = r_2)] at V_b35
    have N37 := Fr.snoc X37 N36 g_b35
    refine Go.step st37 ?_
    refine Go.step (S' := T37.setTop (mkF m 126 #[iv p0, iv p1, lv q2, .second, lv q3, .second, iv p4, iv ((p0 &&& (3 : Int32)) + (1 : Int32)), iv r_1, iv r_2, iv r_3, iv r_4, u_, u_, u_, u_, u_, u_, u_, u_, u_, u_] [(.int r_3), (.int (2 : Int32)), (.ref b35), (.ref b35), (.ref b34), (.ref b34)])) (fun t k => ?_) ?_
    · refine XS.dup X37.here hx rfl (hb hby at_122) rfl rfl ?_
      refine XS.iconst X37.here hx rfl (hb hby at_123) ?_
      refine XS.iload X37.here hx rfl (hb hby at_124) rfl ?_
      exact k
    obtain ⟨cl38, Ar38, q38, S38, N38_, H38, G38⟩ := V_b35
    have hin38 : ¬ ((2 : Int32) < 0 ∨ cl38.slots.size ≤ ((2 : Int32)).toNatClampNeg) := inb_of S38 ⟨by decide, by decide⟩
    obtain ⟨T38, h38, X38, e38, W38, st38⟩ := stC X37 hx hZ e37 Ar38 (j := (2 : Int32)) hin38 (g := (mkF m 126 #[iv p0, iv p1, lv q2, .second, lv q3, .second, iv p4, iv ((p0 &&& (3 : Int32)) + (1 : Int32)), iv r_1, iv r_2, iv r_3, iv r_4, u_, u_, u_, u_, u_, u_, u_, u_, u_, u_] [(.int r_3), (.int (2 : Int32)), (.ref b35), (.ref b35), (.ref b34), (.ref b34)])) rfl rfl (hb hby at_126)
    have O := O.wr W38 g_b35
    have hk := Nat.le_trans hk (Keep.of_wr W38).1
    have K := K.wr W38 (Or.inr sz_b35)
    have E_b34 := E_b34.wr W38
    have F_coder_b34 := F_coder_b34.other W38 (Or.inl ne_b34_b35)
    have F_value_b34 := F_value_b34.other W38 (Or.inl ne_b34_b35)
    have V_b35 : Arv Z h38 b35 k35 .char (3 : Int32) [(.int r_1), (.int r_2), (.int (r_3.toUInt32.toUInt16.toUInt32.toInt32))] (.int (0 : Int32)) := Arv.set Ar38 q38 S38 N38_ H38 G38 (fits_nar_char _) W38 2 rfl (Nat.le_of_ble_eq_true rfl)
    rw [(own_i2c (by assumption) (by assumption) : (r_3.toUInt32.toUInt16.toUInt32.toInt32) = r_3)] at V_b35
    have N38 := Fr.snoc X38 N37 g_b35
    refine Go.step st38 ?_
    obtain ⟨_, _, ⟨T39, L39, k39, n39⟩, -, X39, ⟨Lc39, hQ39, l39, y39, z39⟩, st39⟩ := X38.specialBack hx (y := y_12) rfl hown (mvT hZ (own_w hw 9 rfl)) (mvT hZ (own_w hw 10 rfl)) (mvT hZ (own_w hw 11 rfl)) (by decide) (backOf (W := 1) (rmNS3 l Z a0 hw [] b34 b35 k35 cs r_1 r_2 r_3 h38 n0 O S_CS E_b34 F_value_b34 F_coder_b34 V_b35 (by assumption) hcs k3_1 k3_2 k3_3) hZ (own_w hw 11 rfl) (own_w hw 7 rfl) (by decide) (by decide)) (g := (mkF m 127 #[iv p0, iv p1, lv q2, .second, lv q3, .second, iv p4, iv ((p0 &&& (3 : Int32)) + (1 : Int32)), iv r_1, iv r_2, iv r_3, iv r_4, u_, u_, u_, u_, u_, u_, u_, u_, u_, u_] [(.ref b35), (.ref b34), (.ref b34)])) rfl (by rw [hml]; rfl) (Steps.refl _) (a := b34) (argsL := [(.ref b35)]) (rest := [(.ref b34)]) (lenOf pd__28_5bC_29V rfl) rfl (Nat.le_of_eq rfl) (hb hby at_127) (fun _ _ => ⟨rfl, e38, (by decide : 2 + 1 ≤ _), (by decide : 7 + 3 ≤ _)⟩)
    dsimp only [Pt.U, Pt.locs, Pt.cells, Pt.slots] at X39 l39 y39 z39 st39 hQ39
    subst l39 y39 z39
    obtain ⟨tb_39, kb_39, rfl, Nq39, K39, P39_E, P39_Fv, P39_Fc, P39_V⟩ := hQ39
    have N39 := Fr.app N38 Nq39
    have O := O.keep K39 (allS g_b34 all0)
    have hk := Nat.le_trans hk K39.1
    have K := K.trans K39 (allS (Or.inr sz_b34) all0)
    have E_b34 := E_b34.keep K39
    have V_b35 := V_b35.keep K39 (ninS (Ne.symm ne_b34_b35) nin0)
    have E_39 := P39_E
    have Fv_39 := P39_Fv
    have Fc_39 := P39_Fc
    have V_39 := P39_V
    refine Go.step (fun t k => st39.trans k) ?_
    refine Go.step (S' := T39.setTop (mkF m 167 #[iv p0, iv p1, lv q2, .second, lv q3, .second, iv p4, iv ((p0 &&& (3 : Int32)) + (1 : Int32)), iv r_1, iv r_2, iv r_3, iv r_4, rv b34, u_, u_, u_, u_, u_, u_, u_, u_, u_] [])) (fun t k => ?_) ?_
    · refine XS.astore X39.here hx rfl (hb hby at_130) rfl rfl (l' := #[iv p0, iv p1, lv q2, .second, lv q3, .second, iv p4, iv ((p0 &&& (3 : Int32)) + (1 : Int32)), iv r_1, iv r_2, iv r_3, iv r_4, rv b34, u_, u_, u_, u_, u_, u_, u_, u_, u_]) rfl ?_
      refine XS.goto X39.here hx rfl (pc0 := 132) (pc' := 167) rfl (hb hby at_132) (by decide) (by decide) ?_
      exact k
    rw [(hc102 : ((p0 &&& (3 : Int32)) + (1 : Int32)) = (3 : Int32))]
    show Go p e below _ (T39.setTop (mkF m 167 #[iv p0, iv p1, lv q2, .second, lv q3, .second, iv p4, iv (3 : Int32), iv r_1, iv r_2, iv r_3, iv r_4, rv b34, u_, u_, u_, u_, u_, u_, u_, u_, u_] []))
    refine Go.step (S' := T39.setTop (mkF m 177 #[iv p0, iv p1, lv q2, .second, lv q3, .second, iv p4, iv (3 : Int32), iv r_1, iv r_2, iv r_3, iv r_4, rv b34, iv ((p1 &&& (2147483647 : Int32)) % (1025 : Int32)), u_, u_, u_, u_, u_, u_, u_, u_] [])) (fun t k => ?_) ?_
    · refine XS.iloadN X39.here hx rfl (hb hby at_167) rfl ?_
      refine X39.ldcInt hx hown (mvT hZ (own_w hw 4 rfl)) (g := (mkF m 168 #[iv p0, iv p1, lv q2, .second, lv q3, .second, iv p4, iv (3 : Int32), iv r_1, iv r_2, iv r_3, iv r_4, rv b34, u_, u_, u_, u_, u_, u_, u_, u_, u_] [(.int p1)])) rfl (hb hby at_168) _ ?_
      refine XS.iand X39.here hx rfl (hb hby at_170) rfl ?_
      refine XS.sipush X39.here hx rfl (hb hby at_171) ?_
      refine iremM X39 hx rfl (hb hby at_174) rfl (by decide) ?_
      refine XS.istore X39.here hx rfl (hb hby at_175) rfl (l' := #[iv p0, iv p1, lv q2, .second, lv q3, .second, iv p4, iv (3 : Int32), iv r_1, iv r_2, iv r_3, iv r_4, rv b34, iv ((p1 &&& (2147483647 : Int32)) % (1025 : Int32)), u_, u_, u_, u_, u_, u_, u_, u_]) rfl ?_
      exact k
    obtain ⟨mt, hd_mt⟩ : ∃ z : Int32, ((p1 &&& (2147483647 : Int32)) % (1025 : Int32)) = z := ⟨_, rfl⟩
    rw [hd_mt]
    show Go p e below _ (T39.setTop (mkF m 177 #[iv p0, iv p1, lv q2, .second, lv q3, .second, iv p4, iv (3 : Int32), iv r_1, iv r_2, iv r_3, iv r_4, rv b34, iv mt, u_, u_, u_, u_, u_, u_, u_, u_] []))
    refine Go.step (S' := T39.setTop (mkF m 183 #[iv p0, iv p1, lv q2, .second, lv q3, .second, iv p4, iv (3 : Int32), iv r_1, iv r_2, iv r_3, iv r_4, rv b34, iv mt, u_, u_, u_, u_, u_, u_, u_, u_] [(.long ((3 : Int32).toInt64)), (.long (40 : Int64))])) (fun t k => ?_) ?_
    · refine X39.ldc2Long hx hown (mvT hZ (own_w hw 35 rfl)) (g := (mkF m 177 #[iv p0, iv p1, lv q2, .second, lv q3, .second, iv p4, iv (3 : Int32), iv r_1, iv r_2, iv r_3, iv r_4, rv b34, iv mt, u_, u_, u_, u_, u_, u_, u_, u_] [])) rfl (hb hby at_177) _ ?_
      refine XS.iload X39.here hx rfl (hb hby at_180) rfl ?_
      refine XS.i2l X39.here hx rfl (hb hby at_182) rfl ?_
      exact k
    rw [show ((3 : Int32).toInt64) = (3 : Int64) from by decide]
    show Go p e below _ (T39.setTop (mkF m 183 #[iv p0, iv p1, lv q2, .second, lv q3, .second, iv p4, iv (3 : Int32), iv r_1, iv r_2, iv r_3, iv r_4, rv b34, iv mt, u_, u_, u_, u_, u_, u_, u_, u_] [(.long (3 : Int64)), (.long (40 : Int64))]))
    refine Go.step (S' := T39.setTop (mkF m 184 #[iv p0, iv p1, lv q2, .second, lv q3, .second, iv p4, iv (3 : Int32), iv r_1, iv r_2, iv r_3, iv r_4, rv b34, iv mt, u_, u_, u_, u_, u_, u_, u_, u_] [(.long ((40 : Int64) + (3 : Int64)))])) (fun t k => ?_) ?_
    · refine XS.ladd X39.here hx rfl (hb hby at_183) rfl ?_
      exact k
    rw [show ((40 : Int64) + (3 : Int64)) = (43 : Int64) from by decide]
    show Go p e below _ (T39.setTop (mkF m 184 #[iv p0, iv p1, lv q2, .second, lv q3, .second, iv p4, iv (3 : Int32), iv r_1, iv r_2, iv r_3, iv r_4, rv b34, iv mt, u_, u_, u_, u_, u_, u_, u_, u_] [(.long (43 : Int64))]))
    refine Go.step (S' := T39.setTop (mkF m 190 #[iv p0, iv p1, lv q2, .second, lv q3, .second, iv p4, iv (3 : Int32), iv r_1, iv r_2, iv r_3, iv r_4, rv b34, iv mt, lv ((43 : Int64) + (mt.toInt64)), .second, u_, u_, u_, u_, u_, u_] [])) (fun t k => ?_) ?_
    · refine XS.iload X39.here hx rfl (hb hby at_184) rfl ?_
      refine XS.i2l X39.here hx rfl (hb hby at_186) rfl ?_
      refine XS.ladd X39.here hx rfl (hb hby at_187) rfl ?_
      refine XS.lstore X39.here hx rfl (hb hby at_188) rfl (l' := #[iv p0, iv p1, lv q2, .second, lv q3, .second, iv p4, iv (3 : Int32), iv r_1, iv r_2, iv r_3, iv r_4, rv b34, iv mt, lv ((43 : Int64) + (mt.toInt64)), .second, u_, u_, u_, u_, u_, u_]) rfl ?_
      exact k
    obtain ⟨off, hd_off⟩ : ∃ z : Int64, ((43 : Int64) + (mt.toInt64)) = z := ⟨_, rfl⟩
    rw [hd_off]
    show Go p e below _ (T39.setTop (mkF m 190 #[iv p0, iv p1, lv q2, .second, lv q3, .second, iv p4, iv (3 : Int32), iv r_1, iv r_2, iv r_3, iv r_4, rv b34, iv mt, lv off, .second, u_, u_, u_, u_, u_, u_] []))
    refine Go.step (S' := T39.setTop (mkF m 198 #[iv p0, iv p1, lv q2, .second, lv q3, .second, iv p4, iv (3 : Int32), iv r_1, iv r_2, iv r_3, iv r_4, rv b34, iv mt, lv off, .second, lv (q3 &&& (9223372036854775807 : Int64)), .second, u_, u_, u_, u_] [])) (fun t k => ?_) ?_
    · refine XS.lload X39.here hx rfl (hb hby at_190) rfl ?_
      refine X39.ldc2Long hx hown (mvT hZ (own_w hw 36 rfl)) (g := (mkF m 192 #[iv p0, iv p1, lv q2, .second, lv q3, .second, iv p4, iv (3 : Int32), iv r_1, iv r_2, iv r_3, iv r_4, rv b34, iv mt, lv off, .second, u_, u_, u_, u_, u_, u_] [(.long q3)])) rfl (hb hby at_192) _ ?_
      refine XS.land X39.here hx rfl (hb hby at_195) rfl ?_
      refine XS.lstore X39.here hx rfl (hb hby at_196) rfl (l' := #[iv p0, iv p1, lv q2, .second, lv q3, .second, iv p4, iv (3 : Int32), iv r_1, iv r_2, iv r_3, iv r_4, rv b34, iv mt, lv off, .second, lv (q3 &&& (9223372036854775807 : Int64)), .second, u_, u_, u_, u_]) rfl ?_
      exact k
    obtain ⟨rr, hd_rr⟩ : ∃ z : Int64, (q3 &&& (9223372036854775807 : Int64)) = z := ⟨_, rfl⟩
    rw [hd_rr]
    show Go p e below _ (T39.setTop (mkF m 198 #[iv p0, iv p1, lv q2, .second, lv q3, .second, iv p4, iv (3 : Int32), iv r_1, iv r_2, iv r_3, iv r_4, rv b34, iv mt, lv off, .second, lv rr, .second, u_, u_, u_, u_] []))
    have bm := own_mt hd_mt
    have bo := own_off (k := (43 : Int64)) (by decide) bm hd_off
    have br := own_pos hd_rr
    have tail : ∀ (TT : State) (LL : List Loc) (XX : Stand p l e room_1 (s.setVm s.vm) m #[(.int p0), (.int p1), (.long q2), (.long q3), (.int p4)] below meth c TT LL 3 10) (eTT : TT.heap = T39.heap) (NN : Fr n0 LL) (ct : Int64) (sA sB : Slot), ((sA = u_ ∧ sB = u_) ∨ ∃ dl, sA = lv dl ∧ sB = .second) → 0 ≤ ct.toInt → Go p e below (fun o U' => ∃ v L, o = .returned v ∧ Q_rm0 Z p0 p1 q2 q3 p4 w_PUT w_ERASED w_DELETE w_GONE w_UNFINISHED cs sf h0 n0 v U'.heap L ∧ ReturnedEndW s o U' L room_1.cells room_1.slots) (TT.setTop (mkF m 242 #[iv p0, iv p1, lv q2, .second, lv q3, .second, iv p4, iv (3 : Int32), iv r_1, iv r_2, iv r_3, iv r_4, rv b34, iv mt, lv off, .second, lv rr, .second, lv ct, .second, sA, sB] [])) := by
     intro TT LL XX eTT NN ct sA sB hAB bc
     obtain ⟨T40, h40, X40, e40, E40, A40, D40, -, st40⟩ := newO XX hx hZ hown (own_w hw 37 rfl) (own_w hw 38 rfl) (own_w hw 39 rfl) eTT (g := (mkF m 242 #[iv p0, iv p1, lv q2, .second, lv q3, .second, iv p4, iv (3 : Int32), iv r_1, iv r_2, iv r_3, iv r_4, rv b34, iv mt, lv off, .second, lv rr, .second, lv ct, .second, sA, sB] [])) rfl (hb hby at_242) (by decide) (by decide)
     obtain ⟨b40, g40⟩ : ∃ z, z = Array.size T39.heap := ⟨_, rfl⟩
     have g_b40 : n0 ≤ b40 := Nat.le_trans (old_le O) (Nat.le_of_eq g40.symm)
     have sz_b40 : h0.size ≤ b40 := Nat.le_trans K.1 (Nat.le_of_eq g40.symm)
     have ne_b34_b40 : b34 ≠ b40 := Nat.ne_of_lt (Nat.lt_of_lt_of_le E_b34.lt (Nat.le_of_eq g40.symm))
     have ne_b35_b40 : b35 ≠ b40 := Nat.ne_of_lt (Nat.lt_of_lt_of_le V_b35.lt (Nat.le_of_eq g40.symm))
     have ne_tb_39_b40 : tb_39 ≠ b40 := Nat.ne_of_lt (Nat.lt_of_lt_of_le V_39.lt (Nat.le_of_eq g40.symm))
     rw [← g40] at A40 D40 st40
     have O := O.ext E40
     have hk := Nat.le_trans hk E40.1
     have K := K.ext E40
     have E_b34 := E_b34.ext E40
     have V_b35 := V_b35.ext E40
     have E_39 := E_39.ext E40
     have Fv_39 := Fv_39.ext E40
     have Fc_39 := Fc_39.ext E40
     have V_39 := V_39.ext E40
     have E_b40 := A40
     have F_kind_b40 : Fld Z h40 b40 "com/example/tombsweep/tombsweep/io/RecordHeader" "kind" "Lcom/example/tombsweep/tombsweep/io/RecordHeader$Kind;" .null := D40 (Or.inr (own_w hw 112 rfl)) (ty := (.object "com/example/tombsweep/tombsweep/io/RecordHeader$Kind")) (by decide)
     have F_key_b40 : Fld Z h40 b40 "com/example/tombsweep/tombsweep/io/RecordHeader" "key" "Lcom/example/tombsweep/tombsweep/model/BlobKey;" .null := D40 (Or.inr (own_w hw 114 rfl)) (ty := (.object "com/example/tombsweep/tombsweep/model/BlobKey")) (by decide)
     have F_metadataLength_b40 : Fld Z h40 b40 "com/example/tombsweep/tombsweep/io/RecordHeader" "metadataLength" "I" (.int (0 : Int32)) := D40 (Or.inr (own_w hw 116 rfl)) (ty := .int) (by decide)
     have F_sequence_b40 : Fld Z h40 b40 "com/example/tombsweep/tombsweep/io/RecordHeader" "sequence" "J" (.long (0 : Int64)) := D40 (Or.inr (own_w hw 118 rfl)) (ty := .long) (by decide)
     have F_time_b40 : Fld Z h40 b40 "com/example/tombsweep/tombsweep/io/RecordHeader" "time" "J" (.long (0 : Int64)) := D40 (Or.inr (own_w hw 120 rfl)) (ty := .long) (by decide)
     have F_contentLength_b40 : Fld Z h40 b40 "com/example/tombsweep/tombsweep/io/RecordHeader" "contentLength" "J" (.long (0 : Int64)) := D40 (Or.inr (own_w hw 122 rfl)) (ty := .long) (by decide)
     have F_contentCheck_b40 : Fld Z h40 b40 "com/example/tombsweep/tombsweep/io/RecordHeader" "contentCheck" "I" (.int (0 : Int32)) := D40 (Or.inr (own_w hw 124 rfl)) (ty := .int) (by decide)
     have F_metadataCheck_b40 : Fld Z h40 b40 "com/example/tombsweep/tombsweep/io/RecordHeader" "metadataCheck" "I" (.int (0 : Int32)) := D40 (Or.inr (own_w hw 126 rfl)) (ty := .int) (by decide)
     refine Go.step st40 ?_
     refine Go.step (S' := T40.setTop (mkF m 250 #[iv p0, iv p1, lv q2, .second, lv q3, .second, iv p4, iv (3 : Int32), iv r_1, iv r_2, iv r_3, iv r_4, rv b34, iv mt, lv off, .second, lv rr, .second, lv ct, .second, sA, sB] [(.int ((p4.toUInt32 >>> ((1 : Int32) &&& 31).toUInt32).toInt32)), (.ref b40), (.ref b40)])) (fun t k => ?_) ?_
     · refine XS.dup X40.here hx rfl (hb hby at_245) rfl rfl ?_
       refine XS.iload X40.here hx rfl (hb hby at_246) rfl ?_
       refine XS.iconst X40.here hx rfl (hb hby at_248) ?_
       refine XS.iushr X40.here hx rfl (hb hby at_249) rfl ?_
       exact k
     obtain ⟨_, _, ⟨T41, L41, k41, n41⟩, -, X41, ⟨Lc41, hQ41, l41, y41, z41⟩, st41⟩ := Jvm.LawKit.callS X40 hx (y := y_13) hown (mvT hZ (own_w hw 40 rfl)) (mvT hZ (own_w hw 41 rfl)) (mvT hZ (own_w hw 2 rfl)) (mvT hZ (own_w hw 42 rfl)) (by decide) (backOf (W := 2) (rmKind l Z a0 hw [] ((p4.toUInt32 >>> ((1 : Int32) &&& 31).toUInt32).toInt32) w_PUT w_ERASED w_DELETE w_GONE w_UNFINISHED h40 n0 O S_PUT S_ERASED S_DELETE S_GONE S_UNFINISHED) hZ (own_w hw 42 rfl) (own_w hw 2 rfl) (by decide) (by decide)) (g := (mkF m 250 #[iv p0, iv p1, lv q2, .second, lv q3, .second, iv p4, iv (3 : Int32), iv r_1, iv r_2, iv r_3, iv r_4, rv b34, iv mt, lv off, .second, lv rr, .second, lv ct, .second, sA, sB] [(.int ((p4.toUInt32 >>> ((1 : Int32) &&& 31).toUInt32).toInt32)), (.ref b40), (.ref b40)])) rfl (by rw [hml]; rfl) (argsL := [(.int ((p4.toUInt32 >>> ((1 : Int32) &&& 31).toUInt32).toInt32))]) (rest := [(.ref b40), (.ref b40)]) (lenOf pd__28I_29Lcom_2fexample_2ftombsweep_2ftombsweep_2fio_2fRecordHeader_24Kind_3b rfl) rfl (Nat.le_of_eq rfl) (hb hby at_250) (fun _ _ => ⟨rfl, e40, (by decide : 4 + 0 ≤ _), (by decide : 18 + 0 ≤ _)⟩)
     dsimp only [Pt.U, Pt.locs, Pt.cells, Pt.slots] at X41 l41 y41 z41 st41 hQ41
     subst l41 y41 z41
     obtain ⟨b_41, rfl, Nq41, e41⟩ := hQ41
     have N41 := Fr.app NN Nq41
     refine Go.step st41 ?_
     obtain ⟨T42, h42, X42, e42, E42, A42, D42, -, st42⟩ := newO X41 hx hZ hown (own_w hw 46 rfl) (own_w hw 47 rfl) (own_w hw 48 rfl) e41 (g := (mkF m 253 #[iv p0, iv p1, lv q2, .second, lv q3, .second, iv p4, iv (3 : Int32), iv r_1, iv r_2, iv r_3, iv r_4, rv b34, iv mt, lv off, .second, lv rr, .second, lv ct, .second, sA, sB] [(.ref b_41), (.ref b40), (.ref b40)])) rfl (hb hby at_253) (by decide) (by decide)
     obtain ⟨b42, g42⟩ : ∃ z, z = Array.size h40 := ⟨_, rfl⟩
     have g_b42 : n0 ≤ b42 := Nat.le_trans (old_le O) (Nat.le_of_eq g42.symm)
     have sz_b42 : h0.size ≤ b42 := Nat.le_trans K.1 (Nat.le_of_eq g42.symm)
     have ne_b34_b42 : b34 ≠ b42 := Nat.ne_of_lt (Nat.lt_of_lt_of_le E_b34.lt (Nat.le_of_eq g42.symm))
     have ne_b35_b42 : b35 ≠ b42 := Nat.ne_of_lt (Nat.lt_of_lt_of_le V_b35.lt (Nat.le_of_eq g42.symm))
     have ne_tb_39_b42 : tb_39 ≠ b42 := Nat.ne_of_lt (Nat.lt_of_lt_of_le V_39.lt (Nat.le_of_eq g42.symm))
     have ne_b40_b42 : b40 ≠ b42 := Nat.ne_of_lt (Nat.lt_of_lt_of_le E_b40.lt (Nat.le_of_eq g42.symm))
     rw [← g42] at A42 D42 st42
     have O := O.ext E42
     have hk := Nat.le_trans hk E42.1
     have K := K.ext E42
     have E_b34 := E_b34.ext E42
     have V_b35 := V_b35.ext E42
     have E_39 := E_39.ext E42
     have Fv_39 := Fv_39.ext E42
     have Fc_39 := Fc_39.ext E42
     have V_39 := V_39.ext E42
     have E_b40 := E_b40.ext E42
     have F_kind_b40 := F_kind_b40.ext E42
     have F_key_b40 := F_key_b40.ext E42
     have F_metadataLength_b40 := F_metadataLength_b40.ext E42
     have F_sequence_b40 := F_sequence_b40.ext E42
     have F_time_b40 := F_time_b40.ext E42
     have F_contentLength_b40 := F_contentLength_b40.ext E42
     have F_contentCheck_b40 := F_contentCheck_b40.ext E42
     have F_metadataCheck_b40 := F_metadataCheck_b40.ext E42
     have E_b42 := A42
     have F_value_b42 : Fld Z h42 b42 "com/example/tombsweep/tombsweep/model/BlobKey" "value" "Ljava/lang/String;" .null := D42 (Or.inr (own_w hw 106 rfl)) (ty := (.object "java/lang/String")) (by decide)
     refine Go.step st42 ?_
     refine Go.step (S' := T42.setTop (mkF m 259 #[iv p0, iv p1, lv q2, .second, lv q3, .second, iv p4, iv (3 : Int32), iv r_1, iv r_2, iv r_3, iv r_4, rv b34, iv mt, lv off, .second, lv rr, .second, lv ct, .second, sA, sB] [(.ref b34), (.ref b42), (.ref b42), (.ref b_41), (.ref b40), (.ref b40)])) (fun t k => ?_) ?_
     · refine XS.dup X42.here hx rfl (hb hby at_256) rfl rfl ?_
       refine XS.aload X42.here hx rfl (hb hby at_257) rfl rfl ?_
       exact k
     obtain ⟨_, _, ⟨T43, L43, k43, n43⟩, -, X43, hS43, hgr43, ⟨Lc43, hQ43, l43, y43, z43⟩, st43⟩ := X42.specialBackS hx (y := y_21) rfl hown (mvT hZ (own_w hw 49 rfl)) (mvT hZ (own_w hw 50 rfl)) (mvT hZ (own_w hw 51 rfl)) (by decide) (backOfS (W := 4) (rmBK3 l Z a0 hw [] b42 b34 tb_39 kb_39 r_1 r_2 r_3 cs sf h42 n0 O S_CS S_FM E_b34 Fv_39 Fc_39 V_39 E_b42 F_value_b42 (by assumption) hcs hsf k0_1 k1_1 k2_1 k3_1 k0_2 k1_2 k2_2 k3_2 k0_3 k1_3 k2_3 k3_3) hZ (own_w hw 51 rfl) (own_w hw 48 rfl) (by decide) (by decide)) (g := (mkF m 259 #[iv p0, iv p1, lv q2, .second, lv q3, .second, iv p4, iv (3 : Int32), iv r_1, iv r_2, iv r_3, iv r_4, rv b34, iv mt, lv off, .second, lv rr, .second, lv ct, .second, sA, sB] [(.ref b34), (.ref b42), (.ref b42), (.ref b_41), (.ref b40), (.ref b40)])) rfl (by rw [hml]; rfl) (Steps.refl _) (a := b42) (argsL := [(.ref b34)]) (rest := [(.ref b42), (.ref b_41), (.ref b40), (.ref b40)]) (lenOf pd__28Ljava_2flang_2fString_3b_29V rfl) rfl (Nat.le_of_eq rfl) (hb hby at_259) (fun _ _ => ⟨rfl, e42, (by decide : 5 + 2 ≤ _), (by decide : 19 + 24 ≤ _)⟩)
     dsimp only [Pt.U, Pt.locs, Pt.cells, Pt.slots] at X43 l43 y43 z43 st43 hQ43 hS43 hgr43
     subst l43 y43 z43
     have hS := foldS hS (by rw [e42]; exact hk) hS43 hgr43
     have hown : (s.setVm T43.vm).vm.findClass "com/example/tombsweep/tombsweep/io/RecordHeaderFitsInPinLaw" = some m.cls := by show T43.vm.findClass _ = _; rw [hS43.1.alike.findClass]; exact hown
     have hZ : Z.Warmed39 (s.setVm T43.vm).vm := State.Warmed39.trans hZ hS43.1
     have X43 : Stand p l e room_1 (s.setVm T43.vm) m #[(.int p0), (.int p1), (.long q2), (.long q3), (.int p4)] below meth c T43 _ _ _ := X43
     obtain ⟨rfl, Nq43, K43, P43_E, P43_F⟩ := hQ43
     have N43 := Fr.app N41 Nq43
     have O := O.keep K43 (allS g_b42 all0)
     have K := K.trans K43 (allS (Or.inr sz_b42) all0)
     have E_b34 := E_b34.keep K43
     have V_b35 := V_b35.keep K43 (ninS ne_b35_b42 nin0)
     have E_39 := E_39.keep K43
     have Fv_39 := Fv_39.keep K43 (ninS ne_b34_b42 nin0)
     have Fc_39 := Fc_39.keep K43 (ninS ne_b34_b42 nin0)
     have V_39 := V_39.keep K43 (ninS ne_tb_39_b42 nin0)
     have E_b40 := E_b40.keep K43
     have F_kind_b40 := F_kind_b40.keep K43 (ninS ne_b40_b42 nin0)
     have F_key_b40 := F_key_b40.keep K43 (ninS ne_b40_b42 nin0)
     have F_metadataLength_b40 := F_metadataLength_b40.keep K43 (ninS ne_b40_b42 nin0)
     have F_sequence_b40 := F_sequence_b40.keep K43 (ninS ne_b40_b42 nin0)
     have F_time_b40 := F_time_b40.keep K43 (ninS ne_b40_b42 nin0)
     have F_contentLength_b40 := F_contentLength_b40.keep K43 (ninS ne_b40_b42 nin0)
     have F_contentCheck_b40 := F_contentCheck_b40.keep K43 (ninS ne_b40_b42 nin0)
     have F_metadataCheck_b40 := F_metadataCheck_b40.keep K43 (ninS ne_b40_b42 nin0)
     have E_b42 := E_b42.keep K43
     have E_43 := P43_E
     have F_43 := P43_F
     have hk : T43.heap.size ≤ (T43.heap).size := Nat.le_refl _
     refine Go.step (fun t k => st43.trans k) ?_
     refine Go.step (S' := T43.setTop (mkF m 271 #[iv p0, iv p1, lv q2, .second, lv q3, .second, iv p4, iv (3 : Int32), iv r_1, iv r_2, iv r_3, iv r_4, rv b34, iv mt, lv off, .second, lv rr, .second, lv ct, .second, sA, sB] [(.int p1), (.int p0), (.long ct), (.long q2), (.long q3), (.int mt), (.ref b42), (.ref b_41), (.ref b40), (.ref b40)])) (fun t k => ?_) ?_
     · refine XS.iload X43.here hx rfl (hb hby at_262) rfl ?_
       refine XS.lload X43.here hx rfl (hb hby at_264) rfl ?_
       refine XS.lloadN X43.here hx rfl (hb hby at_266) rfl ?_
       refine XS.lload X43.here hx rfl (hb hby at_267) rfl ?_
       refine XS.iloadN X43.here hx rfl (hb hby at_269) rfl ?_
       refine XS.iloadN X43.here hx rfl (hb hby at_270) rfl ?_
       exact k
     obtain ⟨_, _, ⟨T44, L44, k44, n44⟩, -, X44, ⟨Lc44, hQ44, l44, y44, z44⟩, st44⟩ := X43.specialBack hx (y := y_20) rfl hown (mvT hZ (own_w hw 107 rfl)) (mvT hZ (own_w hw 108 rfl)) (mvT hZ (own_w hw 109 rfl)) (by decide) (backOf (W := 1) (rmRH l Z a0 hw [] b40 b_41 b42 mt q3 q2 ct p0 p1 T43.heap n0 O E_b40 F_kind_b40 F_key_b40 F_metadataLength_b40 F_sequence_b40 F_time_b40 F_contentLength_b40 F_contentCheck_b40 F_metadataCheck_b40 (by assumption)) hZ (own_w hw 109 rfl) (own_w hw 39 rfl) (by decide) (by decide)) (g := (mkF m 271 #[iv p0, iv p1, lv q2, .second, lv q3, .second, iv p4, iv (3 : Int32), iv r_1, iv r_2, iv r_3, iv r_4, rv b34, iv mt, lv off, .second, lv rr, .second, lv ct, .second, sA, sB] [(.int p1), (.int p0), (.long ct), (.long q2), (.long q3), (.int mt), (.ref b42), (.ref b_41), (.ref b40), (.ref b40)])) rfl (by rw [hml]; rfl) (Steps.refl _) (a := b40) (argsL := [(.ref b_41), (.ref b42), (.int mt), (.long q3), (.long q2), (.long ct), (.int p0), (.int p1)]) (rest := [(.ref b40)]) (lenOf pd__28Lcom_2fexample_2ftombsweep_2ftombsweep_2fio_2fRecordHeader_24Kind_3bLcom_2fexample_2ftombsweep_2ftombsweep_2fmodel_2fBlobKey_3bIJJJII_29V rfl) rfl (Nat.le_of_eq rfl) (hb hby at_271) (fun _ _ => ⟨rfl, (Eq.refl T43.heap), (by decide : 7 + 0 ≤ _), (by decide : 43 + 0 ≤ _)⟩)
     dsimp only [Pt.U, Pt.locs, Pt.cells, Pt.slots] at X44 l44 y44 z44 st44 hQ44
     subst l44 y44 z44
     obtain ⟨rfl, Nq44, K44, P44_E, P44_Fkey, P44_FmetadataLength, P44_FcontentLength⟩ := hQ44
     have N44 := Fr.app N43 Nq44
     have O := O.keep K44 (allS g_b40 all0)
     have K := K.trans K44 (allS (Or.inr sz_b40) all0)
     have E_b34 := E_b34.keep K44
     have V_b35 := V_b35.keep K44 (ninS ne_b35_b40 nin0)
     have E_39 := E_39.keep K44
     have Fv_39 := Fv_39.keep K44 (ninS ne_b34_b40 nin0)
     have Fc_39 := Fc_39.keep K44 (ninS ne_b34_b40 nin0)
     have V_39 := V_39.keep K44 (ninS ne_tb_39_b40 nin0)
     have E_b40 := E_b40.keep K44
     have E_b42 := E_b42.keep K44
     have E_43 := E_43.keep K44
     have F_43 := F_43.keep K44 (ninS (Ne.symm ne_b40_b42) nin0)
     have hk := Nat.le_trans hk K44.1
     have E_44 := P44_E
     have Fkey_44 := P44_Fkey
     have FmetadataLength_44 := P44_FmetadataLength
     have FcontentLength_44 := P44_FcontentLength
     refine Go.step (fun t k => st44.trans k) ?_
     have hst : storeLocals #[iv p0, iv p1, lv q2, .second, lv q3, .second, iv p4, iv (3 : Int32), iv r_1, iv r_2, iv r_3, iv r_4, rv b34, iv mt, lv off, .second, lv rr, .second, lv ct, .second, sA, sB] 20 (.ref b40) = some #[iv p0, iv p1, lv q2, .second, lv q3, .second, iv p4, iv (3 : Int32), iv r_1, iv r_2, iv r_3, iv r_4, rv b34, iv mt, lv off, .second, lv rr, .second, lv ct, .second, rv b40, u_] := by rcases hAB with ⟨rfl, rfl⟩ | ⟨dl, rfl, rfl⟩ <;> rfl
     refine Go.step (S' := T44.setTop (mkF m 276 #[iv p0, iv p1, lv q2, .second, lv q3, .second, iv p4, iv (3 : Int32), iv r_1, iv r_2, iv r_3, iv r_4, rv b34, iv mt, lv off, .second, lv rr, .second, lv ct, .second, rv b40, u_] [])) (fun t k => XS.astore X44.here hx rfl (hb hby at_274) rfl rfl (l' := #[iv p0, iv p1, lv q2, .second, lv q3, .second, iv p4, iv (3 : Int32), iv r_1, iv r_2, iv r_3, iv r_4, rv b34, iv mt, lv off, .second, lv rr, .second, lv ct, .second, rv b40, u_]) hst k) ?_
     refine Go.step (S' := T44.setTop (mkF m 281 #[iv p0, iv p1, lv q2, .second, lv q3, .second, iv p4, iv (3 : Int32), iv r_1, iv r_2, iv r_3, iv r_4, rv b34, iv mt, lv off, .second, lv rr, .second, lv ct, .second, rv b40, u_] [(.int (lcmpW ct rr))])) (fun t k => ?_) ?_
     · refine XS.lload X44.here hx rfl (hb hby at_276) rfl ?_
       refine XS.lload X44.here hx rfl (hb hby at_278) rfl ?_
       refine XS.lcmp X44.here hx rfl (hb hby at_280) rfl ?_
       exact k
     by_cases hc281 : rr < ct
     ·skip
      refine Go.step (S' := T44.setTop (mkF m 306 #[iv p0, iv p1, lv q2, .second, lv q3, .second, iv p4, iv (3 : Int32), iv r_1, iv r_2, iv r_3, iv r_4, rv b34, iv mt, lv off, .second, lv rr, .second, lv ct, .second, rv b40, iv (0 : Int32)] [(.long rr), (.ref b40)])) (fun t k => ?_) ?_
      · refine XS.ifYes X44.here hx rfl (pc0 := 281) (pc' := 299) rfl (hb hby at_281) rfl ((if0 _ _).trans (tlt ((lw_gt ct rr).mpr hc281)).2.2.1) (by decide) (by decide) ?_
        refine XS.iconst X44.here hx rfl (hb hby at_299) ?_
        refine XS.istore X44.here hx rfl (hb hby at_300) rfl (l' := #[iv p0, iv p1, lv q2, .second, lv q3, .second, iv p4, iv (3 : Int32), iv r_1, iv r_2, iv r_3, iv r_4, rv b34, iv mt, lv off, .second, lv rr, .second, lv ct, .second, rv b40, iv (0 : Int32)]) rfl ?_
        refine XS.aload X44.here hx rfl (hb hby at_302) rfl rfl ?_
        refine XS.lload X44.here hx rfl (hb hby at_304) rfl ?_
        exact k
      have hfit : (rr - ((43 : Int64) + (mt.toInt64))) < ct := by rw [hd_off]; exact own_fit0 bc br bo hc281
      obtain ⟨cq45, kq45, q45a, q45b, q45c⟩ := isOf hZ (Eq.refl T44.heap) E_b40
      obtain ⟨_, _, ⟨T45, L45, k45, n45⟩, -, X45, ⟨Lc45, hQ45, l45, y45, z45⟩, st45⟩ := X44.virtualBack hx (y := y_25) (z := y_25) hown (mvT hZ (own_w hw 127 rfl)) (mvT hZ (own_w hw 128 rfl)) (notFace_of_selects (args := #[]) (mvT hZ (own_w hw 130 rfl))) (mvT hZ (own_w hw 130 rfl)) (mvT hZ (own_w hw 129 rfl)) (by decide) (backOf (W := 0) (rmFit3N l Z a0 hw [] b40 rr b42 b34 tb_39 kb_39 r_1 r_2 r_3 cs mt ct T44.heap n0 O Fkey_44 E_b42 F_43 E_b34 Fv_39 Fc_39 V_39 S_CS E_b40 FmetadataLength_44 FcontentLength_44 hcs hfit) hZ (own_w hw 131 rfl) (own_w hw 39 rfl) (by decide) (by decide)) q45a q45c (g := (mkF m 306 #[iv p0, iv p1, lv q2, .second, lv q3, .second, iv p4, iv (3 : Int32), iv r_1, iv r_2, iv r_3, iv r_4, rv b34, iv mt, lv off, .second, lv rr, .second, lv ct, .second, rv b40, iv (0 : Int32)] [(.long rr), (.ref b40)])) rfl (by rw [hml]; rfl) (Steps.refl _) (argsL := [(.long rr)]) (rest := []) (lenOf pd__28J_29Z rfl) rfl (Nat.le_of_eq rfl) (hb hby at_306) (fun _ _ => ⟨rfl, (Eq.refl T44.heap), (by decide : 7 + 0 ≤ _), (by decide : 43 + 0 ≤ _)⟩)
      dsimp only [Pt.U, Pt.locs, Pt.cells, Pt.slots] at X45 l45 y45 z45 st45 hQ45
      subst l45 y45 z45
      obtain ⟨rfl, Nq45, e45⟩ := hQ45
      have N45 := Fr.app N44 Nq45
      refine Go.step (fun t k => st45.trans k) ?_
      refine Go.step (S' := T45.setTop (mkF m 319 #[iv p0, iv p1, lv q2, .second, lv q3, .second, iv p4, iv (3 : Int32), iv r_1, iv r_2, iv r_3, iv r_4, rv b34, iv mt, lv off, .second, lv rr, .second, lv ct, .second, rv b40, iv (0 : Int32)] [(.int (1 : Int32))])) (fun t k => ?_) ?_
      · refine XS.iload X45.here hx rfl (hb hby at_309) rfl ?_
        refine XS.icmpNo X45.here hx rfl (hb hby at_311) rfl (teq ((by decide) : (0 : Int32) = (0 : Int32))).2 ?_
        refine XS.iconst X45.here hx rfl (hb hby at_314) ?_
        refine XS.goto X45.here hx rfl (pc0 := 315) (pc' := 319) rfl (hb hby at_315) (by decide) (by decide) ?_
        exact k
      obtain ⟨fs, hr, hrun, hended, hR⟩ := X45.leaveW hS (by rw [e45]; exact hk) (v := some (.int (1 : Int32))) (fun h => by rw [Bd.returns] at h; cases h)
      refine Go.fin (S' := T45.setFrames fs) ?_ hrun hended ⟨_, _, rfl, ?_, hR.1, hR.2.1, hR.2.2.1, hR.2.2.2.mono (by decide) (by decide)⟩
      · exact retOut X45 hx Bd.returns (by decide) (Or.inl ⟨rfl, Or.inr (Or.inl rfl), _, rfl⟩) (hb hby at_319) hr
      · show Q_rm0 Z p0 p1 q2 q3 p4 w_PUT w_ERASED w_DELETE w_GONE w_UNFINISHED cs sf h0 n0 (some (.int (1 : Int32))) T45.heap _
        rw [e45]
        exact ⟨rfl, N45, K⟩
     ·skip
      refine Go.step (S' := T44.setTop (mkF m 292 #[iv p0, iv p1, lv q2, .second, lv q3, .second, iv p4, iv (3 : Int32), iv r_1, iv r_2, iv r_3, iv r_4, rv b34, iv mt, lv off, .second, lv rr, .second, lv ct, .second, rv b40, u_] [(.int (lcmpW (rr - ct) off))])) (fun t k => ?_) ?_
      · refine XS.ifNo X44.here hx rfl (hb hby at_281) rfl ((if0 _ _).trans (flt (fun zq => absurd ((lw_gt ct rr).mp zq) hc281)).2.2.1) ?_
        refine XS.lload X44.here hx rfl (hb hby at_284) rfl ?_
        refine XS.lload X44.here hx rfl (hb hby at_286) rfl ?_
        refine XS.lsub X44.here hx rfl (hb hby at_288) rfl ?_
        refine XS.lload X44.here hx rfl (hb hby at_289) rfl ?_
        refine XS.lcmp X44.here hx rfl (hb hby at_291) rfl ?_
        exact k
      by_cases hc292 : (rr - ct) < off
      ·skip
       refine Go.step (S' := T44.setTop (mkF m 306 #[iv p0, iv p1, lv q2, .second, lv q3, .second, iv p4, iv (3 : Int32), iv r_1, iv r_2, iv r_3, iv r_4, rv b34, iv mt, lv off, .second, lv rr, .second, lv ct, .second, rv b40, iv (0 : Int32)] [(.long rr), (.ref b40)])) (fun t k => ?_) ?_
       · refine XS.ifYes X44.here hx rfl (pc0 := 292) (pc' := 299) rfl (hb hby at_292) rfl ((if0 _ _).trans (tlt ((lw_lt (rr - ct) off).mpr hc292)).1) (by decide) (by decide) ?_
         refine XS.iconst X44.here hx rfl (hb hby at_299) ?_
         refine XS.istore X44.here hx rfl (hb hby at_300) rfl (l' := #[iv p0, iv p1, lv q2, .second, lv q3, .second, iv p4, iv (3 : Int32), iv r_1, iv r_2, iv r_3, iv r_4, rv b34, iv mt, lv off, .second, lv rr, .second, lv ct, .second, rv b40, iv (0 : Int32)]) rfl ?_
         refine XS.aload X44.here hx rfl (hb hby at_302) rfl rfl ?_
         refine XS.lload X44.here hx rfl (hb hby at_304) rfl ?_
         exact k
       have hfit : (rr - ((43 : Int64) + (mt.toInt64))) < ct := by rw [hd_off]; exact (own_fit bc br bo hc281).mpr hc292
       obtain ⟨cq46, kq46, q46a, q46b, q46c⟩ := isOf hZ (Eq.refl T44.heap) E_b40
       obtain ⟨_, _, ⟨T46, L46, k46, n46⟩, -, X46, ⟨Lc46, hQ46, l46, y46, z46⟩, st46⟩ := X44.virtualBack hx (y := y_25) (z := y_25) hown (mvT hZ (own_w hw 127 rfl)) (mvT hZ (own_w hw 128 rfl)) (notFace_of_selects (args := #[]) (mvT hZ (own_w hw 130 rfl))) (mvT hZ (own_w hw 130 rfl)) (mvT hZ (own_w hw 129 rfl)) (by decide) (backOf (W := 0) (rmFit3N l Z a0 hw [] b40 rr b42 b34 tb_39 kb_39 r_1 r_2 r_3 cs mt ct T44.heap n0 O Fkey_44 E_b42 F_43 E_b34 Fv_39 Fc_39 V_39 S_CS E_b40 FmetadataLength_44 FcontentLength_44 hcs hfit) hZ (own_w hw 131 rfl) (own_w hw 39 rfl) (by decide) (by decide)) q46a q46c (g := (mkF m 306 #[iv p0, iv p1, lv q2, .second, lv q3, .second, iv p4, iv (3 : Int32), iv r_1, iv r_2, iv r_3, iv r_4, rv b34, iv mt, lv off, .second, lv rr, .second, lv ct, .second, rv b40, iv (0 : Int32)] [(.long rr), (.ref b40)])) rfl (by rw [hml]; rfl) (Steps.refl _) (argsL := [(.long rr)]) (rest := []) (lenOf pd__28J_29Z rfl) rfl (Nat.le_of_eq rfl) (hb hby at_306) (fun _ _ => ⟨rfl, (Eq.refl T44.heap), (by decide : 7 + 0 ≤ _), (by decide : 43 + 0 ≤ _)⟩)
       dsimp only [Pt.U, Pt.locs, Pt.cells, Pt.slots] at X46 l46 y46 z46 st46 hQ46
       subst l46 y46 z46
       obtain ⟨rfl, Nq46, e46⟩ := hQ46
       have N46 := Fr.app N44 Nq46
       refine Go.step (fun t k => st46.trans k) ?_
       refine Go.step (S' := T46.setTop (mkF m 319 #[iv p0, iv p1, lv q2, .second, lv q3, .second, iv p4, iv (3 : Int32), iv r_1, iv r_2, iv r_3, iv r_4, rv b34, iv mt, lv off, .second, lv rr, .second, lv ct, .second, rv b40, iv (0 : Int32)] [(.int (1 : Int32))])) (fun t k => ?_) ?_
       · refine XS.iload X46.here hx rfl (hb hby at_309) rfl ?_
         refine XS.icmpNo X46.here hx rfl (hb hby at_311) rfl (teq ((by decide) : (0 : Int32) = (0 : Int32))).2 ?_
         refine XS.iconst X46.here hx rfl (hb hby at_314) ?_
         refine XS.goto X46.here hx rfl (pc0 := 315) (pc' := 319) rfl (hb hby at_315) (by decide) (by decide) ?_
         exact k
       obtain ⟨fs, hr, hrun, hended, hR⟩ := X46.leaveW hS (by rw [e46]; exact hk) (v := some (.int (1 : Int32))) (fun h => by rw [Bd.returns] at h; cases h)
       refine Go.fin (S' := T46.setFrames fs) ?_ hrun hended ⟨_, _, rfl, ?_, hR.1, hR.2.1, hR.2.2.1, hR.2.2.2.mono (by decide) (by decide)⟩
       · exact retOut X46 hx Bd.returns (by decide) (Or.inl ⟨rfl, Or.inr (Or.inl rfl), _, rfl⟩) (hb hby at_319) hr
       · show Q_rm0 Z p0 p1 q2 q3 p4 w_PUT w_ERASED w_DELETE w_GONE w_UNFINISHED cs sf h0 n0 (some (.int (1 : Int32))) T46.heap _
         rw [e46]
         exact ⟨rfl, N46, K⟩
      ·skip
       refine Go.step (S' := T44.setTop (mkF m 306 #[iv p0, iv p1, lv q2, .second, lv q3, .second, iv p4, iv (3 : Int32), iv r_1, iv r_2, iv r_3, iv r_4, rv b34, iv mt, lv off, .second, lv rr, .second, lv ct, .second, rv b40, iv (1 : Int32)] [(.long rr), (.ref b40)])) (fun t k => ?_) ?_
       · refine XS.ifNo X44.here hx rfl (hb hby at_292) rfl ((if0 _ _).trans (flt (fun zq => absurd ((lw_lt (rr - ct) off).mp zq) hc292)).1) ?_
         refine XS.iconst X44.here hx rfl (hb hby at_295) ?_
         refine XS.goto X44.here hx rfl (pc0 := 296) (pc' := 300) rfl (hb hby at_296) (by decide) (by decide) ?_
         refine XS.istore X44.here hx rfl (hb hby at_300) rfl (l' := #[iv p0, iv p1, lv q2, .second, lv q3, .second, iv p4, iv (3 : Int32), iv r_1, iv r_2, iv r_3, iv r_4, rv b34, iv mt, lv off, .second, lv rr, .second, lv ct, .second, rv b40, iv (1 : Int32)]) rfl ?_
         refine XS.aload X44.here hx rfl (hb hby at_302) rfl rfl ?_
         refine XS.lload X44.here hx rfl (hb hby at_304) rfl ?_
         exact k
       have hfit : ¬ ((rr - ((43 : Int64) + (mt.toInt64))) < ct) := by rw [hd_off]; exact fun q => hc292 ((own_fit bc br bo hc281).mp q)
       obtain ⟨cq47, kq47, q47a, q47b, q47c⟩ := isOf hZ (Eq.refl T44.heap) E_b40
       obtain ⟨_, _, ⟨T47, L47, k47, n47⟩, -, X47, ⟨Lc47, hQ47, l47, y47, z47⟩, st47⟩ := X44.virtualBack hx (y := y_25) (z := y_25) hown (mvT hZ (own_w hw 127 rfl)) (mvT hZ (own_w hw 128 rfl)) (notFace_of_selects (args := #[]) (mvT hZ (own_w hw 130 rfl))) (mvT hZ (own_w hw 130 rfl)) (mvT hZ (own_w hw 129 rfl)) (by decide) (backOf (W := 0) (rmFit3Y l Z a0 hw [] b40 rr b42 b34 tb_39 kb_39 r_1 r_2 r_3 cs mt ct T44.heap n0 O Fkey_44 E_b42 F_43 E_b34 Fv_39 Fc_39 V_39 S_CS E_b40 FmetadataLength_44 FcontentLength_44 hcs hfit) hZ (own_w hw 131 rfl) (own_w hw 39 rfl) (by decide) (by decide)) q47a q47c (g := (mkF m 306 #[iv p0, iv p1, lv q2, .second, lv q3, .second, iv p4, iv (3 : Int32), iv r_1, iv r_2, iv r_3, iv r_4, rv b34, iv mt, lv off, .second, lv rr, .second, lv ct, .second, rv b40, iv (1 : Int32)] [(.long rr), (.ref b40)])) rfl (by rw [hml]; rfl) (Steps.refl _) (argsL := [(.long rr)]) (rest := []) (lenOf pd__28J_29Z rfl) rfl (Nat.le_of_eq rfl) (hb hby at_306) (fun _ _ => ⟨rfl, (Eq.refl T44.heap), (by decide : 7 + 0 ≤ _), (by decide : 43 + 0 ≤ _)⟩)
       dsimp only [Pt.U, Pt.locs, Pt.cells, Pt.slots] at X47 l47 y47 z47 st47 hQ47
       subst l47 y47 z47
       obtain ⟨rfl, Nq47, e47⟩ := hQ47
       have N47 := Fr.app N44 Nq47
       refine Go.step (fun t k => st47.trans k) ?_
       refine Go.step (S' := T47.setTop (mkF m 319 #[iv p0, iv p1, lv q2, .second, lv q3, .second, iv p4, iv (3 : Int32), iv r_1, iv r_2, iv r_3, iv r_4, rv b34, iv mt, lv off, .second, lv rr, .second, lv ct, .second, rv b40, iv (1 : Int32)] [(.int (1 : Int32))])) (fun t k => ?_) ?_
       · refine XS.iload X47.here hx rfl (hb hby at_309) rfl ?_
         refine XS.icmpNo X47.here hx rfl (hb hby at_311) rfl (teq ((by decide) : (1 : Int32) = (1 : Int32))).2 ?_
         refine XS.iconst X47.here hx rfl (hb hby at_314) ?_
         refine XS.goto X47.here hx rfl (pc0 := 315) (pc' := 319) rfl (hb hby at_315) (by decide) (by decide) ?_
         exact k
       obtain ⟨fs, hr, hrun, hended, hR⟩ := X47.leaveW hS (by rw [e47]; exact hk) (v := some (.int (1 : Int32))) (fun h => by rw [Bd.returns] at h; cases h)
       refine Go.fin (S' := T47.setFrames fs) ?_ hrun hended ⟨_, _, rfl, ?_, hR.1, hR.2.1, hR.2.2.1, hR.2.2.2.mono (by decide) (by decide)⟩
       · exact retOut X47 hx Bd.returns (by decide) (Or.inl ⟨rfl, Or.inr (Or.inl rfl), _, rfl⟩) (hb hby at_319) hr
       · show Q_rm0 Z p0 p1 q2 q3 p4 w_PUT w_ERASED w_DELETE w_GONE w_UNFINISHED cs sf h0 n0 (some (.int (1 : Int32))) T47.heap _
         rw [e47]
         exact ⟨rfl, N47, K⟩
    refine Go.step (S' := T39.setTop (mkF m 202 #[iv p0, iv p1, lv q2, .second, lv q3, .second, iv p4, iv (3 : Int32), iv r_1, iv r_2, iv r_3, iv r_4, rv b34, iv mt, lv off, .second, lv rr, .second, u_, u_, u_, u_] [(.int (p4 &&& (1 : Int32)))])) (fun t k => ?_) ?_
    · refine XS.iload X39.here hx rfl (hb hby at_198) rfl ?_
      refine XS.iconst X39.here hx rfl (hb hby at_200) ?_
      refine XS.iand X39.here hx rfl (hb hby at_201) rfl ?_
      exact k
    by_cases hc202 : (p4 &&& (1 : Int32)) = (0 : Int32)
    ·skip
     refine Go.step (S' := T39.setTop (mkF m 212 #[iv p0, iv p1, lv q2, .second, lv q3, .second, iv p4, iv (3 : Int32), iv r_1, iv r_2, iv r_3, iv r_4, rv b34, iv mt, lv off, .second, lv rr, .second, lv (q2 &&& (9223372036854775807 : Int64)), .second, u_, u_] [])) (fun t k => ?_) ?_
     · refine XS.ifNo X39.here hx rfl (hb hby at_202) rfl ((if0 _ _).trans (teq (hc202 : (p4 &&& (1 : Int32)) = (0 : Int32))).2) ?_
       refine XS.lloadN X39.here hx rfl (hb hby at_205) rfl ?_
       refine X39.ldc2Long hx hown (mvT hZ (own_w hw 36 rfl)) (g := (mkF m 206 #[iv p0, iv p1, lv q2, .second, lv q3, .second, iv p4, iv (3 : Int32), iv r_1, iv r_2, iv r_3, iv r_4, rv b34, iv mt, lv off, .second, lv rr, .second, u_, u_, u_, u_] [(.long q2)])) rfl (hb hby at_206) _ ?_
       refine XS.land X39.here hx rfl (hb hby at_209) rfl ?_
       refine XS.lstore X39.here hx rfl (hb hby at_210) rfl (l' := #[iv p0, iv p1, lv q2, .second, lv q3, .second, iv p4, iv (3 : Int32), iv r_1, iv r_2, iv r_3, iv r_4, rv b34, iv mt, lv off, .second, lv rr, .second, lv (q2 &&& (9223372036854775807 : Int64)), .second, u_, u_]) rfl ?_
       exact k
     obtain ⟨ct, hd_ct⟩ : ∃ z : Int64, (q2 &&& (9223372036854775807 : Int64)) = z := ⟨_, rfl⟩
     rw [hd_ct]
     show Go p e below _ (T39.setTop (mkF m 212 #[iv p0, iv p1, lv q2, .second, lv q3, .second, iv p4, iv (3 : Int32), iv r_1, iv r_2, iv r_3, iv r_4, rv b34, iv mt, lv off, .second, lv rr, .second, lv ct, .second, u_, u_] []))
     refine Go.step (S' := T39.setTop (mkF m 242 #[iv p0, iv p1, lv q2, .second, lv q3, .second, iv p4, iv (3 : Int32), iv r_1, iv r_2, iv r_3, iv r_4, rv b34, iv mt, lv off, .second, lv rr, .second, lv ct, .second, u_, u_] [])) (fun t k => ?_) ?_
     · refine XS.goto X39.here hx rfl (pc0 := 212) (pc' := 242) rfl (hb hby at_212) (by decide) (by decide) ?_
       exact k
     exact tail _ _ X39 (Eq.refl T39.heap) N39 _ _ _ (Or.inl ⟨rfl, rfl⟩) (own_pos hd_ct)
    ·skip
     refine Go.step (S' := T39.setTop (mkF m 228 #[iv p0, iv p1, lv q2, .second, lv q3, .second, iv p4, iv (3 : Int32), iv r_1, iv r_2, iv r_3, iv r_4, rv b34, iv mt, lv off, .second, lv rr, .second, u_, u_, lv (((q2 &&& (9223372036854775807 : Int64)) - ((q2 &&& (9223372036854775807 : Int64)) / (3 : Int64)) * (3 : Int64)) - (1 : Int64)), .second] [])) (fun t k => ?_) ?_
     · refine XS.ifYes X39.here hx rfl (pc0 := 202) (pc' := 215) rfl (hb hby at_202) rfl ((if0 _ _).trans (feq (hc202 : ¬ ((p4 &&& (1 : Int32)) = (0 : Int32)))).2) (by decide) (by decide) ?_
       refine XS.lloadN X39.here hx rfl (hb hby at_215) rfl ?_
       refine X39.ldc2Long hx hown (mvT hZ (own_w hw 36 rfl)) (g := (mkF m 216 #[iv p0, iv p1, lv q2, .second, lv q3, .second, iv p4, iv (3 : Int32), iv r_1, iv r_2, iv r_3, iv r_4, rv b34, iv mt, lv off, .second, lv rr, .second, u_, u_, u_, u_] [(.long q2)])) rfl (hb hby at_216) _ ?_
       refine XS.land X39.here hx rfl (hb hby at_219) rfl ?_
       refine X39.ldc2Long hx hown (mvT hZ (own_w hw 154 rfl)) (g := (mkF m 220 #[iv p0, iv p1, lv q2, .second, lv q3, .second, iv p4, iv (3 : Int32), iv r_1, iv r_2, iv r_3, iv r_4, rv b34, iv mt, lv off, .second, lv rr, .second, u_, u_, u_, u_] [(.long (q2 &&& (9223372036854775807 : Int64)))])) rfl (hb hby at_220) _ ?_
       refine XS.lrem X39.here hx rfl (hb hby at_223) rfl (by decide) ?_
       show Steps p.tables e below (T39.setTop (mkF m 224 #[iv p0, iv p1, lv q2, .second, lv q3, .second, iv p4, iv (3 : Int32), iv r_1, iv r_2, iv r_3, iv r_4, rv b34, iv mt, lv off, .second, lv rr, .second, u_, u_, u_, u_] [(.long ((q2 &&& (9223372036854775807 : Int64)) - ((q2 &&& (9223372036854775807 : Int64)) / (3 : Int64)) * (3 : Int64)))])) _
       refine XS.lconst X39.here hx rfl (hb hby at_224) ?_
       refine XS.lsub X39.here hx rfl (hb hby at_225) rfl ?_
       refine XS.lstore X39.here hx rfl (hb hby at_226) rfl (l' := #[iv p0, iv p1, lv q2, .second, lv q3, .second, iv p4, iv (3 : Int32), iv r_1, iv r_2, iv r_3, iv r_4, rv b34, iv mt, lv off, .second, lv rr, .second, u_, u_, lv (((q2 &&& (9223372036854775807 : Int64)) - ((q2 &&& (9223372036854775807 : Int64)) / (3 : Int64)) * (3 : Int64)) - (1 : Int64)), .second]) rfl ?_
       exact k
     obtain ⟨dl_, hd_dl_⟩ : ∃ z : Int64, (((q2 &&& (9223372036854775807 : Int64)) - ((q2 &&& (9223372036854775807 : Int64)) / (3 : Int64)) * (3 : Int64)) - (1 : Int64)) = z := ⟨_, rfl⟩
     rw [hd_dl_]
     show Go p e below _ (T39.setTop (mkF m 228 #[iv p0, iv p1, lv q2, .second, lv q3, .second, iv p4, iv (3 : Int32), iv r_1, iv r_2, iv r_3, iv r_4, rv b34, iv mt, lv off, .second, lv rr, .second, u_, u_, lv dl_, .second] []))
     refine Go.step (S' := T39.setTop (mkF m 237 #[iv p0, iv p1, lv q2, .second, lv q3, .second, iv p4, iv (3 : Int32), iv r_1, iv r_2, iv r_3, iv r_4, rv b34, iv mt, lv off, .second, lv rr, .second, u_, u_, lv dl_, .second] [(.long ((rr - off) + dl_)), (.long (0 : Int64))])) (fun t k => ?_) ?_
     · refine XS.lconst X39.here hx rfl (hb hby at_228) ?_
       refine XS.lload X39.here hx rfl (hb hby at_229) rfl ?_
       refine XS.lload X39.here hx rfl (hb hby at_231) rfl ?_
       refine XS.lsub X39.here hx rfl (hb hby at_233) rfl ?_
       refine XS.lload X39.here hx rfl (hb hby at_234) rfl ?_
       refine XS.ladd X39.here hx rfl (hb hby at_236) rfl ?_
       exact k
     by_cases hmx : (0 : Int64) < ((rr - off) + dl_)
     ·skip
      obtain ⟨_, _, ⟨T48, L48, k48, n48⟩, -, X48, ⟨Lc48, hQ48, l48, y48, z48⟩, st48⟩ := Jvm.LawKit.callS X39 hx (y := y_15) hown (mvT hZ (own_w hw 155 rfl)) (mvT hZ (own_w hw 156 rfl)) (mvT hZ (own_w hw 157 rfl)) (mvT hZ (own_w hw 158 rfl)) (by decide) (backOf (W := 0) (rmMaxB l Z a0 hw [] (0 : Int64) ((rr - off) + dl_) T39.heap n0 O hmx) hZ (own_w hw 158 rfl) (own_w hw 157 rfl) (by decide) (by decide)) (g := (mkF m 237 #[iv p0, iv p1, lv q2, .second, lv q3, .second, iv p4, iv (3 : Int32), iv r_1, iv r_2, iv r_3, iv r_4, rv b34, iv mt, lv off, .second, lv rr, .second, u_, u_, lv dl_, .second] [(.long ((rr - off) + dl_)), (.long (0 : Int64))])) rfl (by rw [hml]; rfl) (argsL := [(.long (0 : Int64)), (.long ((rr - off) + dl_))]) (rest := []) (lenOf pd__28JJ_29J rfl) rfl (Nat.le_of_eq rfl) (hb hby at_237) (fun _ _ => ⟨rfl, (Eq.refl T39.heap), (by decide : 3 + 0 ≤ _), (by decide : 10 + 0 ≤ _)⟩)
      dsimp only [Pt.U, Pt.locs, Pt.cells, Pt.slots] at X48 l48 y48 z48 st48 hQ48
      subst l48 y48 z48
      obtain ⟨rfl, Nq48, e48⟩ := hQ48
      have N48 := Fr.app N39 Nq48
      refine Go.step st48 ?_
      refine Go.step (S' := T48.setTop (mkF m 242 #[iv p0, iv p1, lv q2, .second, lv q3, .second, iv p4, iv (3 : Int32), iv r_1, iv r_2, iv r_3, iv r_4, rv b34, iv mt, lv off, .second, lv rr, .second, lv ((rr - off) + dl_), .second, lv dl_, .second] [])) (fun t k => ?_) ?_
      · refine XS.lstore X48.here hx rfl (hb hby at_240) rfl (l' := #[iv p0, iv p1, lv q2, .second, lv q3, .second, iv p4, iv (3 : Int32), iv r_1, iv r_2, iv r_3, iv r_4, rv b34, iv mt, lv off, .second, lv rr, .second, lv ((rr - off) + dl_), .second, lv dl_, .second]) rfl ?_
        exact k
      exact tail _ _ X48 e48 N48 _ _ _ (Or.inr ⟨_, rfl, rfl⟩) (own_nn hmx)
     ·skip
      obtain ⟨_, _, ⟨T49, L49, k49, n49⟩, -, X49, ⟨Lc49, hQ49, l49, y49, z49⟩, st49⟩ := Jvm.LawKit.callS X39 hx (y := y_15) hown (mvT hZ (own_w hw 155 rfl)) (mvT hZ (own_w hw 156 rfl)) (mvT hZ (own_w hw 157 rfl)) (mvT hZ (own_w hw 158 rfl)) (by decide) (backOf (W := 0) (rmMaxA l Z a0 hw [] (0 : Int64) ((rr - off) + dl_) T39.heap n0 O hmx) hZ (own_w hw 158 rfl) (own_w hw 157 rfl) (by decide) (by decide)) (g := (mkF m 237 #[iv p0, iv p1, lv q2, .second, lv q3, .second, iv p4, iv (3 : Int32), iv r_1, iv r_2, iv r_3, iv r_4, rv b34, iv mt, lv off, .second, lv rr, .second, u_, u_, lv dl_, .second] [(.long ((rr - off) + dl_)), (.long (0 : Int64))])) rfl (by rw [hml]; rfl) (argsL := [(.long (0 : Int64)), (.long ((rr - off) + dl_))]) (rest := []) (lenOf pd__28JJ_29J rfl) rfl (Nat.le_of_eq rfl) (hb hby at_237) (fun _ _ => ⟨rfl, (Eq.refl T39.heap), (by decide : 3 + 0 ≤ _), (by decide : 10 + 0 ≤ _)⟩)
      dsimp only [Pt.U, Pt.locs, Pt.cells, Pt.slots] at X49 l49 y49 z49 st49 hQ49
      subst l49 y49 z49
      obtain ⟨rfl, Nq49, e49⟩ := hQ49
      have N49 := Fr.app N39 Nq49
      refine Go.step st49 ?_
      refine Go.step (S' := T49.setTop (mkF m 242 #[iv p0, iv p1, lv q2, .second, lv q3, .second, iv p4, iv (3 : Int32), iv r_1, iv r_2, iv r_3, iv r_4, rv b34, iv mt, lv off, .second, lv rr, .second, lv (0 : Int64), .second, lv dl_, .second] [])) (fun t k => ?_) ?_
      · refine XS.lstore X49.here hx rfl (hb hby at_240) rfl (l' := #[iv p0, iv p1, lv q2, .second, lv q3, .second, iv p4, iv (3 : Int32), iv r_1, iv r_2, iv r_3, iv r_4, rv b34, iv mt, lv off, .second, lv rr, .second, lv (0 : Int64), .second, lv dl_, .second]) rfl ?_
        exact k
      exact tail _ _ X49 e49 N49 _ _ _ (Or.inr ⟨_, rfl, rfl⟩) (by decide)
   ·skip
    refine Go.step (S' := T4.setTop (mkF m 135 #[iv p0, iv p1, lv q2, .second, lv q3, .second, iv p4, iv ((p0 &&& (3 : Int32)) + (1 : Int32)), iv r_1, iv r_2, iv r_3, iv r_4, u_, u_, u_, u_, u_, u_, u_, u_, u_, u_] [])) (fun t k => ?_) ?_
    · refine XS.icmpYes X4.here hx rfl (pc0 := 102) (pc' := 135) rfl (hb hby at_102) rfl (feq (hc102 : ¬ (((p0 &&& (3 : Int32)) + (1 : Int32)) = (3 : Int32)))).2 (by decide) (by decide) ?_
      exact k
    obtain ⟨T50, h50, X50, e50, E50, A50, D50, -, st50⟩ := newO X4 hx hZ hown (own_w hw 5 rfl) (own_w hw 6 rfl) (own_w hw 7 rfl) e4 (g := (mkF m 135 #[iv p0, iv p1, lv q2, .second, lv q3, .second, iv p4, iv ((p0 &&& (3 : Int32)) + (1 : Int32)), iv r_1, iv r_2, iv r_3, iv r_4, u_, u_, u_, u_, u_, u_, u_, u_, u_, u_] [])) rfl (hb hby at_135) (by decide) (by decide)
    obtain ⟨b50, g50⟩ : ∃ z, z = Array.size h0 := ⟨_, rfl⟩
    have g_b50 : n0 ≤ b50 := Nat.le_trans (old_le O) (Nat.le_of_eq g50.symm)
    have sz_b50 : h0.size ≤ b50 := Nat.le_trans K.1 (Nat.le_of_eq g50.symm)
    rw [← g50] at A50 D50 st50
    have O := O.ext E50
    have hk := Nat.le_trans hk E50.1
    have K := K.ext E50
    have E_b50 := A50
    have F_coder_b50 : Fld Z h50 b50 "java/lang/String" "coder" "B" (.int (0 : Int32)) := D50 (Or.inr (own_w hw 32 rfl)) (ty := .byte) (by decide)
    have F_value_b50 : Fld Z h50 b50 "java/lang/String" "value" "[B" .null := D50 (Or.inr (own_w hw 34 rfl)) (ty := (.array .byte)) (by decide)
    refine Go.step st50 ?_
    refine Go.step (S' := T50.setTop (mkF m 140 #[iv p0, iv p1, lv q2, .second, lv q3, .second, iv p4, iv ((p0 &&& (3 : Int32)) + (1 : Int32)), iv r_1, iv r_2, iv r_3, iv r_4, u_, u_, u_, u_, u_, u_, u_, u_, u_, u_] [(.int (4 : Int32)), (.ref b50), (.ref b50)])) (fun t k => ?_) ?_
    · refine XS.dup X50.here hx rfl (hb hby at_138) rfl rfl ?_
      refine XS.iconst X50.here hx rfl (hb hby at_139) ?_
      exact k
    obtain ⟨T51, h51, k51, X51, e51, E51, A51, st51⟩ := newP X50 hx hZ (own_w hw 8 rfl) e50 (g := (mkF m 140 #[iv p0, iv p1, lv q2, .second, lv q3, .second, iv p4, iv ((p0 &&& (3 : Int32)) + (1 : Int32)), iv r_1, iv r_2, iv r_3, iv r_4, u_, u_, u_, u_, u_, u_, u_, u_, u_, u_] [(.int (4 : Int32)), (.ref b50), (.ref b50)])) rfl (hb hby at_140) rfl (by decide) (cap := 4) (by decide) (by decide) (by decide) (by decide)
    obtain ⟨b51, g51⟩ : ∃ z, z = Array.size h50 := ⟨_, rfl⟩
    have g_b51 : n0 ≤ b51 := Nat.le_trans (old_le O) (Nat.le_of_eq g51.symm)
    have sz_b51 : h0.size ≤ b51 := Nat.le_trans K.1 (Nat.le_of_eq g51.symm)
    have ne_b50_b51 : b50 ≠ b51 := Nat.ne_of_lt (Nat.lt_of_lt_of_le E_b50.lt (Nat.le_of_eq g51.symm))
    rw [← g51] at A51 st51
    have O := O.ext E51
    have hk := Nat.le_trans hk E51.1
    have K := K.ext E51
    have E_b50 := E_b50.ext E51
    have F_coder_b50 := F_coder_b50.ext E51
    have F_value_b50 := F_value_b50.ext E51
    have V_b51 : Arv Z h51 b51 k51 .char (4 : Int32) [(.int (0 : Int32)), (.int (0 : Int32)), (.int (0 : Int32)), (.int (0 : Int32))] (.int (0 : Int32)) := (Arv.new A51 (by decide)).pad (pad_rep [] (.int (0 : Int32)) 4)
    refine Go.step st51 ?_
    refine Go.step (S' := T51.setTop (mkF m 146 #[iv p0, iv p1, lv q2, .second, lv q3, .second, iv p4, iv ((p0 &&& (3 : Int32)) + (1 : Int32)), iv r_1, iv r_2, iv r_3, iv r_4, u_, u_, u_, u_, u_, u_, u_, u_, u_, u_] [(.int r_1), (.int (0 : Int32)), (.ref b51), (.ref b51), (.ref b50), (.ref b50)])) (fun t k => ?_) ?_
    · refine XS.dup X51.here hx rfl (hb hby at_142) rfl rfl ?_
      refine XS.iconst X51.here hx rfl (hb hby at_143) ?_
      refine XS.iload X51.here hx rfl (hb hby at_144) rfl ?_
      exact k
    obtain ⟨cl52, Ar52, q52, S52, N52_, H52, G52⟩ := V_b51
    have hin52 : ¬ ((0 : Int32) < 0 ∨ cl52.slots.size ≤ ((0 : Int32)).toNatClampNeg) := inb_of S52 ⟨by decide, by decide⟩
    obtain ⟨T52, h52, X52, e52, W52, st52⟩ := stC X51 hx hZ e51 Ar52 (j := (0 : Int32)) hin52 (g := (mkF m 146 #[iv p0, iv p1, lv q2, .second, lv q3, .second, iv p4, iv ((p0 &&& (3 : Int32)) + (1 : Int32)), iv r_1, iv r_2, iv r_3, iv r_4, u_, u_, u_, u_, u_, u_, u_, u_, u_, u_] [(.int r_1), (.int (0 : Int32)), (.ref b51), (.ref b51), (.ref b50), (.ref b50)])) rfl rfl (hb hby at_146)
    have O := O.wr W52 g_b51
    have hk := Nat.le_trans hk (Keep.of_wr W52).1
    have K := K.wr W52 (Or.inr sz_b51)
    have E_b50 := E_b50.wr W52
    have F_coder_b50 := F_coder_b50.other W52 (Or.inl ne_b50_b51)
    have F_value_b50 := F_value_b50.other W52 (Or.inl ne_b50_b51)
    have V_b51 : Arv Z h52 b51 k51 .char (4 : Int32) [(.int (r_1.toUInt32.toUInt16.toUInt32.toInt32)), (.int (0 : Int32)), (.int (0 : Int32)), (.int (0 : Int32))] (.int (0 : Int32)) := Arv.set Ar52 q52 S52 N52_ H52 G52 (fits_nar_char _) W52 0 rfl (Nat.le_of_ble_eq_true rfl)
    rw [(own_i2c (by assumption) (by assumption) : (r_1.toUInt32.toUInt16.toUInt32.toInt32) = r_1)] at V_b51
    have N52 := Fr.snoc X52 N4 g_b51
    refine Go.step st52 ?_
    refine Go.step (S' := T52.setTop (mkF m 151 #[iv p0, iv p1, lv q2, .second, lv q3, .second, iv p4, iv ((p0 &&& (3 : Int32)) + (1 : Int32)), iv r_1, iv r_2, iv r_3, iv r_4, u_, u_, u_, u_, u_, u_, u_, u_, u_, u_] [(.int r_2), (.int (1 : Int32)), (.ref b51), (.ref b51), (.ref b50), (.ref b50)])) (fun t k => ?_) ?_
    · refine XS.dup X52.here hx rfl (hb hby at_147) rfl rfl ?_
      refine XS.iconst X52.here hx rfl (hb hby at_148) ?_
      refine XS.iload X52.here hx rfl (hb hby at_149) rfl ?_
      exact k
    obtain ⟨cl53, Ar53, q53, S53, N53_, H53, G53⟩ := V_b51
    have hin53 : ¬ ((1 : Int32) < 0 ∨ cl53.slots.size ≤ ((1 : Int32)).toNatClampNeg) := inb_of S53 ⟨by decide, by decide⟩
    obtain ⟨T53, h53, X53, e53, W53, st53⟩ := stC X52 hx hZ e52 Ar53 (j := (1 : Int32)) hin53 (g := (mkF m 151 #[iv p0, iv p1, lv q2, .second, lv q3, .second, iv p4, iv ((p0 &&& (3 : Int32)) + (1 : Int32)), iv r_1, iv r_2, iv r_3, iv r_4, u_, u_, u_, u_, u_, u_, u_, u_, u_, u_] [(.int r_2), (.int (1 : Int32)), (.ref b51), (.ref b51), (.ref b50), (.ref b50)])) rfl rfl (hb hby at_151)
    have O := O.wr W53 g_b51
    have hk := Nat.le_trans hk (Keep.of_wr W53).1
    have K := K.wr W53 (Or.inr sz_b51)
    have E_b50 := E_b50.wr W53
    have F_coder_b50 := F_coder_b50.other W53 (Or.inl ne_b50_b51)
    have F_value_b50 := F_value_b50.other W53 (Or.inl ne_b50_b51)
    have V_b51 : Arv Z h53 b51 k51 .char (4 : Int32) [(.int r_1), (.int (r_2.toUInt32.toUInt16.toUInt32.toInt32)), (.int (0 : Int32)), (.int (0 : Int32))] (.int (0 : Int32)) := Arv.set Ar53 q53 S53 N53_ H53 G53 (fits_nar_char _) W53 1 rfl (Nat.le_of_ble_eq_true rfl)
    rw [(own_i2c (by assumption) (by assumption) : (r_2.toUInt32.toUInt16.toUInt32.toInt32) = r_2)] at V_b51
    have N53 := Fr.snoc X53 N52 g_b51
    refine Go.step st53 ?_
    refine Go.step (S' := T53.setTop (mkF m 156 #[iv p0, iv p1, lv q2, .second, lv q3, .second, iv p4, iv ((p0 &&& (3 : Int32)) + (1 : Int32)), iv r_1, iv r_2, iv r_3, iv r_4, u_, u_, u_, u_, u_, u_, u_, u_, u_, u_] [(.int r_3), (.int (2 : Int32)), (.ref b51), (.ref b51), (.ref b50), (.ref b50)])) (fun t k => ?_) ?_
    · refine XS.dup X53.here hx rfl (hb hby at_152) rfl rfl ?_
      refine XS.iconst X53.here hx rfl (hb hby at_153) ?_
      refine XS.iload X53.here hx rfl (hb hby at_154) rfl ?_
      exact k
    obtain ⟨cl54, Ar54, q54, S54, N54_, H54, G54⟩ := V_b51
    have hin54 : ¬ ((2 : Int32) < 0 ∨ cl54.slots.size ≤ ((2 : Int32)).toNatClampNeg) := inb_of S54 ⟨by decide, by decide⟩
    obtain ⟨T54, h54, X54, e54, W54, st54⟩ := stC X53 hx hZ e53 Ar54 (j := (2 : Int32)) hin54 (g := (mkF m 156 #[iv p0, iv p1, lv q2, .second, lv q3, .second, iv p4, iv ((p0 &&& (3 : Int32)) + (1 : Int32)), iv r_1, iv r_2, iv r_3, iv r_4, u_, u_, u_, u_, u_, u_, u_, u_, u_, u_] [(.int r_3), (.int (2 : Int32)), (.ref b51), (.ref b51), (.ref b50), (.ref b50)])) rfl rfl (hb hby at_156)
    have O := O.wr W54 g_b51
    have hk := Nat.le_trans hk (Keep.of_wr W54).1
    have K := K.wr W54 (Or.inr sz_b51)
    have E_b50 := E_b50.wr W54
    have F_coder_b50 := F_coder_b50.other W54 (Or.inl ne_b50_b51)
    have F_value_b50 := F_value_b50.other W54 (Or.inl ne_b50_b51)
    have V_b51 : Arv Z h54 b51 k51 .char (4 : Int32) [(.int r_1), (.int r_2), (.int (r_3.toUInt32.toUInt16.toUInt32.toInt32)), (.int (0 : Int32))] (.int (0 : Int32)) := Arv.set Ar54 q54 S54 N54_ H54 G54 (fits_nar_char _) W54 2 rfl (Nat.le_of_ble_eq_true rfl)
    rw [(own_i2c (by assumption) (by assumption) : (r_3.toUInt32.toUInt16.toUInt32.toInt32) = r_3)] at V_b51
    have N54 := Fr.snoc X54 N53 g_b51
    refine Go.step st54 ?_
    refine Go.step (S' := T54.setTop (mkF m 161 #[iv p0, iv p1, lv q2, .second, lv q3, .second, iv p4, iv ((p0 &&& (3 : Int32)) + (1 : Int32)), iv r_1, iv r_2, iv r_3, iv r_4, u_, u_, u_, u_, u_, u_, u_, u_, u_, u_] [(.int r_4), (.int (3 : Int32)), (.ref b51), (.ref b51), (.ref b50), (.ref b50)])) (fun t k => ?_) ?_
    · refine XS.dup X54.here hx rfl (hb hby at_157) rfl rfl ?_
      refine XS.iconst X54.here hx rfl (hb hby at_158) ?_
      refine XS.iload X54.here hx rfl (hb hby at_159) rfl ?_
      exact k
    obtain ⟨cl55, Ar55, q55, S55, N55_, H55, G55⟩ := V_b51
    have hin55 : ¬ ((3 : Int32) < 0 ∨ cl55.slots.size ≤ ((3 : Int32)).toNatClampNeg) := inb_of S55 ⟨by decide, by decide⟩
    obtain ⟨T55, h55, X55, e55, W55, st55⟩ := stC X54 hx hZ e54 Ar55 (j := (3 : Int32)) hin55 (g := (mkF m 161 #[iv p0, iv p1, lv q2, .second, lv q3, .second, iv p4, iv ((p0 &&& (3 : Int32)) + (1 : Int32)), iv r_1, iv r_2, iv r_3, iv r_4, u_, u_, u_, u_, u_, u_, u_, u_, u_, u_] [(.int r_4), (.int (3 : Int32)), (.ref b51), (.ref b51), (.ref b50), (.ref b50)])) rfl rfl (hb hby at_161)
    have O := O.wr W55 g_b51
    have hk := Nat.le_trans hk (Keep.of_wr W55).1
    have K := K.wr W55 (Or.inr sz_b51)
    have E_b50 := E_b50.wr W55
    have F_coder_b50 := F_coder_b50.other W55 (Or.inl ne_b50_b51)
    have F_value_b50 := F_value_b50.other W55 (Or.inl ne_b50_b51)
    have V_b51 : Arv Z h55 b51 k51 .char (4 : Int32) [(.int r_1), (.int r_2), (.int r_3), (.int (r_4.toUInt32.toUInt16.toUInt32.toInt32))] (.int (0 : Int32)) := Arv.set Ar55 q55 S55 N55_ H55 G55 (fits_nar_char _) W55 3 rfl (Nat.le_of_ble_eq_true rfl)
    rw [(own_i2c (by assumption) (by assumption) : (r_4.toUInt32.toUInt16.toUInt32.toInt32) = r_4)] at V_b51
    have N55 := Fr.snoc X55 N54 g_b51
    refine Go.step st55 ?_
    obtain ⟨_, _, ⟨T56, L56, k56, n56⟩, -, X56, ⟨Lc56, hQ56, l56, y56, z56⟩, st56⟩ := X55.specialBack hx (y := y_12) rfl hown (mvT hZ (own_w hw 9 rfl)) (mvT hZ (own_w hw 10 rfl)) (mvT hZ (own_w hw 11 rfl)) (by decide) (backOf (W := 1) (rmNS4 l Z a0 hw [] b50 b51 k51 cs r_1 r_2 r_3 r_4 h55 n0 O S_CS E_b50 F_value_b50 F_coder_b50 V_b51 (by assumption) hcs k3_1 k3_2 k3_3 k3_4) hZ (own_w hw 11 rfl) (own_w hw 7 rfl) (by decide) (by decide)) (g := (mkF m 162 #[iv p0, iv p1, lv q2, .second, lv q3, .second, iv p4, iv ((p0 &&& (3 : Int32)) + (1 : Int32)), iv r_1, iv r_2, iv r_3, iv r_4, u_, u_, u_, u_, u_, u_, u_, u_, u_, u_] [(.ref b51), (.ref b50), (.ref b50)])) rfl (by rw [hml]; rfl) (Steps.refl _) (a := b50) (argsL := [(.ref b51)]) (rest := [(.ref b50)]) (lenOf pd__28_5bC_29V rfl) rfl (Nat.le_of_eq rfl) (hb hby at_162) (fun _ _ => ⟨rfl, e55, (by decide : 2 + 1 ≤ _), (by decide : 8 + 4 ≤ _)⟩)
    dsimp only [Pt.U, Pt.locs, Pt.cells, Pt.slots] at X56 l56 y56 z56 st56 hQ56
    subst l56 y56 z56
    obtain ⟨tb_56, kb_56, rfl, Nq56, K56, P56_E, P56_Fv, P56_Fc, P56_V⟩ := hQ56
    have N56 := Fr.app N55 Nq56
    have O := O.keep K56 (allS g_b50 all0)
    have hk := Nat.le_trans hk K56.1
    have K := K.trans K56 (allS (Or.inr sz_b50) all0)
    have E_b50 := E_b50.keep K56
    have V_b51 := V_b51.keep K56 (ninS (Ne.symm ne_b50_b51) nin0)
    have E_56 := P56_E
    have Fv_56 := P56_Fv
    have Fc_56 := P56_Fc
    have V_56 := P56_V
    refine Go.step (fun t k => st56.trans k) ?_
    refine Go.step (S' := T56.setTop (mkF m 167 #[iv p0, iv p1, lv q2, .second, lv q3, .second, iv p4, iv ((p0 &&& (3 : Int32)) + (1 : Int32)), iv r_1, iv r_2, iv r_3, iv r_4, rv b50, u_, u_, u_, u_, u_, u_, u_, u_, u_] [])) (fun t k => ?_) ?_
    · refine XS.astore X56.here hx rfl (hb hby at_165) rfl rfl (l' := #[iv p0, iv p1, lv q2, .second, lv q3, .second, iv p4, iv ((p0 &&& (3 : Int32)) + (1 : Int32)), iv r_1, iv r_2, iv r_3, iv r_4, rv b50, u_, u_, u_, u_, u_, u_, u_, u_, u_]) rfl ?_
      exact k
    rw [(own_len4 hc45 hc71 hc102 : ((p0 &&& (3 : Int32)) + (1 : Int32)) = (4 : Int32))]
    show Go p e below _ (T56.setTop (mkF m 167 #[iv p0, iv p1, lv q2, .second, lv q3, .second, iv p4, iv (4 : Int32), iv r_1, iv r_2, iv r_3, iv r_4, rv b50, u_, u_, u_, u_, u_, u_, u_, u_, u_] []))
    refine Go.step (S' := T56.setTop (mkF m 177 #[iv p0, iv p1, lv q2, .second, lv q3, .second, iv p4, iv (4 : Int32), iv r_1, iv r_2, iv r_3, iv r_4, rv b50, iv ((p1 &&& (2147483647 : Int32)) % (1025 : Int32)), u_, u_, u_, u_, u_, u_, u_, u_] [])) (fun t k => ?_) ?_
    · refine XS.iloadN X56.here hx rfl (hb hby at_167) rfl ?_
      refine X56.ldcInt hx hown (mvT hZ (own_w hw 4 rfl)) (g := (mkF m 168 #[iv p0, iv p1, lv q2, .second, lv q3, .second, iv p4, iv (4 : Int32), iv r_1, iv r_2, iv r_3, iv r_4, rv b50, u_, u_, u_, u_, u_, u_, u_, u_, u_] [(.int p1)])) rfl (hb hby at_168) _ ?_
      refine XS.iand X56.here hx rfl (hb hby at_170) rfl ?_
      refine XS.sipush X56.here hx rfl (hb hby at_171) ?_
      refine iremM X56 hx rfl (hb hby at_174) rfl (by decide) ?_
      refine XS.istore X56.here hx rfl (hb hby at_175) rfl (l' := #[iv p0, iv p1, lv q2, .second, lv q3, .second, iv p4, iv (4 : Int32), iv r_1, iv r_2, iv r_3, iv r_4, rv b50, iv ((p1 &&& (2147483647 : Int32)) % (1025 : Int32)), u_, u_, u_, u_, u_, u_, u_, u_]) rfl ?_
      exact k
    obtain ⟨mt, hd_mt⟩ : ∃ z : Int32, ((p1 &&& (2147483647 : Int32)) % (1025 : Int32)) = z := ⟨_, rfl⟩
    rw [hd_mt]
    show Go p e below _ (T56.setTop (mkF m 177 #[iv p0, iv p1, lv q2, .second, lv q3, .second, iv p4, iv (4 : Int32), iv r_1, iv r_2, iv r_3, iv r_4, rv b50, iv mt, u_, u_, u_, u_, u_, u_, u_, u_] []))
    refine Go.step (S' := T56.setTop (mkF m 183 #[iv p0, iv p1, lv q2, .second, lv q3, .second, iv p4, iv (4 : Int32), iv r_1, iv r_2, iv r_3, iv r_4, rv b50, iv mt, u_, u_, u_, u_, u_, u_, u_, u_] [(.long ((4 : Int32).toInt64)), (.long (40 : Int64))])) (fun t k => ?_) ?_
    · refine X56.ldc2Long hx hown (mvT hZ (own_w hw 35 rfl)) (g := (mkF m 177 #[iv p0, iv p1, lv q2, .second, lv q3, .second, iv p4, iv (4 : Int32), iv r_1, iv r_2, iv r_3, iv r_4, rv b50, iv mt, u_, u_, u_, u_, u_, u_, u_, u_] [])) rfl (hb hby at_177) _ ?_
      refine XS.iload X56.here hx rfl (hb hby at_180) rfl ?_
      refine XS.i2l X56.here hx rfl (hb hby at_182) rfl ?_
      exact k
    rw [show ((4 : Int32).toInt64) = (4 : Int64) from by decide]
    show Go p e below _ (T56.setTop (mkF m 183 #[iv p0, iv p1, lv q2, .second, lv q3, .second, iv p4, iv (4 : Int32), iv r_1, iv r_2, iv r_3, iv r_4, rv b50, iv mt, u_, u_, u_, u_, u_, u_, u_, u_] [(.long (4 : Int64)), (.long (40 : Int64))]))
    refine Go.step (S' := T56.setTop (mkF m 184 #[iv p0, iv p1, lv q2, .second, lv q3, .second, iv p4, iv (4 : Int32), iv r_1, iv r_2, iv r_3, iv r_4, rv b50, iv mt, u_, u_, u_, u_, u_, u_, u_, u_] [(.long ((40 : Int64) + (4 : Int64)))])) (fun t k => ?_) ?_
    · refine XS.ladd X56.here hx rfl (hb hby at_183) rfl ?_
      exact k
    rw [show ((40 : Int64) + (4 : Int64)) = (44 : Int64) from by decide]
    show Go p e below _ (T56.setTop (mkF m 184 #[iv p0, iv p1, lv q2, .second, lv q3, .second, iv p4, iv (4 : Int32), iv r_1, iv r_2, iv r_3, iv r_4, rv b50, iv mt, u_, u_, u_, u_, u_, u_, u_, u_] [(.long (44 : Int64))]))
    refine Go.step (S' := T56.setTop (mkF m 190 #[iv p0, iv p1, lv q2, .second, lv q3, .second, iv p4, iv (4 : Int32), iv r_1, iv r_2, iv r_3, iv r_4, rv b50, iv mt, lv ((44 : Int64) + (mt.toInt64)), .second, u_, u_, u_, u_, u_, u_] [])) (fun t k => ?_) ?_
    · refine XS.iload X56.here hx rfl (hb hby at_184) rfl ?_
      refine XS.i2l X56.here hx rfl (hb hby at_186) rfl ?_
      refine XS.ladd X56.here hx rfl (hb hby at_187) rfl ?_
      refine XS.lstore X56.here hx rfl (hb hby at_188) rfl (l' := #[iv p0, iv p1, lv q2, .second, lv q3, .second, iv p4, iv (4 : Int32), iv r_1, iv r_2, iv r_3, iv r_4, rv b50, iv mt, lv ((44 : Int64) + (mt.toInt64)), .second, u_, u_, u_, u_, u_, u_]) rfl ?_
      exact k
    obtain ⟨off, hd_off⟩ : ∃ z : Int64, ((44 : Int64) + (mt.toInt64)) = z := ⟨_, rfl⟩
    rw [hd_off]
    show Go p e below _ (T56.setTop (mkF m 190 #[iv p0, iv p1, lv q2, .second, lv q3, .second, iv p4, iv (4 : Int32), iv r_1, iv r_2, iv r_3, iv r_4, rv b50, iv mt, lv off, .second, u_, u_, u_, u_, u_, u_] []))
    refine Go.step (S' := T56.setTop (mkF m 198 #[iv p0, iv p1, lv q2, .second, lv q3, .second, iv p4, iv (4 : Int32), iv r_1, iv r_2, iv r_3, iv r_4, rv b50, iv mt, lv off, .second, lv (q3 &&& (9223372036854775807 : Int64)), .second, u_, u_, u_, u_] [])) (fun t k => ?_) ?_
    · refine XS.lload X56.here hx rfl (hb hby at_190) rfl ?_
      refine X56.ldc2Long hx hown (mvT hZ (own_w hw 36 rfl)) (g := (mkF m 192 #[iv p0, iv p1, lv q2, .second, lv q3, .second, iv p4, iv (4 : Int32), iv r_1, iv r_2, iv r_3, iv r_4, rv b50, iv mt, lv off, .second, u_, u_, u_, u_, u_, u_] [(.long q3)])) rfl (hb hby at_192) _ ?_
      refine XS.land X56.here hx rfl (hb hby at_195) rfl ?_
      refine XS.lstore X56.here hx rfl (hb hby at_196) rfl (l' := #[iv p0, iv p1, lv q2, .second, lv q3, .second, iv p4, iv (4 : Int32), iv r_1, iv r_2, iv r_3, iv r_4, rv b50, iv mt, lv off, .second, lv (q3 &&& (9223372036854775807 : Int64)), .second, u_, u_, u_, u_]) rfl ?_
      exact k
    obtain ⟨rr, hd_rr⟩ : ∃ z : Int64, (q3 &&& (9223372036854775807 : Int64)) = z := ⟨_, rfl⟩
    rw [hd_rr]
    show Go p e below _ (T56.setTop (mkF m 198 #[iv p0, iv p1, lv q2, .second, lv q3, .second, iv p4, iv (4 : Int32), iv r_1, iv r_2, iv r_3, iv r_4, rv b50, iv mt, lv off, .second, lv rr, .second, u_, u_, u_, u_] []))
    have bm := own_mt hd_mt
    have bo := own_off (k := (44 : Int64)) (by decide) bm hd_off
    have br := own_pos hd_rr
    have tail : ∀ (TT : State) (LL : List Loc) (XX : Stand p l e room_1 (s.setVm s.vm) m #[(.int p0), (.int p1), (.long q2), (.long q3), (.int p4)] below meth c TT LL 3 12) (eTT : TT.heap = T56.heap) (NN : Fr n0 LL) (ct : Int64) (sA sB : Slot), ((sA = u_ ∧ sB = u_) ∨ ∃ dl, sA = lv dl ∧ sB = .second) → 0 ≤ ct.toInt → Go p e below (fun o U' => ∃ v L, o = .returned v ∧ Q_rm0 Z p0 p1 q2 q3 p4 w_PUT w_ERASED w_DELETE w_GONE w_UNFINISHED cs sf h0 n0 v U'.heap L ∧ ReturnedEndW s o U' L room_1.cells room_1.slots) (TT.setTop (mkF m 242 #[iv p0, iv p1, lv q2, .second, lv q3, .second, iv p4, iv (4 : Int32), iv r_1, iv r_2, iv r_3, iv r_4, rv b50, iv mt, lv off, .second, lv rr, .second, lv ct, .second, sA, sB] [])) := by
     intro TT LL XX eTT NN ct sA sB hAB bc
     obtain ⟨T57, h57, X57, e57, E57, A57, D57, -, st57⟩ := newO XX hx hZ hown (own_w hw 37 rfl) (own_w hw 38 rfl) (own_w hw 39 rfl) eTT (g := (mkF m 242 #[iv p0, iv p1, lv q2, .second, lv q3, .second, iv p4, iv (4 : Int32), iv r_1, iv r_2, iv r_3, iv r_4, rv b50, iv mt, lv off, .second, lv rr, .second, lv ct, .second, sA, sB] [])) rfl (hb hby at_242) (by decide) (by decide)
     obtain ⟨b57, g57⟩ : ∃ z, z = Array.size T56.heap := ⟨_, rfl⟩
     have g_b57 : n0 ≤ b57 := Nat.le_trans (old_le O) (Nat.le_of_eq g57.symm)
     have sz_b57 : h0.size ≤ b57 := Nat.le_trans K.1 (Nat.le_of_eq g57.symm)
     have ne_b50_b57 : b50 ≠ b57 := Nat.ne_of_lt (Nat.lt_of_lt_of_le E_b50.lt (Nat.le_of_eq g57.symm))
     have ne_b51_b57 : b51 ≠ b57 := Nat.ne_of_lt (Nat.lt_of_lt_of_le V_b51.lt (Nat.le_of_eq g57.symm))
     have ne_tb_56_b57 : tb_56 ≠ b57 := Nat.ne_of_lt (Nat.lt_of_lt_of_le V_56.lt (Nat.le_of_eq g57.symm))
     rw [← g57] at A57 D57 st57
     have O := O.ext E57
     have hk := Nat.le_trans hk E57.1
     have K := K.ext E57
     have E_b50 := E_b50.ext E57
     have V_b51 := V_b51.ext E57
     have E_56 := E_56.ext E57
     have Fv_56 := Fv_56.ext E57
     have Fc_56 := Fc_56.ext E57
     have V_56 := V_56.ext E57
     have E_b57 := A57
     have F_kind_b57 : Fld Z h57 b57 "com/example/tombsweep/tombsweep/io/RecordHeader" "kind" "Lcom/example/tombsweep/tombsweep/io/RecordHeader$Kind;" .null := D57 (Or.inr (own_w hw 112 rfl)) (ty := (.object "com/example/tombsweep/tombsweep/io/RecordHeader$Kind")) (by decide)
     have F_key_b57 : Fld Z h57 b57 "com/example/tombsweep/tombsweep/io/RecordHeader" "key" "Lcom/example/tombsweep/tombsweep/model/BlobKey;" .null := D57 (Or.inr (own_w hw 114 rfl)) (ty := (.object "com/example/tombsweep/tombsweep/model/BlobKey")) (by decide)
     have F_metadataLength_b57 : Fld Z h57 b57 "com/example/tombsweep/tombsweep/io/RecordHeader" "metadataLength" "I" (.int (0 : Int32)) := D57 (Or.inr (own_w hw 116 rfl)) (ty := .int) (by decide)
     have F_sequence_b57 : Fld Z h57 b57 "com/example/tombsweep/tombsweep/io/RecordHeader" "sequence" "J" (.long (0 : Int64)) := D57 (Or.inr (own_w hw 118 rfl)) (ty := .long) (by decide)
     have F_time_b57 : Fld Z h57 b57 "com/example/tombsweep/tombsweep/io/RecordHeader" "time" "J" (.long (0 : Int64)) := D57 (Or.inr (own_w hw 120 rfl)) (ty := .long) (by decide)
     have F_contentLength_b57 : Fld Z h57 b57 "com/example/tombsweep/tombsweep/io/RecordHeader" "contentLength" "J" (.long (0 : Int64)) := D57 (Or.inr (own_w hw 122 rfl)) (ty := .long) (by decide)
     have F_contentCheck_b57 : Fld Z h57 b57 "com/example/tombsweep/tombsweep/io/RecordHeader" "contentCheck" "I" (.int (0 : Int32)) := D57 (Or.inr (own_w hw 124 rfl)) (ty := .int) (by decide)
     have F_metadataCheck_b57 : Fld Z h57 b57 "com/example/tombsweep/tombsweep/io/RecordHeader" "metadataCheck" "I" (.int (0 : Int32)) := D57 (Or.inr (own_w hw 126 rfl)) (ty := .int) (by decide)
     refine Go.step st57 ?_
     refine Go.step (S' := T57.setTop (mkF m 250 #[iv p0, iv p1, lv q2, .second, lv q3, .second, iv p4, iv (4 : Int32), iv r_1, iv r_2, iv r_3, iv r_4, rv b50, iv mt, lv off, .second, lv rr, .second, lv ct, .second, sA, sB] [(.int ((p4.toUInt32 >>> ((1 : Int32) &&& 31).toUInt32).toInt32)), (.ref b57), (.ref b57)])) (fun t k => ?_) ?_
     · refine XS.dup X57.here hx rfl (hb hby at_245) rfl rfl ?_
       refine XS.iload X57.here hx rfl (hb hby at_246) rfl ?_
       refine XS.iconst X57.here hx rfl (hb hby at_248) ?_
       refine XS.iushr X57.here hx rfl (hb hby at_249) rfl ?_
       exact k
     obtain ⟨_, _, ⟨T58, L58, k58, n58⟩, -, X58, ⟨Lc58, hQ58, l58, y58, z58⟩, st58⟩ := Jvm.LawKit.callS X57 hx (y := y_13) hown (mvT hZ (own_w hw 40 rfl)) (mvT hZ (own_w hw 41 rfl)) (mvT hZ (own_w hw 2 rfl)) (mvT hZ (own_w hw 42 rfl)) (by decide) (backOf (W := 2) (rmKind l Z a0 hw [] ((p4.toUInt32 >>> ((1 : Int32) &&& 31).toUInt32).toInt32) w_PUT w_ERASED w_DELETE w_GONE w_UNFINISHED h57 n0 O S_PUT S_ERASED S_DELETE S_GONE S_UNFINISHED) hZ (own_w hw 42 rfl) (own_w hw 2 rfl) (by decide) (by decide)) (g := (mkF m 250 #[iv p0, iv p1, lv q2, .second, lv q3, .second, iv p4, iv (4 : Int32), iv r_1, iv r_2, iv r_3, iv r_4, rv b50, iv mt, lv off, .second, lv rr, .second, lv ct, .second, sA, sB] [(.int ((p4.toUInt32 >>> ((1 : Int32) &&& 31).toUInt32).toInt32)), (.ref b57), (.ref b57)])) rfl (by rw [hml]; rfl) (argsL := [(.int ((p4.toUInt32 >>> ((1 : Int32) &&& 31).toUInt32).toInt32))]) (rest := [(.ref b57), (.ref b57)]) (lenOf pd__28I_29Lcom_2fexample_2ftombsweep_2ftombsweep_2fio_2fRecordHeader_24Kind_3b rfl) rfl (Nat.le_of_eq rfl) (hb hby at_250) (fun _ _ => ⟨rfl, e57, (by decide : 4 + 0 ≤ _), (by decide : 20 + 0 ≤ _)⟩)
     dsimp only [Pt.U, Pt.locs, Pt.cells, Pt.slots] at X58 l58 y58 z58 st58 hQ58
     subst l58 y58 z58
     obtain ⟨b_58, rfl, Nq58, e58⟩ := hQ58
     have N58 := Fr.app NN Nq58
     refine Go.step st58 ?_
     obtain ⟨T59, h59, X59, e59, E59, A59, D59, -, st59⟩ := newO X58 hx hZ hown (own_w hw 46 rfl) (own_w hw 47 rfl) (own_w hw 48 rfl) e58 (g := (mkF m 253 #[iv p0, iv p1, lv q2, .second, lv q3, .second, iv p4, iv (4 : Int32), iv r_1, iv r_2, iv r_3, iv r_4, rv b50, iv mt, lv off, .second, lv rr, .second, lv ct, .second, sA, sB] [(.ref b_58), (.ref b57), (.ref b57)])) rfl (hb hby at_253) (by decide) (by decide)
     obtain ⟨b59, g59⟩ : ∃ z, z = Array.size h57 := ⟨_, rfl⟩
     have g_b59 : n0 ≤ b59 := Nat.le_trans (old_le O) (Nat.le_of_eq g59.symm)
     have sz_b59 : h0.size ≤ b59 := Nat.le_trans K.1 (Nat.le_of_eq g59.symm)
     have ne_b50_b59 : b50 ≠ b59 := Nat.ne_of_lt (Nat.lt_of_lt_of_le E_b50.lt (Nat.le_of_eq g59.symm))
     have ne_b51_b59 : b51 ≠ b59 := Nat.ne_of_lt (Nat.lt_of_lt_of_le V_b51.lt (Nat.le_of_eq g59.symm))
     have ne_tb_56_b59 : tb_56 ≠ b59 := Nat.ne_of_lt (Nat.lt_of_lt_of_le V_56.lt (Nat.le_of_eq g59.symm))
     have ne_b57_b59 : b57 ≠ b59 := Nat.ne_of_lt (Nat.lt_of_lt_of_le E_b57.lt (Nat.le_of_eq g59.symm))
     rw [← g59] at A59 D59 st59
     have O := O.ext E59
     have hk := Nat.le_trans hk E59.1
     have K := K.ext E59
     have E_b50 := E_b50.ext E59
     have V_b51 := V_b51.ext E59
     have E_56 := E_56.ext E59
     have Fv_56 := Fv_56.ext E59
     have Fc_56 := Fc_56.ext E59
     have V_56 := V_56.ext E59
     have E_b57 := E_b57.ext E59
     have F_kind_b57 := F_kind_b57.ext E59
     have F_key_b57 := F_key_b57.ext E59
     have F_metadataLength_b57 := F_metadataLength_b57.ext E59
     have F_sequence_b57 := F_sequence_b57.ext E59
     have F_time_b57 := F_time_b57.ext E59
     have F_contentLength_b57 := F_contentLength_b57.ext E59
     have F_contentCheck_b57 := F_contentCheck_b57.ext E59
     have F_metadataCheck_b57 := F_metadataCheck_b57.ext E59
     have E_b59 := A59
     have F_value_b59 : Fld Z h59 b59 "com/example/tombsweep/tombsweep/model/BlobKey" "value" "Ljava/lang/String;" .null := D59 (Or.inr (own_w hw 106 rfl)) (ty := (.object "java/lang/String")) (by decide)
     refine Go.step st59 ?_
     refine Go.step (S' := T59.setTop (mkF m 259 #[iv p0, iv p1, lv q2, .second, lv q3, .second, iv p4, iv (4 : Int32), iv r_1, iv r_2, iv r_3, iv r_4, rv b50, iv mt, lv off, .second, lv rr, .second, lv ct, .second, sA, sB] [(.ref b50), (.ref b59), (.ref b59), (.ref b_58), (.ref b57), (.ref b57)])) (fun t k => ?_) ?_
     · refine XS.dup X59.here hx rfl (hb hby at_256) rfl rfl ?_
       refine XS.aload X59.here hx rfl (hb hby at_257) rfl rfl ?_
       exact k
     obtain ⟨_, _, ⟨T60, L60, k60, n60⟩, -, X60, hS60, hgr60, ⟨Lc60, hQ60, l60, y60, z60⟩, st60⟩ := X59.specialBackS hx (y := y_21) rfl hown (mvT hZ (own_w hw 49 rfl)) (mvT hZ (own_w hw 50 rfl)) (mvT hZ (own_w hw 51 rfl)) (by decide) (backOfS (W := 4) (rmBK4 l Z a0 hw [] b59 b50 tb_56 kb_56 r_1 r_2 r_3 r_4 cs sf h59 n0 O S_CS S_FM E_b50 Fv_56 Fc_56 V_56 E_b59 F_value_b59 (by assumption) hcs hsf k0_1 k1_1 k2_1 k3_1 k0_2 k1_2 k2_2 k3_2 k0_3 k1_3 k2_3 k3_3 k0_4 k1_4 k2_4 k3_4) hZ (own_w hw 51 rfl) (own_w hw 48 rfl) (by decide) (by decide)) (g := (mkF m 259 #[iv p0, iv p1, lv q2, .second, lv q3, .second, iv p4, iv (4 : Int32), iv r_1, iv r_2, iv r_3, iv r_4, rv b50, iv mt, lv off, .second, lv rr, .second, lv ct, .second, sA, sB] [(.ref b50), (.ref b59), (.ref b59), (.ref b_58), (.ref b57), (.ref b57)])) rfl (by rw [hml]; rfl) (Steps.refl _) (a := b59) (argsL := [(.ref b50)]) (rest := [(.ref b59), (.ref b_58), (.ref b57), (.ref b57)]) (lenOf pd__28Ljava_2flang_2fString_3b_29V rfl) rfl (Nat.le_of_eq rfl) (hb hby at_259) (fun _ _ => ⟨rfl, e59, (by decide : 5 + 2 ≤ _), (by decide : 21 + 24 ≤ _)⟩)
     dsimp only [Pt.U, Pt.locs, Pt.cells, Pt.slots] at X60 l60 y60 z60 st60 hQ60 hS60 hgr60
     subst l60 y60 z60
     have hS := foldS hS (by rw [e59]; exact hk) hS60 hgr60
     have hown : (s.setVm T60.vm).vm.findClass "com/example/tombsweep/tombsweep/io/RecordHeaderFitsInPinLaw" = some m.cls := by show T60.vm.findClass _ = _; rw [hS60.1.alike.findClass]; exact hown
     have hZ : Z.Warmed39 (s.setVm T60.vm).vm := State.Warmed39.trans hZ hS60.1
     have X60 : Stand p l e room_1 (s.setVm T60.vm) m #[(.int p0), (.int p1), (.long q2), (.long q3), (.int p4)] below meth c T60 _ _ _ := X60
     obtain ⟨rfl, Nq60, K60, P60_E, P60_F⟩ := hQ60
     have N60 := Fr.app N58 Nq60
     have O := O.keep K60 (allS g_b59 all0)
     have K := K.trans K60 (allS (Or.inr sz_b59) all0)
     have E_b50 := E_b50.keep K60
     have V_b51 := V_b51.keep K60 (ninS ne_b51_b59 nin0)
     have E_56 := E_56.keep K60
     have Fv_56 := Fv_56.keep K60 (ninS ne_b50_b59 nin0)
     have Fc_56 := Fc_56.keep K60 (ninS ne_b50_b59 nin0)
     have V_56 := V_56.keep K60 (ninS ne_tb_56_b59 nin0)
     have E_b57 := E_b57.keep K60
     have F_kind_b57 := F_kind_b57.keep K60 (ninS ne_b57_b59 nin0)
     have F_key_b57 := F_key_b57.keep K60 (ninS ne_b57_b59 nin0)
     have F_metadataLength_b57 := F_metadataLength_b57.keep K60 (ninS ne_b57_b59 nin0)
     have F_sequence_b57 := F_sequence_b57.keep K60 (ninS ne_b57_b59 nin0)
     have F_time_b57 := F_time_b57.keep K60 (ninS ne_b57_b59 nin0)
     have F_contentLength_b57 := F_contentLength_b57.keep K60 (ninS ne_b57_b59 nin0)
     have F_contentCheck_b57 := F_contentCheck_b57.keep K60 (ninS ne_b57_b59 nin0)
     have F_metadataCheck_b57 := F_metadataCheck_b57.keep K60 (ninS ne_b57_b59 nin0)
     have E_b59 := E_b59.keep K60
     have E_60 := P60_E
     have F_60 := P60_F
     have hk : T60.heap.size ≤ (T60.heap).size := Nat.le_refl _
     refine Go.step (fun t k => st60.trans k) ?_
     refine Go.step (S' := T60.setTop (mkF m 271 #[iv p0, iv p1, lv q2, .second, lv q3, .second, iv p4, iv (4 : Int32), iv r_1, iv r_2, iv r_3, iv r_4, rv b50, iv mt, lv off, .second, lv rr, .second, lv ct, .second, sA, sB] [(.int p1), (.int p0), (.long ct), (.long q2), (.long q3), (.int mt), (.ref b59), (.ref b_58), (.ref b57), (.ref b57)])) (fun t k => ?_) ?_
     · refine XS.iload X60.here hx rfl (hb hby at_262) rfl ?_
       refine XS.lload X60.here hx rfl (hb hby at_264) rfl ?_
       refine XS.lloadN X60.here hx rfl (hb hby at_266) rfl ?_
       refine XS.lload X60.here hx rfl (hb hby at_267) rfl ?_
       refine XS.iloadN X60.here hx rfl (hb hby at_269) rfl ?_
       refine XS.iloadN X60.here hx rfl (hb hby at_270) rfl ?_
       exact k
     obtain ⟨_, _, ⟨T61, L61, k61, n61⟩, -, X61, ⟨Lc61, hQ61, l61, y61, z61⟩, st61⟩ := X60.specialBack hx (y := y_20) rfl hown (mvT hZ (own_w hw 107 rfl)) (mvT hZ (own_w hw 108 rfl)) (mvT hZ (own_w hw 109 rfl)) (by decide) (backOf (W := 1) (rmRH l Z a0 hw [] b57 b_58 b59 mt q3 q2 ct p0 p1 T60.heap n0 O E_b57 F_kind_b57 F_key_b57 F_metadataLength_b57 F_sequence_b57 F_time_b57 F_contentLength_b57 F_contentCheck_b57 F_metadataCheck_b57 (by assumption)) hZ (own_w hw 109 rfl) (own_w hw 39 rfl) (by decide) (by decide)) (g := (mkF m 271 #[iv p0, iv p1, lv q2, .second, lv q3, .second, iv p4, iv (4 : Int32), iv r_1, iv r_2, iv r_3, iv r_4, rv b50, iv mt, lv off, .second, lv rr, .second, lv ct, .second, sA, sB] [(.int p1), (.int p0), (.long ct), (.long q2), (.long q3), (.int mt), (.ref b59), (.ref b_58), (.ref b57), (.ref b57)])) rfl (by rw [hml]; rfl) (Steps.refl _) (a := b57) (argsL := [(.ref b_58), (.ref b59), (.int mt), (.long q3), (.long q2), (.long ct), (.int p0), (.int p1)]) (rest := [(.ref b57)]) (lenOf pd__28Lcom_2fexample_2ftombsweep_2ftombsweep_2fio_2fRecordHeader_24Kind_3bLcom_2fexample_2ftombsweep_2ftombsweep_2fmodel_2fBlobKey_3bIJJJII_29V rfl) rfl (Nat.le_of_eq rfl) (hb hby at_271) (fun _ _ => ⟨rfl, (Eq.refl T60.heap), (by decide : 7 + 0 ≤ _), (by decide : 45 + 0 ≤ _)⟩)
     dsimp only [Pt.U, Pt.locs, Pt.cells, Pt.slots] at X61 l61 y61 z61 st61 hQ61
     subst l61 y61 z61
     obtain ⟨rfl, Nq61, K61, P61_E, P61_Fkey, P61_FmetadataLength, P61_FcontentLength⟩ := hQ61
     have N61 := Fr.app N60 Nq61
     have O := O.keep K61 (allS g_b57 all0)
     have K := K.trans K61 (allS (Or.inr sz_b57) all0)
     have E_b50 := E_b50.keep K61
     have V_b51 := V_b51.keep K61 (ninS ne_b51_b57 nin0)
     have E_56 := E_56.keep K61
     have Fv_56 := Fv_56.keep K61 (ninS ne_b50_b57 nin0)
     have Fc_56 := Fc_56.keep K61 (ninS ne_b50_b57 nin0)
     have V_56 := V_56.keep K61 (ninS ne_tb_56_b57 nin0)
     have E_b57 := E_b57.keep K61
     have E_b59 := E_b59.keep K61
     have E_60 := E_60.keep K61
     have F_60 := F_60.keep K61 (ninS (Ne.symm ne_b57_b59) nin0)
     have hk := Nat.le_trans hk K61.1
     have E_61 := P61_E
     have Fkey_61 := P61_Fkey
     have FmetadataLength_61 := P61_FmetadataLength
     have FcontentLength_61 := P61_FcontentLength
     refine Go.step (fun t k => st61.trans k) ?_
     have hst : storeLocals #[iv p0, iv p1, lv q2, .second, lv q3, .second, iv p4, iv (4 : Int32), iv r_1, iv r_2, iv r_3, iv r_4, rv b50, iv mt, lv off, .second, lv rr, .second, lv ct, .second, sA, sB] 20 (.ref b57) = some #[iv p0, iv p1, lv q2, .second, lv q3, .second, iv p4, iv (4 : Int32), iv r_1, iv r_2, iv r_3, iv r_4, rv b50, iv mt, lv off, .second, lv rr, .second, lv ct, .second, rv b57, u_] := by rcases hAB with ⟨rfl, rfl⟩ | ⟨dl, rfl, rfl⟩ <;> rfl
     refine Go.step (S' := T61.setTop (mkF m 276 #[iv p0, iv p1, lv q2, .second, lv q3, .second, iv p4, iv (4 : Int32), iv r_1, iv r_2, iv r_3, iv r_4, rv b50, iv mt, lv off, .second, lv rr, .second, lv ct, .second, rv b57, u_] [])) (fun t k => XS.astore X61.here hx rfl (hb hby at_274) rfl rfl (l' := #[iv p0, iv p1, lv q2, .second, lv q3, .second, iv p4, iv (4 : Int32), iv r_1, iv r_2, iv r_3, iv r_4, rv b50, iv mt, lv off, .second, lv rr, .second, lv ct, .second, rv b57, u_]) hst k) ?_
     refine Go.step (S' := T61.setTop (mkF m 281 #[iv p0, iv p1, lv q2, .second, lv q3, .second, iv p4, iv (4 : Int32), iv r_1, iv r_2, iv r_3, iv r_4, rv b50, iv mt, lv off, .second, lv rr, .second, lv ct, .second, rv b57, u_] [(.int (lcmpW ct rr))])) (fun t k => ?_) ?_
     · refine XS.lload X61.here hx rfl (hb hby at_276) rfl ?_
       refine XS.lload X61.here hx rfl (hb hby at_278) rfl ?_
       refine XS.lcmp X61.here hx rfl (hb hby at_280) rfl ?_
       exact k
     by_cases hc281 : rr < ct
     ·skip
      refine Go.step (S' := T61.setTop (mkF m 306 #[iv p0, iv p1, lv q2, .second, lv q3, .second, iv p4, iv (4 : Int32), iv r_1, iv r_2, iv r_3, iv r_4, rv b50, iv mt, lv off, .second, lv rr, .second, lv ct, .second, rv b57, iv (0 : Int32)] [(.long rr), (.ref b57)])) (fun t k => ?_) ?_
      · refine XS.ifYes X61.here hx rfl (pc0 := 281) (pc' := 299) rfl (hb hby at_281) rfl ((if0 _ _).trans (tlt ((lw_gt ct rr).mpr hc281)).2.2.1) (by decide) (by decide) ?_
        refine XS.iconst X61.here hx rfl (hb hby at_299) ?_
        refine XS.istore X61.here hx rfl (hb hby at_300) rfl (l' := #[iv p0, iv p1, lv q2, .second, lv q3, .second, iv p4, iv (4 : Int32), iv r_1, iv r_2, iv r_3, iv r_4, rv b50, iv mt, lv off, .second, lv rr, .second, lv ct, .second, rv b57, iv (0 : Int32)]) rfl ?_
        refine XS.aload X61.here hx rfl (hb hby at_302) rfl rfl ?_
        refine XS.lload X61.here hx rfl (hb hby at_304) rfl ?_
        exact k
      have hfit : (rr - ((44 : Int64) + (mt.toInt64))) < ct := by rw [hd_off]; exact own_fit0 bc br bo hc281
      obtain ⟨cq62, kq62, q62a, q62b, q62c⟩ := isOf hZ (Eq.refl T61.heap) E_b57
      obtain ⟨_, _, ⟨T62, L62, k62, n62⟩, -, X62, ⟨Lc62, hQ62, l62, y62, z62⟩, st62⟩ := X61.virtualBack hx (y := y_25) (z := y_25) hown (mvT hZ (own_w hw 127 rfl)) (mvT hZ (own_w hw 128 rfl)) (notFace_of_selects (args := #[]) (mvT hZ (own_w hw 130 rfl))) (mvT hZ (own_w hw 130 rfl)) (mvT hZ (own_w hw 129 rfl)) (by decide) (backOf (W := 0) (rmFit4N l Z a0 hw [] b57 rr b59 b50 tb_56 kb_56 r_1 r_2 r_3 r_4 cs mt ct T61.heap n0 O Fkey_61 E_b59 F_60 E_b50 Fv_56 Fc_56 V_56 S_CS E_b57 FmetadataLength_61 FcontentLength_61 hcs hfit) hZ (own_w hw 131 rfl) (own_w hw 39 rfl) (by decide) (by decide)) q62a q62c (g := (mkF m 306 #[iv p0, iv p1, lv q2, .second, lv q3, .second, iv p4, iv (4 : Int32), iv r_1, iv r_2, iv r_3, iv r_4, rv b50, iv mt, lv off, .second, lv rr, .second, lv ct, .second, rv b57, iv (0 : Int32)] [(.long rr), (.ref b57)])) rfl (by rw [hml]; rfl) (Steps.refl _) (argsL := [(.long rr)]) (rest := []) (lenOf pd__28J_29Z rfl) rfl (Nat.le_of_eq rfl) (hb hby at_306) (fun _ _ => ⟨rfl, (Eq.refl T61.heap), (by decide : 7 + 0 ≤ _), (by decide : 45 + 0 ≤ _)⟩)
      dsimp only [Pt.U, Pt.locs, Pt.cells, Pt.slots] at X62 l62 y62 z62 st62 hQ62
      subst l62 y62 z62
      obtain ⟨rfl, Nq62, e62⟩ := hQ62
      have N62 := Fr.app N61 Nq62
      refine Go.step (fun t k => st62.trans k) ?_
      refine Go.step (S' := T62.setTop (mkF m 319 #[iv p0, iv p1, lv q2, .second, lv q3, .second, iv p4, iv (4 : Int32), iv r_1, iv r_2, iv r_3, iv r_4, rv b50, iv mt, lv off, .second, lv rr, .second, lv ct, .second, rv b57, iv (0 : Int32)] [(.int (1 : Int32))])) (fun t k => ?_) ?_
      · refine XS.iload X62.here hx rfl (hb hby at_309) rfl ?_
        refine XS.icmpNo X62.here hx rfl (hb hby at_311) rfl (teq ((by decide) : (0 : Int32) = (0 : Int32))).2 ?_
        refine XS.iconst X62.here hx rfl (hb hby at_314) ?_
        refine XS.goto X62.here hx rfl (pc0 := 315) (pc' := 319) rfl (hb hby at_315) (by decide) (by decide) ?_
        exact k
      obtain ⟨fs, hr, hrun, hended, hR⟩ := X62.leaveW hS (by rw [e62]; exact hk) (v := some (.int (1 : Int32))) (fun h => by rw [Bd.returns] at h; cases h)
      refine Go.fin (S' := T62.setFrames fs) ?_ hrun hended ⟨_, _, rfl, ?_, hR.1, hR.2.1, hR.2.2.1, hR.2.2.2.mono (by decide) (by decide)⟩
      · exact retOut X62 hx Bd.returns (by decide) (Or.inl ⟨rfl, Or.inr (Or.inl rfl), _, rfl⟩) (hb hby at_319) hr
      · show Q_rm0 Z p0 p1 q2 q3 p4 w_PUT w_ERASED w_DELETE w_GONE w_UNFINISHED cs sf h0 n0 (some (.int (1 : Int32))) T62.heap _
        rw [e62]
        exact ⟨rfl, N62, K⟩
     ·skip
      refine Go.step (S' := T61.setTop (mkF m 292 #[iv p0, iv p1, lv q2, .second, lv q3, .second, iv p4, iv (4 : Int32), iv r_1, iv r_2, iv r_3, iv r_4, rv b50, iv mt, lv off, .second, lv rr, .second, lv ct, .second, rv b57, u_] [(.int (lcmpW (rr - ct) off))])) (fun t k => ?_) ?_
      · refine XS.ifNo X61.here hx rfl (hb hby at_281) rfl ((if0 _ _).trans (flt (fun zq => absurd ((lw_gt ct rr).mp zq) hc281)).2.2.1) ?_
        refine XS.lload X61.here hx rfl (hb hby at_284) rfl ?_
        refine XS.lload X61.here hx rfl (hb hby at_286) rfl ?_
        refine XS.lsub X61.here hx rfl (hb hby at_288) rfl ?_
        refine XS.lload X61.here hx rfl (hb hby at_289) rfl ?_
        refine XS.lcmp X61.here hx rfl (hb hby at_291) rfl ?_
        exact k
      by_cases hc292 : (rr - ct) < off
      ·skip
       refine Go.step (S' := T61.setTop (mkF m 306 #[iv p0, iv p1, lv q2, .second, lv q3, .second, iv p4, iv (4 : Int32), iv r_1, iv r_2, iv r_3, iv r_4, rv b50, iv mt, lv off, .second, lv rr, .second, lv ct, .second, rv b57, iv (0 : Int32)] [(.long rr), (.ref b57)])) (fun t k => ?_) ?_
       · refine XS.ifYes X61.here hx rfl (pc0 := 292) (pc' := 299) rfl (hb hby at_292) rfl ((if0 _ _).trans (tlt ((lw_lt (rr - ct) off).mpr hc292)).1) (by decide) (by decide) ?_
         refine XS.iconst X61.here hx rfl (hb hby at_299) ?_
         refine XS.istore X61.here hx rfl (hb hby at_300) rfl (l' := #[iv p0, iv p1, lv q2, .second, lv q3, .second, iv p4, iv (4 : Int32), iv r_1, iv r_2, iv r_3, iv r_4, rv b50, iv mt, lv off, .second, lv rr, .second, lv ct, .second, rv b57, iv (0 : Int32)]) rfl ?_
         refine XS.aload X61.here hx rfl (hb hby at_302) rfl rfl ?_
         refine XS.lload X61.here hx rfl (hb hby at_304) rfl ?_
         exact k
       have hfit : (rr - ((44 : Int64) + (mt.toInt64))) < ct := by rw [hd_off]; exact (own_fit bc br bo hc281).mpr hc292
       obtain ⟨cq63, kq63, q63a, q63b, q63c⟩ := isOf hZ (Eq.refl T61.heap) E_b57
       obtain ⟨_, _, ⟨T63, L63, k63, n63⟩, -, X63, ⟨Lc63, hQ63, l63, y63, z63⟩, st63⟩ := X61.virtualBack hx (y := y_25) (z := y_25) hown (mvT hZ (own_w hw 127 rfl)) (mvT hZ (own_w hw 128 rfl)) (notFace_of_selects (args := #[]) (mvT hZ (own_w hw 130 rfl))) (mvT hZ (own_w hw 130 rfl)) (mvT hZ (own_w hw 129 rfl)) (by decide) (backOf (W := 0) (rmFit4N l Z a0 hw [] b57 rr b59 b50 tb_56 kb_56 r_1 r_2 r_3 r_4 cs mt ct T61.heap n0 O Fkey_61 E_b59 F_60 E_b50 Fv_56 Fc_56 V_56 S_CS E_b57 FmetadataLength_61 FcontentLength_61 hcs hfit) hZ (own_w hw 131 rfl) (own_w hw 39 rfl) (by decide) (by decide)) q63a q63c (g := (mkF m 306 #[iv p0, iv p1, lv q2, .second, lv q3, .second, iv p4, iv (4 : Int32), iv r_1, iv r_2, iv r_3, iv r_4, rv b50, iv mt, lv off, .second, lv rr, .second, lv ct, .second, rv b57, iv (0 : Int32)] [(.long rr), (.ref b57)])) rfl (by rw [hml]; rfl) (Steps.refl _) (argsL := [(.long rr)]) (rest := []) (lenOf pd__28J_29Z rfl) rfl (Nat.le_of_eq rfl) (hb hby at_306) (fun _ _ => ⟨rfl, (Eq.refl T61.heap), (by decide : 7 + 0 ≤ _), (by decide : 45 + 0 ≤ _)⟩)
       dsimp only [Pt.U, Pt.locs, Pt.cells, Pt.slots] at X63 l63 y63 z63 st63 hQ63
       subst l63 y63 z63
       obtain ⟨rfl, Nq63, e63⟩ := hQ63
       have N63 := Fr.app N61 Nq63
       refine Go.step (fun t k => st63.trans k) ?_
       refine Go.step (S' := T63.setTop (mkF m 319 #[iv p0, iv p1, lv q2, .second, lv q3, .second, iv p4, iv (4 : Int32), iv r_1, iv r_2, iv r_3, iv r_4, rv b50, iv mt, lv off, .second, lv rr, .second, lv ct, .second, rv b57, iv (0 : Int32)] [(.int (1 : Int32))])) (fun t k => ?_) ?_
       · refine XS.iload X63.here hx rfl (hb hby at_309) rfl ?_
         refine XS.icmpNo X63.here hx rfl (hb hby at_311) rfl (teq ((by decide) : (0 : Int32) = (0 : Int32))).2 ?_
         refine XS.iconst X63.here hx rfl (hb hby at_314) ?_
         refine XS.goto X63.here hx rfl (pc0 := 315) (pc' := 319) rfl (hb hby at_315) (by decide) (by decide) ?_
         exact k
       obtain ⟨fs, hr, hrun, hended, hR⟩ := X63.leaveW hS (by rw [e63]; exact hk) (v := some (.int (1 : Int32))) (fun h => by rw [Bd.returns] at h; cases h)
       refine Go.fin (S' := T63.setFrames fs) ?_ hrun hended ⟨_, _, rfl, ?_, hR.1, hR.2.1, hR.2.2.1, hR.2.2.2.mono (by decide) (by decide)⟩
       · exact retOut X63 hx Bd.returns (by decide) (Or.inl ⟨rfl, Or.inr (Or.inl rfl), _, rfl⟩) (hb hby at_319) hr
       · show Q_rm0 Z p0 p1 q2 q3 p4 w_PUT w_ERASED w_DELETE w_GONE w_UNFINISHED cs sf h0 n0 (some (.int (1 : Int32))) T63.heap _
         rw [e63]
         exact ⟨rfl, N63, K⟩
      ·skip
       refine Go.step (S' := T61.setTop (mkF m 306 #[iv p0, iv p1, lv q2, .second, lv q3, .second, iv p4, iv (4 : Int32), iv r_1, iv r_2, iv r_3, iv r_4, rv b50, iv mt, lv off, .second, lv rr, .second, lv ct, .second, rv b57, iv (1 : Int32)] [(.long rr), (.ref b57)])) (fun t k => ?_) ?_
       · refine XS.ifNo X61.here hx rfl (hb hby at_292) rfl ((if0 _ _).trans (flt (fun zq => absurd ((lw_lt (rr - ct) off).mp zq) hc292)).1) ?_
         refine XS.iconst X61.here hx rfl (hb hby at_295) ?_
         refine XS.goto X61.here hx rfl (pc0 := 296) (pc' := 300) rfl (hb hby at_296) (by decide) (by decide) ?_
         refine XS.istore X61.here hx rfl (hb hby at_300) rfl (l' := #[iv p0, iv p1, lv q2, .second, lv q3, .second, iv p4, iv (4 : Int32), iv r_1, iv r_2, iv r_3, iv r_4, rv b50, iv mt, lv off, .second, lv rr, .second, lv ct, .second, rv b57, iv (1 : Int32)]) rfl ?_
         refine XS.aload X61.here hx rfl (hb hby at_302) rfl rfl ?_
         refine XS.lload X61.here hx rfl (hb hby at_304) rfl ?_
         exact k
       have hfit : ¬ ((rr - ((44 : Int64) + (mt.toInt64))) < ct) := by rw [hd_off]; exact fun q => hc292 ((own_fit bc br bo hc281).mp q)
       obtain ⟨cq64, kq64, q64a, q64b, q64c⟩ := isOf hZ (Eq.refl T61.heap) E_b57
       obtain ⟨_, _, ⟨T64, L64, k64, n64⟩, -, X64, ⟨Lc64, hQ64, l64, y64, z64⟩, st64⟩ := X61.virtualBack hx (y := y_25) (z := y_25) hown (mvT hZ (own_w hw 127 rfl)) (mvT hZ (own_w hw 128 rfl)) (notFace_of_selects (args := #[]) (mvT hZ (own_w hw 130 rfl))) (mvT hZ (own_w hw 130 rfl)) (mvT hZ (own_w hw 129 rfl)) (by decide) (backOf (W := 0) (rmFit4Y l Z a0 hw [] b57 rr b59 b50 tb_56 kb_56 r_1 r_2 r_3 r_4 cs mt ct T61.heap n0 O Fkey_61 E_b59 F_60 E_b50 Fv_56 Fc_56 V_56 S_CS E_b57 FmetadataLength_61 FcontentLength_61 hcs hfit) hZ (own_w hw 131 rfl) (own_w hw 39 rfl) (by decide) (by decide)) q64a q64c (g := (mkF m 306 #[iv p0, iv p1, lv q2, .second, lv q3, .second, iv p4, iv (4 : Int32), iv r_1, iv r_2, iv r_3, iv r_4, rv b50, iv mt, lv off, .second, lv rr, .second, lv ct, .second, rv b57, iv (1 : Int32)] [(.long rr), (.ref b57)])) rfl (by rw [hml]; rfl) (Steps.refl _) (argsL := [(.long rr)]) (rest := []) (lenOf pd__28J_29Z rfl) rfl (Nat.le_of_eq rfl) (hb hby at_306) (fun _ _ => ⟨rfl, (Eq.refl T61.heap), (by decide : 7 + 0 ≤ _), (by decide : 45 + 0 ≤ _)⟩)
       dsimp only [Pt.U, Pt.locs, Pt.cells, Pt.slots] at X64 l64 y64 z64 st64 hQ64
       subst l64 y64 z64
       obtain ⟨rfl, Nq64, e64⟩ := hQ64
       have N64 := Fr.app N61 Nq64
       refine Go.step (fun t k => st64.trans k) ?_
       refine Go.step (S' := T64.setTop (mkF m 319 #[iv p0, iv p1, lv q2, .second, lv q3, .second, iv p4, iv (4 : Int32), iv r_1, iv r_2, iv r_3, iv r_4, rv b50, iv mt, lv off, .second, lv rr, .second, lv ct, .second, rv b57, iv (1 : Int32)] [(.int (1 : Int32))])) (fun t k => ?_) ?_
       · refine XS.iload X64.here hx rfl (hb hby at_309) rfl ?_
         refine XS.icmpNo X64.here hx rfl (hb hby at_311) rfl (teq ((by decide) : (1 : Int32) = (1 : Int32))).2 ?_
         refine XS.iconst X64.here hx rfl (hb hby at_314) ?_
         refine XS.goto X64.here hx rfl (pc0 := 315) (pc' := 319) rfl (hb hby at_315) (by decide) (by decide) ?_
         exact k
       obtain ⟨fs, hr, hrun, hended, hR⟩ := X64.leaveW hS (by rw [e64]; exact hk) (v := some (.int (1 : Int32))) (fun h => by rw [Bd.returns] at h; cases h)
       refine Go.fin (S' := T64.setFrames fs) ?_ hrun hended ⟨_, _, rfl, ?_, hR.1, hR.2.1, hR.2.2.1, hR.2.2.2.mono (by decide) (by decide)⟩
       · exact retOut X64 hx Bd.returns (by decide) (Or.inl ⟨rfl, Or.inr (Or.inl rfl), _, rfl⟩) (hb hby at_319) hr
       · show Q_rm0 Z p0 p1 q2 q3 p4 w_PUT w_ERASED w_DELETE w_GONE w_UNFINISHED cs sf h0 n0 (some (.int (1 : Int32))) T64.heap _
         rw [e64]
         exact ⟨rfl, N64, K⟩
    refine Go.step (S' := T56.setTop (mkF m 202 #[iv p0, iv p1, lv q2, .second, lv q3, .second, iv p4, iv (4 : Int32), iv r_1, iv r_2, iv r_3, iv r_4, rv b50, iv mt, lv off, .second, lv rr, .second, u_, u_, u_, u_] [(.int (p4 &&& (1 : Int32)))])) (fun t k => ?_) ?_
    · refine XS.iload X56.here hx rfl (hb hby at_198) rfl ?_
      refine XS.iconst X56.here hx rfl (hb hby at_200) ?_
      refine XS.iand X56.here hx rfl (hb hby at_201) rfl ?_
      exact k
    by_cases hc202 : (p4 &&& (1 : Int32)) = (0 : Int32)
    ·skip
     refine Go.step (S' := T56.setTop (mkF m 212 #[iv p0, iv p1, lv q2, .second, lv q3, .second, iv p4, iv (4 : Int32), iv r_1, iv r_2, iv r_3, iv r_4, rv b50, iv mt, lv off, .second, lv rr, .second, lv (q2 &&& (9223372036854775807 : Int64)), .second, u_, u_] [])) (fun t k => ?_) ?_
     · refine XS.ifNo X56.here hx rfl (hb hby at_202) rfl ((if0 _ _).trans (teq (hc202 : (p4 &&& (1 : Int32)) = (0 : Int32))).2) ?_
       refine XS.lloadN X56.here hx rfl (hb hby at_205) rfl ?_
       refine X56.ldc2Long hx hown (mvT hZ (own_w hw 36 rfl)) (g := (mkF m 206 #[iv p0, iv p1, lv q2, .second, lv q3, .second, iv p4, iv (4 : Int32), iv r_1, iv r_2, iv r_3, iv r_4, rv b50, iv mt, lv off, .second, lv rr, .second, u_, u_, u_, u_] [(.long q2)])) rfl (hb hby at_206) _ ?_
       refine XS.land X56.here hx rfl (hb hby at_209) rfl ?_
       refine XS.lstore X56.here hx rfl (hb hby at_210) rfl (l' := #[iv p0, iv p1, lv q2, .second, lv q3, .second, iv p4, iv (4 : Int32), iv r_1, iv r_2, iv r_3, iv r_4, rv b50, iv mt, lv off, .second, lv rr, .second, lv (q2 &&& (9223372036854775807 : Int64)), .second, u_, u_]) rfl ?_
       exact k
     obtain ⟨ct, hd_ct⟩ : ∃ z : Int64, (q2 &&& (9223372036854775807 : Int64)) = z := ⟨_, rfl⟩
     rw [hd_ct]
     show Go p e below _ (T56.setTop (mkF m 212 #[iv p0, iv p1, lv q2, .second, lv q3, .second, iv p4, iv (4 : Int32), iv r_1, iv r_2, iv r_3, iv r_4, rv b50, iv mt, lv off, .second, lv rr, .second, lv ct, .second, u_, u_] []))
     refine Go.step (S' := T56.setTop (mkF m 242 #[iv p0, iv p1, lv q2, .second, lv q3, .second, iv p4, iv (4 : Int32), iv r_1, iv r_2, iv r_3, iv r_4, rv b50, iv mt, lv off, .second, lv rr, .second, lv ct, .second, u_, u_] [])) (fun t k => ?_) ?_
     · refine XS.goto X56.here hx rfl (pc0 := 212) (pc' := 242) rfl (hb hby at_212) (by decide) (by decide) ?_
       exact k
     exact tail _ _ X56 (Eq.refl T56.heap) N56 _ _ _ (Or.inl ⟨rfl, rfl⟩) (own_pos hd_ct)
    ·skip
     refine Go.step (S' := T56.setTop (mkF m 228 #[iv p0, iv p1, lv q2, .second, lv q3, .second, iv p4, iv (4 : Int32), iv r_1, iv r_2, iv r_3, iv r_4, rv b50, iv mt, lv off, .second, lv rr, .second, u_, u_, lv (((q2 &&& (9223372036854775807 : Int64)) - ((q2 &&& (9223372036854775807 : Int64)) / (3 : Int64)) * (3 : Int64)) - (1 : Int64)), .second] [])) (fun t k => ?_) ?_
     · refine XS.ifYes X56.here hx rfl (pc0 := 202) (pc' := 215) rfl (hb hby at_202) rfl ((if0 _ _).trans (feq (hc202 : ¬ ((p4 &&& (1 : Int32)) = (0 : Int32)))).2) (by decide) (by decide) ?_
       refine XS.lloadN X56.here hx rfl (hb hby at_215) rfl ?_
       refine X56.ldc2Long hx hown (mvT hZ (own_w hw 36 rfl)) (g := (mkF m 216 #[iv p0, iv p1, lv q2, .second, lv q3, .second, iv p4, iv (4 : Int32), iv r_1, iv r_2, iv r_3, iv r_4, rv b50, iv mt, lv off, .second, lv rr, .second, u_, u_, u_, u_] [(.long q2)])) rfl (hb hby at_216) _ ?_
       refine XS.land X56.here hx rfl (hb hby at_219) rfl ?_
       refine X56.ldc2Long hx hown (mvT hZ (own_w hw 154 rfl)) (g := (mkF m 220 #[iv p0, iv p1, lv q2, .second, lv q3, .second, iv p4, iv (4 : Int32), iv r_1, iv r_2, iv r_3, iv r_4, rv b50, iv mt, lv off, .second, lv rr, .second, u_, u_, u_, u_] [(.long (q2 &&& (9223372036854775807 : Int64)))])) rfl (hb hby at_220) _ ?_
       refine XS.lrem X56.here hx rfl (hb hby at_223) rfl (by decide) ?_
       show Steps p.tables e below (T56.setTop (mkF m 224 #[iv p0, iv p1, lv q2, .second, lv q3, .second, iv p4, iv (4 : Int32), iv r_1, iv r_2, iv r_3, iv r_4, rv b50, iv mt, lv off, .second, lv rr, .second, u_, u_, u_, u_] [(.long ((q2 &&& (9223372036854775807 : Int64)) - ((q2 &&& (9223372036854775807 : Int64)) / (3 : Int64)) * (3 : Int64)))])) _
       refine XS.lconst X56.here hx rfl (hb hby at_224) ?_
       refine XS.lsub X56.here hx rfl (hb hby at_225) rfl ?_
       refine XS.lstore X56.here hx rfl (hb hby at_226) rfl (l' := #[iv p0, iv p1, lv q2, .second, lv q3, .second, iv p4, iv (4 : Int32), iv r_1, iv r_2, iv r_3, iv r_4, rv b50, iv mt, lv off, .second, lv rr, .second, u_, u_, lv (((q2 &&& (9223372036854775807 : Int64)) - ((q2 &&& (9223372036854775807 : Int64)) / (3 : Int64)) * (3 : Int64)) - (1 : Int64)), .second]) rfl ?_
       exact k
     obtain ⟨dl_, hd_dl_⟩ : ∃ z : Int64, (((q2 &&& (9223372036854775807 : Int64)) - ((q2 &&& (9223372036854775807 : Int64)) / (3 : Int64)) * (3 : Int64)) - (1 : Int64)) = z := ⟨_, rfl⟩
     rw [hd_dl_]
     show Go p e below _ (T56.setTop (mkF m 228 #[iv p0, iv p1, lv q2, .second, lv q3, .second, iv p4, iv (4 : Int32), iv r_1, iv r_2, iv r_3, iv r_4, rv b50, iv mt, lv off, .second, lv rr, .second, u_, u_, lv dl_, .second] []))
     refine Go.step (S' := T56.setTop (mkF m 237 #[iv p0, iv p1, lv q2, .second, lv q3, .second, iv p4, iv (4 : Int32), iv r_1, iv r_2, iv r_3, iv r_4, rv b50, iv mt, lv off, .second, lv rr, .second, u_, u_, lv dl_, .second] [(.long ((rr - off) + dl_)), (.long (0 : Int64))])) (fun t k => ?_) ?_
     · refine XS.lconst X56.here hx rfl (hb hby at_228) ?_
       refine XS.lload X56.here hx rfl (hb hby at_229) rfl ?_
       refine XS.lload X56.here hx rfl (hb hby at_231) rfl ?_
       refine XS.lsub X56.here hx rfl (hb hby at_233) rfl ?_
       refine XS.lload X56.here hx rfl (hb hby at_234) rfl ?_
       refine XS.ladd X56.here hx rfl (hb hby at_236) rfl ?_
       exact k
     by_cases hmx : (0 : Int64) < ((rr - off) + dl_)
     ·skip
      obtain ⟨_, _, ⟨T65, L65, k65, n65⟩, -, X65, ⟨Lc65, hQ65, l65, y65, z65⟩, st65⟩ := Jvm.LawKit.callS X56 hx (y := y_15) hown (mvT hZ (own_w hw 155 rfl)) (mvT hZ (own_w hw 156 rfl)) (mvT hZ (own_w hw 157 rfl)) (mvT hZ (own_w hw 158 rfl)) (by decide) (backOf (W := 0) (rmMaxB l Z a0 hw [] (0 : Int64) ((rr - off) + dl_) T56.heap n0 O hmx) hZ (own_w hw 158 rfl) (own_w hw 157 rfl) (by decide) (by decide)) (g := (mkF m 237 #[iv p0, iv p1, lv q2, .second, lv q3, .second, iv p4, iv (4 : Int32), iv r_1, iv r_2, iv r_3, iv r_4, rv b50, iv mt, lv off, .second, lv rr, .second, u_, u_, lv dl_, .second] [(.long ((rr - off) + dl_)), (.long (0 : Int64))])) rfl (by rw [hml]; rfl) (argsL := [(.long (0 : Int64)), (.long ((rr - off) + dl_))]) (rest := []) (lenOf pd__28JJ_29J rfl) rfl (Nat.le_of_eq rfl) (hb hby at_237) (fun _ _ => ⟨rfl, (Eq.refl T56.heap), (by decide : 3 + 0 ≤ _), (by decide : 12 + 0 ≤ _)⟩)
      dsimp only [Pt.U, Pt.locs, Pt.cells, Pt.slots] at X65 l65 y65 z65 st65 hQ65
      subst l65 y65 z65
      obtain ⟨rfl, Nq65, e65⟩ := hQ65
      have N65 := Fr.app N56 Nq65
      refine Go.step st65 ?_
      refine Go.step (S' := T65.setTop (mkF m 242 #[iv p0, iv p1, lv q2, .second, lv q3, .second, iv p4, iv (4 : Int32), iv r_1, iv r_2, iv r_3, iv r_4, rv b50, iv mt, lv off, .second, lv rr, .second, lv ((rr - off) + dl_), .second, lv dl_, .second] [])) (fun t k => ?_) ?_
      · refine XS.lstore X65.here hx rfl (hb hby at_240) rfl (l' := #[iv p0, iv p1, lv q2, .second, lv q3, .second, iv p4, iv (4 : Int32), iv r_1, iv r_2, iv r_3, iv r_4, rv b50, iv mt, lv off, .second, lv rr, .second, lv ((rr - off) + dl_), .second, lv dl_, .second]) rfl ?_
        exact k
      exact tail _ _ X65 e65 N65 _ _ _ (Or.inr ⟨_, rfl, rfl⟩) (own_nn hmx)
     ·skip
      obtain ⟨_, _, ⟨T66, L66, k66, n66⟩, -, X66, ⟨Lc66, hQ66, l66, y66, z66⟩, st66⟩ := Jvm.LawKit.callS X56 hx (y := y_15) hown (mvT hZ (own_w hw 155 rfl)) (mvT hZ (own_w hw 156 rfl)) (mvT hZ (own_w hw 157 rfl)) (mvT hZ (own_w hw 158 rfl)) (by decide) (backOf (W := 0) (rmMaxA l Z a0 hw [] (0 : Int64) ((rr - off) + dl_) T56.heap n0 O hmx) hZ (own_w hw 158 rfl) (own_w hw 157 rfl) (by decide) (by decide)) (g := (mkF m 237 #[iv p0, iv p1, lv q2, .second, lv q3, .second, iv p4, iv (4 : Int32), iv r_1, iv r_2, iv r_3, iv r_4, rv b50, iv mt, lv off, .second, lv rr, .second, u_, u_, lv dl_, .second] [(.long ((rr - off) + dl_)), (.long (0 : Int64))])) rfl (by rw [hml]; rfl) (argsL := [(.long (0 : Int64)), (.long ((rr - off) + dl_))]) (rest := []) (lenOf pd__28JJ_29J rfl) rfl (Nat.le_of_eq rfl) (hb hby at_237) (fun _ _ => ⟨rfl, (Eq.refl T56.heap), (by decide : 3 + 0 ≤ _), (by decide : 12 + 0 ≤ _)⟩)
      dsimp only [Pt.U, Pt.locs, Pt.cells, Pt.slots] at X66 l66 y66 z66 st66 hQ66
      subst l66 y66 z66
      obtain ⟨rfl, Nq66, e66⟩ := hQ66
      have N66 := Fr.app N56 Nq66
      refine Go.step st66 ?_
      refine Go.step (S' := T66.setTop (mkF m 242 #[iv p0, iv p1, lv q2, .second, lv q3, .second, iv p4, iv (4 : Int32), iv r_1, iv r_2, iv r_3, iv r_4, rv b50, iv mt, lv off, .second, lv rr, .second, lv (0 : Int64), .second, lv dl_, .second] [])) (fun t k => ?_) ?_
      · refine XS.lstore X66.here hx rfl (hb hby at_240) rfl (l' := #[iv p0, iv p1, lv q2, .second, lv q3, .second, iv p4, iv (4 : Int32), iv r_1, iv r_2, iv r_3, iv r_4, rv b50, iv mt, lv off, .second, lv rr, .second, lv (0 : Int64), .second, lv dl_, .second]) rfl ?_
        exact k
      exact tail _ _ X66 e66 N66 _ _ _ (Or.inr ⟨_, rfl, rfl⟩) (by decide)
set_option maxRecDepth 65536 in
set_option maxHeartbeats 4000000 in
theorem comes_1 {Post : Tables → Env → Array Value → State → Outcome → State → Prop} (hpost : ∀ tb e args s v u, (limb_1_1.after args s (.returned v) u = true ∧ limb_1_2.after args s (.returned v) u = true ∧ True) → ReturnedEndW s (.returned v) u (Jvm.fieldLocs frame_1_writes args s ++ Jvm.arrayLocs frame_1_arrays args s ++ Jvm.staticLocs frame_1_statics s) 24 1152 → Post tb e args s (.returned v) u) :
    ArmFor flags0 classFile x code maxLocals ret World_1 tables_1 room_1 Calls_1 rest_1 Pre_1 Post := by
  intro l hfl _ _ p e ha hc hk s m args below hf hA hF happ hP
  obtain ⟨hcalls, hrest, hpre⟩ := hP
  obtain ⟨-, -, -, hnamed, -, -, -, hat⟩ := (Spec.applies_iff hf).mp happ
  obtain ⟨hg, hn⟩ := and_e (Cond.before_iff.mp (show (Jvm.Cond.and given_1 narrow_1).before args s = true from hpre))
  obtain ⟨hgl, hgr⟩ := and_e hg
  obtain ⟨hgrl, hgrr⟩ := and_e hgr
  obtain ⟨hgrrl, hgrrr⟩ := and_e hgrr
  obtain ⟨hgrrrl, hgrrrr⟩ := and_e hgrrr
  obtain ⟨hgrrrrl, hgrrrrr⟩ := and_e hgrrrr
  obtain ⟨w0, w1, w2, w3, w4, rfl⟩ : ∃ w0 w1 w2 w3 w4 : Value, args = #[w0, w1, w2, w3, w4] := by
    have hs : args.size = 5 := by simpa [Cond.value, given_1] using hgl
    obtain ⟨L⟩ := args
    match L, hs with
    | [w0, w1, w2, w3, w4], _ => exact ⟨w0, w1, w2, w3, w4, rfl⟩
  have hw := fun d (hd : d ∈ tables_1) => atoms_spec (ws := Jvm.Cond.code x code maxLocals ret :: tables_1) hat d (List.mem_cons_of_mem _ hd)
  have hfit : Fit s := fun {y c} hc i hi => by
    obtain ⟨ha, rfl⟩ := Array.getElem?_eq_some_iff.mp hc
    have q := List.all_eq_true.mp ((Array.all_eq_true_iff_forall_mem.mp hF) _ (Array.getElem_mem ha)) i (List.mem_range.mpr hi)
    simpa [Array.getElem?_eq_getElem hi] using q
  obtain ⟨hsets, hown0⟩ := atoms_of _ (rest_1_c_eq ▸ (show rest_1_c.before _ s = true from hrest))
  obtain ⟨i0, ei0⟩ := is_v hgrl
  obtain rfl : w0 = (.int i0) := Option.some.inj ei0
  obtain ⟨i1, ei1⟩ := is_v hgrrl
  obtain rfl : w1 = (.int i1) := Option.some.inj ei1
  obtain ⟨i2, ei2⟩ := isL_v hgrrrl
  obtain rfl : w2 = (.long i2) := Option.some.inj ei2
  obtain ⟨i3, ei3⟩ := isL_v hgrrrrl
  obtain rfl : w3 = (.long i3) := Option.some.inj ei3
  obtain ⟨i4, ei4⟩ := is_v hgrrrrr
  obtain rfl : w4 = (.int i4) := Option.some.inj ei4
  obtain ⟨hna, hnb⟩ := and_e hn
  obtain ⟨w_ERASED, ev_ERASED⟩ := exa_v hna
  have E_ERASED := Exa.start ev_ERASED hna
  have S_ERASED := Sta.start ev_ERASED (Or.inr ⟨(own_w hw 44 rfl), (own_w hw 45 rfl)⟩)
  obtain ⟨hnba, hnbb⟩ := and_e hnb
  obtain ⟨w_PUT, ev_PUT⟩ := exa_v hnba
  have E_PUT := Exa.start ev_PUT hnba
  have S_PUT := Sta.start ev_PUT (Or.inr ⟨(own_w hw 44 rfl), (own_w hw 153 rfl)⟩)
  obtain ⟨hnbba, hnbbb⟩ := and_e hnbb
  obtain ⟨w_UNFINISHED, ev_UNFINISHED⟩ := exa_v hnbba
  have E_UNFINISHED := Exa.start ev_UNFINISHED hnbba
  have S_UNFINISHED := Sta.start ev_UNFINISHED (Or.inr ⟨(own_w hw 44 rfl), (own_w hw 160 rfl)⟩)
  obtain ⟨hnbbba, hnbbbb⟩ := and_e hnbbb
  obtain ⟨w_DELETE, ev_DELETE⟩ := exa_v hnbbba
  have E_DELETE := Exa.start ev_DELETE hnbbba
  have S_DELETE := Sta.start ev_DELETE (Or.inr ⟨(own_w hw 44 rfl), (own_w hw 162 rfl)⟩)
  obtain ⟨w_GONE, ev_GONE⟩ := exa_v hnbbbb
  have E_GONE := Exa.start ev_GONE hnbbbb
  have S_GONE := Sta.start ev_GONE (Or.inr ⟨(own_w hw 44 rfl), (own_w hw 164 rfl)⟩)
  obtain ⟨cs, evCS⟩ := is_v (Cond.before_iff.mp (hsets _ (List.mem_of_getElem? (i := 1) rfl)))
  have S_CS := Sta.start evCS (Or.inl (hsets _ (List.mem_of_getElem? (i := 0) rfl)))
  have hcs : ¬ (cs = (0 : Int32)) := fun q => by have := not_v (Cond.before_iff.mp (hsets _ (List.mem_of_getElem? (i := 2) rfl))); rw [eq_i evCS (Term.int_eval 0) (by rw [q])] at this; cases this
  obtain ⟨sf, evFM, hsf⟩ := isR_v (Cond.before_iff.mp (hsets _ (List.mem_of_getElem? (i := 8) rfl)))
  have S_FM := Sta.start evFM (Or.inl (hsets _ (List.mem_of_getElem? (i := 7) rfl)))
  obtain ⟨n, o, h1, h2, h3, _, L, rfl, ⟨rfl, N, -⟩, hq⟩ := rm0 l s _ hw tables_1 i0 i1 i2 i3 i4 w_PUT w_ERASED w_DELETE w_GONE w_UNFINISHED cs sf s.heap s.heap.size (Old.start s) S_PUT S_ERASED S_DELETE S_GONE S_UNFINISHED S_CS S_FM hcs hsf p e ha hc hk s m _ below hf ((Spec.applies_iff_loose hf).mp happ).1 ⟨rfl, State.Warmed39.refl s, rfl⟩ trivial
  refine ⟨n, _, h1, h2, h3, hpost _ _ _ _ _ _ ⟨Cond.after_iff.mpr rfl, Cond.after_iff.mpr (eq_i res_at (Term.int_eval (1)) rfl), trivial⟩ ⟨hq.1, hq.2.1, hq.2.2.1, (hq.2.2.2.sift fun y hy => Or.inr (N y hy)).mono (by decide) (by decide)⟩⟩
theorem main_1_1 : Claimed_1_1 := comes_1 fun _ _ _ _ _ _ h hF => ⟨h.1, hF⟩
theorem main_1_2 : Claimed_1_2 := comes_1 fun _ _ _ _ _ _ h hF => ⟨h.2.1, hF⟩
end Jvm.Pilot.@@N@@
namespace Jvm.Pilot.@@N@@
open Jvm Jvm.ClassFile Sem Op Lib Jvm.Free Jvm.Stand Jvm.Pilot.@@N@@.Jvm.D
/-! MADE BY PROGRAM (witnessworld.py) out of the Statement's table words and the real class files: 26 classes; the members and pool entries that the words name. The judged class is class 1, her method 3. -/
namespace start1
open Jvm.ClassFile
def u (s : String) : CpInfo := .utf8 (stringToUtf16 s)
/-- a pool by its gaps: so many unusable entries, then the entry; so many at the end -/
def gap : Nat → List CpInfo → List CpInfo
  | 0, r => r
  | n + 1, r => .unusable :: gap n r
def poolList (es : List (Nat × CpInfo)) (last : Nat) : List CpInfo := es.foldr (fun e r => gap e.1 (e.2 :: r)) (gap last [])
def pool (es : List (Nat × CpInfo)) (last : Nat) : Array CpInfo := ⟨poolList es last⟩
def fileOf (pool : Array CpInfo) (this : Nat) (attrs : Array Attribute := #[]) (ms : Array MethodInfo := #[]) (fl : Nat := 33) (sup : Nat := 0) (ifs : Array Nat := #[]) (fds : Array FieldInfo := #[]) : ClassFile where
  minorVersion := 0
  majorVersion := 65
  constantPool := pool
  accessFlags := fl
  thisClass := this
  superClass := sup
  interfaces := ifs
  fields := fds
  methods := ms
  attributes := attrs
def plain (name : String) (sup : Option ClassId) : Class where
  name := name
  kind := .ordinary
  loader := none
  accessFlags := 33
  super := sup
  interfaces := #[]
  cf := none
  fields := #[]
  methods := #[]
  instanceTypes := #[]
  staticTypes := #[]
  resolved := #[]
  callSites := []
  init := .initialized
  statics := none
  mirror := none

def pool0 : Array CpInfo := pool [(5, u "<init>"), (0, u "()V"), (1, .class_ 10), (1, u "java/lang/Object")] 113

def k0c0 : Code := { maxStack := 0, maxLocals := 1, code := object_method_1_code, exceptionTable := #[], attributes := #[] }
def k0m0 : Method := { name := "<init>", desc := "()V", sig := { parameters := [], returnType := none }, accessFlags := 1, code := some k0c0 }
/-- java/lang/Object -/
def k0 : Class := { plain "java/lang/Object" none with
  accessFlags := 33
  interfaces := #[]
  cf := some (fileOf pool0 8 #[] #[{ accessFlags := 1, nameIndex := 5, descriptorIndex := 6, attributes := #[] }] 33 0 #[] #[])
  fields := #[]
  methods := #[k0m0]
  instanceTypes := #[]
  staticTypes := #[]
  resolved := Array.replicate 124 none
  statics := none }

def pool1 : Array CpInfo := pool [(2, .class_ 4), (1, u "java/lang/Object"), (0, u "<init>"), (0, u "()V"), (0, .integer 2147483647), (0, .fieldref 9 10), (0, .class_ 11), (0, .nameAndType 12 13), (0, u "com/example/tombsweep/tombsweep/io/RecordHeader$Kind"), (0, u "PUT"), (0, u "Lcom/example/tombsweep/tombsweep/io/RecordHeader$Kind;"), (0, .fieldref 9 15), (0, .nameAndType 16 13), (0, u "ERASED"), (0, .fieldref 9 18), (0, .nameAndType 19 13), (0, u "DELETE"), (0, .fieldref 9 21), (0, .nameAndType 22 13), (0, u "GONE"), (0, .fieldref 9 24), (0, .nameAndType 25 13), (0, u "UNFINISHED"), (0, .methodref 27 28), (0, .class_ 29), (0, .nameAndType 30 31), (0, u "com/example/tombsweep/tombsweep/io/RecordHeaderFitsInPinLaw"), (0, u "kc"), (0, u "(I)C"), (0, .class_ 33), (0, u "java/lang/String"), (0, .methodref 32 35), (0, .nameAndType 5 36), (0, u "([C)V"), (0, .long 40), (3, .long 9223372036854775807), (1, .long 3), (1, .methodref 46 47), (0, .class_ 48), (0, .nameAndType 49 50), (0, u "java/lang/Math"), (0, u "max"), (0, u "(JJ)J"), (0, .class_ 52), (0, u "com/example/tombsweep/tombsweep/io/RecordHeader"), (0, .methodref 27 54), (0, .nameAndType 55 56), (0, u "kindOf"), (0, u "(I)Lcom/example/tombsweep/tombsweep/io/RecordHeader$Kind;"), (0, .class_ 58), (0, u "com/example/tombsweep/tombsweep/model/BlobKey"), (0, .methodref 57 60), (0, .nameAndType 5 61), (0, u "(Ljava/lang/String;)V"), (0, .methodref 51 63), (0, .nameAndType 5 64), (0, u "(Lcom/example/tombsweep/tombsweep/io/RecordHeader$Kind;Lcom/example/tombsweep/tombsweep/model/BlobKey;IJJJII)V"), (0, .methodref 51 66), (0, .nameAndType 67 68), (0, u "fitsIn"), (0, u "(J)Z"), (3, u "law"), (0, u "(IIJJI)Z")] 4

def k1m0 : Method := { name := "<init>", desc := "()V", sig := { parameters := [], returnType := none }, accessFlags := 1, code := none }
def k1c1 : Code := { maxStack := 3, maxLocals := 1, code := method_2_code, exceptionTable := #[], attributes := #[] }
def k1m1 : Method := { name := "kc", desc := "(I)C", sig := { parameters := [.int], returnType := some .char }, accessFlags := 10, code := some k1c1 }
def k1c2 : Code := { maxStack := 2, maxLocals := 2, code := method_3_code, exceptionTable := #[], attributes := #[] }
def k1m2 : Method := { name := "kindOf", desc := "(I)Lcom/example/tombsweep/tombsweep/io/RecordHeader$Kind;", sig := { parameters := [.int], returnType := some (.object "com/example/tombsweep/tombsweep/io/RecordHeader$Kind") }, accessFlags := 10, code := some k1c2 }
def k1c3 : Code := { maxStack := 13, maxLocals := 22, code := code, exceptionTable := #[], attributes := #[] }
def k1m3 : Method := { name := "law", desc := "(IIJJI)Z", sig := { parameters := [.int, .int, .long, .long, .int], returnType := some .boolean }, accessFlags := 9, code := some k1c3 }
/-- com/example/tombsweep/tombsweep/io/RecordHeaderFitsInPinLaw -/
def k1 : Class := { plain "com/example/tombsweep/tombsweep/io/RecordHeaderFitsInPinLaw" (some 0) with
  accessFlags := 49
  interfaces := #[]
  cf := some (fileOf pool1 27 #[] #[{ accessFlags := 1, nameIndex := 5, descriptorIndex := 6, attributes := #[] }, { accessFlags := 10, nameIndex := 30, descriptorIndex := 31, attributes := #[] }, { accessFlags := 10, nameIndex := 55, descriptorIndex := 56, attributes := #[] }, { accessFlags := 9, nameIndex := 72, descriptorIndex := 73, attributes := #[] }] 49 2 #[] #[])
  fields := #[]
  methods := #[k1m0, k1m1, k1m2, k1m3]
  instanceTypes := #[]
  staticTypes := #[]
  resolved := Array.replicate 78 none
  statics := none }

def pool2 : Array CpInfo := pool [(1, .class_ 2), (0, u "java/io/Serializable"), (0, .class_ 4), (0, u "java/lang/Object")] 2

/-- java/io/Serializable -/
def k2 : Class := { plain "java/io/Serializable" (some 0) with
  accessFlags := 1537
  interfaces := #[]
  cf := some (fileOf pool2 1 #[] #[] 1537 3 #[] #[])
  fields := #[]
  methods := #[]
  instanceTypes := #[]
  staticTypes := #[]
  resolved := Array.replicate 7 none
  statics := none }

def pool3 : Array CpInfo := pool [(1, .class_ 2), (0, u "java/lang/Comparable"), (0, .class_ 4), (0, u "java/lang/Object")] 7

/-- java/lang/Comparable -/
def k3 : Class := { plain "java/lang/Comparable" (some 0) with
  accessFlags := 1537
  interfaces := #[]
  cf := some (fileOf pool3 1 #[] #[] 1537 3 #[] #[])
  fields := #[]
  methods := #[]
  instanceTypes := #[]
  staticTypes := #[]
  resolved := Array.replicate 12 none
  statics := none }

def pool4 : Array CpInfo := pool [(2, .class_ 4), (1, u "java/lang/CharSequence"), (42, .class_ 48), (0, u "java/lang/CharSequence$1CodePointIterator"), (10, .class_ 60), (0, u "java/lang/CharSequence$1CharIterator"), (5, .class_ 67), (0, u "java/lang/Object")] 63

/-- java/lang/CharSequence -/
def k4 : Class := { plain "java/lang/CharSequence" (some 0) with
  accessFlags := 1537
  interfaces := #[]
  cf := some (fileOf pool4 2 #[.nestMembers #[47, 59]] #[] 1537 66 #[] #[])
  fields := #[]
  methods := #[]
  instanceTypes := #[]
  staticTypes := #[]
  resolved := Array.replicate 131 none
  statics := none }

def pool5 : Array CpInfo := pool [(1, .class_ 2), (0, u "java/lang/constant/Constable"), (0, .class_ 4), (0, u "java/lang/Object")] 6

/-- java/lang/constant/Constable -/
def k5 : Class := { plain "java/lang/constant/Constable" (some 0) with
  accessFlags := 1537
  interfaces := #[]
  cf := some (fileOf pool5 1 #[] #[] 1537 3 #[] #[])
  fields := #[]
  methods := #[]
  instanceTypes := #[]
  staticTypes := #[]
  resolved := Array.replicate 11 none
  statics := none }

def pool6 : Array CpInfo := pool [(1, .class_ 2), (0, u "java/lang/constant/ConstantDesc"), (0, .class_ 4), (0, u "java/lang/Object")] 32

/-- java/lang/constant/ConstantDesc -/
def k6 : Class := { plain "java/lang/constant/ConstantDesc" (some 0) with
  accessFlags := 1537
  interfaces := #[]
  cf := some (fileOf pool6 1 #[] #[] 1537 3 #[] #[])
  fields := #[]
  methods := #[]
  instanceTypes := #[]
  staticTypes := #[]
  resolved := Array.replicate 37 none
  statics := none }

def pool7 : Array CpInfo := pool [(1, .methodref 2 3), (0, .class_ 4), (0, .nameAndType 5 6), (0, u "java/lang/Object"), (0, u "<init>"), (0, u "()V"), (2, .fieldref 10 11), (0, .class_ 12), (0, .nameAndType 13 14), (0, u "java/lang/String"), (0, u "value"), (0, u "[B"), (0, .fieldref 10 16), (0, .nameAndType 17 18), (0, u "coder"), (0, u "B"), (2, u "hash"), (0, u "I"), (2, u "hashIsZero"), (0, u "Z"), (0, .methodref 10 28), (0, .nameAndType 5 29), (0, u "([CIILjava/lang/Void;)V"), (8, .fieldref 10 39), (0, .nameAndType 40 26), (0, u "COMPACT_STRINGS"), (1, .class_ 44), (1, u "java/lang/StringUTF16"), (0, u "compress"), (1, .methodref 42 48), (0, .nameAndType 49 50), (0, u "coderFromArrayLen"), (0, u "([BI)B"), (56, .class_ 109), (1, u "java/lang/StringLatin1"), (32, u "()Z"), (34, .methodref 42 178), (0, .nameAndType 45 179), (0, u "([CII)[B"), (154, u "()I"), (0, .methodref 10 336), (0, .nameAndType 17 337), (0, u "()B"), (25, u "([BI)C"), (27, u "(II)V"), (35, u "(I)C"), (64, .methodref 10 493), (0, .nameAndType 494 142), (0, u "isLatin1"), (0, .methodref 107 496), (0, .nameAndType 497 363), (0, u "charAt"), (3, u "checkIndex"), (5, u "length"), (67, .class_ 576), (0, u "java/lang/CharSequence"), (22, u "CASE_INSENSITIVE_ORDER"), (0, u "Ljava/util/Comparator;"), (91, u "isEmpty"), (317, u "([C)V"), (42, .fieldref 1054 1055), (0, .class_ 1056), (0, .nameAndType 1057 1058), (0, u "jdk/internal/util/Preconditions"), (0, u "SIOOBE_FORMATTER"), (0, u "Ljava/util/function/BiFunction;"), (0, .methodref 1054 1060), (0, .nameAndType 501 1061), (0, u "(IILjava/util/function/BiFunction;)I"), (39, u "serialPersistentFields"), (0, u "[Ljava/io/ObjectStreamField;"), (0, .class_ 1104), (0, u "java/lang/String$CaseInsensitiveComparator"), (1, .class_ 1107), (0, u "java/io/Serializable"), (0, .class_ 1109), (0, u "java/lang/Comparable"), (0, .class_ 1111), (0, u "java/lang/constant/Constable"), (0, .class_ 1113), (0, u "java/lang/constant/ConstantDesc"), (2, u "serialVersionUID"), (0, u "J"), (3, u "REPL"), (0, u "C"), (2, u "LATIN1"), (1, u "UTF16")] 323

def k7m0 : Method := { name := "<init>", desc := "()V", sig := { parameters := [], returnType := none }, accessFlags := 1, code := none }
def k7c1 : Code := { maxStack := 5, maxLocals := 2, code := jdk_42_method_3_code, exceptionTable := #[], attributes := #[] }
def k7m1 : Method := { name := "<init>", desc := "([C)V", sig := { parameters := [(.array .char)], returnType := none }, accessFlags := 1, code := some k7c1 }
def k7c2 : Code := { maxStack := 2, maxLocals := 1, code := jdk_42_method_54_code, exceptionTable := #[], attributes := #[] }
def k7m2 : Method := { name := "length", desc := "()I", sig := { parameters := [], returnType := some .int }, accessFlags := 1, code := some k7c2 }
def k7c3 : Code := { maxStack := 1, maxLocals := 1, code := jdk_42_method_55_code, exceptionTable := #[], attributes := #[] }
def k7m3 : Method := { name := "isEmpty", desc := "()Z", sig := { parameters := [], returnType := some .boolean }, accessFlags := 1, code := some k7c3 }
def k7c4 : Code := { maxStack := 2, maxLocals := 2, code := jdk_42_method_56_code, exceptionTable := #[], attributes := #[] }
def k7m4 : Method := { name := "charAt", desc := "(I)C", sig := { parameters := [.int], returnType := some .char }, accessFlags := 1, code := some k7c4 }
def k7c5 : Code := { maxStack := 4, maxLocals := 6, code := jdk_42_method_149_code, exceptionTable := #[], attributes := #[] }
def k7m5 : Method := { name := "<init>", desc := "([CIILjava/lang/Void;)V", sig := { parameters := [(.array .char), .int, .int, (.object "java/lang/Void")], returnType := none }, accessFlags := 2, code := some k7c5 }
def k7c6 : Code := { maxStack := 1, maxLocals := 1, code := jdk_42_method_152_code, exceptionTable := #[], attributes := #[] }
def k7m6 : Method := { name := "coder", desc := "()B", sig := { parameters := [], returnType := some .byte }, accessFlags := 0, code := some k7c6 }
def k7c7 : Code := { maxStack := 1, maxLocals := 1, code := jdk_42_method_154_code, exceptionTable := #[], attributes := #[] }
def k7m7 : Method := { name := "isLatin1", desc := "()Z", sig := { parameters := [], returnType := some .boolean }, accessFlags := 0, code := some k7c7 }
def k7c8 : Code := { maxStack := 3, maxLocals := 2, code := jdk_42_method_155_code, exceptionTable := #[], attributes := #[] }
def k7m8 : Method := { name := "checkIndex", desc := "(II)V", sig := { parameters := [.int, .int], returnType := none }, accessFlags := 8, code := some k7c8 }
/-- java/lang/String -/
def k7 : Class := { plain "java/lang/String" (some 0) with
  accessFlags := 49
  interfaces := #[2, 3, 4, 5, 6]
  cf := some (fileOf pool7 10 #[.nestMembers #[1103]] #[{ accessFlags := 1, nameIndex := 5, descriptorIndex := 6, attributes := #[] }, { accessFlags := 1, nameIndex := 5, descriptorIndex := 1010, attributes := #[] }, { accessFlags := 1, nameIndex := 507, descriptorIndex := 334, attributes := #[] }, { accessFlags := 1, nameIndex := 692, descriptorIndex := 142, attributes := #[] }, { accessFlags := 1, nameIndex := 497, descriptorIndex := 427, attributes := #[] }, { accessFlags := 2, nameIndex := 5, descriptorIndex := 29, attributes := #[] }, { accessFlags := 0, nameIndex := 17, descriptorIndex := 337, attributes := #[] }, { accessFlags := 0, nameIndex := 494, descriptorIndex := 142, attributes := #[] }, { accessFlags := 8, nameIndex := 501, descriptorIndex := 391, attributes := #[] }] 49 2 #[1106, 1108, 575, 1110, 1112] #[{ accessFlags := 18, nameIndex := 13, descriptorIndex := 14, attributes := #[] }, { accessFlags := 18, nameIndex := 17, descriptorIndex := 18, attributes := #[] }, { accessFlags := 2, nameIndex := 21, descriptorIndex := 22, attributes := #[] }, { accessFlags := 2, nameIndex := 25, descriptorIndex := 26, attributes := #[] }, { accessFlags := 26, nameIndex := 1116, descriptorIndex := 1117, attributes := #[] }, { accessFlags := 24, nameIndex := 40, descriptorIndex := 26, attributes := #[] }, { accessFlags := 26, nameIndex := 1101, descriptorIndex := 1102, attributes := #[] }, { accessFlags := 26, nameIndex := 1121, descriptorIndex := 1122, attributes := #[] }, { accessFlags := 25, nameIndex := 599, descriptorIndex := 600, attributes := #[] }, { accessFlags := 24, nameIndex := 1125, descriptorIndex := 18, attributes := #[] }, { accessFlags := 24, nameIndex := 1127, descriptorIndex := 18, attributes := #[] }])
  fields := #[{ name := "value", type := (.array .byte), accessFlags := 18, slot := 0, constantValue := 0 }, { name := "coder", type := .byte, accessFlags := 18, slot := 1, constantValue := 0 }, { name := "hash", type := .int, accessFlags := 2, slot := 2, constantValue := 0 }, { name := "hashIsZero", type := .boolean, accessFlags := 2, slot := 3, constantValue := 0 }, { name := "serialVersionUID", type := .long, accessFlags := 26, slot := 0, constantValue := 0 }, { name := "COMPACT_STRINGS", type := .boolean, accessFlags := 24, slot := 1, constantValue := 0 }, { name := "serialPersistentFields", type := (.array (.object "java/io/ObjectStreamField")), accessFlags := 26, slot := 2, constantValue := 0 }, { name := "REPL", type := .char, accessFlags := 26, slot := 3, constantValue := 0 }, { name := "CASE_INSENSITIVE_ORDER", type := (.object "java/util/Comparator"), accessFlags := 25, slot := 4, constantValue := 0 }, { name := "LATIN1", type := .byte, accessFlags := 24, slot := 5, constantValue := 0 }, { name := "UTF16", type := .byte, accessFlags := 24, slot := 6, constantValue := 0 }]
  methods := #[k7m0, k7m1, k7m2, k7m3, k7m4, k7m5, k7m6, k7m7, k7m8]
  instanceTypes := #[(.array .byte), .byte, .int, .boolean]
  staticTypes := #[.long, .boolean, (.array (.object "java/io/ObjectStreamField")), .char, (.object "java/util/Comparator"), .byte, .byte]
  resolved := Array.replicate 1451 none
  statics := some 0 }

def pool8 : Array CpInfo := pool [(6, .class_ 8), (1, u "java/lang/Object"), (0, u "<init>"), (0, u "()V"), (1, .class_ 14), (1, u "java/lang/StringUTF16"), (31, u "$assertionsDisabled"), (0, u "Z"), (13, u "HI_BYTE_SHIFT"), (0, u "I"), (2, u "LO_BYTE_SHIFT"), (49, .methodref 12 116), (0, .nameAndType 117 118), (0, u "compress"), (0, u "([CI[BII)I"), (3, u "([CII)[B"), (138, u "coderFromArrayLen"), (0, u "([BI)B"), (106, .class_ 371), (1, u "java/lang/StringUTF16$LinesSpliterator"), (58, u "MAX_LENGTH"), (196, .class_ 628), (0, u "java/lang/StringUTF16$CodePointsSpliterator"), (0, .class_ 630), (0, u "java/lang/StringUTF16$CharsSpliterator")] 4

def k8m0 : Method := { name := "<init>", desc := "()V", sig := { parameters := [], returnType := none }, accessFlags := 0, code := none }
def k8c1 : Code := { maxStack := 2, maxLocals := 2, code := jdk_52_method_15_code, exceptionTable := #[], attributes := #[] }
def k8m1 : Method := { name := "coderFromArrayLen", desc := "([BI)B", sig := { parameters := [(.array .byte), .int], returnType := some .byte }, accessFlags := 8, code := some k8c1 }
def k8c2 : Code := { maxStack := 5, maxLocals := 6, code := jdk_52_method_16_code, exceptionTable := #[], attributes := #[] }
def k8m2 : Method := { name := "compress", desc := "([CII)[B", sig := { parameters := [(.array .char), .int, .int], returnType := some (.array .byte) }, accessFlags := 9, code := some k8c2 }
def k8c3 : Code := { maxStack := 3, maxLocals := 7, code := jdk_52_method_21_code, exceptionTable := #[], attributes := #[] }
def k8m3 : Method := { name := "compress", desc := "([CI[BII)I", sig := { parameters := [(.array .char), .int, (.array .byte), .int, .int], returnType := some .int }, accessFlags := 9, code := some k8c3 }
/-- java/lang/StringUTF16 -/
def k8 : Class := { plain "java/lang/StringUTF16" (some 0) with
  accessFlags := 48
  interfaces := #[]
  cf := some (fileOf pool8 12 #[.nestMembers #[627, 629, 369]] #[{ accessFlags := 0, nameIndex := 9, descriptorIndex := 10, attributes := #[] }, { accessFlags := 8, nameIndex := 261, descriptorIndex := 262, attributes := #[] }, { accessFlags := 9, nameIndex := 117, descriptorIndex := 122, attributes := #[] }, { accessFlags := 9, nameIndex := 117, descriptorIndex := 118, attributes := #[] }] 48 6 #[] #[{ accessFlags := 26, nameIndex := 61, descriptorIndex := 62, attributes := #[] }, { accessFlags := 26, nameIndex := 65, descriptorIndex := 62, attributes := #[] }, { accessFlags := 24, nameIndex := 430, descriptorIndex := 62, attributes := #[] }, { accessFlags := 4120, nameIndex := 46, descriptorIndex := 47, attributes := #[] }])
  fields := #[{ name := "HI_BYTE_SHIFT", type := .int, accessFlags := 26, slot := 0, constantValue := 0 }, { name := "LO_BYTE_SHIFT", type := .int, accessFlags := 26, slot := 1, constantValue := 0 }, { name := "MAX_LENGTH", type := .int, accessFlags := 24, slot := 2, constantValue := 0 }, { name := "$assertionsDisabled", type := .boolean, accessFlags := 4120, slot := 3, constantValue := 0 }]
  methods := #[k8m0, k8m1, k8m2, k8m3]
  instanceTypes := #[]
  staticTypes := #[.int, .int, .int, .boolean]
  resolved := Array.replicate 635 none
  statics := none }

def pool9 : Array CpInfo := pool [(1, .methodref 2 3), (0, .class_ 4), (0, .nameAndType 5 6), (0, u "java/lang/Object"), (0, u "<init>"), (0, u "()V"), (0, .class_ 8), (0, u "java/lang/Record")] 13

def k9c0 : Code := { maxStack := 1, maxLocals := 1, code := jdk_30_method_1_code, exceptionTable := #[], attributes := #[] }
def k9m0 : Method := { name := "<init>", desc := "()V", sig := { parameters := [], returnType := none }, accessFlags := 4, code := some k9c0 }
/-- java/lang/Record -/
def k9 : Class := { plain "java/lang/Record" (some 0) with
  accessFlags := 1057
  interfaces := #[]
  cf := some (fileOf pool9 7 #[] #[{ accessFlags := 4, nameIndex := 5, descriptorIndex := 6, attributes := #[] }] 1057 2 #[] #[])
  fields := #[]
  methods := #[k9m0]
  instanceTypes := #[]
  staticTypes := #[]
  resolved := Array.replicate 22 none
  statics := none }

def pool10 : Array CpInfo := pool [(1, .class_ 2), (0, u "com/example/tombsweep/tombsweep/io/RecordHeader"), (0, .class_ 4), (0, u "com/example/tombsweep/tombsweep/model/BlobKey"), (0, .methodref 6 7), (0, .class_ 8), (0, .nameAndType 9 10), (0, u "java/lang/Record"), (0, u "<init>"), (0, u "()V"), (0, .fieldref 1 12), (0, .nameAndType 13 14), (0, u "kind"), (0, u "Lcom/example/tombsweep/tombsweep/io/RecordHeader$Kind;"), (0, .fieldref 1 16), (0, .nameAndType 17 18), (0, u "key"), (0, u "Lcom/example/tombsweep/tombsweep/model/BlobKey;"), (0, .fieldref 1 20), (0, .nameAndType 21 22), (0, u "metadataLength"), (0, u "I"), (0, .fieldref 1 24), (0, .nameAndType 25 26), (0, u "sequence"), (0, u "J"), (0, .fieldref 1 28), (0, .nameAndType 29 26), (0, u "time"), (0, .fieldref 1 31), (0, .nameAndType 32 26), (0, u "contentLength"), (0, .fieldref 1 34), (0, .nameAndType 35 22), (0, u "contentCheck"), (0, .fieldref 1 37), (0, .nameAndType 38 22), (0, u "metadataCheck"), (1, .class_ 42), (1, u "com/example/tombsweep/tombsweep/io/RecordHeader$Kind"), (3, u "(Lcom/example/tombsweep/tombsweep/io/RecordHeader$Kind;Lcom/example/tombsweep/tombsweep/model/BlobKey;IJJJII)V"), (17, u "()I"), (26, u "()J"), (31, .class_ 124), (0, u "java/lang/String"), (15, u "()Ljava/lang/String;"), (32, .methodref 1 174), (0, .nameAndType 175 64), (0, u "keyLength"), (18, .methodref 1 195), (0, .nameAndType 196 91), (0, u "metadataOffset"), (8, .methodref 1 206), (0, .nameAndType 207 91), (0, u "contentOffset"), (0, .methodref 3 209), (0, .nameAndType 210 140), (0, u "value"), (0, .methodref 123 212), (0, .nameAndType 213 64), (0, u "length"), (25, u "SIZE"), (2, u "MAX_SIZE_WITH_KEY"), (1, u "CHECKED_SIZE"), (23, u "fitsIn"), (0, u "(J)Z")] 43

def k10c0 : Code := { maxStack := 3, maxLocals := 12, code := prog_5_method_1_code, exceptionTable := #[], attributes := #[] }
def k10m0 : Method := { name := "<init>", desc := "(Lcom/example/tombsweep/tombsweep/io/RecordHeader$Kind;Lcom/example/tombsweep/tombsweep/model/BlobKey;IJJJII)V", sig := { parameters := [(.object "com/example/tombsweep/tombsweep/io/RecordHeader$Kind"), (.object "com/example/tombsweep/tombsweep/model/BlobKey"), .int, .long, .long, .long, .int, .int], returnType := none }, accessFlags := 1, code := some k10c0 }
def k10c1 : Code := { maxStack := 2, maxLocals := 1, code := prog_5_method_11_code, exceptionTable := #[], attributes := #[] }
def k10m1 : Method := { name := "metadataOffset", desc := "()J", sig := { parameters := [], returnType := some .long }, accessFlags := 1, code := some k10c1 }
def k10c2 : Code := { maxStack := 4, maxLocals := 1, code := prog_5_method_12_code, exceptionTable := #[], attributes := #[] }
def k10m2 : Method := { name := "contentOffset", desc := "()J", sig := { parameters := [], returnType := some .long }, accessFlags := 1, code := some k10c2 }
def k10c3 : Code := { maxStack := 6, maxLocals := 3, code := prog_5_method_14_code, exceptionTable := #[], attributes := #[] }
def k10m3 : Method := { name := "fitsIn", desc := "(J)Z", sig := { parameters := [.long], returnType := some .boolean }, accessFlags := 0, code := some k10c3 }
def k10c4 : Code := { maxStack := 1, maxLocals := 1, code := prog_5_method_16_code, exceptionTable := #[], attributes := #[] }
def k10m4 : Method := { name := "keyLength", desc := "()I", sig := { parameters := [], returnType := some .int }, accessFlags := 2, code := some k10c4 }
/-- com/example/tombsweep/tombsweep/io/RecordHeader -/
def k10 : Class := { plain "com/example/tombsweep/tombsweep/io/RecordHeader" (some 9) with
  accessFlags := 49
  interfaces := #[]
  cf := some (fileOf pool10 1 #[.nestMembers #[40]] #[{ accessFlags := 1, nameIndex := 9, descriptorIndex := 46, attributes := #[] }, { accessFlags := 1, nameIndex := 196, descriptorIndex := 91, attributes := #[] }, { accessFlags := 1, nameIndex := 207, descriptorIndex := 91, attributes := #[] }, { accessFlags := 0, nameIndex := 268, descriptorIndex := 269, attributes := #[] }, { accessFlags := 2, nameIndex := 175, descriptorIndex := 64, attributes := #[] }] 49 6 #[] #[{ accessFlags := 18, nameIndex := 13, descriptorIndex := 14, attributes := #[] }, { accessFlags := 18, nameIndex := 17, descriptorIndex := 18, attributes := #[] }, { accessFlags := 18, nameIndex := 21, descriptorIndex := 22, attributes := #[] }, { accessFlags := 18, nameIndex := 25, descriptorIndex := 26, attributes := #[] }, { accessFlags := 18, nameIndex := 29, descriptorIndex := 26, attributes := #[] }, { accessFlags := 18, nameIndex := 32, descriptorIndex := 26, attributes := #[] }, { accessFlags := 18, nameIndex := 35, descriptorIndex := 22, attributes := #[] }, { accessFlags := 18, nameIndex := 38, descriptorIndex := 22, attributes := #[] }, { accessFlags := 25, nameIndex := 239, descriptorIndex := 22, attributes := #[] }, { accessFlags := 25, nameIndex := 242, descriptorIndex := 22, attributes := #[] }, { accessFlags := 26, nameIndex := 244, descriptorIndex := 22, attributes := #[] }])
  fields := #[{ name := "kind", type := (.object "com/example/tombsweep/tombsweep/io/RecordHeader$Kind"), accessFlags := 18, slot := 0, constantValue := 0 }, { name := "key", type := (.object "com/example/tombsweep/tombsweep/model/BlobKey"), accessFlags := 18, slot := 1, constantValue := 0 }, { name := "metadataLength", type := .int, accessFlags := 18, slot := 2, constantValue := 0 }, { name := "sequence", type := .long, accessFlags := 18, slot := 3, constantValue := 0 }, { name := "time", type := .long, accessFlags := 18, slot := 4, constantValue := 0 }, { name := "contentLength", type := .long, accessFlags := 18, slot := 5, constantValue := 0 }, { name := "contentCheck", type := .int, accessFlags := 18, slot := 6, constantValue := 0 }, { name := "metadataCheck", type := .int, accessFlags := 18, slot := 7, constantValue := 0 }, { name := "SIZE", type := .int, accessFlags := 25, slot := 0, constantValue := 0 }, { name := "MAX_SIZE_WITH_KEY", type := .int, accessFlags := 25, slot := 1, constantValue := 0 }, { name := "CHECKED_SIZE", type := .int, accessFlags := 26, slot := 2, constantValue := 0 }]
  methods := #[k10m0, k10m1, k10m2, k10m3, k10m4]
  instanceTypes := #[(.object "com/example/tombsweep/tombsweep/io/RecordHeader$Kind"), (.object "com/example/tombsweep/tombsweep/model/BlobKey"), .int, .long, .long, .long, .int, .int]
  staticTypes := #[.int, .int, .int]
  resolved := Array.replicate 313 none
  statics := none }

def pool11 : Array CpInfo := pool [(2, .class_ 4), (1, u "java/lang/Enum"), (0, u "name"), (0, u "Ljava/lang/String;"), (2, u "ordinal"), (0, u "I"), (1, .class_ 14), (1, u "java/lang/Object"), (4, u "hash"), (86, .class_ 108), (1, u "java/lang/Enum$EnumDesc"), (2, .class_ 112), (0, u "java/lang/constant/Constable"), (0, .class_ 114), (0, u "java/lang/Comparable"), (0, .class_ 116), (0, u "java/io/Serializable")] 87

/-- java/lang/Enum -/
def k11 : Class := { plain "java/lang/Enum" (some 0) with
  accessFlags := 1057
  interfaces := #[5, 3, 2]
  cf := some (fileOf pool11 2 #[.nestMembers #[106]] #[] 1057 12 #[111, 113, 115] #[{ accessFlags := 18, nameIndex := 5, descriptorIndex := 6, attributes := #[] }, { accessFlags := 18, nameIndex := 9, descriptorIndex := 10, attributes := #[] }, { accessFlags := 2, nameIndex := 19, descriptorIndex := 10, attributes := #[] }])
  fields := #[{ name := "name", type := (.object "java/lang/String"), accessFlags := 18, slot := 0, constantValue := 0 }, { name := "ordinal", type := .int, accessFlags := 18, slot := 1, constantValue := 0 }, { name := "hash", type := .int, accessFlags := 2, slot := 2, constantValue := 0 }]
  methods := #[]
  instanceTypes := #[(.object "java/lang/String"), .int, .int]
  staticTypes := #[]
  resolved := Array.replicate 204 none
  statics := none }

def pool12 : Array CpInfo := pool [(1, .class_ 2), (0, u "com/example/tombsweep/tombsweep/io/RecordHeader$Kind"), (2, u "PUT"), (0, u "Lcom/example/tombsweep/tombsweep/io/RecordHeader$Kind;"), (2, u "ERASED"), (2, u "DELETE"), (2, u "GONE"), (2, u "UNFINISHED"), (2, u "$VALUES"), (0, u "[Lcom/example/tombsweep/tombsweep/io/RecordHeader$Kind;"), (6, .class_ 31), (1, u "java/lang/Enum"), (8, u "code"), (0, u "B"), (26, u "KINDS"), (30, .class_ 100), (0, u "com/example/tombsweep/tombsweep/io/RecordHeader")] 2

/-- com/example/tombsweep/tombsweep/io/RecordHeader$Kind -/
def k12 : Class := { plain "com/example/tombsweep/tombsweep/io/RecordHeader$Kind" (some 11) with
  accessFlags := 16433
  interfaces := #[]
  cf := some (fileOf pool12 1 #[.nestHost 99] #[] 16433 29 #[] #[{ accessFlags := 16409, nameIndex := 5, descriptorIndex := 6, attributes := #[] }, { accessFlags := 16409, nameIndex := 9, descriptorIndex := 6, attributes := #[] }, { accessFlags := 16409, nameIndex := 12, descriptorIndex := 6, attributes := #[] }, { accessFlags := 16409, nameIndex := 15, descriptorIndex := 6, attributes := #[] }, { accessFlags := 16409, nameIndex := 18, descriptorIndex := 6, attributes := #[] }, { accessFlags := 26, nameIndex := 68, descriptorIndex := 22, attributes := #[] }, { accessFlags := 18, nameIndex := 40, descriptorIndex := 41, attributes := #[] }, { accessFlags := 4122, nameIndex := 21, descriptorIndex := 22, attributes := #[] }])
  fields := #[{ name := "PUT", type := (.object "com/example/tombsweep/tombsweep/io/RecordHeader$Kind"), accessFlags := 16409, slot := 0, constantValue := 0 }, { name := "ERASED", type := (.object "com/example/tombsweep/tombsweep/io/RecordHeader$Kind"), accessFlags := 16409, slot := 1, constantValue := 0 }, { name := "DELETE", type := (.object "com/example/tombsweep/tombsweep/io/RecordHeader$Kind"), accessFlags := 16409, slot := 2, constantValue := 0 }, { name := "GONE", type := (.object "com/example/tombsweep/tombsweep/io/RecordHeader$Kind"), accessFlags := 16409, slot := 3, constantValue := 0 }, { name := "UNFINISHED", type := (.object "com/example/tombsweep/tombsweep/io/RecordHeader$Kind"), accessFlags := 16409, slot := 4, constantValue := 0 }, { name := "KINDS", type := (.array (.object "com/example/tombsweep/tombsweep/io/RecordHeader$Kind")), accessFlags := 26, slot := 5, constantValue := 0 }, { name := "code", type := .byte, accessFlags := 18, slot := 3, constantValue := 0 }, { name := "$VALUES", type := (.array (.object "com/example/tombsweep/tombsweep/io/RecordHeader$Kind")), accessFlags := 4122, slot := 6, constantValue := 0 }]
  methods := #[]
  instanceTypes := #[(.object "java/lang/String"), .int, .int, .byte]
  staticTypes := #[(.object "com/example/tombsweep/tombsweep/io/RecordHeader$Kind"), (.object "com/example/tombsweep/tombsweep/io/RecordHeader$Kind"), (.object "com/example/tombsweep/tombsweep/io/RecordHeader$Kind"), (.object "com/example/tombsweep/tombsweep/io/RecordHeader$Kind"), (.object "com/example/tombsweep/tombsweep/io/RecordHeader$Kind"), (.array (.object "com/example/tombsweep/tombsweep/io/RecordHeader$Kind")), (.array (.object "com/example/tombsweep/tombsweep/io/RecordHeader$Kind"))]
  resolved := Array.replicate 103 none
  statics := some 1 }

def pool13 : Array CpInfo := pool [(1, .methodref 2 3), (0, .class_ 4), (0, .nameAndType 5 6), (0, u "java/lang/Record"), (0, u "<init>"), (0, u "()V"), (0, .string 8), (0, u "value"), (0, .methodref 10 11), (0, .class_ 12), (0, .nameAndType 13 14), (0, u "java/util/Objects"), (0, u "requireNonNull"), (0, u "(Ljava/lang/Object;Ljava/lang/String;)Ljava/lang/Object;"), (0, .methodref 16 17), (0, .class_ 18), (0, .nameAndType 19 20), (0, u "java/lang/String"), (0, u "isEmpty"), (0, u "()Z"), (0, .methodref 16 22), (0, .nameAndType 23 24), (0, u "length"), (0, u "()I"), (0, .class_ 26), (0, u "com/example/tombsweep/tombsweep/model/BlobKey"), (8, u "(Ljava/lang/String;)V"), (0, .methodref 16 37), (0, .nameAndType 38 39), (0, u "charAt"), (0, u "(I)C"), (0, .methodref 25 41), (0, .nameAndType 42 43), (0, u "isKeyCharacter"), (0, u "(C)Z"), (14, .fieldref 25 59), (0, .nameAndType 8 60), (0, u "Ljava/lang/String;"), (18, u "MAX_LENGTH"), (0, u "I"), (9, u "()Ljava/lang/String;")] 27

def k13c0 : Code := { maxStack := 7, maxLocals := 4, code := prog_11_method_1_code, exceptionTable := #[], attributes := #[] }
def k13m0 : Method := { name := "<init>", desc := "(Ljava/lang/String;)V", sig := { parameters := [(.object "java/lang/String")], returnType := none }, accessFlags := 1, code := some k13c0 }
def k13c1 : Code := { maxStack := 2, maxLocals := 1, code := prog_11_method_4_code, exceptionTable := #[], attributes := #[] }
def k13m1 : Method := { name := "isKeyCharacter", desc := "(C)Z", sig := { parameters := [.char], returnType := some .boolean }, accessFlags := 10, code := some k13c1 }
def k13c2 : Code := { maxStack := 1, maxLocals := 1, code := prog_11_method_7_code, exceptionTable := #[], attributes := #[] }
def k13m2 : Method := { name := "value", desc := "()Ljava/lang/String;", sig := { parameters := [], returnType := some (.object "java/lang/String") }, accessFlags := 1, code := some k13c2 }
/-- com/example/tombsweep/tombsweep/model/BlobKey -/
def k13 : Class := { plain "com/example/tombsweep/tombsweep/model/BlobKey" (some 9) with
  accessFlags := 49
  interfaces := #[]
  cf := some (fileOf pool13 25 #[] #[{ accessFlags := 1, nameIndex := 5, descriptorIndex := 35, attributes := #[] }, { accessFlags := 10, nameIndex := 42, descriptorIndex := 43, attributes := #[] }, { accessFlags := 1, nameIndex := 8, descriptorIndex := 90, attributes := #[] }] 49 2 #[] #[{ accessFlags := 18, nameIndex := 8, descriptorIndex := 60, attributes := #[] }, { accessFlags := 25, nameIndex := 79, descriptorIndex := 80, attributes := #[] }])
  fields := #[{ name := "value", type := (.object "java/lang/String"), accessFlags := 18, slot := 0, constantValue := 0 }, { name := "MAX_LENGTH", type := .int, accessFlags := 25, slot := 0, constantValue := 0 }]
  methods := #[k13m0, k13m1, k13m2]
  instanceTypes := #[(.object "java/lang/String")]
  staticTypes := #[.int]
  resolved := Array.replicate 118 none
  statics := none }

def pool14 : Array CpInfo := pool [(2, .class_ 4), (1, u "java/lang/Object"), (0, u "<init>"), (0, u "()V"), (35, .class_ 44), (1, u "java/util/Objects"), (0, u "requireNonNull"), (48, u "(Ljava/lang/Object;Ljava/lang/String;)Ljava/lang/Object;")] 89

def k14m0 : Method := { name := "<init>", desc := "()V", sig := { parameters := [], returnType := none }, accessFlags := 2, code := none }
def k14c1 : Code := { maxStack := 3, maxLocals := 2, code := jdk_31_method_11_code, exceptionTable := #[], attributes := #[] }
def k14m1 : Method := { name := "requireNonNull", desc := "(Ljava/lang/Object;Ljava/lang/String;)Ljava/lang/Object;", sig := { parameters := [(.object "java/lang/Object"), (.object "java/lang/String")], returnType := some (.object "java/lang/Object") }, accessFlags := 9, code := some k14c1 }
/-- java/util/Objects -/
def k14 : Class := { plain "java/util/Objects" (some 0) with
  accessFlags := 49
  interfaces := #[]
  cf := some (fileOf pool14 42 #[] #[{ accessFlags := 2, nameIndex := 5, descriptorIndex := 6, attributes := #[] }, { accessFlags := 9, nameIndex := 45, descriptorIndex := 94, attributes := #[] }] 49 2 #[] #[])
  fields := #[]
  methods := #[k14m0, k14m1]
  instanceTypes := #[]
  staticTypes := #[]
  resolved := Array.replicate 184 none
  statics := none }

def pool15 : Array CpInfo := pool [(1, .class_ 2), (0, u "java/lang/String"), (1, .class_ 6), (1, u "java/lang/Object"), (0, u "<init>"), (0, u "()V"), (0, .methodref 1 10), (0, .nameAndType 11 12), (0, u "checkIndex"), (0, u "(II)V"), (1, .class_ 16), (1, u "java/lang/StringLatin1"), (36, u "([BI)C"), (67, u "$assertionsDisabled"), (0, u "Z"), (98, .class_ 223), (1, u "java/lang/StringLatin1$LinesSpliterator"), (28, u "charAt"), (137, .class_ 391), (0, u "java/lang/StringLatin1$CharsSpliterator")] 3

def k15m0 : Method := { name := "<init>", desc := "()V", sig := { parameters := [], returnType := none }, accessFlags := 0, code := none }
def k15c1 : Code := { maxStack := 2, maxLocals := 2, code := jdk_43_method_2_code, exceptionTable := #[], attributes := #[] }
def k15m1 : Method := { name := "charAt", desc := "([BI)C", sig := { parameters := [(.array .byte), .int], returnType := some .char }, accessFlags := 9, code := some k15c1 }
/-- java/lang/StringLatin1 -/
def k15 : Class := { plain "java/lang/StringLatin1" (some 0) with
  accessFlags := 48
  interfaces := #[]
  cf := some (fileOf pool15 14 #[.nestMembers #[390, 221]] #[{ accessFlags := 0, nameIndex := 7, descriptorIndex := 8, attributes := #[] }, { accessFlags := 9, nameIndex := 252, descriptorIndex := 53, attributes := #[] }] 48 4 #[] #[{ accessFlags := 4120, nameIndex := 121, descriptorIndex := 122, attributes := #[] }])
  fields := #[{ name := "$assertionsDisabled", type := .boolean, accessFlags := 4120, slot := 0, constantValue := 0 }]
  methods := #[k15m0, k15m1]
  instanceTypes := #[]
  staticTypes := #[.boolean]
  resolved := Array.replicate 395 none
  statics := none }

def pool16 : Array CpInfo := pool [(2, .class_ 4), (1, u "java/lang/Object"), (0, u "<init>"), (0, u "()V"), (17, .class_ 26), (1, u "jdk/internal/util/Preconditions"), (6, u "checkIndex"), (21, .class_ 56), (0, u "jdk/internal/util/Preconditions$4"), (57, .class_ 115), (0, u "jdk/internal/util/Preconditions$1"), (7, u "SIOOBE_FORMATTER"), (0, u "Ljava/util/function/BiFunction;"), (0, .class_ 126), (0, u "jdk/internal/util/Preconditions$2"), (3, u "AIOOBE_FORMATTER"), (0, .class_ 132), (0, u "jdk/internal/util/Preconditions$3"), (3, u "IOOBE_FORMATTER"), (41, u "(IILjava/util/function/BiFunction;)I")] 15

def k16m0 : Method := { name := "<init>", desc := "()V", sig := { parameters := [], returnType := none }, accessFlags := 1, code := none }
def k16c1 : Code := { maxStack := 3, maxLocals := 3, code := jdk_41_method_11_code, exceptionTable := #[], attributes := #[] }
def k16m1 : Method := { name := "checkIndex", desc := "(IILjava/util/function/BiFunction;)I", sig := { parameters := [.int, .int, (.object "java/util/function/BiFunction")], returnType := some .int }, accessFlags := 9, code := some k16c1 }
/-- jdk/internal/util/Preconditions -/
def k16 : Class := { plain "jdk/internal/util/Preconditions" (some 0) with
  accessFlags := 33
  interfaces := #[]
  cf := some (fileOf pool16 24 #[.nestMembers #[55, 131, 125, 114]] #[{ accessFlags := 1, nameIndex := 5, descriptorIndex := 6, attributes := #[] }, { accessFlags := 9, nameIndex := 33, descriptorIndex := 178, attributes := #[] }] 33 2 #[] #[{ accessFlags := 25, nameIndex := 123, descriptorIndex := 124, attributes := #[] }, { accessFlags := 25, nameIndex := 130, descriptorIndex := 124, attributes := #[] }, { accessFlags := 25, nameIndex := 136, descriptorIndex := 124, attributes := #[] }])
  fields := #[{ name := "SIOOBE_FORMATTER", type := (.object "java/util/function/BiFunction"), accessFlags := 25, slot := 0, constantValue := 0 }, { name := "AIOOBE_FORMATTER", type := (.object "java/util/function/BiFunction"), accessFlags := 25, slot := 1, constantValue := 0 }, { name := "IOOBE_FORMATTER", type := (.object "java/util/function/BiFunction"), accessFlags := 25, slot := 2, constantValue := 0 }]
  methods := #[k16m0, k16m1]
  instanceTypes := #[]
  staticTypes := #[(.object "java/util/function/BiFunction"), (.object "java/util/function/BiFunction"), (.object "java/util/function/BiFunction")]
  resolved := Array.replicate 194 none
  statics := some 2 }

def pool17 : Array CpInfo := pool [(1, .class_ 2), (0, u "java/lang/Math"), (1, .class_ 6), (1, u "java/lang/Object"), (0, u "<init>"), (0, u "()V"), (89, .class_ 100), (1, u "java/lang/Math$RandomNumberGeneratorHolder"), (20, u "(JJ)J"), (50, u "negativeZeroFloatBits"), (0, u "J"), (2, u "negativeZeroDoubleBits"), (21, u "max"), (46, u "$assertionsDisabled"), (0, u "Z"), (91, u "twoToTheDoubleScaleDown"), (0, u "D"), (4, u "twoToTheDoubleScaleUp"), (9, u "E"), (3, u "PI"), (2, u "TAU"), (2, u "DEGREES_TO_RADIANS"), (0, u "RADIANS_TO_DEGREES")] 94

def k17m0 : Method := { name := "<init>", desc := "()V", sig := { parameters := [], returnType := none }, accessFlags := 2, code := none }
def k17c1 : Code := { maxStack := 4, maxLocals := 4, code := jdk_29_method_66_code, exceptionTable := #[], attributes := #[] }
def k17m1 : Method := { name := "max", desc := "(JJ)J", sig := { parameters := [.long, .long], returnType := some .long }, accessFlags := 9, code := some k17c1 }
/-- java/lang/Math -/
def k17 : Class := { plain "java/lang/Math" (some 0) with
  accessFlags := 49
  interfaces := #[]
  cf := some (fileOf pool17 1 #[.nestMembers #[98]] #[{ accessFlags := 2, nameIndex := 7, descriptorIndex := 8, attributes := #[] }, { accessFlags := 9, nameIndex := 198, descriptorIndex := 121, attributes := #[] }] 49 4 #[] #[{ accessFlags := 25, nameIndex := 354, descriptorIndex := 339, attributes := #[] }, { accessFlags := 25, nameIndex := 358, descriptorIndex := 339, attributes := #[] }, { accessFlags := 25, nameIndex := 361, descriptorIndex := 339, attributes := #[] }, { accessFlags := 26, nameIndex := 364, descriptorIndex := 339, attributes := #[] }, { accessFlags := 26, nameIndex := 365, descriptorIndex := 339, attributes := #[] }, { accessFlags := 26, nameIndex := 172, descriptorIndex := 173, attributes := #[] }, { accessFlags := 26, nameIndex := 176, descriptorIndex := 173, attributes := #[] }, { accessFlags := 8, nameIndex := 344, descriptorIndex := 339, attributes := #[] }, { accessFlags := 8, nameIndex := 338, descriptorIndex := 339, attributes := #[] }, { accessFlags := 4120, nameIndex := 245, descriptorIndex := 246, attributes := #[] }])
  fields := #[{ name := "E", type := .double, accessFlags := 25, slot := 0, constantValue := 0 }, { name := "PI", type := .double, accessFlags := 25, slot := 1, constantValue := 0 }, { name := "TAU", type := .double, accessFlags := 25, slot := 2, constantValue := 0 }, { name := "DEGREES_TO_RADIANS", type := .double, accessFlags := 26, slot := 3, constantValue := 0 }, { name := "RADIANS_TO_DEGREES", type := .double, accessFlags := 26, slot := 4, constantValue := 0 }, { name := "negativeZeroFloatBits", type := .long, accessFlags := 26, slot := 5, constantValue := 0 }, { name := "negativeZeroDoubleBits", type := .long, accessFlags := 26, slot := 6, constantValue := 0 }, { name := "twoToTheDoubleScaleUp", type := .double, accessFlags := 8, slot := 7, constantValue := 0 }, { name := "twoToTheDoubleScaleDown", type := .double, accessFlags := 8, slot := 8, constantValue := 0 }, { name := "$assertionsDisabled", type := .boolean, accessFlags := 4120, slot := 9, constantValue := 0 }]
  methods := #[k17m0, k17m1]
  instanceTypes := #[]
  staticTypes := #[.double, .double, .double, .double, .double, .long, .long, .double, .double, .boolean]
  resolved := Array.replicate 460 none
  statics := none }

def pool18 : Array CpInfo := pool [(9, u "<init>"), (6, .class_ 18), (1, u "java/lang/Object"), (0, u "()V"), (1, .class_ 23), (1, u "jdk/internal/util/ArraysSupport"), (0, u "LOG2_ARRAY_LONG_INDEX_SCALE"), (0, u "I"), (2, u "U"), (0, u "Ljdk/internal/misc/Unsafe;"), (8, u "BIG_ENDIAN"), (0, u "Z"), (8, u "LOG2_BYTE_BIT_SIZE"), (4, u "LOG2_ARRAY_INT_INDEX_SCALE"), (54, u "JLA"), (0, u "Ljdk/internal/access/JavaLangAccess;"), (11, u "LOG2_ARRAY_BOOLEAN_INDEX_SCALE"), (9, u "LOG2_ARRAY_BYTE_INDEX_SCALE"), (5, u "LOG2_ARRAY_CHAR_INDEX_SCALE"), (5, u "LOG2_ARRAY_SHORT_INDEX_SCALE"), (18, u "LOG2_ARRAY_FLOAT_INDEX_SCALE"), (24, u "LOG2_ARRAY_DOUBLE_INDEX_SCALE"), (89, u "T_BOOLEAN"), (2, u "T_CHAR"), (1, u "T_FLOAT"), (1, u "T_DOUBLE"), (1, u "T_BYTE"), (1, u "T_SHORT"), (1, u "T_INT"), (1, u "T_LONG"), (1, u "SOFT_MAX_ARRAY_LENGTH")] 83

def k18m0 : Method := { name := "<init>", desc := "()V", sig := { parameters := [], returnType := none }, accessFlags := 2, code := none }
/-- jdk/internal/util/ArraysSupport -/
def k18 : Class := { plain "jdk/internal/util/ArraysSupport" (some 0) with
  accessFlags := 33
  interfaces := #[]
  cf := some (fileOf pool18 21 #[] #[{ accessFlags := 2, nameIndex := 9, descriptorIndex := 19, attributes := #[] }] 33 16 #[] #[{ accessFlags := 24, nameIndex := 28, descriptorIndex := 29, attributes := #[] }, { accessFlags := 26, nameIndex := 38, descriptorIndex := 39, attributes := #[] }, { accessFlags := 25, nameIndex := 121, descriptorIndex := 25, attributes := #[] }, { accessFlags := 25, nameIndex := 131, descriptorIndex := 25, attributes := #[] }, { accessFlags := 25, nameIndex := 137, descriptorIndex := 25, attributes := #[] }, { accessFlags := 25, nameIndex := 143, descriptorIndex := 25, attributes := #[] }, { accessFlags := 25, nameIndex := 53, descriptorIndex := 25, attributes := #[] }, { accessFlags := 25, nameIndex := 24, descriptorIndex := 25, attributes := #[] }, { accessFlags := 25, nameIndex := 162, descriptorIndex := 25, attributes := #[] }, { accessFlags := 25, nameIndex := 187, descriptorIndex := 25, attributes := #[] }, { accessFlags := 26, nameIndex := 48, descriptorIndex := 25, attributes := #[] }, { accessFlags := 25, nameIndex := 277, descriptorIndex := 25, attributes := #[] }, { accessFlags := 25, nameIndex := 280, descriptorIndex := 25, attributes := #[] }, { accessFlags := 25, nameIndex := 282, descriptorIndex := 25, attributes := #[] }, { accessFlags := 25, nameIndex := 284, descriptorIndex := 25, attributes := #[] }, { accessFlags := 25, nameIndex := 286, descriptorIndex := 25, attributes := #[] }, { accessFlags := 25, nameIndex := 288, descriptorIndex := 25, attributes := #[] }, { accessFlags := 25, nameIndex := 290, descriptorIndex := 25, attributes := #[] }, { accessFlags := 25, nameIndex := 292, descriptorIndex := 25, attributes := #[] }, { accessFlags := 26, nameIndex := 108, descriptorIndex := 109, attributes := #[] }, { accessFlags := 25, nameIndex := 294, descriptorIndex := 25, attributes := #[] }])
  fields := #[{ name := "U", type := (.object "jdk/internal/misc/Unsafe"), accessFlags := 24, slot := 0, constantValue := 0 }, { name := "BIG_ENDIAN", type := .boolean, accessFlags := 26, slot := 1, constantValue := 0 }, { name := "LOG2_ARRAY_BOOLEAN_INDEX_SCALE", type := .int, accessFlags := 25, slot := 2, constantValue := 0 }, { name := "LOG2_ARRAY_BYTE_INDEX_SCALE", type := .int, accessFlags := 25, slot := 3, constantValue := 0 }, { name := "LOG2_ARRAY_CHAR_INDEX_SCALE", type := .int, accessFlags := 25, slot := 4, constantValue := 0 }, { name := "LOG2_ARRAY_SHORT_INDEX_SCALE", type := .int, accessFlags := 25, slot := 5, constantValue := 0 }, { name := "LOG2_ARRAY_INT_INDEX_SCALE", type := .int, accessFlags := 25, slot := 6, constantValue := 0 }, { name := "LOG2_ARRAY_LONG_INDEX_SCALE", type := .int, accessFlags := 25, slot := 7, constantValue := 0 }, { name := "LOG2_ARRAY_FLOAT_INDEX_SCALE", type := .int, accessFlags := 25, slot := 8, constantValue := 0 }, { name := "LOG2_ARRAY_DOUBLE_INDEX_SCALE", type := .int, accessFlags := 25, slot := 9, constantValue := 0 }, { name := "LOG2_BYTE_BIT_SIZE", type := .int, accessFlags := 26, slot := 10, constantValue := 0 }, { name := "T_BOOLEAN", type := .int, accessFlags := 25, slot := 11, constantValue := 0 }, { name := "T_CHAR", type := .int, accessFlags := 25, slot := 12, constantValue := 0 }, { name := "T_FLOAT", type := .int, accessFlags := 25, slot := 13, constantValue := 0 }, { name := "T_DOUBLE", type := .int, accessFlags := 25, slot := 14, constantValue := 0 }, { name := "T_BYTE", type := .int, accessFlags := 25, slot := 15, constantValue := 0 }, { name := "T_SHORT", type := .int, accessFlags := 25, slot := 16, constantValue := 0 }, { name := "T_INT", type := .int, accessFlags := 25, slot := 17, constantValue := 0 }, { name := "T_LONG", type := .int, accessFlags := 25, slot := 18, constantValue := 0 }, { name := "JLA", type := (.object "jdk/internal/access/JavaLangAccess"), accessFlags := 26, slot := 19, constantValue := 0 }, { name := "SOFT_MAX_ARRAY_LENGTH", type := .int, accessFlags := 25, slot := 20, constantValue := 0 }]
  methods := #[k18m0]
  instanceTypes := #[]
  staticTypes := #[(.object "jdk/internal/misc/Unsafe"), .boolean, .int, .int, .int, .int, .int, .int, .int, .int, .int, .int, .int, .int, .int, .int, .int, .int, .int, (.object "jdk/internal/access/JavaLangAccess"), .int]
  resolved := Array.replicate 378 none
  statics := none }

def pool19 : Array CpInfo := pool [(1, u "java/lang/Cloneable"), (0, .class_ 1), (0, u "java/lang/Object"), (0, .class_ 3)] 3

/-- java/lang/Cloneable -/
def k19 : Class := { plain "java/lang/Cloneable" (some 0) with
  accessFlags := 1537
  interfaces := #[]
  cf := some (fileOf pool19 2 #[] #[] 1537 4 #[] #[])
  fields := #[]
  methods := #[]
  instanceTypes := #[]
  staticTypes := #[]
  resolved := Array.replicate 8 none
  statics := none }

/-- the primitive byte -/
def k20 : Class := { plain "byte" none with kind := .primitive 'B', accessFlags := 0x411 }
/-- [B -/
def k21 : Class := { plain "[B" (some 0) with kind := .array 20 .byte, interfaces := #[19, 2], accessFlags := 1041 }

/-- the primitive char -/
def k22 : Class := { plain "char" none with kind := .primitive 'C', accessFlags := 0x411 }
/-- [C -/
def k23 : Class := { plain "[C" (some 0) with kind := .array 22 .char, interfaces := #[19, 2], accessFlags := 1041 }

/-- the primitive int -/
def k24 : Class := { plain "int" none with kind := .primitive 'I', accessFlags := 0x411 }
/-- [I -/
def k25 : Class := { plain "[I" (some 0) with kind := .array 24 .int, interfaces := #[19, 2], accessFlags := 1041 }

def heap : Heap := #[{ cls := 7, slots := #[.long 0, .int 1, .null, .int 0, .null, .int 0, .int 0], vm := .statics 7 },
  { cls := 12, slots := #[.ref 4, .ref 3, .ref 6, .ref 7, .ref 5, .null, .null], vm := .statics 12 },
  { cls := 16, slots := #[.null, .null, .null], vm := .statics 16 },
  { cls := 12, slots := #[.null, .int 0, .int 0, .int 0], vm := .none },
  { cls := 12, slots := #[.null, .int 0, .int 0, .int 0], vm := .none },
  { cls := 12, slots := #[.null, .int 0, .int 0, .int 0], vm := .none },
  { cls := 12, slots := #[.null, .int 0, .int 0, .int 0], vm := .none },
  { cls := 12, slots := #[.null, .int 0, .int 0, .int 0], vm := .none }]
def classes : Array Class := #[k0, k1, k2, k3, k4, k5, k6, k7, k8, k9, k10, k11, k12, k13, k14, k15, k16, k17, k18, k19, k20, k21, k22, k23, k24, k25]
def interned : List (Array UInt16 × Addr) := []
def slotsUsed : Nat := 37
def theMethod : MethodId := ⟨1, 3⟩
def args0 : Array Value := #[.int 1, .int 2, .long 3, .long 4, .int 5]
def aboutOver (below : List Frame) : State where
  vm := { classes := classes, interned := interned.toArray }
  heap := heap
  slotsUsed := slotsUsed
  threads := #[{ frames := .invoking theMethod args0 :: below }]
def below0 : List Frame := [.native { method := ⟨0, 0⟩, args := #[] }]
def about1 : State := aboutOver below0
def p0 : Program := .bare "" "" ""
def e0 : Env := launch0.env 0 0 0
theorem w_frames : about1.frames = Frame.invoking theMethod args0 :: below0 := rfl
set_option maxRecDepth 65536 in
theorem w_args : argsFit about1.vm theMethod args0 = true := by decide +kernel
set_option maxRecDepth 65536 in
theorem w_heap : heapFits about1 = true := by decide +kernel
set_option maxRecDepth 65536 in
theorem w_runnable : about1.curStatus? = some .runnable := by decide +kernel
set_option maxRecDepth 65536 in
theorem w_alone : about1.alone = true := by decide +kernel
set_option maxRecDepth 65536 in
theorem w_named : about1.methodNamed? x = some theMethod := by decide +kernel
set_option maxRecDepth 65536 in
theorem w_hears : about1.hears theMethod below0 = true := by decide +kernel
set_option maxRecDepth 65536 in
theorem w_ripe : about1.ripe theMethod args0 below0 = true := by decide +kernel
theorem w_running : about1.status = .running := rfl
set_option maxRecDepth 65536 in
theorem w_room : about1.hasRoom e0.platform room_1 = true :=
  launch0.hasRoom_least _ room_1 (by decide +kernel) (by decide +kernel) (by decide +kernel) (by decide +kernel) (by decide +kernel) (by decide +kernel)
theorem allAtoms_all (ts : List Jvm.Cond) (a : Array Jvm.Value) (st : Jvm.State) : (allAtoms ts).before a st = ts.all (fun c => c.before a st) := by
  induction ts with
  | nil => rfl
  | cons c t ih =>
    show (Jvm.Cond.and c (allAtoms t)).before a st = _
    rw [Jvm.Cond.before_and, ih, List.all_cons]
def words1 : List Jvm.Cond := Jvm.Cond.code x code maxLocals ret :: tables_1
/-- a 'code' word, met by the world's own term for the bytes: nothing is compared byte by byte -/
theorem code_word {y : MethodName} {bytes : ByteArray} {mx : Nat} {rt : Option FieldType} {a : Array Value} {s : State} {m : MethodId} {meth : Method} {c : Code} (h1 : s.methodNamed? y = some m) (h2 : s.vm.method? m = some meth) (h3 : meth.code = some c) (h4 : c.code = bytes)
    (h5 : (c.maxLocals == mx && c.exceptionTable.isEmpty && decide (c.maxStack ≤ mostOperands) && decide (meth.sig.returnType = rt) && !meth.locks && decide (parseMethodDescriptor y.desc = some meth.sig)) = true) : (Jvm.Cond.code y bytes mx rt).before a s = true := by
  simp only [Bool.and_eq_true, beq_iff_eq, Bool.not_eq_true', decide_eq_true_eq] at h5
  obtain ⟨⟨⟨⟨⟨g1, g2⟩, g3⟩, g4⟩, g5⟩, g6⟩ := h5
  simp [Cond.before, Cond.holds, Cond.value, h1, h2, h3, h4, g1, g2, g3, g4, g5, g6]
def isCode : Jvm.Cond → Bool
  | .code _ _ _ _ => true
  | _ => false
theorem all_split {L : List Jvm.Cond} {P : Jvm.Cond → Bool} (h1 : L.all (fun c => isCode c || P c) = true) (h2 : ∀ c ∈ L.filter isCode, P c = true) : L.all P = true := by
  refine List.all_eq_true.mpr fun c hc => ?_
  have h := List.all_eq_true.mp h1 c hc
  rcases Bool.eq_false_or_eq_true (isCode c) with hi | hi
  · exact h2 c (List.mem_filter.mpr ⟨hc, hi⟩)
  · simpa [hi] using h
set_option maxRecDepth 65536 in
theorem w_c0 : (Jvm.Cond.code x code maxLocals ret).before args0 about1 = true := code_word (m := ⟨1, 3⟩) (meth := k1m3) (c := k1c3) (by decide +kernel) rfl rfl rfl (by decide +kernel)
set_option maxRecDepth 65536 in
theorem w_c1 : (Jvm.Cond.code ({ cls := "com/example/tombsweep/tombsweep/io/RecordHeaderFitsInPinLaw", name := "kc", desc := "(I)C" } : Jvm.MethodName) method_2_code (1 : Nat) (Option.some Jvm.ClassFile.FieldType.char)).before args0 about1 = true := code_word (m := ⟨1, 1⟩) (meth := k1m1) (c := k1c1) (by decide +kernel) rfl rfl rfl (by decide +kernel)
set_option maxRecDepth 65536 in
theorem w_c2 : (Jvm.Cond.code ({ cls := "java/lang/String", name := "<init>", desc := "([C)V" } : Jvm.MethodName) jdk_42_method_3_code (2 : Nat) (Option.none : Option Jvm.ClassFile.FieldType)).before args0 about1 = true := code_word (m := ⟨7, 1⟩) (meth := k7m1) (c := k7c1) (by decide +kernel) rfl rfl rfl (by decide +kernel)
set_option maxRecDepth 65536 in
theorem w_c3 : (Jvm.Cond.code ({ cls := "java/lang/String", name := "<init>", desc := "([CIILjava/lang/Void;)V" } : Jvm.MethodName) jdk_42_method_149_code (6 : Nat) (Option.none : Option Jvm.ClassFile.FieldType)).before args0 about1 = true := code_word (m := ⟨7, 5⟩) (meth := k7m5) (c := k7c5) (by decide +kernel) rfl rfl rfl (by decide +kernel)
set_option maxRecDepth 65536 in
theorem w_c4 : (Jvm.Cond.code ({ cls := "java/lang/Object", name := "<init>", desc := "()V" } : Jvm.MethodName) object_method_1_code (1 : Nat) (Option.none : Option Jvm.ClassFile.FieldType)).before args0 about1 = true := code_word (m := ⟨0, 0⟩) (meth := k0m0) (c := k0c0) (by decide +kernel) rfl rfl rfl (by decide +kernel)
set_option maxRecDepth 65536 in
theorem w_c5 : (Jvm.Cond.code ({ cls := "java/lang/StringUTF16", name := "compress", desc := "([CII)[B" } : Jvm.MethodName) jdk_52_method_16_code (6 : Nat) (Option.some (Jvm.ClassFile.FieldType.array Jvm.ClassFile.FieldType.byte))).before args0 about1 = true := code_word (m := ⟨8, 2⟩) (meth := k8m2) (c := k8c2) (by decide +kernel) rfl rfl rfl (by decide +kernel)
set_option maxRecDepth 65536 in
theorem w_c6 : (Jvm.Cond.code ({ cls := "java/lang/StringUTF16", name := "compress", desc := "([CI[BII)I" } : Jvm.MethodName) jdk_52_method_21_code (7 : Nat) (Option.some Jvm.ClassFile.FieldType.int)).before args0 about1 = true := code_word (m := ⟨8, 3⟩) (meth := k8m3) (c := k8c3) (by decide +kernel) rfl rfl rfl (by decide +kernel)
set_option maxRecDepth 65536 in
theorem w_c7 : (Jvm.Cond.code ({ cls := "java/lang/StringUTF16", name := "coderFromArrayLen", desc := "([BI)B" } : Jvm.MethodName) jdk_52_method_15_code (2 : Nat) (Option.some Jvm.ClassFile.FieldType.byte)).before args0 about1 = true := code_word (m := ⟨8, 1⟩) (meth := k8m1) (c := k8c1) (by decide +kernel) rfl rfl rfl (by decide +kernel)
set_option maxRecDepth 65536 in
theorem w_c8 : (Jvm.Cond.code ({ cls := "com/example/tombsweep/tombsweep/io/RecordHeaderFitsInPinLaw", name := "kindOf", desc := "(I)Lcom/example/tombsweep/tombsweep/io/RecordHeader$Kind;" } : Jvm.MethodName) method_3_code (2 : Nat) (Option.some (Jvm.ClassFile.FieldType.object "com/example/tombsweep/tombsweep/io/RecordHeader$Kind"))).before args0 about1 = true := code_word (m := ⟨1, 2⟩) (meth := k1m2) (c := k1c2) (by decide +kernel) rfl rfl rfl (by decide +kernel)
set_option maxRecDepth 65536 in
theorem w_c9 : (Jvm.Cond.code ({ cls := "com/example/tombsweep/tombsweep/model/BlobKey", name := "<init>", desc := "(Ljava/lang/String;)V" } : Jvm.MethodName) prog_11_method_1_code (4 : Nat) (Option.none : Option Jvm.ClassFile.FieldType)).before args0 about1 = true := code_word (m := ⟨13, 0⟩) (meth := k13m0) (c := k13c0) (by decide +kernel) rfl rfl rfl (by decide +kernel)
set_option maxRecDepth 65536 in
theorem w_c10 : (Jvm.Cond.code ({ cls := "java/lang/Record", name := "<init>", desc := "()V" } : Jvm.MethodName) jdk_30_method_1_code (1 : Nat) (Option.none : Option Jvm.ClassFile.FieldType)).before args0 about1 = true := code_word (m := ⟨9, 0⟩) (meth := k9m0) (c := k9c0) (by decide +kernel) rfl rfl rfl (by decide +kernel)
set_option maxRecDepth 65536 in
theorem w_c11 : (Jvm.Cond.code ({ cls := "java/util/Objects", name := "requireNonNull", desc := "(Ljava/lang/Object;Ljava/lang/String;)Ljava/lang/Object;" } : Jvm.MethodName) jdk_31_method_11_code (2 : Nat) (Option.some (Jvm.ClassFile.FieldType.object "java/lang/Object"))).before args0 about1 = true := code_word (m := ⟨14, 1⟩) (meth := k14m1) (c := k14c1) (by decide +kernel) rfl rfl rfl (by decide +kernel)
set_option maxRecDepth 65536 in
theorem w_c12 : (Jvm.Cond.code ({ cls := "java/lang/String", name := "isEmpty", desc := "()Z" } : Jvm.MethodName) jdk_42_method_55_code (1 : Nat) (Option.some Jvm.ClassFile.FieldType.boolean)).before args0 about1 = true := code_word (m := ⟨7, 3⟩) (meth := k7m3) (c := k7c3) (by decide +kernel) rfl rfl rfl (by decide +kernel)
set_option maxRecDepth 65536 in
theorem w_c13 : (Jvm.Cond.code ({ cls := "java/lang/String", name := "length", desc := "()I" } : Jvm.MethodName) jdk_42_method_54_code (1 : Nat) (Option.some Jvm.ClassFile.FieldType.int)).before args0 about1 = true := code_word (m := ⟨7, 2⟩) (meth := k7m2) (c := k7c2) (by decide +kernel) rfl rfl rfl (by decide +kernel)
set_option maxRecDepth 65536 in
theorem w_c14 : (Jvm.Cond.code ({ cls := "java/lang/String", name := "coder", desc := "()B" } : Jvm.MethodName) jdk_42_method_152_code (1 : Nat) (Option.some Jvm.ClassFile.FieldType.byte)).before args0 about1 = true := code_word (m := ⟨7, 6⟩) (meth := k7m6) (c := k7c6) (by decide +kernel) rfl rfl rfl (by decide +kernel)
set_option maxRecDepth 65536 in
theorem w_c15 : (Jvm.Cond.code ({ cls := "java/lang/String", name := "charAt", desc := "(I)C" } : Jvm.MethodName) jdk_42_method_56_code (2 : Nat) (Option.some Jvm.ClassFile.FieldType.char)).before args0 about1 = true := code_word (m := ⟨7, 4⟩) (meth := k7m4) (c := k7c4) (by decide +kernel) rfl rfl rfl (by decide +kernel)
set_option maxRecDepth 65536 in
theorem w_c16 : (Jvm.Cond.code ({ cls := "java/lang/String", name := "isLatin1", desc := "()Z" } : Jvm.MethodName) jdk_42_method_154_code (1 : Nat) (Option.some Jvm.ClassFile.FieldType.boolean)).before args0 about1 = true := code_word (m := ⟨7, 7⟩) (meth := k7m7) (c := k7c7) (by decide +kernel) rfl rfl rfl (by decide +kernel)
set_option maxRecDepth 65536 in
theorem w_c17 : (Jvm.Cond.code ({ cls := "java/lang/StringLatin1", name := "charAt", desc := "([BI)C" } : Jvm.MethodName) jdk_43_method_2_code (2 : Nat) (Option.some Jvm.ClassFile.FieldType.char)).before args0 about1 = true := code_word (m := ⟨15, 1⟩) (meth := k15m1) (c := k15c1) (by decide +kernel) rfl rfl rfl (by decide +kernel)
set_option maxRecDepth 65536 in
theorem w_c18 : (Jvm.Cond.code ({ cls := "java/lang/String", name := "checkIndex", desc := "(II)V" } : Jvm.MethodName) jdk_42_method_155_code (2 : Nat) (Option.none : Option Jvm.ClassFile.FieldType)).before args0 about1 = true := code_word (m := ⟨7, 8⟩) (meth := k7m8) (c := k7c8) (by decide +kernel) rfl rfl rfl (by decide +kernel)
set_option maxRecDepth 65536 in
theorem w_c19 : (Jvm.Cond.code ({ cls := "jdk/internal/util/Preconditions", name := "checkIndex", desc := "(IILjava/util/function/BiFunction;)I" } : Jvm.MethodName) jdk_41_method_11_code (3 : Nat) (Option.some Jvm.ClassFile.FieldType.int)).before args0 about1 = true := code_word (m := ⟨16, 1⟩) (meth := k16m1) (c := k16c1) (by decide +kernel) rfl rfl rfl (by decide +kernel)
set_option maxRecDepth 65536 in
theorem w_c20 : (Jvm.Cond.code ({ cls := "com/example/tombsweep/tombsweep/model/BlobKey", name := "isKeyCharacter", desc := "(C)Z" } : Jvm.MethodName) prog_11_method_4_code (1 : Nat) (Option.some Jvm.ClassFile.FieldType.boolean)).before args0 about1 = true := code_word (m := ⟨13, 1⟩) (meth := k13m1) (c := k13c1) (by decide +kernel) rfl rfl rfl (by decide +kernel)
set_option maxRecDepth 65536 in
theorem w_c21 : (Jvm.Cond.code ({ cls := "com/example/tombsweep/tombsweep/io/RecordHeader", name := "<init>", desc := "(Lcom/example/tombsweep/tombsweep/io/RecordHeader$Kind;Lcom/example/tombsweep/tombsweep/model/BlobKey;IJJJII)V" } : Jvm.MethodName) prog_5_method_1_code (12 : Nat) (Option.none : Option Jvm.ClassFile.FieldType)).before args0 about1 = true := code_word (m := ⟨10, 0⟩) (meth := k10m0) (c := k10c0) (by decide +kernel) rfl rfl rfl (by decide +kernel)
set_option maxRecDepth 65536 in
theorem w_c22 : (Jvm.Cond.code ({ cls := "com/example/tombsweep/tombsweep/io/RecordHeader", name := "fitsIn", desc := "(J)Z" } : Jvm.MethodName) prog_5_method_14_code (3 : Nat) (Option.some Jvm.ClassFile.FieldType.boolean)).before args0 about1 = true := code_word (m := ⟨10, 3⟩) (meth := k10m3) (c := k10c3) (by decide +kernel) rfl rfl rfl (by decide +kernel)
set_option maxRecDepth 65536 in
theorem w_c23 : (Jvm.Cond.code ({ cls := "com/example/tombsweep/tombsweep/io/RecordHeader", name := "contentOffset", desc := "()J" } : Jvm.MethodName) prog_5_method_12_code (1 : Nat) (Option.some Jvm.ClassFile.FieldType.long)).before args0 about1 = true := code_word (m := ⟨10, 2⟩) (meth := k10m2) (c := k10c2) (by decide +kernel) rfl rfl rfl (by decide +kernel)
set_option maxRecDepth 65536 in
theorem w_c24 : (Jvm.Cond.code ({ cls := "com/example/tombsweep/tombsweep/io/RecordHeader", name := "metadataOffset", desc := "()J" } : Jvm.MethodName) prog_5_method_11_code (1 : Nat) (Option.some Jvm.ClassFile.FieldType.long)).before args0 about1 = true := code_word (m := ⟨10, 1⟩) (meth := k10m1) (c := k10c1) (by decide +kernel) rfl rfl rfl (by decide +kernel)
set_option maxRecDepth 65536 in
theorem w_c25 : (Jvm.Cond.code ({ cls := "com/example/tombsweep/tombsweep/io/RecordHeader", name := "keyLength", desc := "()I" } : Jvm.MethodName) prog_5_method_16_code (1 : Nat) (Option.some Jvm.ClassFile.FieldType.int)).before args0 about1 = true := code_word (m := ⟨10, 4⟩) (meth := k10m4) (c := k10c4) (by decide +kernel) rfl rfl rfl (by decide +kernel)
set_option maxRecDepth 65536 in
theorem w_c26 : (Jvm.Cond.code ({ cls := "com/example/tombsweep/tombsweep/model/BlobKey", name := "value", desc := "()Ljava/lang/String;" } : Jvm.MethodName) prog_11_method_7_code (1 : Nat) (Option.some (Jvm.ClassFile.FieldType.object "java/lang/String"))).before args0 about1 = true := code_word (m := ⟨13, 2⟩) (meth := k13m2) (c := k13c2) (by decide +kernel) rfl rfl rfl (by decide +kernel)
set_option maxRecDepth 65536 in
theorem w_c27 : (Jvm.Cond.code ({ cls := "java/lang/Math", name := "max", desc := "(JJ)J" } : Jvm.MethodName) jdk_29_method_66_code (4 : Nat) (Option.some Jvm.ClassFile.FieldType.long)).before args0 about1 = true := code_word (m := ⟨17, 1⟩) (meth := k17m1) (c := k17c1) (by decide +kernel) rfl rfl rfl (by decide +kernel)
def codes1 : List Jvm.Cond := [Jvm.Cond.code x code maxLocals ret, Jvm.Cond.code ({ cls := "com/example/tombsweep/tombsweep/io/RecordHeaderFitsInPinLaw", name := "kc", desc := "(I)C" } : Jvm.MethodName) method_2_code (1 : Nat) (Option.some Jvm.ClassFile.FieldType.char), Jvm.Cond.code ({ cls := "java/lang/String", name := "<init>", desc := "([C)V" } : Jvm.MethodName) jdk_42_method_3_code (2 : Nat) (Option.none : Option Jvm.ClassFile.FieldType), Jvm.Cond.code ({ cls := "java/lang/String", name := "<init>", desc := "([CIILjava/lang/Void;)V" } : Jvm.MethodName) jdk_42_method_149_code (6 : Nat) (Option.none : Option Jvm.ClassFile.FieldType), Jvm.Cond.code ({ cls := "java/lang/Object", name := "<init>", desc := "()V" } : Jvm.MethodName) object_method_1_code (1 : Nat) (Option.none : Option Jvm.ClassFile.FieldType), Jvm.Cond.code ({ cls := "java/lang/StringUTF16", name := "compress", desc := "([CII)[B" } : Jvm.MethodName) jdk_52_method_16_code (6 : Nat) (Option.some (Jvm.ClassFile.FieldType.array Jvm.ClassFile.FieldType.byte)), Jvm.Cond.code ({ cls := "java/lang/StringUTF16", name := "compress", desc := "([CI[BII)I" } : Jvm.MethodName) jdk_52_method_21_code (7 : Nat) (Option.some Jvm.ClassFile.FieldType.int), Jvm.Cond.code ({ cls := "java/lang/StringUTF16", name := "coderFromArrayLen", desc := "([BI)B" } : Jvm.MethodName) jdk_52_method_15_code (2 : Nat) (Option.some Jvm.ClassFile.FieldType.byte), Jvm.Cond.code ({ cls := "com/example/tombsweep/tombsweep/io/RecordHeaderFitsInPinLaw", name := "kindOf", desc := "(I)Lcom/example/tombsweep/tombsweep/io/RecordHeader$Kind;" } : Jvm.MethodName) method_3_code (2 : Nat) (Option.some (Jvm.ClassFile.FieldType.object "com/example/tombsweep/tombsweep/io/RecordHeader$Kind")), Jvm.Cond.code ({ cls := "com/example/tombsweep/tombsweep/model/BlobKey", name := "<init>", desc := "(Ljava/lang/String;)V" } : Jvm.MethodName) prog_11_method_1_code (4 : Nat) (Option.none : Option Jvm.ClassFile.FieldType), Jvm.Cond.code ({ cls := "java/lang/Record", name := "<init>", desc := "()V" } : Jvm.MethodName) jdk_30_method_1_code (1 : Nat) (Option.none : Option Jvm.ClassFile.FieldType), Jvm.Cond.code ({ cls := "java/util/Objects", name := "requireNonNull", desc := "(Ljava/lang/Object;Ljava/lang/String;)Ljava/lang/Object;" } : Jvm.MethodName) jdk_31_method_11_code (2 : Nat) (Option.some (Jvm.ClassFile.FieldType.object "java/lang/Object")), Jvm.Cond.code ({ cls := "java/lang/String", name := "isEmpty", desc := "()Z" } : Jvm.MethodName) jdk_42_method_55_code (1 : Nat) (Option.some Jvm.ClassFile.FieldType.boolean), Jvm.Cond.code ({ cls := "java/lang/String", name := "length", desc := "()I" } : Jvm.MethodName) jdk_42_method_54_code (1 : Nat) (Option.some Jvm.ClassFile.FieldType.int), Jvm.Cond.code ({ cls := "java/lang/String", name := "coder", desc := "()B" } : Jvm.MethodName) jdk_42_method_152_code (1 : Nat) (Option.some Jvm.ClassFile.FieldType.byte), Jvm.Cond.code ({ cls := "java/lang/String", name := "charAt", desc := "(I)C" } : Jvm.MethodName) jdk_42_method_56_code (2 : Nat) (Option.some Jvm.ClassFile.FieldType.char), Jvm.Cond.code ({ cls := "java/lang/String", name := "isLatin1", desc := "()Z" } : Jvm.MethodName) jdk_42_method_154_code (1 : Nat) (Option.some Jvm.ClassFile.FieldType.boolean), Jvm.Cond.code ({ cls := "java/lang/StringLatin1", name := "charAt", desc := "([BI)C" } : Jvm.MethodName) jdk_43_method_2_code (2 : Nat) (Option.some Jvm.ClassFile.FieldType.char), Jvm.Cond.code ({ cls := "java/lang/String", name := "checkIndex", desc := "(II)V" } : Jvm.MethodName) jdk_42_method_155_code (2 : Nat) (Option.none : Option Jvm.ClassFile.FieldType), Jvm.Cond.code ({ cls := "jdk/internal/util/Preconditions", name := "checkIndex", desc := "(IILjava/util/function/BiFunction;)I" } : Jvm.MethodName) jdk_41_method_11_code (3 : Nat) (Option.some Jvm.ClassFile.FieldType.int), Jvm.Cond.code ({ cls := "com/example/tombsweep/tombsweep/model/BlobKey", name := "isKeyCharacter", desc := "(C)Z" } : Jvm.MethodName) prog_11_method_4_code (1 : Nat) (Option.some Jvm.ClassFile.FieldType.boolean), Jvm.Cond.code ({ cls := "com/example/tombsweep/tombsweep/io/RecordHeader", name := "<init>", desc := "(Lcom/example/tombsweep/tombsweep/io/RecordHeader$Kind;Lcom/example/tombsweep/tombsweep/model/BlobKey;IJJJII)V" } : Jvm.MethodName) prog_5_method_1_code (12 : Nat) (Option.none : Option Jvm.ClassFile.FieldType), Jvm.Cond.code ({ cls := "com/example/tombsweep/tombsweep/io/RecordHeader", name := "fitsIn", desc := "(J)Z" } : Jvm.MethodName) prog_5_method_14_code (3 : Nat) (Option.some Jvm.ClassFile.FieldType.boolean), Jvm.Cond.code ({ cls := "com/example/tombsweep/tombsweep/io/RecordHeader", name := "contentOffset", desc := "()J" } : Jvm.MethodName) prog_5_method_12_code (1 : Nat) (Option.some Jvm.ClassFile.FieldType.long), Jvm.Cond.code ({ cls := "com/example/tombsweep/tombsweep/io/RecordHeader", name := "metadataOffset", desc := "()J" } : Jvm.MethodName) prog_5_method_11_code (1 : Nat) (Option.some Jvm.ClassFile.FieldType.long), Jvm.Cond.code ({ cls := "com/example/tombsweep/tombsweep/io/RecordHeader", name := "keyLength", desc := "()I" } : Jvm.MethodName) prog_5_method_16_code (1 : Nat) (Option.some Jvm.ClassFile.FieldType.int), Jvm.Cond.code ({ cls := "com/example/tombsweep/tombsweep/model/BlobKey", name := "value", desc := "()Ljava/lang/String;" } : Jvm.MethodName) prog_11_method_7_code (1 : Nat) (Option.some (Jvm.ClassFile.FieldType.object "java/lang/String")), Jvm.Cond.code ({ cls := "java/lang/Math", name := "max", desc := "(JJ)J" } : Jvm.MethodName) jdk_29_method_66_code (4 : Nat) (Option.some Jvm.ClassFile.FieldType.long)]
set_option maxRecDepth 65536 in
theorem codes_eq : words1.filter isCode = codes1 := rfl
theorem w_codes : ∀ c ∈ words1.filter isCode, c.before args0 about1 = true := by
  rw [codes_eq]
  intro c hc
  simp only [codes1, List.mem_cons, List.not_mem_nil, or_false] at hc
  rcases hc with rfl | rfl | rfl | rfl | rfl | rfl | rfl | rfl | rfl | rfl | rfl | rfl | rfl | rfl | rfl | rfl | rfl | rfl | rfl | rfl | rfl | rfl | rfl | rfl | rfl | rfl | rfl | rfl
  · exact w_c0
  · exact w_c1
  · exact w_c2
  · exact w_c3
  · exact w_c4
  · exact w_c5
  · exact w_c6
  · exact w_c7
  · exact w_c8
  · exact w_c9
  · exact w_c10
  · exact w_c11
  · exact w_c12
  · exact w_c13
  · exact w_c14
  · exact w_c15
  · exact w_c16
  · exact w_c17
  · exact w_c18
  · exact w_c19
  · exact w_c20
  · exact w_c21
  · exact w_c22
  · exact w_c23
  · exact w_c24
  · exact w_c25
  · exact w_c26
  · exact w_c27
set_option maxRecDepth 65536 in
theorem w_t1 : (words1.take 24).all (fun c => isCode c || c.before args0 about1) = true := by decide +kernel
set_option maxRecDepth 65536 in
theorem w_t2 : ((words1.drop 24).take 24).all (fun c => isCode c || c.before args0 about1) = true := by decide +kernel
set_option maxRecDepth 65536 in
theorem w_t3 : (((words1.drop 24).drop 24).take 24).all (fun c => isCode c || c.before args0 about1) = true := by decide +kernel
set_option maxRecDepth 65536 in
theorem w_t4 : ((((words1.drop 24).drop 24).drop 24).take 24).all (fun c => isCode c || c.before args0 about1) = true := by decide +kernel
set_option maxRecDepth 65536 in
theorem w_t5 : (((((words1.drop 24).drop 24).drop 24).drop 24).take 24).all (fun c => isCode c || c.before args0 about1) = true := by decide +kernel
set_option maxRecDepth 65536 in
theorem w_t6 : ((((((words1.drop 24).drop 24).drop 24).drop 24).drop 24).take 24).all (fun c => isCode c || c.before args0 about1) = true := by decide +kernel
set_option maxRecDepth 65536 in
theorem w_t7 : ((((((words1.drop 24).drop 24).drop 24).drop 24).drop 24).drop 24).all (fun c => isCode c || c.before args0 about1) = true := by decide +kernel
theorem w_tables : (allAtoms (Jvm.Cond.code x code maxLocals ret :: tables_1)).before args0 about1 = true := by
  rw [allAtoms_all]
  show words1.all (fun c => c.before args0 about1) = true
  refine all_split ?_ w_codes
  rw [← List.take_append_drop 24 words1, List.all_append, w_t1, ← List.take_append_drop 24 (words1.drop 24), List.all_append, w_t2, ← List.take_append_drop 24 ((words1.drop 24).drop 24), List.all_append, w_t3, ← List.take_append_drop 24 (((words1.drop 24).drop 24).drop 24), List.all_append, w_t4, ← List.take_append_drop 24 ((((words1.drop 24).drop 24).drop 24).drop 24), List.all_append, w_t5, ← List.take_append_drop 24 (((((words1.drop 24).drop 24).drop 24).drop 24).drop 24), List.all_append, w_t6, w_t7]
  rfl
set_option maxRecDepth 65536 in
theorem w_rest : rest_1_c.before args0 about1 = true := by decide +kernel
set_option maxRecDepth 65536 in
theorem w_case : (Jvm.Cond.and given_1 narrow_1).before args0 about1 = true := by decide +kernel
theorem w_applies : (headSpec (Jvm.Cond.code x code maxLocals ret :: tables_1) room_1).applies x e0.platform about1 = true :=
  (Spec.applies_iff w_frames).mpr ⟨w_running, w_runnable, w_alone, w_named, w_hears, w_ripe, w_room, w_tables⟩
theorem atStart : AtStart classFile x code maxLocals ret World_1 tables_1 room_1 Calls_1 rest_1 Pre_1 launch0 p0 e0 about1 theMethod args0 below0 :=
  ⟨lists_1, trivial, launch0.admits_env _ _ _, launch0.least_env, fairChoices_fair.cas, fairChoices_fair.clock, w_frames, w_args, w_heap, w_applies, trivial, w_rest, w_case⟩
end start1
theorem witness_1 : WitnessClaimed_1 := ⟨start1.p0, start1.e0, start1.about1, start1.theMethod, start1.args0, start1.below0, start1.atStart⟩
end Jvm.Pilot.@@N@@
