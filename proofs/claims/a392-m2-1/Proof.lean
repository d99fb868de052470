import JvmDerived
import JvmDerived.Pilot.@@N@@Statement
import JvmDerived.Pilot.@@N@@Code
set_option linter.unusedVariables false
set_option linter.unusedSimpArgs false
namespace Jvm.Pilot.@@N@@
open Jvm Jvm.ClassFile Sem Op Lib Jvm.Free Jvm.Stand Jvm.LawKit Jvm.RoadKit Bundle Jvm.Pilot.@@N@@.Jvm.D
/-- from the state S the body comes to its end, and there G holds -/
def Go (p : Program) (e : Env) (below : List Frame) (G : Outcome → State → Prop) (S : State) : Prop := ∃ s₂ o, Steps p.tables e below S s₂ ∧ s₂.status = .running ∧ Ended s₂ below o ∧ G o s₂
theorem Go.step {p : Program} {e : Env} {below : List Frame} {G : Outcome → State → Prop} {S S' : State} (k : ∀ t, Steps p.tables e below S' t → Steps p.tables e below S t) (g : Go p e below G S') : Go p e below G S := by
  obtain ⟨s₂, o, h, r⟩ := g
  exact ⟨s₂, o, k _ h, r⟩
theorem Go.fin {p : Program} {e : Env} {below : List Frame} {G : Outcome → State → Prop} {S S' : State} {o : Outcome} (h : Steps p.tables e below S S') (h1 : S'.status = .running) (h2 : Ended S' below o) (h3 : G o S') : Go p e below G S := ⟨_, _, h, h1, h2, h3⟩
abbrev lv (x : Int64) : Slot := .val (.long x)
abbrev u_ : Slot := .unset
theorem own_w {Z : State} {a0 : Array Value} (hw : ∀ d ∈ tables_1, d.before a0 Z = true) (k : Nat) {d : Jvm.Cond} (h : tables_1[k]? = some d) : d.before a0 Z = true := hw d (List.mem_of_getElem? h)
theorem old_le {Z : State} {n0 : Nat} {h : Heap} (O : Old Z n0 h) : n0 ≤ h.size := O.1 ▸ O.2.1
theorem own_getR {p : Program} {l : Launch} {e : Env} {R : Room} {s : State} {m : MethodId} {args : Array Value} {below : List Frame} {meth : Method} {c : Code} {T : State} {locs : List Loc} {cells slots : Nat} {Z : State} {a0 : Array Value} {h : Heap}
    (X : Stand p l e R s m args below meth c T locs cells slots) (hx : p.tables.exec = Jvm.exec) (hZ : Z.Warmed39 s.vm) {own R0 n d : String} {index : Nat} (hown : s.vm.findClass own = some m.cls) (w : (Jvm.Cond.fieldRef own index R0 n d).before a0 Z = true)
    (eT : T.heap = h) {a : Addr} {v : Value} (F : Fld Z h a R0 n d v) {g : JFrame} (hg : g.method = m) {rest : List Value} (hs : g.stack = .ref a :: rest) (hd : decode c.code g.pc = .ok (.getfield index, 3)) : ∀ target, Steps p.tables e below (T.setTop { g with pc := g.pc + 3, stack := v :: rest }) target → Steps p.tables e below (T.setTop g) target := by
  obtain ⟨cell, cf, k, i, f, h1, h2, h3, h4, -, -, h7⟩ := F
  have hT : Z.Warmed39 T.vm := wtrans hZ X.warmed
  have w' := Cond.fieldRef_warmed39 hT w
  have ho : (Z.setVm T.vm).vm.findClass own = some m.cls := by show T.vm.findClass own = _; rw [X.warmed.alike.findClass]; exact hown
  obtain ⟨c1, k1, i1, f1, e1, hr⟩ := Cond.fieldRef_spec ho w'
  obtain ⟨k', hi, -⟩ := State.fieldFound?_setVm (s := Z) hT.alike h2
  cases e1.symm.trans hi
  intro target kk
  exact (X.getfieldR hx hg hr h3 hs (by rw [eT]; exact h1) h4 h7 hd (Steps.refl _)).trans kk
theorem own_selP {Z s : State} {a0 args : Array Value} {y : MethodName} {n : Nat} (hZ : Z.Warmed39 s.vm) (wi : (Jvm.Cond.instantiable y.cls n).before a0 Z = true) (wn : (Jvm.Cond.instanceMethod y).before a0 Z = true) (wp : (Jvm.Cond.privateMethod y).before a0 Z = true)
    (hy : y.cls ≠ "java/lang/invoke/MethodHandle" ∧ y.cls ≠ "java/lang/invoke/VarHandle") : (Jvm.Cond.selects y.cls y y).before args s = true := by
  have wi' : (Jvm.Cond.instantiable y.cls n).before args s = true := mv hZ wi
  obtain ⟨c, k, h1, h2, -, h4, -⟩ := Cond.instantiable_spec wi'
  exact Stand.selects_self_of_private h1 h2 (by simp only [Bool.or_eq_false_iff] at h4; exact h4.1) (Cond.privateMethod_at (args := args) (mvP hZ wp)) (mvT hZ wn) hy
theorem own_eqI {t : Term} {n : Int32} {args : Array Value} {s : State} (h : (Jvm.Cond.eq t (.int n)).value args s none s [] = some true) : t.eval args s none [] s = some (.int n) := by
  have hn : (Term.int n).eval args s none [] s = some (.int n) := rfl
  cases ht : t.eval args s none [] s with
  | none => simp [Cond.value, ht] at h
  | some v => cases v <;> simp [Cond.value, ht, hn] at h ⊢; exact h
theorem own_eqJ {t : Term} {n : Int64} {args : Array Value} {s : State} (h : (Jvm.Cond.eq t (.long n)).value args s none s [] = some true) : t.eval args s none [] s = some (.long n) := by
  have hn : (Term.long n).eval args s none [] s = some (.long n) := rfl
  cases ht : t.eval args s none [] s with
  | none => simp [Cond.value, ht] at h
  | some v => cases v <;> simp [Cond.value, ht, hn] at h ⊢; exact h
theorem own_eqR {a b : Term} {w : Addr} {args : Array Value} {s : State} (hb : b.eval args s none [] s = some (.ref w)) (h : (Jvm.Cond.eq a b).value args s none s [] = some true) : a.eval args s none [] s = some (.ref w) := by
  cases ha : a.eval args s none [] s with
  | none => simp [Cond.value, ha] at h
  | some v => cases v <;> simp [Cond.value, ha, hb] at h ⊢; exact h
theorem own_len {t : Term} {n : Int32} {x : Addr} {cl : Cell} {args : Array Value} {s : State} (ht : t.eval args s none [] s = some (.ref x)) (ha : s.arrayAt? x = some cl) (h : (Jvm.Cond.eq (Term.length t) (.int n)).value args s none s [] = some true) : cl.slots.size.toInt32 = n := by
  have e := own_eqI h
  by_cases hl : cl.slots.size < 2 ^ 31
  · rw [len_f ht ha hl] at e; cases e; rfl
  · simp [Term.eval, ht, ha, hl] at e
theorem pn_com_example_tombsweep_tombsweep_io_RecordHeader_Kind : plainName "com/example/tombsweep/tombsweep/io/RecordHeader$Kind" = true := by first | (simp [plainName, overriddenIn]; done) | decide +kernel
theorem d2_0 : decode prog_7_method_5_code 0 = .ok (.getstatic 66, 3) := by decide +kernel
theorem d2_3 : decode prog_7_method_5_code 3 = .ok (.astore_n 1, 1) := by decide +kernel
theorem d2_4 : decode prog_7_method_5_code 4 = .ok (.aload_n 1, 1) := by decide +kernel
theorem d2_5 : decode prog_7_method_5_code 5 = .ok (.arraylength, 1) := by decide +kernel
theorem d2_6 : decode prog_7_method_5_code 6 = .ok (.istore_n 2, 1) := by decide +kernel
theorem d2_7 : decode prog_7_method_5_code 7 = .ok (.iconst 0, 1) := by decide +kernel
theorem d2_8 : decode prog_7_method_5_code 8 = .ok (.istore_n 3, 1) := by decide +kernel
theorem d2_9 : decode prog_7_method_5_code 9 = .ok (.iload_n 3, 1) := by decide +kernel
theorem d2_10 : decode prog_7_method_5_code 10 = .ok (.iload_n 2, 1) := by decide +kernel
theorem d2_11 : decode prog_7_method_5_code 11 = .ok (.if_icmp .ge 26, 3) := by decide +kernel
theorem d2_14 : decode prog_7_method_5_code 14 = .ok (.aload_n 1, 1) := by decide +kernel
theorem d2_15 : decode prog_7_method_5_code 15 = .ok (.iload_n 3, 1) := by decide +kernel
theorem d2_16 : decode prog_7_method_5_code 16 = .ok (.aaload, 1) := by decide +kernel
theorem d2_17 : decode prog_7_method_5_code 17 = .ok (.astore 4, 2) := by decide +kernel
theorem d2_19 : decode prog_7_method_5_code 19 = .ok (.aload 4, 2) := by decide +kernel
theorem d2_21 : decode prog_7_method_5_code 21 = .ok (.getfield 38, 3) := by decide +kernel
theorem d2_24 : decode prog_7_method_5_code 24 = .ok (.iload_n 0, 1) := by decide +kernel
theorem d2_25 : decode prog_7_method_5_code 25 = .ok (.if_icmp .ne 6, 3) := by decide +kernel
theorem d2_28 : decode prog_7_method_5_code 28 = .ok (.aload 4, 2) := by decide +kernel
theorem d2_30 : decode prog_7_method_5_code 30 = .ok (.areturn, 1) := by decide +kernel
theorem ef_rmK0 (m : MethodId)  : entryFrame m #[(.int (80 : Int32))] 5 = mkF m 0 #[.val (.int (80 : Int32)), .unset, .unset, .unset, .unset] [] := by first | (simp [entryFrame, mkF, argsToLocals, Value.category]; done) | rfl
abbrev rm_rmK0 : Room := ({ frames := 0, cells := 0, slots := 0, locals := 0 } : Room)
def Q_rmK0 (Z : State) (w_PUT : Addr) (w_ERASED : Addr) (w_DELETE : Addr) (w_GONE : Addr) (w_UNFINISHED : Addr) (wk : Addr) (ck : Cell) (h0 : Heap) (n0 : Nat) (v : Option Value) (h : Heap) (L : List Loc) : Prop := (v = some (.ref w_PUT)) ∧ (Fr n0 L) ∧ (h = h0)
set_option maxRecDepth 65536 in
set_option maxHeartbeats 40000000 in
theorem rmK0 (l : Launch) (Z : State) (a0 : Array Value) (hw : ∀ d ∈ tables_1, d.before a0 Z = true) (ws : List Jvm.Cond) (w_PUT : Addr) (w_ERASED : Addr) (w_DELETE : Addr) (w_GONE : Addr) (w_UNFINISHED : Addr) (wk : Addr) (ck : Cell) (h0 : Heap) (n0 : Nat) (O : Old Z n0 h0) (S_KINDS : Sta Z Z.heap "com/example/tombsweep/tombsweep/io/RecordHeader$Kind" "KINDS" "[Lcom/example/tombsweep/tombsweep/io/RecordHeader$Kind;" (.ref wk)) (F_code_PUT : Fld Z Z.heap w_PUT "com/example/tombsweep/tombsweep/io/RecordHeader$Kind" "code" "B" (.int (80 : Int32))) (F_code_ERASED : Fld Z Z.heap w_ERASED "com/example/tombsweep/tombsweep/io/RecordHeader$Kind" "code" "B" (.int (69 : Int32))) (F_code_DELETE : Fld Z Z.heap w_DELETE "com/example/tombsweep/tombsweep/io/RecordHeader$Kind" "code" "B" (.int (68 : Int32))) (F_code_GONE : Fld Z Z.heap w_GONE "com/example/tombsweep/tombsweep/io/RecordHeader$Kind" "code" "B" (.int (71 : Int32))) (F_code_UNFINISHED : Fld Z Z.heap w_UNFINISHED "com/example/tombsweep/tombsweep/io/RecordHeader$Kind" "code" "B" (.int (85 : Int32))) (AK : Arr Z Z.heap wk ck (.object "com/example/tombsweep/tombsweep/io/RecordHeader$Kind")) (hlen : ck.slots.size.toInt32 = (5 : Int32)) (el0 : ¬ ((0 : Int32) < 0 ∨ ck.slots.size ≤ (0 : Int32).toNatClampNeg) ∧ ck.slots[(0 : Int32).toNatClampNeg]? = some (.ref w_PUT)) (el1 : ¬ ((1 : Int32) < 0 ∨ ck.slots.size ≤ (1 : Int32).toNatClampNeg) ∧ ck.slots[(1 : Int32).toNatClampNeg]? = some (.ref w_ERASED)) (el2 : ¬ ((2 : Int32) < 0 ∨ ck.slots.size ≤ (2 : Int32).toNatClampNeg) ∧ ck.slots[(2 : Int32).toNatClampNeg]? = some (.ref w_DELETE)) (el3 : ¬ ((3 : Int32) < 0 ∨ ck.slots.size ≤ (3 : Int32).toNatClampNeg) ∧ ck.slots[(3 : Int32).toNatClampNeg]? = some (.ref w_GONE)) (el4 : ¬ ((4 : Int32) < 0 ∨ ck.slots.size ≤ (4 : Int32).toNatClampNeg) ∧ ck.slots[(4 : Int32).toNatClampNeg]? = some (.ref w_UNFINISHED)) :
    MetFree l (⟨"com/example/tombsweep/tombsweep/io/RecordHeader$Kind", "known", "(B)Lcom/example/tombsweep/tombsweep/io/RecordHeader$Kind;"⟩ : MethodName) (head1 (Jvm.Cond.code (⟨"com/example/tombsweep/tombsweep/io/RecordHeader$Kind", "known", "(B)Lcom/example/tombsweep/tombsweep/io/RecordHeader$Kind;"⟩ : MethodName) prog_7_method_5_code 5 (some (.object "com/example/tombsweep/tombsweep/io/RecordHeader$Kind")) :: ws) rm_rmK0) (fun A_ U => A_ = #[(.int (80 : Int32))] ∧ Z.Warmed39 U.vm ∧ U.heap = h0) (fun _ _ _ _ _ => True) (fun _ U o U' => ∃ v L, o = .returned v ∧ Q_rmK0 Z w_PUT w_ERASED w_DELETE w_GONE w_UNFINISHED wk ck h0 n0 v U'.heap L ∧ FrameEnd U o U' L rm_rmK0.cells rm_rmK0.slots) := by
  refine MetFree.of_bodySF (plainFor_of_name pn_com_example_tombsweep_tombsweep_io_RecordHeader_Kind) hisR ?_
  intro p e s m args below meth c s₁ Bd hml0 hP hK
  obtain ⟨rfl, hZ, hh⟩ := hP
  have hx := Bd.exec
  have hby := Bd.bytes
  have hml : c.maxLocals = 5 := hml0
  have hown : s.vm.findClass "com/example/tombsweep/tombsweep/io/RecordHeader$Kind" = some m.cls := findClass_of_methodNamed Bd.named
  have hnm := (name_of_methodNamed Bd.named Bd.method).1
  have X0 : Stand p l e rm_rmK0 s m #[(.int (80 : Int32))] below meth c s₁ [] 0 0 := Stand.of_body Bd
  have e0 : s₁.heap = h0 := by rw [← hh, Bd.state]; rfl
  have N0 := Fr.nil n0
  refine Go.step (p := p) (e := e) (below := below) (G := fun o U' => ∃ v L, o = .returned v ∧ Q_rmK0 Z w_PUT w_ERASED w_DELETE w_GONE w_UNFINISHED wk ck h0 n0 v U'.heap L ∧ FrameEnd s o U' L rm_rmK0.cells rm_rmK0.slots) (S' := s₁.setTop (mkF m 0 #[iv (80 : Int32), u_, u_, u_, u_] [])) (fun t k => castTop (ef_rmK0 m ) k) ?_
  obtain ⟨T1, X1, e1, st1⟩ := getS2 X0 hx hZ hown (host := "") (Or.inl (own_w hw 10 rfl)) Via.refl e0 (S_KINDS.ext O.2) (g := (mkF m 0 #[iv (80 : Int32), u_, u_, u_, u_] [])) rfl (hb hby d2_0)
  refine Go.step st1 ?_
  show Go p e below _ (T1.setTop (mkF m 3 #[iv (80 : Int32), u_, u_, u_, u_] [(.ref wk)]))
  refine Go.step (S' := T1.setTop (mkF m 5 #[iv (80 : Int32), rv wk, u_, u_, u_] [(.ref wk)])) (fun t k => ?_) ?_
  · show Steps p.tables e below (T1.setTop (mkF m 3 #[iv (80 : Int32), u_, u_, u_, u_] [(.ref wk)])) _
    refine XS.astoreN X1.here hx rfl (hb hby d2_3) rfl rfl (l' := #[iv (80 : Int32), rv wk, u_, u_, u_]) rfl ?_
    show Steps p.tables e below (T1.setTop (mkF m 4 #[iv (80 : Int32), rv wk, u_, u_, u_] [])) _
    refine XS.aloadN X1.here hx rfl (hb hby d2_4) rfl rfl ?_
    exact k
  have ArK := AK.ext O.2
  refine Go.step (S' := T1.setTop (mkF m 6 #[iv (80 : Int32), rv wk, u_, u_, u_] [(.int ck.slots.size.toInt32)])) (fun t k => X1.arraylength hx (by rw [e1]; exact ArK.1) (State.isArrayOf_alike hZ.alike ArK.2.1) (g := (mkF m 5 #[iv (80 : Int32), rv wk, u_, u_, u_] [(.ref wk)])) rfl rfl (hb hby d2_5) _ k) ?_
  rw [hlen]
  show Go p e below _ (T1.setTop (mkF m 6 #[iv (80 : Int32), rv wk, u_, u_, u_] [(.int (5 : Int32))]))
  refine Go.step (S' := T1.setTop (mkF m 16 #[iv (80 : Int32), rv wk, iv (5 : Int32), iv (0 : Int32), u_] [(.int (0 : Int32)), (.ref wk)])) (fun t k => ?_) ?_
  · show Steps p.tables e below (T1.setTop (mkF m 6 #[iv (80 : Int32), rv wk, u_, u_, u_] [(.int (5 : Int32))])) _
    refine XS.istoreN X1.here hx rfl (hb hby d2_6) rfl (l' := #[iv (80 : Int32), rv wk, iv (5 : Int32), u_, u_]) rfl ?_
    show Steps p.tables e below (T1.setTop (mkF m 7 #[iv (80 : Int32), rv wk, iv (5 : Int32), u_, u_] [])) _
    refine XS.iconst X1.here hx rfl (hb hby d2_7) ?_
    show Steps p.tables e below (T1.setTop (mkF m 8 #[iv (80 : Int32), rv wk, iv (5 : Int32), u_, u_] [(.int (0 : Int32))])) _
    refine XS.istoreN X1.here hx rfl (hb hby d2_8) rfl (l' := #[iv (80 : Int32), rv wk, iv (5 : Int32), iv (0 : Int32), u_]) rfl ?_
    show Steps p.tables e below (T1.setTop (mkF m 9 #[iv (80 : Int32), rv wk, iv (5 : Int32), iv (0 : Int32), u_] [])) _
    refine XS.iloadN X1.here hx rfl (hb hby d2_9) rfl ?_
    show Steps p.tables e below (T1.setTop (mkF m 10 #[iv (80 : Int32), rv wk, iv (5 : Int32), iv (0 : Int32), u_] [(.int (0 : Int32))])) _
    refine XS.iloadN X1.here hx rfl (hb hby d2_10) rfl ?_
    show Steps p.tables e below (T1.setTop (mkF m 11 #[iv (80 : Int32), rv wk, iv (5 : Int32), iv (0 : Int32), u_] [(.int (5 : Int32)), (.int (0 : Int32))])) _
    refine XS.icmpNo X1.here hx rfl (hb hby d2_11) rfl (tlt ((by decide) : (0 : Int32) < (5 : Int32))).2.1 ?_
    show Steps p.tables e below (T1.setTop (mkF m 14 #[iv (80 : Int32), rv wk, iv (5 : Int32), iv (0 : Int32), u_] [])) _
    refine XS.aloadN X1.here hx rfl (hb hby d2_14) rfl rfl ?_
    show Steps p.tables e below (T1.setTop (mkF m 15 #[iv (80 : Int32), rv wk, iv (5 : Int32), iv (0 : Int32), u_] [(.ref wk)])) _
    refine XS.iloadN X1.here hx rfl (hb hby d2_15) rfl ?_
    exact k
  refine Go.step (S' := T1.setTop (mkF m 17 #[iv (80 : Int32), rv wk, iv (5 : Int32), iv (0 : Int32), u_] [(.ref w_PUT)])) (fun t k => X1.aaload hx (j := (0 : Int32)) (v := (.ref w_PUT)) (by rw [e1]; exact ArK.1) (State.isArrayOf_alike hZ.alike ArK.2.1) rfl ArK.2.2 el0.1 el0.2 (g := (mkF m 16 #[iv (80 : Int32), rv wk, iv (5 : Int32), iv (0 : Int32), u_] [(.int (0 : Int32)), (.ref wk)])) rfl rfl (hb hby d2_16) _ k) ?_
  refine Go.step (S' := T1.setTop (mkF m 21 #[iv (80 : Int32), rv wk, iv (5 : Int32), iv (0 : Int32), rv w_PUT] [(.ref w_PUT)])) (fun t k => ?_) ?_
  · show Steps p.tables e below (T1.setTop (mkF m 17 #[iv (80 : Int32), rv wk, iv (5 : Int32), iv (0 : Int32), u_] [(.ref w_PUT)])) _
    refine XS.astore X1.here hx rfl (hb hby d2_17) rfl rfl (l' := #[iv (80 : Int32), rv wk, iv (5 : Int32), iv (0 : Int32), rv w_PUT]) rfl ?_
    show Steps p.tables e below (T1.setTop (mkF m 19 #[iv (80 : Int32), rv wk, iv (5 : Int32), iv (0 : Int32), rv w_PUT] [])) _
    refine XS.aload X1.here hx rfl (hb hby d2_19) rfl rfl ?_
    exact k
  obtain ⟨T2, X2, e2, st2⟩ := getF X1 hx hZ hown (host := "") (Or.inl (own_w hw 12 rfl)) Via.refl e1 (F_code_PUT.ext O.2) (g := (mkF m 21 #[iv (80 : Int32), rv wk, iv (5 : Int32), iv (0 : Int32), rv w_PUT] [(.ref w_PUT)])) rfl rfl (hb hby d2_21)
  refine Go.step st2 ?_
  show Go p e below _ (T2.setTop (mkF m 24 #[iv (80 : Int32), rv wk, iv (5 : Int32), iv (0 : Int32), rv w_PUT] [(.int (80 : Int32))]))
  refine Go.step (S' := T2.setTop (mkF m 30 #[iv (80 : Int32), rv wk, iv (5 : Int32), iv (0 : Int32), rv w_PUT] [(.ref w_PUT)])) (fun t k => ?_) ?_
  · show Steps p.tables e below (T2.setTop (mkF m 24 #[iv (80 : Int32), rv wk, iv (5 : Int32), iv (0 : Int32), rv w_PUT] [(.int (80 : Int32))])) _
    refine XS.iloadN X2.here hx rfl (hb hby d2_24) rfl ?_
    show Steps p.tables e below (T2.setTop (mkF m 25 #[iv (80 : Int32), rv wk, iv (5 : Int32), iv (0 : Int32), rv w_PUT] [(.int (80 : Int32)), (.int (80 : Int32))])) _
    refine XS.icmpNo X2.here hx rfl (hb hby d2_25) rfl (teq ((by decide) : (80 : Int32) = (80 : Int32))).2 ?_
    show Steps p.tables e below (T2.setTop (mkF m 28 #[iv (80 : Int32), rv wk, iv (5 : Int32), iv (0 : Int32), rv w_PUT] [])) _
    refine XS.aload X2.here hx rfl (hb hby d2_28) rfl rfl ?_
    exact k
  obtain ⟨fs, hr, hrun, hended, hW, hsame⟩ := X2.leave (v := some (.ref w_PUT)) (fun h => by rw [Bd.returns] at h; cases h)
  refine Go.fin (S' := T2.setFrames fs) ?_ hrun hended ⟨_, _, rfl, ?_, ⟨_, rfl⟩, hW, hsame.mono (by decide) (by decide)⟩
  · exact retOut X2 hx Bd.returns rfl (Or.inr (Or.inr (Or.inr (Or.inr ⟨rfl, rfl, rfl⟩)))) (hb hby d2_30) hr
  · show Q_rmK0 Z w_PUT w_ERASED w_DELETE w_GONE w_UNFINISHED wk ck h0 n0 (some (.ref w_PUT)) T2.heap _
    rw [e2]
    exact ⟨rfl, N0, rfl⟩
theorem d2_31 : decode prog_7_method_5_code 31 = .ok (.iinc 3 1, 3) := by decide +kernel
theorem d2_34 : decode prog_7_method_5_code 34 = .ok (.goto (-25), 3) := by decide +kernel
theorem ef_rmK1 (m : MethodId)  : entryFrame m #[(.int (69 : Int32))] 5 = mkF m 0 #[.val (.int (69 : Int32)), .unset, .unset, .unset, .unset] [] := by first | (simp [entryFrame, mkF, argsToLocals, Value.category]; done) | rfl
abbrev rm_rmK1 : Room := ({ frames := 0, cells := 0, slots := 0, locals := 0 } : Room)
def Q_rmK1 (Z : State) (w_PUT : Addr) (w_ERASED : Addr) (w_DELETE : Addr) (w_GONE : Addr) (w_UNFINISHED : Addr) (wk : Addr) (ck : Cell) (h0 : Heap) (n0 : Nat) (v : Option Value) (h : Heap) (L : List Loc) : Prop := (v = some (.ref w_ERASED)) ∧ (Fr n0 L) ∧ (h = h0)
set_option maxRecDepth 65536 in
set_option maxHeartbeats 40000000 in
theorem rmK1 (l : Launch) (Z : State) (a0 : Array Value) (hw : ∀ d ∈ tables_1, d.before a0 Z = true) (ws : List Jvm.Cond) (w_PUT : Addr) (w_ERASED : Addr) (w_DELETE : Addr) (w_GONE : Addr) (w_UNFINISHED : Addr) (wk : Addr) (ck : Cell) (h0 : Heap) (n0 : Nat) (O : Old Z n0 h0) (S_KINDS : Sta Z Z.heap "com/example/tombsweep/tombsweep/io/RecordHeader$Kind" "KINDS" "[Lcom/example/tombsweep/tombsweep/io/RecordHeader$Kind;" (.ref wk)) (F_code_PUT : Fld Z Z.heap w_PUT "com/example/tombsweep/tombsweep/io/RecordHeader$Kind" "code" "B" (.int (80 : Int32))) (F_code_ERASED : Fld Z Z.heap w_ERASED "com/example/tombsweep/tombsweep/io/RecordHeader$Kind" "code" "B" (.int (69 : Int32))) (F_code_DELETE : Fld Z Z.heap w_DELETE "com/example/tombsweep/tombsweep/io/RecordHeader$Kind" "code" "B" (.int (68 : Int32))) (F_code_GONE : Fld Z Z.heap w_GONE "com/example/tombsweep/tombsweep/io/RecordHeader$Kind" "code" "B" (.int (71 : Int32))) (F_code_UNFINISHED : Fld Z Z.heap w_UNFINISHED "com/example/tombsweep/tombsweep/io/RecordHeader$Kind" "code" "B" (.int (85 : Int32))) (AK : Arr Z Z.heap wk ck (.object "com/example/tombsweep/tombsweep/io/RecordHeader$Kind")) (hlen : ck.slots.size.toInt32 = (5 : Int32)) (el0 : ¬ ((0 : Int32) < 0 ∨ ck.slots.size ≤ (0 : Int32).toNatClampNeg) ∧ ck.slots[(0 : Int32).toNatClampNeg]? = some (.ref w_PUT)) (el1 : ¬ ((1 : Int32) < 0 ∨ ck.slots.size ≤ (1 : Int32).toNatClampNeg) ∧ ck.slots[(1 : Int32).toNatClampNeg]? = some (.ref w_ERASED)) (el2 : ¬ ((2 : Int32) < 0 ∨ ck.slots.size ≤ (2 : Int32).toNatClampNeg) ∧ ck.slots[(2 : Int32).toNatClampNeg]? = some (.ref w_DELETE)) (el3 : ¬ ((3 : Int32) < 0 ∨ ck.slots.size ≤ (3 : Int32).toNatClampNeg) ∧ ck.slots[(3 : Int32).toNatClampNeg]? = some (.ref w_GONE)) (el4 : ¬ ((4 : Int32) < 0 ∨ ck.slots.size ≤ (4 : Int32).toNatClampNeg) ∧ ck.slots[(4 : Int32).toNatClampNeg]? = some (.ref w_UNFINISHED)) :
    MetFree l (⟨"com/example/tombsweep/tombsweep/io/RecordHeader$Kind", "known", "(B)Lcom/example/tombsweep/tombsweep/io/RecordHeader$Kind;"⟩ : MethodName) (head1 (Jvm.Cond.code (⟨"com/example/tombsweep/tombsweep/io/RecordHeader$Kind", "known", "(B)Lcom/example/tombsweep/tombsweep/io/RecordHeader$Kind;"⟩ : MethodName) prog_7_method_5_code 5 (some (.object "com/example/tombsweep/tombsweep/io/RecordHeader$Kind")) :: ws) rm_rmK1) (fun A_ U => A_ = #[(.int (69 : Int32))] ∧ Z.Warmed39 U.vm ∧ U.heap = h0) (fun _ _ _ _ _ => True) (fun _ U o U' => ∃ v L, o = .returned v ∧ Q_rmK1 Z w_PUT w_ERASED w_DELETE w_GONE w_UNFINISHED wk ck h0 n0 v U'.heap L ∧ FrameEnd U o U' L rm_rmK1.cells rm_rmK1.slots) := by
  refine MetFree.of_bodySF (plainFor_of_name pn_com_example_tombsweep_tombsweep_io_RecordHeader_Kind) hisR ?_
  intro p e s m args below meth c s₁ Bd hml0 hP hK
  obtain ⟨rfl, hZ, hh⟩ := hP
  have hx := Bd.exec
  have hby := Bd.bytes
  have hml : c.maxLocals = 5 := hml0
  have hown : s.vm.findClass "com/example/tombsweep/tombsweep/io/RecordHeader$Kind" = some m.cls := findClass_of_methodNamed Bd.named
  have hnm := (name_of_methodNamed Bd.named Bd.method).1
  have X0 : Stand p l e rm_rmK1 s m #[(.int (69 : Int32))] below meth c s₁ [] 0 0 := Stand.of_body Bd
  have e0 : s₁.heap = h0 := by rw [← hh, Bd.state]; rfl
  have N0 := Fr.nil n0
  refine Go.step (p := p) (e := e) (below := below) (G := fun o U' => ∃ v L, o = .returned v ∧ Q_rmK1 Z w_PUT w_ERASED w_DELETE w_GONE w_UNFINISHED wk ck h0 n0 v U'.heap L ∧ FrameEnd s o U' L rm_rmK1.cells rm_rmK1.slots) (S' := s₁.setTop (mkF m 0 #[iv (69 : Int32), u_, u_, u_, u_] [])) (fun t k => castTop (ef_rmK1 m ) k) ?_
  obtain ⟨T1, X1, e1, st1⟩ := getS2 X0 hx hZ hown (host := "") (Or.inl (own_w hw 10 rfl)) Via.refl e0 (S_KINDS.ext O.2) (g := (mkF m 0 #[iv (69 : Int32), u_, u_, u_, u_] [])) rfl (hb hby d2_0)
  refine Go.step st1 ?_
  show Go p e below _ (T1.setTop (mkF m 3 #[iv (69 : Int32), u_, u_, u_, u_] [(.ref wk)]))
  refine Go.step (S' := T1.setTop (mkF m 5 #[iv (69 : Int32), rv wk, u_, u_, u_] [(.ref wk)])) (fun t k => ?_) ?_
  · show Steps p.tables e below (T1.setTop (mkF m 3 #[iv (69 : Int32), u_, u_, u_, u_] [(.ref wk)])) _
    refine XS.astoreN X1.here hx rfl (hb hby d2_3) rfl rfl (l' := #[iv (69 : Int32), rv wk, u_, u_, u_]) rfl ?_
    show Steps p.tables e below (T1.setTop (mkF m 4 #[iv (69 : Int32), rv wk, u_, u_, u_] [])) _
    refine XS.aloadN X1.here hx rfl (hb hby d2_4) rfl rfl ?_
    exact k
  have ArK := AK.ext O.2
  refine Go.step (S' := T1.setTop (mkF m 6 #[iv (69 : Int32), rv wk, u_, u_, u_] [(.int ck.slots.size.toInt32)])) (fun t k => X1.arraylength hx (by rw [e1]; exact ArK.1) (State.isArrayOf_alike hZ.alike ArK.2.1) (g := (mkF m 5 #[iv (69 : Int32), rv wk, u_, u_, u_] [(.ref wk)])) rfl rfl (hb hby d2_5) _ k) ?_
  rw [hlen]
  show Go p e below _ (T1.setTop (mkF m 6 #[iv (69 : Int32), rv wk, u_, u_, u_] [(.int (5 : Int32))]))
  refine Go.step (S' := T1.setTop (mkF m 16 #[iv (69 : Int32), rv wk, iv (5 : Int32), iv (0 : Int32), u_] [(.int (0 : Int32)), (.ref wk)])) (fun t k => ?_) ?_
  · show Steps p.tables e below (T1.setTop (mkF m 6 #[iv (69 : Int32), rv wk, u_, u_, u_] [(.int (5 : Int32))])) _
    refine XS.istoreN X1.here hx rfl (hb hby d2_6) rfl (l' := #[iv (69 : Int32), rv wk, iv (5 : Int32), u_, u_]) rfl ?_
    show Steps p.tables e below (T1.setTop (mkF m 7 #[iv (69 : Int32), rv wk, iv (5 : Int32), u_, u_] [])) _
    refine XS.iconst X1.here hx rfl (hb hby d2_7) ?_
    show Steps p.tables e below (T1.setTop (mkF m 8 #[iv (69 : Int32), rv wk, iv (5 : Int32), u_, u_] [(.int (0 : Int32))])) _
    refine XS.istoreN X1.here hx rfl (hb hby d2_8) rfl (l' := #[iv (69 : Int32), rv wk, iv (5 : Int32), iv (0 : Int32), u_]) rfl ?_
    show Steps p.tables e below (T1.setTop (mkF m 9 #[iv (69 : Int32), rv wk, iv (5 : Int32), iv (0 : Int32), u_] [])) _
    refine XS.iloadN X1.here hx rfl (hb hby d2_9) rfl ?_
    show Steps p.tables e below (T1.setTop (mkF m 10 #[iv (69 : Int32), rv wk, iv (5 : Int32), iv (0 : Int32), u_] [(.int (0 : Int32))])) _
    refine XS.iloadN X1.here hx rfl (hb hby d2_10) rfl ?_
    show Steps p.tables e below (T1.setTop (mkF m 11 #[iv (69 : Int32), rv wk, iv (5 : Int32), iv (0 : Int32), u_] [(.int (5 : Int32)), (.int (0 : Int32))])) _
    refine XS.icmpNo X1.here hx rfl (hb hby d2_11) rfl (tlt ((by decide) : (0 : Int32) < (5 : Int32))).2.1 ?_
    show Steps p.tables e below (T1.setTop (mkF m 14 #[iv (69 : Int32), rv wk, iv (5 : Int32), iv (0 : Int32), u_] [])) _
    refine XS.aloadN X1.here hx rfl (hb hby d2_14) rfl rfl ?_
    show Steps p.tables e below (T1.setTop (mkF m 15 #[iv (69 : Int32), rv wk, iv (5 : Int32), iv (0 : Int32), u_] [(.ref wk)])) _
    refine XS.iloadN X1.here hx rfl (hb hby d2_15) rfl ?_
    exact k
  refine Go.step (S' := T1.setTop (mkF m 17 #[iv (69 : Int32), rv wk, iv (5 : Int32), iv (0 : Int32), u_] [(.ref w_PUT)])) (fun t k => X1.aaload hx (j := (0 : Int32)) (v := (.ref w_PUT)) (by rw [e1]; exact ArK.1) (State.isArrayOf_alike hZ.alike ArK.2.1) rfl ArK.2.2 el0.1 el0.2 (g := (mkF m 16 #[iv (69 : Int32), rv wk, iv (5 : Int32), iv (0 : Int32), u_] [(.int (0 : Int32)), (.ref wk)])) rfl rfl (hb hby d2_16) _ k) ?_
  refine Go.step (S' := T1.setTop (mkF m 21 #[iv (69 : Int32), rv wk, iv (5 : Int32), iv (0 : Int32), rv w_PUT] [(.ref w_PUT)])) (fun t k => ?_) ?_
  · show Steps p.tables e below (T1.setTop (mkF m 17 #[iv (69 : Int32), rv wk, iv (5 : Int32), iv (0 : Int32), u_] [(.ref w_PUT)])) _
    refine XS.astore X1.here hx rfl (hb hby d2_17) rfl rfl (l' := #[iv (69 : Int32), rv wk, iv (5 : Int32), iv (0 : Int32), rv w_PUT]) rfl ?_
    show Steps p.tables e below (T1.setTop (mkF m 19 #[iv (69 : Int32), rv wk, iv (5 : Int32), iv (0 : Int32), rv w_PUT] [])) _
    refine XS.aload X1.here hx rfl (hb hby d2_19) rfl rfl ?_
    exact k
  obtain ⟨T2, X2, e2, st2⟩ := getF X1 hx hZ hown (host := "") (Or.inl (own_w hw 12 rfl)) Via.refl e1 (F_code_PUT.ext O.2) (g := (mkF m 21 #[iv (69 : Int32), rv wk, iv (5 : Int32), iv (0 : Int32), rv w_PUT] [(.ref w_PUT)])) rfl rfl (hb hby d2_21)
  refine Go.step st2 ?_
  show Go p e below _ (T2.setTop (mkF m 24 #[iv (69 : Int32), rv wk, iv (5 : Int32), iv (0 : Int32), rv w_PUT] [(.int (80 : Int32))]))
  refine Go.step (S' := T2.setTop (mkF m 34 #[iv (69 : Int32), rv wk, iv (5 : Int32), iv ((0 : Int32) + (1 : Int32)), rv w_PUT] [])) (fun t k => ?_) ?_
  · show Steps p.tables e below (T2.setTop (mkF m 24 #[iv (69 : Int32), rv wk, iv (5 : Int32), iv (0 : Int32), rv w_PUT] [(.int (80 : Int32))])) _
    refine XS.iloadN X2.here hx rfl (hb hby d2_24) rfl ?_
    show Steps p.tables e below (T2.setTop (mkF m 25 #[iv (69 : Int32), rv wk, iv (5 : Int32), iv (0 : Int32), rv w_PUT] [(.int (69 : Int32)), (.int (80 : Int32))])) _
    refine XS.icmpYes X2.here hx rfl (pc0 := 25) (pc' := 31) rfl (hb hby d2_25) rfl (feq ((by decide) : ¬ ((80 : Int32) = (69 : Int32)))).2 (by decide) (by decide) ?_
    show Steps p.tables e below (T2.setTop (mkF m 31 #[iv (69 : Int32), rv wk, iv (5 : Int32), iv (0 : Int32), rv w_PUT] [])) _
    refine XS.iinc X2.here hx rfl (hb hby d2_31) rfl (l' := #[iv (69 : Int32), rv wk, iv (5 : Int32), iv ((0 : Int32) + (1 : Int32)), rv w_PUT]) rfl ?_
    exact k
  rw [show ((0 : Int32) + (1 : Int32)) = (1 : Int32) from by decide]
  show Go p e below _ (T2.setTop (mkF m 34 #[iv (69 : Int32), rv wk, iv (5 : Int32), iv (1 : Int32), rv w_PUT] []))
  refine Go.step (S' := T2.setTop (mkF m 16 #[iv (69 : Int32), rv wk, iv (5 : Int32), iv (1 : Int32), rv w_PUT] [(.int (1 : Int32)), (.ref wk)])) (fun t k => ?_) ?_
  · show Steps p.tables e below (T2.setTop (mkF m 34 #[iv (69 : Int32), rv wk, iv (5 : Int32), iv (1 : Int32), rv w_PUT] [])) _
    refine XS.goto X2.here hx rfl (pc0 := 34) (pc' := 9) rfl (hb hby d2_34) (by decide) (by decide) ?_
    show Steps p.tables e below (T2.setTop (mkF m 9 #[iv (69 : Int32), rv wk, iv (5 : Int32), iv (1 : Int32), rv w_PUT] [])) _
    refine XS.iloadN X2.here hx rfl (hb hby d2_9) rfl ?_
    show Steps p.tables e below (T2.setTop (mkF m 10 #[iv (69 : Int32), rv wk, iv (5 : Int32), iv (1 : Int32), rv w_PUT] [(.int (1 : Int32))])) _
    refine XS.iloadN X2.here hx rfl (hb hby d2_10) rfl ?_
    show Steps p.tables e below (T2.setTop (mkF m 11 #[iv (69 : Int32), rv wk, iv (5 : Int32), iv (1 : Int32), rv w_PUT] [(.int (5 : Int32)), (.int (1 : Int32))])) _
    refine XS.icmpNo X2.here hx rfl (hb hby d2_11) rfl (tlt ((by decide) : (1 : Int32) < (5 : Int32))).2.1 ?_
    show Steps p.tables e below (T2.setTop (mkF m 14 #[iv (69 : Int32), rv wk, iv (5 : Int32), iv (1 : Int32), rv w_PUT] [])) _
    refine XS.aloadN X2.here hx rfl (hb hby d2_14) rfl rfl ?_
    show Steps p.tables e below (T2.setTop (mkF m 15 #[iv (69 : Int32), rv wk, iv (5 : Int32), iv (1 : Int32), rv w_PUT] [(.ref wk)])) _
    refine XS.iloadN X2.here hx rfl (hb hby d2_15) rfl ?_
    exact k
  refine Go.step (S' := T2.setTop (mkF m 17 #[iv (69 : Int32), rv wk, iv (5 : Int32), iv (1 : Int32), rv w_PUT] [(.ref w_ERASED)])) (fun t k => X2.aaload hx (j := (1 : Int32)) (v := (.ref w_ERASED)) (by rw [e2]; exact ArK.1) (State.isArrayOf_alike hZ.alike ArK.2.1) rfl ArK.2.2 el1.1 el1.2 (g := (mkF m 16 #[iv (69 : Int32), rv wk, iv (5 : Int32), iv (1 : Int32), rv w_PUT] [(.int (1 : Int32)), (.ref wk)])) rfl rfl (hb hby d2_16) _ k) ?_
  refine Go.step (S' := T2.setTop (mkF m 21 #[iv (69 : Int32), rv wk, iv (5 : Int32), iv (1 : Int32), rv w_ERASED] [(.ref w_ERASED)])) (fun t k => ?_) ?_
  · show Steps p.tables e below (T2.setTop (mkF m 17 #[iv (69 : Int32), rv wk, iv (5 : Int32), iv (1 : Int32), rv w_PUT] [(.ref w_ERASED)])) _
    refine XS.astore X2.here hx rfl (hb hby d2_17) rfl rfl (l' := #[iv (69 : Int32), rv wk, iv (5 : Int32), iv (1 : Int32), rv w_ERASED]) rfl ?_
    show Steps p.tables e below (T2.setTop (mkF m 19 #[iv (69 : Int32), rv wk, iv (5 : Int32), iv (1 : Int32), rv w_ERASED] [])) _
    refine XS.aload X2.here hx rfl (hb hby d2_19) rfl rfl ?_
    exact k
  obtain ⟨T3, X3, e3, st3⟩ := getF X2 hx hZ hown (host := "") (Or.inl (own_w hw 12 rfl)) Via.refl e2 (F_code_ERASED.ext O.2) (g := (mkF m 21 #[iv (69 : Int32), rv wk, iv (5 : Int32), iv (1 : Int32), rv w_ERASED] [(.ref w_ERASED)])) rfl rfl (hb hby d2_21)
  refine Go.step st3 ?_
  show Go p e below _ (T3.setTop (mkF m 24 #[iv (69 : Int32), rv wk, iv (5 : Int32), iv (1 : Int32), rv w_ERASED] [(.int (69 : Int32))]))
  refine Go.step (S' := T3.setTop (mkF m 30 #[iv (69 : Int32), rv wk, iv (5 : Int32), iv (1 : Int32), rv w_ERASED] [(.ref w_ERASED)])) (fun t k => ?_) ?_
  · show Steps p.tables e below (T3.setTop (mkF m 24 #[iv (69 : Int32), rv wk, iv (5 : Int32), iv (1 : Int32), rv w_ERASED] [(.int (69 : Int32))])) _
    refine XS.iloadN X3.here hx rfl (hb hby d2_24) rfl ?_
    show Steps p.tables e below (T3.setTop (mkF m 25 #[iv (69 : Int32), rv wk, iv (5 : Int32), iv (1 : Int32), rv w_ERASED] [(.int (69 : Int32)), (.int (69 : Int32))])) _
    refine XS.icmpNo X3.here hx rfl (hb hby d2_25) rfl (teq ((by decide) : (69 : Int32) = (69 : Int32))).2 ?_
    show Steps p.tables e below (T3.setTop (mkF m 28 #[iv (69 : Int32), rv wk, iv (5 : Int32), iv (1 : Int32), rv w_ERASED] [])) _
    refine XS.aload X3.here hx rfl (hb hby d2_28) rfl rfl ?_
    exact k
  obtain ⟨fs, hr, hrun, hended, hW, hsame⟩ := X3.leave (v := some (.ref w_ERASED)) (fun h => by rw [Bd.returns] at h; cases h)
  refine Go.fin (S' := T3.setFrames fs) ?_ hrun hended ⟨_, _, rfl, ?_, ⟨_, rfl⟩, hW, hsame.mono (by decide) (by decide)⟩
  · exact retOut X3 hx Bd.returns rfl (Or.inr (Or.inr (Or.inr (Or.inr ⟨rfl, rfl, rfl⟩)))) (hb hby d2_30) hr
  · show Q_rmK1 Z w_PUT w_ERASED w_DELETE w_GONE w_UNFINISHED wk ck h0 n0 (some (.ref w_ERASED)) T3.heap _
    rw [e3]
    exact ⟨rfl, N0, rfl⟩
theorem ef_rmK2 (m : MethodId)  : entryFrame m #[(.int (68 : Int32))] 5 = mkF m 0 #[.val (.int (68 : Int32)), .unset, .unset, .unset, .unset] [] := by first | (simp [entryFrame, mkF, argsToLocals, Value.category]; done) | rfl
abbrev rm_rmK2 : Room := ({ frames := 0, cells := 0, slots := 0, locals := 0 } : Room)
def Q_rmK2 (Z : State) (w_PUT : Addr) (w_ERASED : Addr) (w_DELETE : Addr) (w_GONE : Addr) (w_UNFINISHED : Addr) (wk : Addr) (ck : Cell) (h0 : Heap) (n0 : Nat) (v : Option Value) (h : Heap) (L : List Loc) : Prop := (v = some (.ref w_DELETE)) ∧ (Fr n0 L) ∧ (h = h0)
set_option maxRecDepth 65536 in
set_option maxHeartbeats 40000000 in
theorem rmK2 (l : Launch) (Z : State) (a0 : Array Value) (hw : ∀ d ∈ tables_1, d.before a0 Z = true) (ws : List Jvm.Cond) (w_PUT : Addr) (w_ERASED : Addr) (w_DELETE : Addr) (w_GONE : Addr) (w_UNFINISHED : Addr) (wk : Addr) (ck : Cell) (h0 : Heap) (n0 : Nat) (O : Old Z n0 h0) (S_KINDS : Sta Z Z.heap "com/example/tombsweep/tombsweep/io/RecordHeader$Kind" "KINDS" "[Lcom/example/tombsweep/tombsweep/io/RecordHeader$Kind;" (.ref wk)) (F_code_PUT : Fld Z Z.heap w_PUT "com/example/tombsweep/tombsweep/io/RecordHeader$Kind" "code" "B" (.int (80 : Int32))) (F_code_ERASED : Fld Z Z.heap w_ERASED "com/example/tombsweep/tombsweep/io/RecordHeader$Kind" "code" "B" (.int (69 : Int32))) (F_code_DELETE : Fld Z Z.heap w_DELETE "com/example/tombsweep/tombsweep/io/RecordHeader$Kind" "code" "B" (.int (68 : Int32))) (F_code_GONE : Fld Z Z.heap w_GONE "com/example/tombsweep/tombsweep/io/RecordHeader$Kind" "code" "B" (.int (71 : Int32))) (F_code_UNFINISHED : Fld Z Z.heap w_UNFINISHED "com/example/tombsweep/tombsweep/io/RecordHeader$Kind" "code" "B" (.int (85 : Int32))) (AK : Arr Z Z.heap wk ck (.object "com/example/tombsweep/tombsweep/io/RecordHeader$Kind")) (hlen : ck.slots.size.toInt32 = (5 : Int32)) (el0 : ¬ ((0 : Int32) < 0 ∨ ck.slots.size ≤ (0 : Int32).toNatClampNeg) ∧ ck.slots[(0 : Int32).toNatClampNeg]? = some (.ref w_PUT)) (el1 : ¬ ((1 : Int32) < 0 ∨ ck.slots.size ≤ (1 : Int32).toNatClampNeg) ∧ ck.slots[(1 : Int32).toNatClampNeg]? = some (.ref w_ERASED)) (el2 : ¬ ((2 : Int32) < 0 ∨ ck.slots.size ≤ (2 : Int32).toNatClampNeg) ∧ ck.slots[(2 : Int32).toNatClampNeg]? = some (.ref w_DELETE)) (el3 : ¬ ((3 : Int32) < 0 ∨ ck.slots.size ≤ (3 : Int32).toNatClampNeg) ∧ ck.slots[(3 : Int32).toNatClampNeg]? = some (.ref w_GONE)) (el4 : ¬ ((4 : Int32) < 0 ∨ ck.slots.size ≤ (4 : Int32).toNatClampNeg) ∧ ck.slots[(4 : Int32).toNatClampNeg]? = some (.ref w_UNFINISHED)) :
    MetFree l (⟨"com/example/tombsweep/tombsweep/io/RecordHeader$Kind", "known", "(B)Lcom/example/tombsweep/tombsweep/io/RecordHeader$Kind;"⟩ : MethodName) (head1 (Jvm.Cond.code (⟨"com/example/tombsweep/tombsweep/io/RecordHeader$Kind", "known", "(B)Lcom/example/tombsweep/tombsweep/io/RecordHeader$Kind;"⟩ : MethodName) prog_7_method_5_code 5 (some (.object "com/example/tombsweep/tombsweep/io/RecordHeader$Kind")) :: ws) rm_rmK2) (fun A_ U => A_ = #[(.int (68 : Int32))] ∧ Z.Warmed39 U.vm ∧ U.heap = h0) (fun _ _ _ _ _ => True) (fun _ U o U' => ∃ v L, o = .returned v ∧ Q_rmK2 Z w_PUT w_ERASED w_DELETE w_GONE w_UNFINISHED wk ck h0 n0 v U'.heap L ∧ FrameEnd U o U' L rm_rmK2.cells rm_rmK2.slots) := by
  refine MetFree.of_bodySF (plainFor_of_name pn_com_example_tombsweep_tombsweep_io_RecordHeader_Kind) hisR ?_
  intro p e s m args below meth c s₁ Bd hml0 hP hK
  obtain ⟨rfl, hZ, hh⟩ := hP
  have hx := Bd.exec
  have hby := Bd.bytes
  have hml : c.maxLocals = 5 := hml0
  have hown : s.vm.findClass "com/example/tombsweep/tombsweep/io/RecordHeader$Kind" = some m.cls := findClass_of_methodNamed Bd.named
  have hnm := (name_of_methodNamed Bd.named Bd.method).1
  have X0 : Stand p l e rm_rmK2 s m #[(.int (68 : Int32))] below meth c s₁ [] 0 0 := Stand.of_body Bd
  have e0 : s₁.heap = h0 := by rw [← hh, Bd.state]; rfl
  have N0 := Fr.nil n0
  refine Go.step (p := p) (e := e) (below := below) (G := fun o U' => ∃ v L, o = .returned v ∧ Q_rmK2 Z w_PUT w_ERASED w_DELETE w_GONE w_UNFINISHED wk ck h0 n0 v U'.heap L ∧ FrameEnd s o U' L rm_rmK2.cells rm_rmK2.slots) (S' := s₁.setTop (mkF m 0 #[iv (68 : Int32), u_, u_, u_, u_] [])) (fun t k => castTop (ef_rmK2 m ) k) ?_
  obtain ⟨T1, X1, e1, st1⟩ := getS2 X0 hx hZ hown (host := "") (Or.inl (own_w hw 10 rfl)) Via.refl e0 (S_KINDS.ext O.2) (g := (mkF m 0 #[iv (68 : Int32), u_, u_, u_, u_] [])) rfl (hb hby d2_0)
  refine Go.step st1 ?_
  show Go p e below _ (T1.setTop (mkF m 3 #[iv (68 : Int32), u_, u_, u_, u_] [(.ref wk)]))
  refine Go.step (S' := T1.setTop (mkF m 5 #[iv (68 : Int32), rv wk, u_, u_, u_] [(.ref wk)])) (fun t k => ?_) ?_
  · show Steps p.tables e below (T1.setTop (mkF m 3 #[iv (68 : Int32), u_, u_, u_, u_] [(.ref wk)])) _
    refine XS.astoreN X1.here hx rfl (hb hby d2_3) rfl rfl (l' := #[iv (68 : Int32), rv wk, u_, u_, u_]) rfl ?_
    show Steps p.tables e below (T1.setTop (mkF m 4 #[iv (68 : Int32), rv wk, u_, u_, u_] [])) _
    refine XS.aloadN X1.here hx rfl (hb hby d2_4) rfl rfl ?_
    exact k
  have ArK := AK.ext O.2
  refine Go.step (S' := T1.setTop (mkF m 6 #[iv (68 : Int32), rv wk, u_, u_, u_] [(.int ck.slots.size.toInt32)])) (fun t k => X1.arraylength hx (by rw [e1]; exact ArK.1) (State.isArrayOf_alike hZ.alike ArK.2.1) (g := (mkF m 5 #[iv (68 : Int32), rv wk, u_, u_, u_] [(.ref wk)])) rfl rfl (hb hby d2_5) _ k) ?_
  rw [hlen]
  show Go p e below _ (T1.setTop (mkF m 6 #[iv (68 : Int32), rv wk, u_, u_, u_] [(.int (5 : Int32))]))
  refine Go.step (S' := T1.setTop (mkF m 16 #[iv (68 : Int32), rv wk, iv (5 : Int32), iv (0 : Int32), u_] [(.int (0 : Int32)), (.ref wk)])) (fun t k => ?_) ?_
  · show Steps p.tables e below (T1.setTop (mkF m 6 #[iv (68 : Int32), rv wk, u_, u_, u_] [(.int (5 : Int32))])) _
    refine XS.istoreN X1.here hx rfl (hb hby d2_6) rfl (l' := #[iv (68 : Int32), rv wk, iv (5 : Int32), u_, u_]) rfl ?_
    show Steps p.tables e below (T1.setTop (mkF m 7 #[iv (68 : Int32), rv wk, iv (5 : Int32), u_, u_] [])) _
    refine XS.iconst X1.here hx rfl (hb hby d2_7) ?_
    show Steps p.tables e below (T1.setTop (mkF m 8 #[iv (68 : Int32), rv wk, iv (5 : Int32), u_, u_] [(.int (0 : Int32))])) _
    refine XS.istoreN X1.here hx rfl (hb hby d2_8) rfl (l' := #[iv (68 : Int32), rv wk, iv (5 : Int32), iv (0 : Int32), u_]) rfl ?_
    show Steps p.tables e below (T1.setTop (mkF m 9 #[iv (68 : Int32), rv wk, iv (5 : Int32), iv (0 : Int32), u_] [])) _
    refine XS.iloadN X1.here hx rfl (hb hby d2_9) rfl ?_
    show Steps p.tables e below (T1.setTop (mkF m 10 #[iv (68 : Int32), rv wk, iv (5 : Int32), iv (0 : Int32), u_] [(.int (0 : Int32))])) _
    refine XS.iloadN X1.here hx rfl (hb hby d2_10) rfl ?_
    show Steps p.tables e below (T1.setTop (mkF m 11 #[iv (68 : Int32), rv wk, iv (5 : Int32), iv (0 : Int32), u_] [(.int (5 : Int32)), (.int (0 : Int32))])) _
    refine XS.icmpNo X1.here hx rfl (hb hby d2_11) rfl (tlt ((by decide) : (0 : Int32) < (5 : Int32))).2.1 ?_
    show Steps p.tables e below (T1.setTop (mkF m 14 #[iv (68 : Int32), rv wk, iv (5 : Int32), iv (0 : Int32), u_] [])) _
    refine XS.aloadN X1.here hx rfl (hb hby d2_14) rfl rfl ?_
    show Steps p.tables e below (T1.setTop (mkF m 15 #[iv (68 : Int32), rv wk, iv (5 : Int32), iv (0 : Int32), u_] [(.ref wk)])) _
    refine XS.iloadN X1.here hx rfl (hb hby d2_15) rfl ?_
    exact k
  refine Go.step (S' := T1.setTop (mkF m 17 #[iv (68 : Int32), rv wk, iv (5 : Int32), iv (0 : Int32), u_] [(.ref w_PUT)])) (fun t k => X1.aaload hx (j := (0 : Int32)) (v := (.ref w_PUT)) (by rw [e1]; exact ArK.1) (State.isArrayOf_alike hZ.alike ArK.2.1) rfl ArK.2.2 el0.1 el0.2 (g := (mkF m 16 #[iv (68 : Int32), rv wk, iv (5 : Int32), iv (0 : Int32), u_] [(.int (0 : Int32)), (.ref wk)])) rfl rfl (hb hby d2_16) _ k) ?_
  refine Go.step (S' := T1.setTop (mkF m 21 #[iv (68 : Int32), rv wk, iv (5 : Int32), iv (0 : Int32), rv w_PUT] [(.ref w_PUT)])) (fun t k => ?_) ?_
  · show Steps p.tables e below (T1.setTop (mkF m 17 #[iv (68 : Int32), rv wk, iv (5 : Int32), iv (0 : Int32), u_] [(.ref w_PUT)])) _
    refine XS.astore X1.here hx rfl (hb hby d2_17) rfl rfl (l' := #[iv (68 : Int32), rv wk, iv (5 : Int32), iv (0 : Int32), rv w_PUT]) rfl ?_
    show Steps p.tables e below (T1.setTop (mkF m 19 #[iv (68 : Int32), rv wk, iv (5 : Int32), iv (0 : Int32), rv w_PUT] [])) _
    refine XS.aload X1.here hx rfl (hb hby d2_19) rfl rfl ?_
    exact k
  obtain ⟨T2, X2, e2, st2⟩ := getF X1 hx hZ hown (host := "") (Or.inl (own_w hw 12 rfl)) Via.refl e1 (F_code_PUT.ext O.2) (g := (mkF m 21 #[iv (68 : Int32), rv wk, iv (5 : Int32), iv (0 : Int32), rv w_PUT] [(.ref w_PUT)])) rfl rfl (hb hby d2_21)
  refine Go.step st2 ?_
  show Go p e below _ (T2.setTop (mkF m 24 #[iv (68 : Int32), rv wk, iv (5 : Int32), iv (0 : Int32), rv w_PUT] [(.int (80 : Int32))]))
  refine Go.step (S' := T2.setTop (mkF m 34 #[iv (68 : Int32), rv wk, iv (5 : Int32), iv ((0 : Int32) + (1 : Int32)), rv w_PUT] [])) (fun t k => ?_) ?_
  · show Steps p.tables e below (T2.setTop (mkF m 24 #[iv (68 : Int32), rv wk, iv (5 : Int32), iv (0 : Int32), rv w_PUT] [(.int (80 : Int32))])) _
    refine XS.iloadN X2.here hx rfl (hb hby d2_24) rfl ?_
    show Steps p.tables e below (T2.setTop (mkF m 25 #[iv (68 : Int32), rv wk, iv (5 : Int32), iv (0 : Int32), rv w_PUT] [(.int (68 : Int32)), (.int (80 : Int32))])) _
    refine XS.icmpYes X2.here hx rfl (pc0 := 25) (pc' := 31) rfl (hb hby d2_25) rfl (feq ((by decide) : ¬ ((80 : Int32) = (68 : Int32)))).2 (by decide) (by decide) ?_
    show Steps p.tables e below (T2.setTop (mkF m 31 #[iv (68 : Int32), rv wk, iv (5 : Int32), iv (0 : Int32), rv w_PUT] [])) _
    refine XS.iinc X2.here hx rfl (hb hby d2_31) rfl (l' := #[iv (68 : Int32), rv wk, iv (5 : Int32), iv ((0 : Int32) + (1 : Int32)), rv w_PUT]) rfl ?_
    exact k
  rw [show ((0 : Int32) + (1 : Int32)) = (1 : Int32) from by decide]
  show Go p e below _ (T2.setTop (mkF m 34 #[iv (68 : Int32), rv wk, iv (5 : Int32), iv (1 : Int32), rv w_PUT] []))
  refine Go.step (S' := T2.setTop (mkF m 16 #[iv (68 : Int32), rv wk, iv (5 : Int32), iv (1 : Int32), rv w_PUT] [(.int (1 : Int32)), (.ref wk)])) (fun t k => ?_) ?_
  · show Steps p.tables e below (T2.setTop (mkF m 34 #[iv (68 : Int32), rv wk, iv (5 : Int32), iv (1 : Int32), rv w_PUT] [])) _
    refine XS.goto X2.here hx rfl (pc0 := 34) (pc' := 9) rfl (hb hby d2_34) (by decide) (by decide) ?_
    show Steps p.tables e below (T2.setTop (mkF m 9 #[iv (68 : Int32), rv wk, iv (5 : Int32), iv (1 : Int32), rv w_PUT] [])) _
    refine XS.iloadN X2.here hx rfl (hb hby d2_9) rfl ?_
    show Steps p.tables e below (T2.setTop (mkF m 10 #[iv (68 : Int32), rv wk, iv (5 : Int32), iv (1 : Int32), rv w_PUT] [(.int (1 : Int32))])) _
    refine XS.iloadN X2.here hx rfl (hb hby d2_10) rfl ?_
    show Steps p.tables e below (T2.setTop (mkF m 11 #[iv (68 : Int32), rv wk, iv (5 : Int32), iv (1 : Int32), rv w_PUT] [(.int (5 : Int32)), (.int (1 : Int32))])) _
    refine XS.icmpNo X2.here hx rfl (hb hby d2_11) rfl (tlt ((by decide) : (1 : Int32) < (5 : Int32))).2.1 ?_
    show Steps p.tables e below (T2.setTop (mkF m 14 #[iv (68 : Int32), rv wk, iv (5 : Int32), iv (1 : Int32), rv w_PUT] [])) _
    refine XS.aloadN X2.here hx rfl (hb hby d2_14) rfl rfl ?_
    show Steps p.tables e below (T2.setTop (mkF m 15 #[iv (68 : Int32), rv wk, iv (5 : Int32), iv (1 : Int32), rv w_PUT] [(.ref wk)])) _
    refine XS.iloadN X2.here hx rfl (hb hby d2_15) rfl ?_
    exact k
  refine Go.step (S' := T2.setTop (mkF m 17 #[iv (68 : Int32), rv wk, iv (5 : Int32), iv (1 : Int32), rv w_PUT] [(.ref w_ERASED)])) (fun t k => X2.aaload hx (j := (1 : Int32)) (v := (.ref w_ERASED)) (by rw [e2]; exact ArK.1) (State.isArrayOf_alike hZ.alike ArK.2.1) rfl ArK.2.2 el1.1 el1.2 (g := (mkF m 16 #[iv (68 : Int32), rv wk, iv (5 : Int32), iv (1 : Int32), rv w_PUT] [(.int (1 : Int32)), (.ref wk)])) rfl rfl (hb hby d2_16) _ k) ?_
  refine Go.step (S' := T2.setTop (mkF m 21 #[iv (68 : Int32), rv wk, iv (5 : Int32), iv (1 : Int32), rv w_ERASED] [(.ref w_ERASED)])) (fun t k => ?_) ?_
  · show Steps p.tables e below (T2.setTop (mkF m 17 #[iv (68 : Int32), rv wk, iv (5 : Int32), iv (1 : Int32), rv w_PUT] [(.ref w_ERASED)])) _
    refine XS.astore X2.here hx rfl (hb hby d2_17) rfl rfl (l' := #[iv (68 : Int32), rv wk, iv (5 : Int32), iv (1 : Int32), rv w_ERASED]) rfl ?_
    show Steps p.tables e below (T2.setTop (mkF m 19 #[iv (68 : Int32), rv wk, iv (5 : Int32), iv (1 : Int32), rv w_ERASED] [])) _
    refine XS.aload X2.here hx rfl (hb hby d2_19) rfl rfl ?_
    exact k
  obtain ⟨T3, X3, e3, st3⟩ := getF X2 hx hZ hown (host := "") (Or.inl (own_w hw 12 rfl)) Via.refl e2 (F_code_ERASED.ext O.2) (g := (mkF m 21 #[iv (68 : Int32), rv wk, iv (5 : Int32), iv (1 : Int32), rv w_ERASED] [(.ref w_ERASED)])) rfl rfl (hb hby d2_21)
  refine Go.step st3 ?_
  show Go p e below _ (T3.setTop (mkF m 24 #[iv (68 : Int32), rv wk, iv (5 : Int32), iv (1 : Int32), rv w_ERASED] [(.int (69 : Int32))]))
  refine Go.step (S' := T3.setTop (mkF m 34 #[iv (68 : Int32), rv wk, iv (5 : Int32), iv ((1 : Int32) + (1 : Int32)), rv w_ERASED] [])) (fun t k => ?_) ?_
  · show Steps p.tables e below (T3.setTop (mkF m 24 #[iv (68 : Int32), rv wk, iv (5 : Int32), iv (1 : Int32), rv w_ERASED] [(.int (69 : Int32))])) _
    refine XS.iloadN X3.here hx rfl (hb hby d2_24) rfl ?_
    show Steps p.tables e below (T3.setTop (mkF m 25 #[iv (68 : Int32), rv wk, iv (5 : Int32), iv (1 : Int32), rv w_ERASED] [(.int (68 : Int32)), (.int (69 : Int32))])) _
    refine XS.icmpYes X3.here hx rfl (pc0 := 25) (pc' := 31) rfl (hb hby d2_25) rfl (feq ((by decide) : ¬ ((69 : Int32) = (68 : Int32)))).2 (by decide) (by decide) ?_
    show Steps p.tables e below (T3.setTop (mkF m 31 #[iv (68 : Int32), rv wk, iv (5 : Int32), iv (1 : Int32), rv w_ERASED] [])) _
    refine XS.iinc X3.here hx rfl (hb hby d2_31) rfl (l' := #[iv (68 : Int32), rv wk, iv (5 : Int32), iv ((1 : Int32) + (1 : Int32)), rv w_ERASED]) rfl ?_
    exact k
  rw [show ((1 : Int32) + (1 : Int32)) = (2 : Int32) from by decide]
  show Go p e below _ (T3.setTop (mkF m 34 #[iv (68 : Int32), rv wk, iv (5 : Int32), iv (2 : Int32), rv w_ERASED] []))
  refine Go.step (S' := T3.setTop (mkF m 16 #[iv (68 : Int32), rv wk, iv (5 : Int32), iv (2 : Int32), rv w_ERASED] [(.int (2 : Int32)), (.ref wk)])) (fun t k => ?_) ?_
  · show Steps p.tables e below (T3.setTop (mkF m 34 #[iv (68 : Int32), rv wk, iv (5 : Int32), iv (2 : Int32), rv w_ERASED] [])) _
    refine XS.goto X3.here hx rfl (pc0 := 34) (pc' := 9) rfl (hb hby d2_34) (by decide) (by decide) ?_
    show Steps p.tables e below (T3.setTop (mkF m 9 #[iv (68 : Int32), rv wk, iv (5 : Int32), iv (2 : Int32), rv w_ERASED] [])) _
    refine XS.iloadN X3.here hx rfl (hb hby d2_9) rfl ?_
    show Steps p.tables e below (T3.setTop (mkF m 10 #[iv (68 : Int32), rv wk, iv (5 : Int32), iv (2 : Int32), rv w_ERASED] [(.int (2 : Int32))])) _
    refine XS.iloadN X3.here hx rfl (hb hby d2_10) rfl ?_
    show Steps p.tables e below (T3.setTop (mkF m 11 #[iv (68 : Int32), rv wk, iv (5 : Int32), iv (2 : Int32), rv w_ERASED] [(.int (5 : Int32)), (.int (2 : Int32))])) _
    refine XS.icmpNo X3.here hx rfl (hb hby d2_11) rfl (tlt ((by decide) : (2 : Int32) < (5 : Int32))).2.1 ?_
    show Steps p.tables e below (T3.setTop (mkF m 14 #[iv (68 : Int32), rv wk, iv (5 : Int32), iv (2 : Int32), rv w_ERASED] [])) _
    refine XS.aloadN X3.here hx rfl (hb hby d2_14) rfl rfl ?_
    show Steps p.tables e below (T3.setTop (mkF m 15 #[iv (68 : Int32), rv wk, iv (5 : Int32), iv (2 : Int32), rv w_ERASED] [(.ref wk)])) _
    refine XS.iloadN X3.here hx rfl (hb hby d2_15) rfl ?_
    exact k
  refine Go.step (S' := T3.setTop (mkF m 17 #[iv (68 : Int32), rv wk, iv (5 : Int32), iv (2 : Int32), rv w_ERASED] [(.ref w_DELETE)])) (fun t k => X3.aaload hx (j := (2 : Int32)) (v := (.ref w_DELETE)) (by rw [e3]; exact ArK.1) (State.isArrayOf_alike hZ.alike ArK.2.1) rfl ArK.2.2 el2.1 el2.2 (g := (mkF m 16 #[iv (68 : Int32), rv wk, iv (5 : Int32), iv (2 : Int32), rv w_ERASED] [(.int (2 : Int32)), (.ref wk)])) rfl rfl (hb hby d2_16) _ k) ?_
  refine Go.step (S' := T3.setTop (mkF m 21 #[iv (68 : Int32), rv wk, iv (5 : Int32), iv (2 : Int32), rv w_DELETE] [(.ref w_DELETE)])) (fun t k => ?_) ?_
  · show Steps p.tables e below (T3.setTop (mkF m 17 #[iv (68 : Int32), rv wk, iv (5 : Int32), iv (2 : Int32), rv w_ERASED] [(.ref w_DELETE)])) _
    refine XS.astore X3.here hx rfl (hb hby d2_17) rfl rfl (l' := #[iv (68 : Int32), rv wk, iv (5 : Int32), iv (2 : Int32), rv w_DELETE]) rfl ?_
    show Steps p.tables e below (T3.setTop (mkF m 19 #[iv (68 : Int32), rv wk, iv (5 : Int32), iv (2 : Int32), rv w_DELETE] [])) _
    refine XS.aload X3.here hx rfl (hb hby d2_19) rfl rfl ?_
    exact k
  obtain ⟨T4, X4, e4, st4⟩ := getF X3 hx hZ hown (host := "") (Or.inl (own_w hw 12 rfl)) Via.refl e3 (F_code_DELETE.ext O.2) (g := (mkF m 21 #[iv (68 : Int32), rv wk, iv (5 : Int32), iv (2 : Int32), rv w_DELETE] [(.ref w_DELETE)])) rfl rfl (hb hby d2_21)
  refine Go.step st4 ?_
  show Go p e below _ (T4.setTop (mkF m 24 #[iv (68 : Int32), rv wk, iv (5 : Int32), iv (2 : Int32), rv w_DELETE] [(.int (68 : Int32))]))
  refine Go.step (S' := T4.setTop (mkF m 30 #[iv (68 : Int32), rv wk, iv (5 : Int32), iv (2 : Int32), rv w_DELETE] [(.ref w_DELETE)])) (fun t k => ?_) ?_
  · show Steps p.tables e below (T4.setTop (mkF m 24 #[iv (68 : Int32), rv wk, iv (5 : Int32), iv (2 : Int32), rv w_DELETE] [(.int (68 : Int32))])) _
    refine XS.iloadN X4.here hx rfl (hb hby d2_24) rfl ?_
    show Steps p.tables e below (T4.setTop (mkF m 25 #[iv (68 : Int32), rv wk, iv (5 : Int32), iv (2 : Int32), rv w_DELETE] [(.int (68 : Int32)), (.int (68 : Int32))])) _
    refine XS.icmpNo X4.here hx rfl (hb hby d2_25) rfl (teq ((by decide) : (68 : Int32) = (68 : Int32))).2 ?_
    show Steps p.tables e below (T4.setTop (mkF m 28 #[iv (68 : Int32), rv wk, iv (5 : Int32), iv (2 : Int32), rv w_DELETE] [])) _
    refine XS.aload X4.here hx rfl (hb hby d2_28) rfl rfl ?_
    exact k
  obtain ⟨fs, hr, hrun, hended, hW, hsame⟩ := X4.leave (v := some (.ref w_DELETE)) (fun h => by rw [Bd.returns] at h; cases h)
  refine Go.fin (S' := T4.setFrames fs) ?_ hrun hended ⟨_, _, rfl, ?_, ⟨_, rfl⟩, hW, hsame.mono (by decide) (by decide)⟩
  · exact retOut X4 hx Bd.returns rfl (Or.inr (Or.inr (Or.inr (Or.inr ⟨rfl, rfl, rfl⟩)))) (hb hby d2_30) hr
  · show Q_rmK2 Z w_PUT w_ERASED w_DELETE w_GONE w_UNFINISHED wk ck h0 n0 (some (.ref w_DELETE)) T4.heap _
    rw [e4]
    exact ⟨rfl, N0, rfl⟩
theorem ef_rmK3 (m : MethodId)  : entryFrame m #[(.int (71 : Int32))] 5 = mkF m 0 #[.val (.int (71 : Int32)), .unset, .unset, .unset, .unset] [] := by first | (simp [entryFrame, mkF, argsToLocals, Value.category]; done) | rfl
abbrev rm_rmK3 : Room := ({ frames := 0, cells := 0, slots := 0, locals := 0 } : Room)
def Q_rmK3 (Z : State) (w_PUT : Addr) (w_ERASED : Addr) (w_DELETE : Addr) (w_GONE : Addr) (w_UNFINISHED : Addr) (wk : Addr) (ck : Cell) (h0 : Heap) (n0 : Nat) (v : Option Value) (h : Heap) (L : List Loc) : Prop := (v = some (.ref w_GONE)) ∧ (Fr n0 L) ∧ (h = h0)
set_option maxRecDepth 65536 in
set_option maxHeartbeats 40000000 in
theorem rmK3 (l : Launch) (Z : State) (a0 : Array Value) (hw : ∀ d ∈ tables_1, d.before a0 Z = true) (ws : List Jvm.Cond) (w_PUT : Addr) (w_ERASED : Addr) (w_DELETE : Addr) (w_GONE : Addr) (w_UNFINISHED : Addr) (wk : Addr) (ck : Cell) (h0 : Heap) (n0 : Nat) (O : Old Z n0 h0) (S_KINDS : Sta Z Z.heap "com/example/tombsweep/tombsweep/io/RecordHeader$Kind" "KINDS" "[Lcom/example/tombsweep/tombsweep/io/RecordHeader$Kind;" (.ref wk)) (F_code_PUT : Fld Z Z.heap w_PUT "com/example/tombsweep/tombsweep/io/RecordHeader$Kind" "code" "B" (.int (80 : Int32))) (F_code_ERASED : Fld Z Z.heap w_ERASED "com/example/tombsweep/tombsweep/io/RecordHeader$Kind" "code" "B" (.int (69 : Int32))) (F_code_DELETE : Fld Z Z.heap w_DELETE "com/example/tombsweep/tombsweep/io/RecordHeader$Kind" "code" "B" (.int (68 : Int32))) (F_code_GONE : Fld Z Z.heap w_GONE "com/example/tombsweep/tombsweep/io/RecordHeader$Kind" "code" "B" (.int (71 : Int32))) (F_code_UNFINISHED : Fld Z Z.heap w_UNFINISHED "com/example/tombsweep/tombsweep/io/RecordHeader$Kind" "code" "B" (.int (85 : Int32))) (AK : Arr Z Z.heap wk ck (.object "com/example/tombsweep/tombsweep/io/RecordHeader$Kind")) (hlen : ck.slots.size.toInt32 = (5 : Int32)) (el0 : ¬ ((0 : Int32) < 0 ∨ ck.slots.size ≤ (0 : Int32).toNatClampNeg) ∧ ck.slots[(0 : Int32).toNatClampNeg]? = some (.ref w_PUT)) (el1 : ¬ ((1 : Int32) < 0 ∨ ck.slots.size ≤ (1 : Int32).toNatClampNeg) ∧ ck.slots[(1 : Int32).toNatClampNeg]? = some (.ref w_ERASED)) (el2 : ¬ ((2 : Int32) < 0 ∨ ck.slots.size ≤ (2 : Int32).toNatClampNeg) ∧ ck.slots[(2 : Int32).toNatClampNeg]? = some (.ref w_DELETE)) (el3 : ¬ ((3 : Int32) < 0 ∨ ck.slots.size ≤ (3 : Int32).toNatClampNeg) ∧ ck.slots[(3 : Int32).toNatClampNeg]? = some (.ref w_GONE)) (el4 : ¬ ((4 : Int32) < 0 ∨ ck.slots.size ≤ (4 : Int32).toNatClampNeg) ∧ ck.slots[(4 : Int32).toNatClampNeg]? = some (.ref w_UNFINISHED)) :
    MetFree l (⟨"com/example/tombsweep/tombsweep/io/RecordHeader$Kind", "known", "(B)Lcom/example/tombsweep/tombsweep/io/RecordHeader$Kind;"⟩ : MethodName) (head1 (Jvm.Cond.code (⟨"com/example/tombsweep/tombsweep/io/RecordHeader$Kind", "known", "(B)Lcom/example/tombsweep/tombsweep/io/RecordHeader$Kind;"⟩ : MethodName) prog_7_method_5_code 5 (some (.object "com/example/tombsweep/tombsweep/io/RecordHeader$Kind")) :: ws) rm_rmK3) (fun A_ U => A_ = #[(.int (71 : Int32))] ∧ Z.Warmed39 U.vm ∧ U.heap = h0) (fun _ _ _ _ _ => True) (fun _ U o U' => ∃ v L, o = .returned v ∧ Q_rmK3 Z w_PUT w_ERASED w_DELETE w_GONE w_UNFINISHED wk ck h0 n0 v U'.heap L ∧ FrameEnd U o U' L rm_rmK3.cells rm_rmK3.slots) := by
  refine MetFree.of_bodySF (plainFor_of_name pn_com_example_tombsweep_tombsweep_io_RecordHeader_Kind) hisR ?_
  intro p e s m args below meth c s₁ Bd hml0 hP hK
  obtain ⟨rfl, hZ, hh⟩ := hP
  have hx := Bd.exec
  have hby := Bd.bytes
  have hml : c.maxLocals = 5 := hml0
  have hown : s.vm.findClass "com/example/tombsweep/tombsweep/io/RecordHeader$Kind" = some m.cls := findClass_of_methodNamed Bd.named
  have hnm := (name_of_methodNamed Bd.named Bd.method).1
  have X0 : Stand p l e rm_rmK3 s m #[(.int (71 : Int32))] below meth c s₁ [] 0 0 := Stand.of_body Bd
  have e0 : s₁.heap = h0 := by rw [← hh, Bd.state]; rfl
  have N0 := Fr.nil n0
  refine Go.step (p := p) (e := e) (below := below) (G := fun o U' => ∃ v L, o = .returned v ∧ Q_rmK3 Z w_PUT w_ERASED w_DELETE w_GONE w_UNFINISHED wk ck h0 n0 v U'.heap L ∧ FrameEnd s o U' L rm_rmK3.cells rm_rmK3.slots) (S' := s₁.setTop (mkF m 0 #[iv (71 : Int32), u_, u_, u_, u_] [])) (fun t k => castTop (ef_rmK3 m ) k) ?_
  obtain ⟨T1, X1, e1, st1⟩ := getS2 X0 hx hZ hown (host := "") (Or.inl (own_w hw 10 rfl)) Via.refl e0 (S_KINDS.ext O.2) (g := (mkF m 0 #[iv (71 : Int32), u_, u_, u_, u_] [])) rfl (hb hby d2_0)
  refine Go.step st1 ?_
  show Go p e below _ (T1.setTop (mkF m 3 #[iv (71 : Int32), u_, u_, u_, u_] [(.ref wk)]))
  refine Go.step (S' := T1.setTop (mkF m 5 #[iv (71 : Int32), rv wk, u_, u_, u_] [(.ref wk)])) (fun t k => ?_) ?_
  · show Steps p.tables e below (T1.setTop (mkF m 3 #[iv (71 : Int32), u_, u_, u_, u_] [(.ref wk)])) _
    refine XS.astoreN X1.here hx rfl (hb hby d2_3) rfl rfl (l' := #[iv (71 : Int32), rv wk, u_, u_, u_]) rfl ?_
    show Steps p.tables e below (T1.setTop (mkF m 4 #[iv (71 : Int32), rv wk, u_, u_, u_] [])) _
    refine XS.aloadN X1.here hx rfl (hb hby d2_4) rfl rfl ?_
    exact k
  have ArK := AK.ext O.2
  refine Go.step (S' := T1.setTop (mkF m 6 #[iv (71 : Int32), rv wk, u_, u_, u_] [(.int ck.slots.size.toInt32)])) (fun t k => X1.arraylength hx (by rw [e1]; exact ArK.1) (State.isArrayOf_alike hZ.alike ArK.2.1) (g := (mkF m 5 #[iv (71 : Int32), rv wk, u_, u_, u_] [(.ref wk)])) rfl rfl (hb hby d2_5) _ k) ?_
  rw [hlen]
  show Go p e below _ (T1.setTop (mkF m 6 #[iv (71 : Int32), rv wk, u_, u_, u_] [(.int (5 : Int32))]))
  refine Go.step (S' := T1.setTop (mkF m 16 #[iv (71 : Int32), rv wk, iv (5 : Int32), iv (0 : Int32), u_] [(.int (0 : Int32)), (.ref wk)])) (fun t k => ?_) ?_
  · show Steps p.tables e below (T1.setTop (mkF m 6 #[iv (71 : Int32), rv wk, u_, u_, u_] [(.int (5 : Int32))])) _
    refine XS.istoreN X1.here hx rfl (hb hby d2_6) rfl (l' := #[iv (71 : Int32), rv wk, iv (5 : Int32), u_, u_]) rfl ?_
    show Steps p.tables e below (T1.setTop (mkF m 7 #[iv (71 : Int32), rv wk, iv (5 : Int32), u_, u_] [])) _
    refine XS.iconst X1.here hx rfl (hb hby d2_7) ?_
    show Steps p.tables e below (T1.setTop (mkF m 8 #[iv (71 : Int32), rv wk, iv (5 : Int32), u_, u_] [(.int (0 : Int32))])) _
    refine XS.istoreN X1.here hx rfl (hb hby d2_8) rfl (l' := #[iv (71 : Int32), rv wk, iv (5 : Int32), iv (0 : Int32), u_]) rfl ?_
    show Steps p.tables e below (T1.setTop (mkF m 9 #[iv (71 : Int32), rv wk, iv (5 : Int32), iv (0 : Int32), u_] [])) _
    refine XS.iloadN X1.here hx rfl (hb hby d2_9) rfl ?_
    show Steps p.tables e below (T1.setTop (mkF m 10 #[iv (71 : Int32), rv wk, iv (5 : Int32), iv (0 : Int32), u_] [(.int (0 : Int32))])) _
    refine XS.iloadN X1.here hx rfl (hb hby d2_10) rfl ?_
    show Steps p.tables e below (T1.setTop (mkF m 11 #[iv (71 : Int32), rv wk, iv (5 : Int32), iv (0 : Int32), u_] [(.int (5 : Int32)), (.int (0 : Int32))])) _
    refine XS.icmpNo X1.here hx rfl (hb hby d2_11) rfl (tlt ((by decide) : (0 : Int32) < (5 : Int32))).2.1 ?_
    show Steps p.tables e below (T1.setTop (mkF m 14 #[iv (71 : Int32), rv wk, iv (5 : Int32), iv (0 : Int32), u_] [])) _
    refine XS.aloadN X1.here hx rfl (hb hby d2_14) rfl rfl ?_
    show Steps p.tables e below (T1.setTop (mkF m 15 #[iv (71 : Int32), rv wk, iv (5 : Int32), iv (0 : Int32), u_] [(.ref wk)])) _
    refine XS.iloadN X1.here hx rfl (hb hby d2_15) rfl ?_
    exact k
  refine Go.step (S' := T1.setTop (mkF m 17 #[iv (71 : Int32), rv wk, iv (5 : Int32), iv (0 : Int32), u_] [(.ref w_PUT)])) (fun t k => X1.aaload hx (j := (0 : Int32)) (v := (.ref w_PUT)) (by rw [e1]; exact ArK.1) (State.isArrayOf_alike hZ.alike ArK.2.1) rfl ArK.2.2 el0.1 el0.2 (g := (mkF m 16 #[iv (71 : Int32), rv wk, iv (5 : Int32), iv (0 : Int32), u_] [(.int (0 : Int32)), (.ref wk)])) rfl rfl (hb hby d2_16) _ k) ?_
  refine Go.step (S' := T1.setTop (mkF m 21 #[iv (71 : Int32), rv wk, iv (5 : Int32), iv (0 : Int32), rv w_PUT] [(.ref w_PUT)])) (fun t k => ?_) ?_
  · show Steps p.tables e below (T1.setTop (mkF m 17 #[iv (71 : Int32), rv wk, iv (5 : Int32), iv (0 : Int32), u_] [(.ref w_PUT)])) _
    refine XS.astore X1.here hx rfl (hb hby d2_17) rfl rfl (l' := #[iv (71 : Int32), rv wk, iv (5 : Int32), iv (0 : Int32), rv w_PUT]) rfl ?_
    show Steps p.tables e below (T1.setTop (mkF m 19 #[iv (71 : Int32), rv wk, iv (5 : Int32), iv (0 : Int32), rv w_PUT] [])) _
    refine XS.aload X1.here hx rfl (hb hby d2_19) rfl rfl ?_
    exact k
  obtain ⟨T2, X2, e2, st2⟩ := getF X1 hx hZ hown (host := "") (Or.inl (own_w hw 12 rfl)) Via.refl e1 (F_code_PUT.ext O.2) (g := (mkF m 21 #[iv (71 : Int32), rv wk, iv (5 : Int32), iv (0 : Int32), rv w_PUT] [(.ref w_PUT)])) rfl rfl (hb hby d2_21)
  refine Go.step st2 ?_
  show Go p e below _ (T2.setTop (mkF m 24 #[iv (71 : Int32), rv wk, iv (5 : Int32), iv (0 : Int32), rv w_PUT] [(.int (80 : Int32))]))
  refine Go.step (S' := T2.setTop (mkF m 34 #[iv (71 : Int32), rv wk, iv (5 : Int32), iv ((0 : Int32) + (1 : Int32)), rv w_PUT] [])) (fun t k => ?_) ?_
  · show Steps p.tables e below (T2.setTop (mkF m 24 #[iv (71 : Int32), rv wk, iv (5 : Int32), iv (0 : Int32), rv w_PUT] [(.int (80 : Int32))])) _
    refine XS.iloadN X2.here hx rfl (hb hby d2_24) rfl ?_
    show Steps p.tables e below (T2.setTop (mkF m 25 #[iv (71 : Int32), rv wk, iv (5 : Int32), iv (0 : Int32), rv w_PUT] [(.int (71 : Int32)), (.int (80 : Int32))])) _
    refine XS.icmpYes X2.here hx rfl (pc0 := 25) (pc' := 31) rfl (hb hby d2_25) rfl (feq ((by decide) : ¬ ((80 : Int32) = (71 : Int32)))).2 (by decide) (by decide) ?_
    show Steps p.tables e below (T2.setTop (mkF m 31 #[iv (71 : Int32), rv wk, iv (5 : Int32), iv (0 : Int32), rv w_PUT] [])) _
    refine XS.iinc X2.here hx rfl (hb hby d2_31) rfl (l' := #[iv (71 : Int32), rv wk, iv (5 : Int32), iv ((0 : Int32) + (1 : Int32)), rv w_PUT]) rfl ?_
    exact k
  rw [show ((0 : Int32) + (1 : Int32)) = (1 : Int32) from by decide]
  show Go p e below _ (T2.setTop (mkF m 34 #[iv (71 : Int32), rv wk, iv (5 : Int32), iv (1 : Int32), rv w_PUT] []))
  refine Go.step (S' := T2.setTop (mkF m 16 #[iv (71 : Int32), rv wk, iv (5 : Int32), iv (1 : Int32), rv w_PUT] [(.int (1 : Int32)), (.ref wk)])) (fun t k => ?_) ?_
  · show Steps p.tables e below (T2.setTop (mkF m 34 #[iv (71 : Int32), rv wk, iv (5 : Int32), iv (1 : Int32), rv w_PUT] [])) _
    refine XS.goto X2.here hx rfl (pc0 := 34) (pc' := 9) rfl (hb hby d2_34) (by decide) (by decide) ?_
    show Steps p.tables e below (T2.setTop (mkF m 9 #[iv (71 : Int32), rv wk, iv (5 : Int32), iv (1 : Int32), rv w_PUT] [])) _
    refine XS.iloadN X2.here hx rfl (hb hby d2_9) rfl ?_
    show Steps p.tables e below (T2.setTop (mkF m 10 #[iv (71 : Int32), rv wk, iv (5 : Int32), iv (1 : Int32), rv w_PUT] [(.int (1 : Int32))])) _
    refine XS.iloadN X2.here hx rfl (hb hby d2_10) rfl ?_
    show Steps p.tables e below (T2.setTop (mkF m 11 #[iv (71 : Int32), rv wk, iv (5 : Int32), iv (1 : Int32), rv w_PUT] [(.int (5 : Int32)), (.int (1 : Int32))])) _
    refine XS.icmpNo X2.here hx rfl (hb hby d2_11) rfl (tlt ((by decide) : (1 : Int32) < (5 : Int32))).2.1 ?_
    show Steps p.tables e below (T2.setTop (mkF m 14 #[iv (71 : Int32), rv wk, iv (5 : Int32), iv (1 : Int32), rv w_PUT] [])) _
    refine XS.aloadN X2.here hx rfl (hb hby d2_14) rfl rfl ?_
    show Steps p.tables e below (T2.setTop (mkF m 15 #[iv (71 : Int32), rv wk, iv (5 : Int32), iv (1 : Int32), rv w_PUT] [(.ref wk)])) _
    refine XS.iloadN X2.here hx rfl (hb hby d2_15) rfl ?_
    exact k
  refine Go.step (S' := T2.setTop (mkF m 17 #[iv (71 : Int32), rv wk, iv (5 : Int32), iv (1 : Int32), rv w_PUT] [(.ref w_ERASED)])) (fun t k => X2.aaload hx (j := (1 : Int32)) (v := (.ref w_ERASED)) (by rw [e2]; exact ArK.1) (State.isArrayOf_alike hZ.alike ArK.2.1) rfl ArK.2.2 el1.1 el1.2 (g := (mkF m 16 #[iv (71 : Int32), rv wk, iv (5 : Int32), iv (1 : Int32), rv w_PUT] [(.int (1 : Int32)), (.ref wk)])) rfl rfl (hb hby d2_16) _ k) ?_
  refine Go.step (S' := T2.setTop (mkF m 21 #[iv (71 : Int32), rv wk, iv (5 : Int32), iv (1 : Int32), rv w_ERASED] [(.ref w_ERASED)])) (fun t k => ?_) ?_
  · show Steps p.tables e below (T2.setTop (mkF m 17 #[iv (71 : Int32), rv wk, iv (5 : Int32), iv (1 : Int32), rv w_PUT] [(.ref w_ERASED)])) _
    refine XS.astore X2.here hx rfl (hb hby d2_17) rfl rfl (l' := #[iv (71 : Int32), rv wk, iv (5 : Int32), iv (1 : Int32), rv w_ERASED]) rfl ?_
    show Steps p.tables e below (T2.setTop (mkF m 19 #[iv (71 : Int32), rv wk, iv (5 : Int32), iv (1 : Int32), rv w_ERASED] [])) _
    refine XS.aload X2.here hx rfl (hb hby d2_19) rfl rfl ?_
    exact k
  obtain ⟨T3, X3, e3, st3⟩ := getF X2 hx hZ hown (host := "") (Or.inl (own_w hw 12 rfl)) Via.refl e2 (F_code_ERASED.ext O.2) (g := (mkF m 21 #[iv (71 : Int32), rv wk, iv (5 : Int32), iv (1 : Int32), rv w_ERASED] [(.ref w_ERASED)])) rfl rfl (hb hby d2_21)
  refine Go.step st3 ?_
  show Go p e below _ (T3.setTop (mkF m 24 #[iv (71 : Int32), rv wk, iv (5 : Int32), iv (1 : Int32), rv w_ERASED] [(.int (69 : Int32))]))
  refine Go.step (S' := T3.setTop (mkF m 34 #[iv (71 : Int32), rv wk, iv (5 : Int32), iv ((1 : Int32) + (1 : Int32)), rv w_ERASED] [])) (fun t k => ?_) ?_
  · show Steps p.tables e below (T3.setTop (mkF m 24 #[iv (71 : Int32), rv wk, iv (5 : Int32), iv (1 : Int32), rv w_ERASED] [(.int (69 : Int32))])) _
    refine XS.iloadN X3.here hx rfl (hb hby d2_24) rfl ?_
    show Steps p.tables e below (T3.setTop (mkF m 25 #[iv (71 : Int32), rv wk, iv (5 : Int32), iv (1 : Int32), rv w_ERASED] [(.int (71 : Int32)), (.int (69 : Int32))])) _
    refine XS.icmpYes X3.here hx rfl (pc0 := 25) (pc' := 31) rfl (hb hby d2_25) rfl (feq ((by decide) : ¬ ((69 : Int32) = (71 : Int32)))).2 (by decide) (by decide) ?_
    show Steps p.tables e below (T3.setTop (mkF m 31 #[iv (71 : Int32), rv wk, iv (5 : Int32), iv (1 : Int32), rv w_ERASED] [])) _
    refine XS.iinc X3.here hx rfl (hb hby d2_31) rfl (l' := #[iv (71 : Int32), rv wk, iv (5 : Int32), iv ((1 : Int32) + (1 : Int32)), rv w_ERASED]) rfl ?_
    exact k
  rw [show ((1 : Int32) + (1 : Int32)) = (2 : Int32) from by decide]
  show Go p e below _ (T3.setTop (mkF m 34 #[iv (71 : Int32), rv wk, iv (5 : Int32), iv (2 : Int32), rv w_ERASED] []))
  refine Go.step (S' := T3.setTop (mkF m 16 #[iv (71 : Int32), rv wk, iv (5 : Int32), iv (2 : Int32), rv w_ERASED] [(.int (2 : Int32)), (.ref wk)])) (fun t k => ?_) ?_
  · show Steps p.tables e below (T3.setTop (mkF m 34 #[iv (71 : Int32), rv wk, iv (5 : Int32), iv (2 : Int32), rv w_ERASED] [])) _
    refine XS.goto X3.here hx rfl (pc0 := 34) (pc' := 9) rfl (hb hby d2_34) (by decide) (by decide) ?_
    show Steps p.tables e below (T3.setTop (mkF m 9 #[iv (71 : Int32), rv wk, iv (5 : Int32), iv (2 : Int32), rv w_ERASED] [])) _
    refine XS.iloadN X3.here hx rfl (hb hby d2_9) rfl ?_
    show Steps p.tables e below (T3.setTop (mkF m 10 #[iv (71 : Int32), rv wk, iv (5 : Int32), iv (2 : Int32), rv w_ERASED] [(.int (2 : Int32))])) _
    refine XS.iloadN X3.here hx rfl (hb hby d2_10) rfl ?_
    show Steps p.tables e below (T3.setTop (mkF m 11 #[iv (71 : Int32), rv wk, iv (5 : Int32), iv (2 : Int32), rv w_ERASED] [(.int (5 : Int32)), (.int (2 : Int32))])) _
    refine XS.icmpNo X3.here hx rfl (hb hby d2_11) rfl (tlt ((by decide) : (2 : Int32) < (5 : Int32))).2.1 ?_
    show Steps p.tables e below (T3.setTop (mkF m 14 #[iv (71 : Int32), rv wk, iv (5 : Int32), iv (2 : Int32), rv w_ERASED] [])) _
    refine XS.aloadN X3.here hx rfl (hb hby d2_14) rfl rfl ?_
    show Steps p.tables e below (T3.setTop (mkF m 15 #[iv (71 : Int32), rv wk, iv (5 : Int32), iv (2 : Int32), rv w_ERASED] [(.ref wk)])) _
    refine XS.iloadN X3.here hx rfl (hb hby d2_15) rfl ?_
    exact k
  refine Go.step (S' := T3.setTop (mkF m 17 #[iv (71 : Int32), rv wk, iv (5 : Int32), iv (2 : Int32), rv w_ERASED] [(.ref w_DELETE)])) (fun t k => X3.aaload hx (j := (2 : Int32)) (v := (.ref w_DELETE)) (by rw [e3]; exact ArK.1) (State.isArrayOf_alike hZ.alike ArK.2.1) rfl ArK.2.2 el2.1 el2.2 (g := (mkF m 16 #[iv (71 : Int32), rv wk, iv (5 : Int32), iv (2 : Int32), rv w_ERASED] [(.int (2 : Int32)), (.ref wk)])) rfl rfl (hb hby d2_16) _ k) ?_
  refine Go.step (S' := T3.setTop (mkF m 21 #[iv (71 : Int32), rv wk, iv (5 : Int32), iv (2 : Int32), rv w_DELETE] [(.ref w_DELETE)])) (fun t k => ?_) ?_
  · show Steps p.tables e below (T3.setTop (mkF m 17 #[iv (71 : Int32), rv wk, iv (5 : Int32), iv (2 : Int32), rv w_ERASED] [(.ref w_DELETE)])) _
    refine XS.astore X3.here hx rfl (hb hby d2_17) rfl rfl (l' := #[iv (71 : Int32), rv wk, iv (5 : Int32), iv (2 : Int32), rv w_DELETE]) rfl ?_
    show Steps p.tables e below (T3.setTop (mkF m 19 #[iv (71 : Int32), rv wk, iv (5 : Int32), iv (2 : Int32), rv w_DELETE] [])) _
    refine XS.aload X3.here hx rfl (hb hby d2_19) rfl rfl ?_
    exact k
  obtain ⟨T4, X4, e4, st4⟩ := getF X3 hx hZ hown (host := "") (Or.inl (own_w hw 12 rfl)) Via.refl e3 (F_code_DELETE.ext O.2) (g := (mkF m 21 #[iv (71 : Int32), rv wk, iv (5 : Int32), iv (2 : Int32), rv w_DELETE] [(.ref w_DELETE)])) rfl rfl (hb hby d2_21)
  refine Go.step st4 ?_
  show Go p e below _ (T4.setTop (mkF m 24 #[iv (71 : Int32), rv wk, iv (5 : Int32), iv (2 : Int32), rv w_DELETE] [(.int (68 : Int32))]))
  refine Go.step (S' := T4.setTop (mkF m 34 #[iv (71 : Int32), rv wk, iv (5 : Int32), iv ((2 : Int32) + (1 : Int32)), rv w_DELETE] [])) (fun t k => ?_) ?_
  · show Steps p.tables e below (T4.setTop (mkF m 24 #[iv (71 : Int32), rv wk, iv (5 : Int32), iv (2 : Int32), rv w_DELETE] [(.int (68 : Int32))])) _
    refine XS.iloadN X4.here hx rfl (hb hby d2_24) rfl ?_
    show Steps p.tables e below (T4.setTop (mkF m 25 #[iv (71 : Int32), rv wk, iv (5 : Int32), iv (2 : Int32), rv w_DELETE] [(.int (71 : Int32)), (.int (68 : Int32))])) _
    refine XS.icmpYes X4.here hx rfl (pc0 := 25) (pc' := 31) rfl (hb hby d2_25) rfl (feq ((by decide) : ¬ ((68 : Int32) = (71 : Int32)))).2 (by decide) (by decide) ?_
    show Steps p.tables e below (T4.setTop (mkF m 31 #[iv (71 : Int32), rv wk, iv (5 : Int32), iv (2 : Int32), rv w_DELETE] [])) _
    refine XS.iinc X4.here hx rfl (hb hby d2_31) rfl (l' := #[iv (71 : Int32), rv wk, iv (5 : Int32), iv ((2 : Int32) + (1 : Int32)), rv w_DELETE]) rfl ?_
    exact k
  rw [show ((2 : Int32) + (1 : Int32)) = (3 : Int32) from by decide]
  show Go p e below _ (T4.setTop (mkF m 34 #[iv (71 : Int32), rv wk, iv (5 : Int32), iv (3 : Int32), rv w_DELETE] []))
  refine Go.step (S' := T4.setTop (mkF m 16 #[iv (71 : Int32), rv wk, iv (5 : Int32), iv (3 : Int32), rv w_DELETE] [(.int (3 : Int32)), (.ref wk)])) (fun t k => ?_) ?_
  · show Steps p.tables e below (T4.setTop (mkF m 34 #[iv (71 : Int32), rv wk, iv (5 : Int32), iv (3 : Int32), rv w_DELETE] [])) _
    refine XS.goto X4.here hx rfl (pc0 := 34) (pc' := 9) rfl (hb hby d2_34) (by decide) (by decide) ?_
    show Steps p.tables e below (T4.setTop (mkF m 9 #[iv (71 : Int32), rv wk, iv (5 : Int32), iv (3 : Int32), rv w_DELETE] [])) _
    refine XS.iloadN X4.here hx rfl (hb hby d2_9) rfl ?_
    show Steps p.tables e below (T4.setTop (mkF m 10 #[iv (71 : Int32), rv wk, iv (5 : Int32), iv (3 : Int32), rv w_DELETE] [(.int (3 : Int32))])) _
    refine XS.iloadN X4.here hx rfl (hb hby d2_10) rfl ?_
    show Steps p.tables e below (T4.setTop (mkF m 11 #[iv (71 : Int32), rv wk, iv (5 : Int32), iv (3 : Int32), rv w_DELETE] [(.int (5 : Int32)), (.int (3 : Int32))])) _
    refine XS.icmpNo X4.here hx rfl (hb hby d2_11) rfl (tlt ((by decide) : (3 : Int32) < (5 : Int32))).2.1 ?_
    show Steps p.tables e below (T4.setTop (mkF m 14 #[iv (71 : Int32), rv wk, iv (5 : Int32), iv (3 : Int32), rv w_DELETE] [])) _
    refine XS.aloadN X4.here hx rfl (hb hby d2_14) rfl rfl ?_
    show Steps p.tables e below (T4.setTop (mkF m 15 #[iv (71 : Int32), rv wk, iv (5 : Int32), iv (3 : Int32), rv w_DELETE] [(.ref wk)])) _
    refine XS.iloadN X4.here hx rfl (hb hby d2_15) rfl ?_
    exact k
  refine Go.step (S' := T4.setTop (mkF m 17 #[iv (71 : Int32), rv wk, iv (5 : Int32), iv (3 : Int32), rv w_DELETE] [(.ref w_GONE)])) (fun t k => X4.aaload hx (j := (3 : Int32)) (v := (.ref w_GONE)) (by rw [e4]; exact ArK.1) (State.isArrayOf_alike hZ.alike ArK.2.1) rfl ArK.2.2 el3.1 el3.2 (g := (mkF m 16 #[iv (71 : Int32), rv wk, iv (5 : Int32), iv (3 : Int32), rv w_DELETE] [(.int (3 : Int32)), (.ref wk)])) rfl rfl (hb hby d2_16) _ k) ?_
  refine Go.step (S' := T4.setTop (mkF m 21 #[iv (71 : Int32), rv wk, iv (5 : Int32), iv (3 : Int32), rv w_GONE] [(.ref w_GONE)])) (fun t k => ?_) ?_
  · show Steps p.tables e below (T4.setTop (mkF m 17 #[iv (71 : Int32), rv wk, iv (5 : Int32), iv (3 : Int32), rv w_DELETE] [(.ref w_GONE)])) _
    refine XS.astore X4.here hx rfl (hb hby d2_17) rfl rfl (l' := #[iv (71 : Int32), rv wk, iv (5 : Int32), iv (3 : Int32), rv w_GONE]) rfl ?_
    show Steps p.tables e below (T4.setTop (mkF m 19 #[iv (71 : Int32), rv wk, iv (5 : Int32), iv (3 : Int32), rv w_GONE] [])) _
    refine XS.aload X4.here hx rfl (hb hby d2_19) rfl rfl ?_
    exact k
  obtain ⟨T5, X5, e5, st5⟩ := getF X4 hx hZ hown (host := "") (Or.inl (own_w hw 12 rfl)) Via.refl e4 (F_code_GONE.ext O.2) (g := (mkF m 21 #[iv (71 : Int32), rv wk, iv (5 : Int32), iv (3 : Int32), rv w_GONE] [(.ref w_GONE)])) rfl rfl (hb hby d2_21)
  refine Go.step st5 ?_
  show Go p e below _ (T5.setTop (mkF m 24 #[iv (71 : Int32), rv wk, iv (5 : Int32), iv (3 : Int32), rv w_GONE] [(.int (71 : Int32))]))
  refine Go.step (S' := T5.setTop (mkF m 30 #[iv (71 : Int32), rv wk, iv (5 : Int32), iv (3 : Int32), rv w_GONE] [(.ref w_GONE)])) (fun t k => ?_) ?_
  · show Steps p.tables e below (T5.setTop (mkF m 24 #[iv (71 : Int32), rv wk, iv (5 : Int32), iv (3 : Int32), rv w_GONE] [(.int (71 : Int32))])) _
    refine XS.iloadN X5.here hx rfl (hb hby d2_24) rfl ?_
    show Steps p.tables e below (T5.setTop (mkF m 25 #[iv (71 : Int32), rv wk, iv (5 : Int32), iv (3 : Int32), rv w_GONE] [(.int (71 : Int32)), (.int (71 : Int32))])) _
    refine XS.icmpNo X5.here hx rfl (hb hby d2_25) rfl (teq ((by decide) : (71 : Int32) = (71 : Int32))).2 ?_
    show Steps p.tables e below (T5.setTop (mkF m 28 #[iv (71 : Int32), rv wk, iv (5 : Int32), iv (3 : Int32), rv w_GONE] [])) _
    refine XS.aload X5.here hx rfl (hb hby d2_28) rfl rfl ?_
    exact k
  obtain ⟨fs, hr, hrun, hended, hW, hsame⟩ := X5.leave (v := some (.ref w_GONE)) (fun h => by rw [Bd.returns] at h; cases h)
  refine Go.fin (S' := T5.setFrames fs) ?_ hrun hended ⟨_, _, rfl, ?_, ⟨_, rfl⟩, hW, hsame.mono (by decide) (by decide)⟩
  · exact retOut X5 hx Bd.returns rfl (Or.inr (Or.inr (Or.inr (Or.inr ⟨rfl, rfl, rfl⟩)))) (hb hby d2_30) hr
  · show Q_rmK3 Z w_PUT w_ERASED w_DELETE w_GONE w_UNFINISHED wk ck h0 n0 (some (.ref w_GONE)) T5.heap _
    rw [e5]
    exact ⟨rfl, N0, rfl⟩
theorem ef_rmK4 (m : MethodId)  : entryFrame m #[(.int (85 : Int32))] 5 = mkF m 0 #[.val (.int (85 : Int32)), .unset, .unset, .unset, .unset] [] := by first | (simp [entryFrame, mkF, argsToLocals, Value.category]; done) | rfl
abbrev rm_rmK4 : Room := ({ frames := 0, cells := 0, slots := 0, locals := 0 } : Room)
def Q_rmK4 (Z : State) (w_PUT : Addr) (w_ERASED : Addr) (w_DELETE : Addr) (w_GONE : Addr) (w_UNFINISHED : Addr) (wk : Addr) (ck : Cell) (h0 : Heap) (n0 : Nat) (v : Option Value) (h : Heap) (L : List Loc) : Prop := (v = some (.ref w_UNFINISHED)) ∧ (Fr n0 L) ∧ (h = h0)
set_option maxRecDepth 65536 in
set_option maxHeartbeats 40000000 in
theorem rmK4 (l : Launch) (Z : State) (a0 : Array Value) (hw : ∀ d ∈ tables_1, d.before a0 Z = true) (ws : List Jvm.Cond) (w_PUT : Addr) (w_ERASED : Addr) (w_DELETE : Addr) (w_GONE : Addr) (w_UNFINISHED : Addr) (wk : Addr) (ck : Cell) (h0 : Heap) (n0 : Nat) (O : Old Z n0 h0) (S_KINDS : Sta Z Z.heap "com/example/tombsweep/tombsweep/io/RecordHeader$Kind" "KINDS" "[Lcom/example/tombsweep/tombsweep/io/RecordHeader$Kind;" (.ref wk)) (F_code_PUT : Fld Z Z.heap w_PUT "com/example/tombsweep/tombsweep/io/RecordHeader$Kind" "code" "B" (.int (80 : Int32))) (F_code_ERASED : Fld Z Z.heap w_ERASED "com/example/tombsweep/tombsweep/io/RecordHeader$Kind" "code" "B" (.int (69 : Int32))) (F_code_DELETE : Fld Z Z.heap w_DELETE "com/example/tombsweep/tombsweep/io/RecordHeader$Kind" "code" "B" (.int (68 : Int32))) (F_code_GONE : Fld Z Z.heap w_GONE "com/example/tombsweep/tombsweep/io/RecordHeader$Kind" "code" "B" (.int (71 : Int32))) (F_code_UNFINISHED : Fld Z Z.heap w_UNFINISHED "com/example/tombsweep/tombsweep/io/RecordHeader$Kind" "code" "B" (.int (85 : Int32))) (AK : Arr Z Z.heap wk ck (.object "com/example/tombsweep/tombsweep/io/RecordHeader$Kind")) (hlen : ck.slots.size.toInt32 = (5 : Int32)) (el0 : ¬ ((0 : Int32) < 0 ∨ ck.slots.size ≤ (0 : Int32).toNatClampNeg) ∧ ck.slots[(0 : Int32).toNatClampNeg]? = some (.ref w_PUT)) (el1 : ¬ ((1 : Int32) < 0 ∨ ck.slots.size ≤ (1 : Int32).toNatClampNeg) ∧ ck.slots[(1 : Int32).toNatClampNeg]? = some (.ref w_ERASED)) (el2 : ¬ ((2 : Int32) < 0 ∨ ck.slots.size ≤ (2 : Int32).toNatClampNeg) ∧ ck.slots[(2 : Int32).toNatClampNeg]? = some (.ref w_DELETE)) (el3 : ¬ ((3 : Int32) < 0 ∨ ck.slots.size ≤ (3 : Int32).toNatClampNeg) ∧ ck.slots[(3 : Int32).toNatClampNeg]? = some (.ref w_GONE)) (el4 : ¬ ((4 : Int32) < 0 ∨ ck.slots.size ≤ (4 : Int32).toNatClampNeg) ∧ ck.slots[(4 : Int32).toNatClampNeg]? = some (.ref w_UNFINISHED)) :
    MetFree l (⟨"com/example/tombsweep/tombsweep/io/RecordHeader$Kind", "known", "(B)Lcom/example/tombsweep/tombsweep/io/RecordHeader$Kind;"⟩ : MethodName) (head1 (Jvm.Cond.code (⟨"com/example/tombsweep/tombsweep/io/RecordHeader$Kind", "known", "(B)Lcom/example/tombsweep/tombsweep/io/RecordHeader$Kind;"⟩ : MethodName) prog_7_method_5_code 5 (some (.object "com/example/tombsweep/tombsweep/io/RecordHeader$Kind")) :: ws) rm_rmK4) (fun A_ U => A_ = #[(.int (85 : Int32))] ∧ Z.Warmed39 U.vm ∧ U.heap = h0) (fun _ _ _ _ _ => True) (fun _ U o U' => ∃ v L, o = .returned v ∧ Q_rmK4 Z w_PUT w_ERASED w_DELETE w_GONE w_UNFINISHED wk ck h0 n0 v U'.heap L ∧ FrameEnd U o U' L rm_rmK4.cells rm_rmK4.slots) := by
  refine MetFree.of_bodySF (plainFor_of_name pn_com_example_tombsweep_tombsweep_io_RecordHeader_Kind) hisR ?_
  intro p e s m args below meth c s₁ Bd hml0 hP hK
  obtain ⟨rfl, hZ, hh⟩ := hP
  have hx := Bd.exec
  have hby := Bd.bytes
  have hml : c.maxLocals = 5 := hml0
  have hown : s.vm.findClass "com/example/tombsweep/tombsweep/io/RecordHeader$Kind" = some m.cls := findClass_of_methodNamed Bd.named
  have hnm := (name_of_methodNamed Bd.named Bd.method).1
  have X0 : Stand p l e rm_rmK4 s m #[(.int (85 : Int32))] below meth c s₁ [] 0 0 := Stand.of_body Bd
  have e0 : s₁.heap = h0 := by rw [← hh, Bd.state]; rfl
  have N0 := Fr.nil n0
  refine Go.step (p := p) (e := e) (below := below) (G := fun o U' => ∃ v L, o = .returned v ∧ Q_rmK4 Z w_PUT w_ERASED w_DELETE w_GONE w_UNFINISHED wk ck h0 n0 v U'.heap L ∧ FrameEnd s o U' L rm_rmK4.cells rm_rmK4.slots) (S' := s₁.setTop (mkF m 0 #[iv (85 : Int32), u_, u_, u_, u_] [])) (fun t k => castTop (ef_rmK4 m ) k) ?_
  obtain ⟨T1, X1, e1, st1⟩ := getS2 X0 hx hZ hown (host := "") (Or.inl (own_w hw 10 rfl)) Via.refl e0 (S_KINDS.ext O.2) (g := (mkF m 0 #[iv (85 : Int32), u_, u_, u_, u_] [])) rfl (hb hby d2_0)
  refine Go.step st1 ?_
  show Go p e below _ (T1.setTop (mkF m 3 #[iv (85 : Int32), u_, u_, u_, u_] [(.ref wk)]))
  refine Go.step (S' := T1.setTop (mkF m 5 #[iv (85 : Int32), rv wk, u_, u_, u_] [(.ref wk)])) (fun t k => ?_) ?_
  · show Steps p.tables e below (T1.setTop (mkF m 3 #[iv (85 : Int32), u_, u_, u_, u_] [(.ref wk)])) _
    refine XS.astoreN X1.here hx rfl (hb hby d2_3) rfl rfl (l' := #[iv (85 : Int32), rv wk, u_, u_, u_]) rfl ?_
    show Steps p.tables e below (T1.setTop (mkF m 4 #[iv (85 : Int32), rv wk, u_, u_, u_] [])) _
    refine XS.aloadN X1.here hx rfl (hb hby d2_4) rfl rfl ?_
    exact k
  have ArK := AK.ext O.2
  refine Go.step (S' := T1.setTop (mkF m 6 #[iv (85 : Int32), rv wk, u_, u_, u_] [(.int ck.slots.size.toInt32)])) (fun t k => X1.arraylength hx (by rw [e1]; exact ArK.1) (State.isArrayOf_alike hZ.alike ArK.2.1) (g := (mkF m 5 #[iv (85 : Int32), rv wk, u_, u_, u_] [(.ref wk)])) rfl rfl (hb hby d2_5) _ k) ?_
  rw [hlen]
  show Go p e below _ (T1.setTop (mkF m 6 #[iv (85 : Int32), rv wk, u_, u_, u_] [(.int (5 : Int32))]))
  refine Go.step (S' := T1.setTop (mkF m 16 #[iv (85 : Int32), rv wk, iv (5 : Int32), iv (0 : Int32), u_] [(.int (0 : Int32)), (.ref wk)])) (fun t k => ?_) ?_
  · show Steps p.tables e below (T1.setTop (mkF m 6 #[iv (85 : Int32), rv wk, u_, u_, u_] [(.int (5 : Int32))])) _
    refine XS.istoreN X1.here hx rfl (hb hby d2_6) rfl (l' := #[iv (85 : Int32), rv wk, iv (5 : Int32), u_, u_]) rfl ?_
    show Steps p.tables e below (T1.setTop (mkF m 7 #[iv (85 : Int32), rv wk, iv (5 : Int32), u_, u_] [])) _
    refine XS.iconst X1.here hx rfl (hb hby d2_7) ?_
    show Steps p.tables e below (T1.setTop (mkF m 8 #[iv (85 : Int32), rv wk, iv (5 : Int32), u_, u_] [(.int (0 : Int32))])) _
    refine XS.istoreN X1.here hx rfl (hb hby d2_8) rfl (l' := #[iv (85 : Int32), rv wk, iv (5 : Int32), iv (0 : Int32), u_]) rfl ?_
    show Steps p.tables e below (T1.setTop (mkF m 9 #[iv (85 : Int32), rv wk, iv (5 : Int32), iv (0 : Int32), u_] [])) _
    refine XS.iloadN X1.here hx rfl (hb hby d2_9) rfl ?_
    show Steps p.tables e below (T1.setTop (mkF m 10 #[iv (85 : Int32), rv wk, iv (5 : Int32), iv (0 : Int32), u_] [(.int (0 : Int32))])) _
    refine XS.iloadN X1.here hx rfl (hb hby d2_10) rfl ?_
    show Steps p.tables e below (T1.setTop (mkF m 11 #[iv (85 : Int32), rv wk, iv (5 : Int32), iv (0 : Int32), u_] [(.int (5 : Int32)), (.int (0 : Int32))])) _
    refine XS.icmpNo X1.here hx rfl (hb hby d2_11) rfl (tlt ((by decide) : (0 : Int32) < (5 : Int32))).2.1 ?_
    show Steps p.tables e below (T1.setTop (mkF m 14 #[iv (85 : Int32), rv wk, iv (5 : Int32), iv (0 : Int32), u_] [])) _
    refine XS.aloadN X1.here hx rfl (hb hby d2_14) rfl rfl ?_
    show Steps p.tables e below (T1.setTop (mkF m 15 #[iv (85 : Int32), rv wk, iv (5 : Int32), iv (0 : Int32), u_] [(.ref wk)])) _
    refine XS.iloadN X1.here hx rfl (hb hby d2_15) rfl ?_
    exact k
  refine Go.step (S' := T1.setTop (mkF m 17 #[iv (85 : Int32), rv wk, iv (5 : Int32), iv (0 : Int32), u_] [(.ref w_PUT)])) (fun t k => X1.aaload hx (j := (0 : Int32)) (v := (.ref w_PUT)) (by rw [e1]; exact ArK.1) (State.isArrayOf_alike hZ.alike ArK.2.1) rfl ArK.2.2 el0.1 el0.2 (g := (mkF m 16 #[iv (85 : Int32), rv wk, iv (5 : Int32), iv (0 : Int32), u_] [(.int (0 : Int32)), (.ref wk)])) rfl rfl (hb hby d2_16) _ k) ?_
  refine Go.step (S' := T1.setTop (mkF m 21 #[iv (85 : Int32), rv wk, iv (5 : Int32), iv (0 : Int32), rv w_PUT] [(.ref w_PUT)])) (fun t k => ?_) ?_
  · show Steps p.tables e below (T1.setTop (mkF m 17 #[iv (85 : Int32), rv wk, iv (5 : Int32), iv (0 : Int32), u_] [(.ref w_PUT)])) _
    refine XS.astore X1.here hx rfl (hb hby d2_17) rfl rfl (l' := #[iv (85 : Int32), rv wk, iv (5 : Int32), iv (0 : Int32), rv w_PUT]) rfl ?_
    show Steps p.tables e below (T1.setTop (mkF m 19 #[iv (85 : Int32), rv wk, iv (5 : Int32), iv (0 : Int32), rv w_PUT] [])) _
    refine XS.aload X1.here hx rfl (hb hby d2_19) rfl rfl ?_
    exact k
  obtain ⟨T2, X2, e2, st2⟩ := getF X1 hx hZ hown (host := "") (Or.inl (own_w hw 12 rfl)) Via.refl e1 (F_code_PUT.ext O.2) (g := (mkF m 21 #[iv (85 : Int32), rv wk, iv (5 : Int32), iv (0 : Int32), rv w_PUT] [(.ref w_PUT)])) rfl rfl (hb hby d2_21)
  refine Go.step st2 ?_
  show Go p e below _ (T2.setTop (mkF m 24 #[iv (85 : Int32), rv wk, iv (5 : Int32), iv (0 : Int32), rv w_PUT] [(.int (80 : Int32))]))
  refine Go.step (S' := T2.setTop (mkF m 34 #[iv (85 : Int32), rv wk, iv (5 : Int32), iv ((0 : Int32) + (1 : Int32)), rv w_PUT] [])) (fun t k => ?_) ?_
  · show Steps p.tables e below (T2.setTop (mkF m 24 #[iv (85 : Int32), rv wk, iv (5 : Int32), iv (0 : Int32), rv w_PUT] [(.int (80 : Int32))])) _
    refine XS.iloadN X2.here hx rfl (hb hby d2_24) rfl ?_
    show Steps p.tables e below (T2.setTop (mkF m 25 #[iv (85 : Int32), rv wk, iv (5 : Int32), iv (0 : Int32), rv w_PUT] [(.int (85 : Int32)), (.int (80 : Int32))])) _
    refine XS.icmpYes X2.here hx rfl (pc0 := 25) (pc' := 31) rfl (hb hby d2_25) rfl (feq ((by decide) : ¬ ((80 : Int32) = (85 : Int32)))).2 (by decide) (by decide) ?_
    show Steps p.tables e below (T2.setTop (mkF m 31 #[iv (85 : Int32), rv wk, iv (5 : Int32), iv (0 : Int32), rv w_PUT] [])) _
    refine XS.iinc X2.here hx rfl (hb hby d2_31) rfl (l' := #[iv (85 : Int32), rv wk, iv (5 : Int32), iv ((0 : Int32) + (1 : Int32)), rv w_PUT]) rfl ?_
    exact k
  rw [show ((0 : Int32) + (1 : Int32)) = (1 : Int32) from by decide]
  show Go p e below _ (T2.setTop (mkF m 34 #[iv (85 : Int32), rv wk, iv (5 : Int32), iv (1 : Int32), rv w_PUT] []))
  refine Go.step (S' := T2.setTop (mkF m 16 #[iv (85 : Int32), rv wk, iv (5 : Int32), iv (1 : Int32), rv w_PUT] [(.int (1 : Int32)), (.ref wk)])) (fun t k => ?_) ?_
  · show Steps p.tables e below (T2.setTop (mkF m 34 #[iv (85 : Int32), rv wk, iv (5 : Int32), iv (1 : Int32), rv w_PUT] [])) _
    refine XS.goto X2.here hx rfl (pc0 := 34) (pc' := 9) rfl (hb hby d2_34) (by decide) (by decide) ?_
    show Steps p.tables e below (T2.setTop (mkF m 9 #[iv (85 : Int32), rv wk, iv (5 : Int32), iv (1 : Int32), rv w_PUT] [])) _
    refine XS.iloadN X2.here hx rfl (hb hby d2_9) rfl ?_
    show Steps p.tables e below (T2.setTop (mkF m 10 #[iv (85 : Int32), rv wk, iv (5 : Int32), iv (1 : Int32), rv w_PUT] [(.int (1 : Int32))])) _
    refine XS.iloadN X2.here hx rfl (hb hby d2_10) rfl ?_
    show Steps p.tables e below (T2.setTop (mkF m 11 #[iv (85 : Int32), rv wk, iv (5 : Int32), iv (1 : Int32), rv w_PUT] [(.int (5 : Int32)), (.int (1 : Int32))])) _
    refine XS.icmpNo X2.here hx rfl (hb hby d2_11) rfl (tlt ((by decide) : (1 : Int32) < (5 : Int32))).2.1 ?_
    show Steps p.tables e below (T2.setTop (mkF m 14 #[iv (85 : Int32), rv wk, iv (5 : Int32), iv (1 : Int32), rv w_PUT] [])) _
    refine XS.aloadN X2.here hx rfl (hb hby d2_14) rfl rfl ?_
    show Steps p.tables e below (T2.setTop (mkF m 15 #[iv (85 : Int32), rv wk, iv (5 : Int32), iv (1 : Int32), rv w_PUT] [(.ref wk)])) _
    refine XS.iloadN X2.here hx rfl (hb hby d2_15) rfl ?_
    exact k
  refine Go.step (S' := T2.setTop (mkF m 17 #[iv (85 : Int32), rv wk, iv (5 : Int32), iv (1 : Int32), rv w_PUT] [(.ref w_ERASED)])) (fun t k => X2.aaload hx (j := (1 : Int32)) (v := (.ref w_ERASED)) (by rw [e2]; exact ArK.1) (State.isArrayOf_alike hZ.alike ArK.2.1) rfl ArK.2.2 el1.1 el1.2 (g := (mkF m 16 #[iv (85 : Int32), rv wk, iv (5 : Int32), iv (1 : Int32), rv w_PUT] [(.int (1 : Int32)), (.ref wk)])) rfl rfl (hb hby d2_16) _ k) ?_
  refine Go.step (S' := T2.setTop (mkF m 21 #[iv (85 : Int32), rv wk, iv (5 : Int32), iv (1 : Int32), rv w_ERASED] [(.ref w_ERASED)])) (fun t k => ?_) ?_
  · show Steps p.tables e below (T2.setTop (mkF m 17 #[iv (85 : Int32), rv wk, iv (5 : Int32), iv (1 : Int32), rv w_PUT] [(.ref w_ERASED)])) _
    refine XS.astore X2.here hx rfl (hb hby d2_17) rfl rfl (l' := #[iv (85 : Int32), rv wk, iv (5 : Int32), iv (1 : Int32), rv w_ERASED]) rfl ?_
    show Steps p.tables e below (T2.setTop (mkF m 19 #[iv (85 : Int32), rv wk, iv (5 : Int32), iv (1 : Int32), rv w_ERASED] [])) _
    refine XS.aload X2.here hx rfl (hb hby d2_19) rfl rfl ?_
    exact k
  obtain ⟨T3, X3, e3, st3⟩ := getF X2 hx hZ hown (host := "") (Or.inl (own_w hw 12 rfl)) Via.refl e2 (F_code_ERASED.ext O.2) (g := (mkF m 21 #[iv (85 : Int32), rv wk, iv (5 : Int32), iv (1 : Int32), rv w_ERASED] [(.ref w_ERASED)])) rfl rfl (hb hby d2_21)
  refine Go.step st3 ?_
  show Go p e below _ (T3.setTop (mkF m 24 #[iv (85 : Int32), rv wk, iv (5 : Int32), iv (1 : Int32), rv w_ERASED] [(.int (69 : Int32))]))
  refine Go.step (S' := T3.setTop (mkF m 34 #[iv (85 : Int32), rv wk, iv (5 : Int32), iv ((1 : Int32) + (1 : Int32)), rv w_ERASED] [])) (fun t k => ?_) ?_
  · show Steps p.tables e below (T3.setTop (mkF m 24 #[iv (85 : Int32), rv wk, iv (5 : Int32), iv (1 : Int32), rv w_ERASED] [(.int (69 : Int32))])) _
    refine XS.iloadN X3.here hx rfl (hb hby d2_24) rfl ?_
    show Steps p.tables e below (T3.setTop (mkF m 25 #[iv (85 : Int32), rv wk, iv (5 : Int32), iv (1 : Int32), rv w_ERASED] [(.int (85 : Int32)), (.int (69 : Int32))])) _
    refine XS.icmpYes X3.here hx rfl (pc0 := 25) (pc' := 31) rfl (hb hby d2_25) rfl (feq ((by decide) : ¬ ((69 : Int32) = (85 : Int32)))).2 (by decide) (by decide) ?_
    show Steps p.tables e below (T3.setTop (mkF m 31 #[iv (85 : Int32), rv wk, iv (5 : Int32), iv (1 : Int32), rv w_ERASED] [])) _
    refine XS.iinc X3.here hx rfl (hb hby d2_31) rfl (l' := #[iv (85 : Int32), rv wk, iv (5 : Int32), iv ((1 : Int32) + (1 : Int32)), rv w_ERASED]) rfl ?_
    exact k
  rw [show ((1 : Int32) + (1 : Int32)) = (2 : Int32) from by decide]
  show Go p e below _ (T3.setTop (mkF m 34 #[iv (85 : Int32), rv wk, iv (5 : Int32), iv (2 : Int32), rv w_ERASED] []))
  refine Go.step (S' := T3.setTop (mkF m 16 #[iv (85 : Int32), rv wk, iv (5 : Int32), iv (2 : Int32), rv w_ERASED] [(.int (2 : Int32)), (.ref wk)])) (fun t k => ?_) ?_
  · show Steps p.tables e below (T3.setTop (mkF m 34 #[iv (85 : Int32), rv wk, iv (5 : Int32), iv (2 : Int32), rv w_ERASED] [])) _
    refine XS.goto X3.here hx rfl (pc0 := 34) (pc' := 9) rfl (hb hby d2_34) (by decide) (by decide) ?_
    show Steps p.tables e below (T3.setTop (mkF m 9 #[iv (85 : Int32), rv wk, iv (5 : Int32), iv (2 : Int32), rv w_ERASED] [])) _
    refine XS.iloadN X3.here hx rfl (hb hby d2_9) rfl ?_
    show Steps p.tables e below (T3.setTop (mkF m 10 #[iv (85 : Int32), rv wk, iv (5 : Int32), iv (2 : Int32), rv w_ERASED] [(.int (2 : Int32))])) _
    refine XS.iloadN X3.here hx rfl (hb hby d2_10) rfl ?_
    show Steps p.tables e below (T3.setTop (mkF m 11 #[iv (85 : Int32), rv wk, iv (5 : Int32), iv (2 : Int32), rv w_ERASED] [(.int (5 : Int32)), (.int (2 : Int32))])) _
    refine XS.icmpNo X3.here hx rfl (hb hby d2_11) rfl (tlt ((by decide) : (2 : Int32) < (5 : Int32))).2.1 ?_
    show Steps p.tables e below (T3.setTop (mkF m 14 #[iv (85 : Int32), rv wk, iv (5 : Int32), iv (2 : Int32), rv w_ERASED] [])) _
    refine XS.aloadN X3.here hx rfl (hb hby d2_14) rfl rfl ?_
    show Steps p.tables e below (T3.setTop (mkF m 15 #[iv (85 : Int32), rv wk, iv (5 : Int32), iv (2 : Int32), rv w_ERASED] [(.ref wk)])) _
    refine XS.iloadN X3.here hx rfl (hb hby d2_15) rfl ?_
    exact k
  refine Go.step (S' := T3.setTop (mkF m 17 #[iv (85 : Int32), rv wk, iv (5 : Int32), iv (2 : Int32), rv w_ERASED] [(.ref w_DELETE)])) (fun t k => X3.aaload hx (j := (2 : Int32)) (v := (.ref w_DELETE)) (by rw [e3]; exact ArK.1) (State.isArrayOf_alike hZ.alike ArK.2.1) rfl ArK.2.2 el2.1 el2.2 (g := (mkF m 16 #[iv (85 : Int32), rv wk, iv (5 : Int32), iv (2 : Int32), rv w_ERASED] [(.int (2 : Int32)), (.ref wk)])) rfl rfl (hb hby d2_16) _ k) ?_
  refine Go.step (S' := T3.setTop (mkF m 21 #[iv (85 : Int32), rv wk, iv (5 : Int32), iv (2 : Int32), rv w_DELETE] [(.ref w_DELETE)])) (fun t k => ?_) ?_
  · show Steps p.tables e below (T3.setTop (mkF m 17 #[iv (85 : Int32), rv wk, iv (5 : Int32), iv (2 : Int32), rv w_ERASED] [(.ref w_DELETE)])) _
    refine XS.astore X3.here hx rfl (hb hby d2_17) rfl rfl (l' := #[iv (85 : Int32), rv wk, iv (5 : Int32), iv (2 : Int32), rv w_DELETE]) rfl ?_
    show Steps p.tables e below (T3.setTop (mkF m 19 #[iv (85 : Int32), rv wk, iv (5 : Int32), iv (2 : Int32), rv w_DELETE] [])) _
    refine XS.aload X3.here hx rfl (hb hby d2_19) rfl rfl ?_
    exact k
  obtain ⟨T4, X4, e4, st4⟩ := getF X3 hx hZ hown (host := "") (Or.inl (own_w hw 12 rfl)) Via.refl e3 (F_code_DELETE.ext O.2) (g := (mkF m 21 #[iv (85 : Int32), rv wk, iv (5 : Int32), iv (2 : Int32), rv w_DELETE] [(.ref w_DELETE)])) rfl rfl (hb hby d2_21)
  refine Go.step st4 ?_
  show Go p e below _ (T4.setTop (mkF m 24 #[iv (85 : Int32), rv wk, iv (5 : Int32), iv (2 : Int32), rv w_DELETE] [(.int (68 : Int32))]))
  refine Go.step (S' := T4.setTop (mkF m 34 #[iv (85 : Int32), rv wk, iv (5 : Int32), iv ((2 : Int32) + (1 : Int32)), rv w_DELETE] [])) (fun t k => ?_) ?_
  · show Steps p.tables e below (T4.setTop (mkF m 24 #[iv (85 : Int32), rv wk, iv (5 : Int32), iv (2 : Int32), rv w_DELETE] [(.int (68 : Int32))])) _
    refine XS.iloadN X4.here hx rfl (hb hby d2_24) rfl ?_
    show Steps p.tables e below (T4.setTop (mkF m 25 #[iv (85 : Int32), rv wk, iv (5 : Int32), iv (2 : Int32), rv w_DELETE] [(.int (85 : Int32)), (.int (68 : Int32))])) _
    refine XS.icmpYes X4.here hx rfl (pc0 := 25) (pc' := 31) rfl (hb hby d2_25) rfl (feq ((by decide) : ¬ ((68 : Int32) = (85 : Int32)))).2 (by decide) (by decide) ?_
    show Steps p.tables e below (T4.setTop (mkF m 31 #[iv (85 : Int32), rv wk, iv (5 : Int32), iv (2 : Int32), rv w_DELETE] [])) _
    refine XS.iinc X4.here hx rfl (hb hby d2_31) rfl (l' := #[iv (85 : Int32), rv wk, iv (5 : Int32), iv ((2 : Int32) + (1 : Int32)), rv w_DELETE]) rfl ?_
    exact k
  rw [show ((2 : Int32) + (1 : Int32)) = (3 : Int32) from by decide]
  show Go p e below _ (T4.setTop (mkF m 34 #[iv (85 : Int32), rv wk, iv (5 : Int32), iv (3 : Int32), rv w_DELETE] []))
  refine Go.step (S' := T4.setTop (mkF m 16 #[iv (85 : Int32), rv wk, iv (5 : Int32), iv (3 : Int32), rv w_DELETE] [(.int (3 : Int32)), (.ref wk)])) (fun t k => ?_) ?_
  · show Steps p.tables e below (T4.setTop (mkF m 34 #[iv (85 : Int32), rv wk, iv (5 : Int32), iv (3 : Int32), rv w_DELETE] [])) _
    refine XS.goto X4.here hx rfl (pc0 := 34) (pc' := 9) rfl (hb hby d2_34) (by decide) (by decide) ?_
    show Steps p.tables e below (T4.setTop (mkF m 9 #[iv (85 : Int32), rv wk, iv (5 : Int32), iv (3 : Int32), rv w_DELETE] [])) _
    refine XS.iloadN X4.here hx rfl (hb hby d2_9) rfl ?_
    show Steps p.tables e below (T4.setTop (mkF m 10 #[iv (85 : Int32), rv wk, iv (5 : Int32), iv (3 : Int32), rv w_DELETE] [(.int (3 : Int32))])) _
    refine XS.iloadN X4.here hx rfl (hb hby d2_10) rfl ?_
    show Steps p.tables e below (T4.setTop (mkF m 11 #[iv (85 : Int32), rv wk, iv (5 : Int32), iv (3 : Int32), rv w_DELETE] [(.int (5 : Int32)), (.int (3 : Int32))])) _
    refine XS.icmpNo X4.here hx rfl (hb hby d2_11) rfl (tlt ((by decide) : (3 : Int32) < (5 : Int32))).2.1 ?_
    show Steps p.tables e below (T4.setTop (mkF m 14 #[iv (85 : Int32), rv wk, iv (5 : Int32), iv (3 : Int32), rv w_DELETE] [])) _
    refine XS.aloadN X4.here hx rfl (hb hby d2_14) rfl rfl ?_
    show Steps p.tables e below (T4.setTop (mkF m 15 #[iv (85 : Int32), rv wk, iv (5 : Int32), iv (3 : Int32), rv w_DELETE] [(.ref wk)])) _
    refine XS.iloadN X4.here hx rfl (hb hby d2_15) rfl ?_
    exact k
  refine Go.step (S' := T4.setTop (mkF m 17 #[iv (85 : Int32), rv wk, iv (5 : Int32), iv (3 : Int32), rv w_DELETE] [(.ref w_GONE)])) (fun t k => X4.aaload hx (j := (3 : Int32)) (v := (.ref w_GONE)) (by rw [e4]; exact ArK.1) (State.isArrayOf_alike hZ.alike ArK.2.1) rfl ArK.2.2 el3.1 el3.2 (g := (mkF m 16 #[iv (85 : Int32), rv wk, iv (5 : Int32), iv (3 : Int32), rv w_DELETE] [(.int (3 : Int32)), (.ref wk)])) rfl rfl (hb hby d2_16) _ k) ?_
  refine Go.step (S' := T4.setTop (mkF m 21 #[iv (85 : Int32), rv wk, iv (5 : Int32), iv (3 : Int32), rv w_GONE] [(.ref w_GONE)])) (fun t k => ?_) ?_
  · show Steps p.tables e below (T4.setTop (mkF m 17 #[iv (85 : Int32), rv wk, iv (5 : Int32), iv (3 : Int32), rv w_DELETE] [(.ref w_GONE)])) _
    refine XS.astore X4.here hx rfl (hb hby d2_17) rfl rfl (l' := #[iv (85 : Int32), rv wk, iv (5 : Int32), iv (3 : Int32), rv w_GONE]) rfl ?_
    show Steps p.tables e below (T4.setTop (mkF m 19 #[iv (85 : Int32), rv wk, iv (5 : Int32), iv (3 : Int32), rv w_GONE] [])) _
    refine XS.aload X4.here hx rfl (hb hby d2_19) rfl rfl ?_
    exact k
  obtain ⟨T5, X5, e5, st5⟩ := getF X4 hx hZ hown (host := "") (Or.inl (own_w hw 12 rfl)) Via.refl e4 (F_code_GONE.ext O.2) (g := (mkF m 21 #[iv (85 : Int32), rv wk, iv (5 : Int32), iv (3 : Int32), rv w_GONE] [(.ref w_GONE)])) rfl rfl (hb hby d2_21)
  refine Go.step st5 ?_
  show Go p e below _ (T5.setTop (mkF m 24 #[iv (85 : Int32), rv wk, iv (5 : Int32), iv (3 : Int32), rv w_GONE] [(.int (71 : Int32))]))
  refine Go.step (S' := T5.setTop (mkF m 34 #[iv (85 : Int32), rv wk, iv (5 : Int32), iv ((3 : Int32) + (1 : Int32)), rv w_GONE] [])) (fun t k => ?_) ?_
  · show Steps p.tables e below (T5.setTop (mkF m 24 #[iv (85 : Int32), rv wk, iv (5 : Int32), iv (3 : Int32), rv w_GONE] [(.int (71 : Int32))])) _
    refine XS.iloadN X5.here hx rfl (hb hby d2_24) rfl ?_
    show Steps p.tables e below (T5.setTop (mkF m 25 #[iv (85 : Int32), rv wk, iv (5 : Int32), iv (3 : Int32), rv w_GONE] [(.int (85 : Int32)), (.int (71 : Int32))])) _
    refine XS.icmpYes X5.here hx rfl (pc0 := 25) (pc' := 31) rfl (hb hby d2_25) rfl (feq ((by decide) : ¬ ((71 : Int32) = (85 : Int32)))).2 (by decide) (by decide) ?_
    show Steps p.tables e below (T5.setTop (mkF m 31 #[iv (85 : Int32), rv wk, iv (5 : Int32), iv (3 : Int32), rv w_GONE] [])) _
    refine XS.iinc X5.here hx rfl (hb hby d2_31) rfl (l' := #[iv (85 : Int32), rv wk, iv (5 : Int32), iv ((3 : Int32) + (1 : Int32)), rv w_GONE]) rfl ?_
    exact k
  rw [show ((3 : Int32) + (1 : Int32)) = (4 : Int32) from by decide]
  show Go p e below _ (T5.setTop (mkF m 34 #[iv (85 : Int32), rv wk, iv (5 : Int32), iv (4 : Int32), rv w_GONE] []))
  refine Go.step (S' := T5.setTop (mkF m 16 #[iv (85 : Int32), rv wk, iv (5 : Int32), iv (4 : Int32), rv w_GONE] [(.int (4 : Int32)), (.ref wk)])) (fun t k => ?_) ?_
  · show Steps p.tables e below (T5.setTop (mkF m 34 #[iv (85 : Int32), rv wk, iv (5 : Int32), iv (4 : Int32), rv w_GONE] [])) _
    refine XS.goto X5.here hx rfl (pc0 := 34) (pc' := 9) rfl (hb hby d2_34) (by decide) (by decide) ?_
    show Steps p.tables e below (T5.setTop (mkF m 9 #[iv (85 : Int32), rv wk, iv (5 : Int32), iv (4 : Int32), rv w_GONE] [])) _
    refine XS.iloadN X5.here hx rfl (hb hby d2_9) rfl ?_
    show Steps p.tables e below (T5.setTop (mkF m 10 #[iv (85 : Int32), rv wk, iv (5 : Int32), iv (4 : Int32), rv w_GONE] [(.int (4 : Int32))])) _
    refine XS.iloadN X5.here hx rfl (hb hby d2_10) rfl ?_
    show Steps p.tables e below (T5.setTop (mkF m 11 #[iv (85 : Int32), rv wk, iv (5 : Int32), iv (4 : Int32), rv w_GONE] [(.int (5 : Int32)), (.int (4 : Int32))])) _
    refine XS.icmpNo X5.here hx rfl (hb hby d2_11) rfl (tlt ((by decide) : (4 : Int32) < (5 : Int32))).2.1 ?_
    show Steps p.tables e below (T5.setTop (mkF m 14 #[iv (85 : Int32), rv wk, iv (5 : Int32), iv (4 : Int32), rv w_GONE] [])) _
    refine XS.aloadN X5.here hx rfl (hb hby d2_14) rfl rfl ?_
    show Steps p.tables e below (T5.setTop (mkF m 15 #[iv (85 : Int32), rv wk, iv (5 : Int32), iv (4 : Int32), rv w_GONE] [(.ref wk)])) _
    refine XS.iloadN X5.here hx rfl (hb hby d2_15) rfl ?_
    exact k
  refine Go.step (S' := T5.setTop (mkF m 17 #[iv (85 : Int32), rv wk, iv (5 : Int32), iv (4 : Int32), rv w_GONE] [(.ref w_UNFINISHED)])) (fun t k => X5.aaload hx (j := (4 : Int32)) (v := (.ref w_UNFINISHED)) (by rw [e5]; exact ArK.1) (State.isArrayOf_alike hZ.alike ArK.2.1) rfl ArK.2.2 el4.1 el4.2 (g := (mkF m 16 #[iv (85 : Int32), rv wk, iv (5 : Int32), iv (4 : Int32), rv w_GONE] [(.int (4 : Int32)), (.ref wk)])) rfl rfl (hb hby d2_16) _ k) ?_
  refine Go.step (S' := T5.setTop (mkF m 21 #[iv (85 : Int32), rv wk, iv (5 : Int32), iv (4 : Int32), rv w_UNFINISHED] [(.ref w_UNFINISHED)])) (fun t k => ?_) ?_
  · show Steps p.tables e below (T5.setTop (mkF m 17 #[iv (85 : Int32), rv wk, iv (5 : Int32), iv (4 : Int32), rv w_GONE] [(.ref w_UNFINISHED)])) _
    refine XS.astore X5.here hx rfl (hb hby d2_17) rfl rfl (l' := #[iv (85 : Int32), rv wk, iv (5 : Int32), iv (4 : Int32), rv w_UNFINISHED]) rfl ?_
    show Steps p.tables e below (T5.setTop (mkF m 19 #[iv (85 : Int32), rv wk, iv (5 : Int32), iv (4 : Int32), rv w_UNFINISHED] [])) _
    refine XS.aload X5.here hx rfl (hb hby d2_19) rfl rfl ?_
    exact k
  obtain ⟨T6, X6, e6, st6⟩ := getF X5 hx hZ hown (host := "") (Or.inl (own_w hw 12 rfl)) Via.refl e5 (F_code_UNFINISHED.ext O.2) (g := (mkF m 21 #[iv (85 : Int32), rv wk, iv (5 : Int32), iv (4 : Int32), rv w_UNFINISHED] [(.ref w_UNFINISHED)])) rfl rfl (hb hby d2_21)
  refine Go.step st6 ?_
  show Go p e below _ (T6.setTop (mkF m 24 #[iv (85 : Int32), rv wk, iv (5 : Int32), iv (4 : Int32), rv w_UNFINISHED] [(.int (85 : Int32))]))
  refine Go.step (S' := T6.setTop (mkF m 30 #[iv (85 : Int32), rv wk, iv (5 : Int32), iv (4 : Int32), rv w_UNFINISHED] [(.ref w_UNFINISHED)])) (fun t k => ?_) ?_
  · show Steps p.tables e below (T6.setTop (mkF m 24 #[iv (85 : Int32), rv wk, iv (5 : Int32), iv (4 : Int32), rv w_UNFINISHED] [(.int (85 : Int32))])) _
    refine XS.iloadN X6.here hx rfl (hb hby d2_24) rfl ?_
    show Steps p.tables e below (T6.setTop (mkF m 25 #[iv (85 : Int32), rv wk, iv (5 : Int32), iv (4 : Int32), rv w_UNFINISHED] [(.int (85 : Int32)), (.int (85 : Int32))])) _
    refine XS.icmpNo X6.here hx rfl (hb hby d2_25) rfl (teq ((by decide) : (85 : Int32) = (85 : Int32))).2 ?_
    show Steps p.tables e below (T6.setTop (mkF m 28 #[iv (85 : Int32), rv wk, iv (5 : Int32), iv (4 : Int32), rv w_UNFINISHED] [])) _
    refine XS.aload X6.here hx rfl (hb hby d2_28) rfl rfl ?_
    exact k
  obtain ⟨fs, hr, hrun, hended, hW, hsame⟩ := X6.leave (v := some (.ref w_UNFINISHED)) (fun h => by rw [Bd.returns] at h; cases h)
  refine Go.fin (S' := T6.setFrames fs) ?_ hrun hended ⟨_, _, rfl, ?_, ⟨_, rfl⟩, hW, hsame.mono (by decide) (by decide)⟩
  · exact retOut X6 hx Bd.returns rfl (Or.inr (Or.inr (Or.inr (Or.inr ⟨rfl, rfl, rfl⟩)))) (hb hby d2_30) hr
  · show Q_rmK4 Z w_PUT w_ERASED w_DELETE w_GONE w_UNFINISHED wk ck h0 n0 (some (.ref w_UNFINISHED)) T6.heap _
    rw [e6]
    exact ⟨rfl, N0, rfl⟩
theorem d1_0 : decode prog_7_method_4_code 0 = .ok (.iload_n 0, 1) := by decide +kernel
theorem d1_1 : decode prog_7_method_4_code 1 = .ok (.invokestatic 42, 3) := by decide +kernel
theorem pd__28B_29Lcom_2fexample_2ftombsweep_2ftombsweep_2fio_2fRecordHeader_24Kind_3b : parseMethodDescriptor "(B)Lcom/example/tombsweep/tombsweep/io/RecordHeader$Kind;" = some ⟨[.byte], some (.object "com/example/tombsweep/tombsweep/io/RecordHeader$Kind")⟩ := by decide +kernel
theorem d1_4 : decode prog_7_method_4_code 4 = .ok (.astore_n 1, 1) := by decide +kernel
theorem d1_5 : decode prog_7_method_4_code 5 = .ok (.aload_n 1, 1) := by decide +kernel
theorem d1_6 : decode prog_7_method_4_code 6 = .ok (.ifnonnull 27, 3) := by decide +kernel
theorem d1_33 : decode prog_7_method_4_code 33 = .ok (.aload_n 1, 1) := by decide +kernel
theorem d1_34 : decode prog_7_method_4_code 34 = .ok (.areturn, 1) := by decide +kernel
theorem ef_rmO0 (m : MethodId)  : entryFrame m #[(.int (80 : Int32))] 2 = mkF m 0 #[.val (.int (80 : Int32)), .unset] [] := by first | (simp [entryFrame, mkF, argsToLocals, Value.category]; done) | rfl
abbrev rm_rmO0 : Room := ({ frames := 1, cells := 0, slots := 0, locals := 16 } : Room)
def Q_rmO0 (Z : State) (w_PUT : Addr) (w_ERASED : Addr) (w_DELETE : Addr) (w_GONE : Addr) (w_UNFINISHED : Addr) (wk : Addr) (ck : Cell) (h0 : Heap) (n0 : Nat) (v : Option Value) (h : Heap) (L : List Loc) : Prop := (v = some (.ref w_PUT)) ∧ (Fr n0 L) ∧ (h = h0)
set_option maxRecDepth 65536 in
set_option maxHeartbeats 40000000 in
theorem rmO0 (l : Launch) (Z : State) (a0 : Array Value) (hw : ∀ d ∈ tables_1, d.before a0 Z = true) (ws : List Jvm.Cond) (w_PUT : Addr) (w_ERASED : Addr) (w_DELETE : Addr) (w_GONE : Addr) (w_UNFINISHED : Addr) (wk : Addr) (ck : Cell) (h0 : Heap) (n0 : Nat) (O : Old Z n0 h0) (S_KINDS : Sta Z Z.heap "com/example/tombsweep/tombsweep/io/RecordHeader$Kind" "KINDS" "[Lcom/example/tombsweep/tombsweep/io/RecordHeader$Kind;" (.ref wk)) (F_code_PUT : Fld Z Z.heap w_PUT "com/example/tombsweep/tombsweep/io/RecordHeader$Kind" "code" "B" (.int (80 : Int32))) (F_code_ERASED : Fld Z Z.heap w_ERASED "com/example/tombsweep/tombsweep/io/RecordHeader$Kind" "code" "B" (.int (69 : Int32))) (F_code_DELETE : Fld Z Z.heap w_DELETE "com/example/tombsweep/tombsweep/io/RecordHeader$Kind" "code" "B" (.int (68 : Int32))) (F_code_GONE : Fld Z Z.heap w_GONE "com/example/tombsweep/tombsweep/io/RecordHeader$Kind" "code" "B" (.int (71 : Int32))) (F_code_UNFINISHED : Fld Z Z.heap w_UNFINISHED "com/example/tombsweep/tombsweep/io/RecordHeader$Kind" "code" "B" (.int (85 : Int32))) (AK : Arr Z Z.heap wk ck (.object "com/example/tombsweep/tombsweep/io/RecordHeader$Kind")) (hlen : ck.slots.size.toInt32 = (5 : Int32)) (el0 : ¬ ((0 : Int32) < 0 ∨ ck.slots.size ≤ (0 : Int32).toNatClampNeg) ∧ ck.slots[(0 : Int32).toNatClampNeg]? = some (.ref w_PUT)) (el1 : ¬ ((1 : Int32) < 0 ∨ ck.slots.size ≤ (1 : Int32).toNatClampNeg) ∧ ck.slots[(1 : Int32).toNatClampNeg]? = some (.ref w_ERASED)) (el2 : ¬ ((2 : Int32) < 0 ∨ ck.slots.size ≤ (2 : Int32).toNatClampNeg) ∧ ck.slots[(2 : Int32).toNatClampNeg]? = some (.ref w_DELETE)) (el3 : ¬ ((3 : Int32) < 0 ∨ ck.slots.size ≤ (3 : Int32).toNatClampNeg) ∧ ck.slots[(3 : Int32).toNatClampNeg]? = some (.ref w_GONE)) (el4 : ¬ ((4 : Int32) < 0 ∨ ck.slots.size ≤ (4 : Int32).toNatClampNeg) ∧ ck.slots[(4 : Int32).toNatClampNeg]? = some (.ref w_UNFINISHED)) :
    MetFree l (⟨"com/example/tombsweep/tombsweep/io/RecordHeader$Kind", "of", "(B)Lcom/example/tombsweep/tombsweep/io/RecordHeader$Kind;"⟩ : MethodName) (head1 (Jvm.Cond.code (⟨"com/example/tombsweep/tombsweep/io/RecordHeader$Kind", "of", "(B)Lcom/example/tombsweep/tombsweep/io/RecordHeader$Kind;"⟩ : MethodName) prog_7_method_4_code 2 (some (.object "com/example/tombsweep/tombsweep/io/RecordHeader$Kind")) :: ws) rm_rmO0) (fun A_ U => A_ = #[(.int (80 : Int32))] ∧ Z.Warmed39 U.vm ∧ U.heap = h0) (fun _ _ _ _ _ => True) (fun _ U o U' => ∃ v L, o = .returned v ∧ Q_rmO0 Z w_PUT w_ERASED w_DELETE w_GONE w_UNFINISHED wk ck h0 n0 v U'.heap L ∧ FrameEnd U o U' L rm_rmO0.cells rm_rmO0.slots) := by
  refine MetFree.of_bodySF (plainFor_of_name pn_com_example_tombsweep_tombsweep_io_RecordHeader_Kind) hisR ?_
  intro p e s m args below meth c s₁ Bd hml0 hP hK
  obtain ⟨rfl, hZ, hh⟩ := hP
  have hx := Bd.exec
  have hby := Bd.bytes
  have hml : c.maxLocals = 2 := hml0
  have hown : s.vm.findClass "com/example/tombsweep/tombsweep/io/RecordHeader$Kind" = some m.cls := findClass_of_methodNamed Bd.named
  have hnm := (name_of_methodNamed Bd.named Bd.method).1
  have X0 : Stand p l e rm_rmO0 s m #[(.int (80 : Int32))] below meth c s₁ [] 0 0 := Stand.of_body Bd
  have e0 : s₁.heap = h0 := by rw [← hh, Bd.state]; rfl
  have N0 := Fr.nil n0
  refine Go.step (p := p) (e := e) (below := below) (G := fun o U' => ∃ v L, o = .returned v ∧ Q_rmO0 Z w_PUT w_ERASED w_DELETE w_GONE w_UNFINISHED wk ck h0 n0 v U'.heap L ∧ FrameEnd s o U' L rm_rmO0.cells rm_rmO0.slots) (S' := s₁.setTop (mkF m 0 #[iv (80 : Int32), u_] [])) (fun t k => castTop (ef_rmO0 m ) k) ?_
  refine Go.step (S' := s₁.setTop (mkF m 1 #[iv (80 : Int32), u_] [(.int (80 : Int32))])) (fun t k => ?_) ?_
  · show Steps p.tables e below (s₁.setTop (mkF m 0 #[iv (80 : Int32), u_] [])) _
    refine XS.iloadN X0.here hx rfl (hb hby d1_0) rfl ?_
    exact k
  obtain ⟨_, _, ⟨T1, L1, k1, n1⟩, -, X1, ⟨Lc1, hQ1, l1, y1, z1⟩, st1⟩ := Jvm.LawKit.callS X0 hx (y := (⟨"com/example/tombsweep/tombsweep/io/RecordHeader$Kind", "known", "(B)Lcom/example/tombsweep/tombsweep/io/RecordHeader$Kind;"⟩ : MethodName)) hown (mvT hZ (own_w hw 7 rfl)) (mvT hZ (own_w hw 8 rfl)) (mvT hZ (own_w hw 2 rfl)) (mvT hZ (own_w hw 9 rfl)) (by decide) (backOf (W := 0) (rmK0 l Z a0 hw [] w_PUT w_ERASED w_DELETE w_GONE w_UNFINISHED wk ck h0 n0 O S_KINDS F_code_PUT F_code_ERASED F_code_DELETE F_code_GONE F_code_UNFINISHED (by assumption) hlen el0 el1 el2 el3 el4) hZ (own_w hw 9 rfl) (own_w hw 2 rfl) (by decide) (by decide)) (g := (mkF m 1 #[iv (80 : Int32), u_] [(.int (80 : Int32))])) rfl (by rw [hml]; rfl) (argsL := [(.int (80 : Int32))]) (rest := []) (lenOf pd__28B_29Lcom_2fexample_2ftombsweep_2ftombsweep_2fio_2fRecordHeader_24Kind_3b rfl) rfl (by show 2 * 0 + _ ≤ _; exact Nat.le_of_eq rfl) (hb hby d1_1) (fun _ _ => ⟨rfl, e0, (by decide : 0 + 0 ≤ _), (by decide : 0 + 0 ≤ _)⟩)
  dsimp only [Pt.U, Pt.locs, Pt.cells, Pt.slots] at X1 l1 y1 z1 st1 hQ1
  subst l1 y1 z1
  obtain ⟨rfl, Nq1, e1⟩ := hQ1
  have N1 := Fr.app N0 Nq1
  refine Go.step st1 ?_
  show Go p e below _ (T1.setTop (mkF m 4 #[iv (80 : Int32), u_] [(.ref w_PUT)]))
  refine Go.step (S' := T1.setTop (mkF m 34 #[iv (80 : Int32), rv w_PUT] [(.ref w_PUT)])) (fun t k => ?_) ?_
  · show Steps p.tables e below (T1.setTop (mkF m 4 #[iv (80 : Int32), u_] [(.ref w_PUT)])) _
    refine XS.astoreN X1.here hx rfl (hb hby d1_4) rfl rfl (l' := #[iv (80 : Int32), rv w_PUT]) rfl ?_
    show Steps p.tables e below (T1.setTop (mkF m 5 #[iv (80 : Int32), rv w_PUT] [])) _
    refine XS.aloadN X1.here hx rfl (hb hby d1_5) rfl rfl ?_
    show Steps p.tables e below (T1.setTop (mkF m 6 #[iv (80 : Int32), rv w_PUT] [(.ref w_PUT)])) _
    refine XS.ifnonnullYes X1.here hx rfl (pc0 := 6) (pc' := 33) rfl (hb hby d1_6) rfl (by decide) (by decide) ?_
    show Steps p.tables e below (T1.setTop (mkF m 33 #[iv (80 : Int32), rv w_PUT] [])) _
    refine XS.aloadN X1.here hx rfl (hb hby d1_33) rfl rfl ?_
    exact k
  obtain ⟨fs, hr, hrun, hended, hW, hsame⟩ := X1.leave (v := some (.ref w_PUT)) (fun h => by rw [Bd.returns] at h; cases h)
  refine Go.fin (S' := T1.setFrames fs) ?_ hrun hended ⟨_, _, rfl, ?_, ⟨_, rfl⟩, hW, hsame.mono (by decide) (by decide)⟩
  · exact retOut X1 hx Bd.returns rfl (Or.inr (Or.inr (Or.inr (Or.inr ⟨rfl, rfl, rfl⟩)))) (hb hby d1_34) hr
  · show Q_rmO0 Z w_PUT w_ERASED w_DELETE w_GONE w_UNFINISHED wk ck h0 n0 (some (.ref w_PUT)) T1.heap _
    rw [e1]
    exact ⟨rfl, N1, rfl⟩
theorem ef_rmO1 (m : MethodId)  : entryFrame m #[(.int (69 : Int32))] 2 = mkF m 0 #[.val (.int (69 : Int32)), .unset] [] := by first | (simp [entryFrame, mkF, argsToLocals, Value.category]; done) | rfl
abbrev rm_rmO1 : Room := ({ frames := 1, cells := 0, slots := 0, locals := 16 } : Room)
def Q_rmO1 (Z : State) (w_PUT : Addr) (w_ERASED : Addr) (w_DELETE : Addr) (w_GONE : Addr) (w_UNFINISHED : Addr) (wk : Addr) (ck : Cell) (h0 : Heap) (n0 : Nat) (v : Option Value) (h : Heap) (L : List Loc) : Prop := (v = some (.ref w_ERASED)) ∧ (Fr n0 L) ∧ (h = h0)
set_option maxRecDepth 65536 in
set_option maxHeartbeats 40000000 in
theorem rmO1 (l : Launch) (Z : State) (a0 : Array Value) (hw : ∀ d ∈ tables_1, d.before a0 Z = true) (ws : List Jvm.Cond) (w_PUT : Addr) (w_ERASED : Addr) (w_DELETE : Addr) (w_GONE : Addr) (w_UNFINISHED : Addr) (wk : Addr) (ck : Cell) (h0 : Heap) (n0 : Nat) (O : Old Z n0 h0) (S_KINDS : Sta Z Z.heap "com/example/tombsweep/tombsweep/io/RecordHeader$Kind" "KINDS" "[Lcom/example/tombsweep/tombsweep/io/RecordHeader$Kind;" (.ref wk)) (F_code_PUT : Fld Z Z.heap w_PUT "com/example/tombsweep/tombsweep/io/RecordHeader$Kind" "code" "B" (.int (80 : Int32))) (F_code_ERASED : Fld Z Z.heap w_ERASED "com/example/tombsweep/tombsweep/io/RecordHeader$Kind" "code" "B" (.int (69 : Int32))) (F_code_DELETE : Fld Z Z.heap w_DELETE "com/example/tombsweep/tombsweep/io/RecordHeader$Kind" "code" "B" (.int (68 : Int32))) (F_code_GONE : Fld Z Z.heap w_GONE "com/example/tombsweep/tombsweep/io/RecordHeader$Kind" "code" "B" (.int (71 : Int32))) (F_code_UNFINISHED : Fld Z Z.heap w_UNFINISHED "com/example/tombsweep/tombsweep/io/RecordHeader$Kind" "code" "B" (.int (85 : Int32))) (AK : Arr Z Z.heap wk ck (.object "com/example/tombsweep/tombsweep/io/RecordHeader$Kind")) (hlen : ck.slots.size.toInt32 = (5 : Int32)) (el0 : ¬ ((0 : Int32) < 0 ∨ ck.slots.size ≤ (0 : Int32).toNatClampNeg) ∧ ck.slots[(0 : Int32).toNatClampNeg]? = some (.ref w_PUT)) (el1 : ¬ ((1 : Int32) < 0 ∨ ck.slots.size ≤ (1 : Int32).toNatClampNeg) ∧ ck.slots[(1 : Int32).toNatClampNeg]? = some (.ref w_ERASED)) (el2 : ¬ ((2 : Int32) < 0 ∨ ck.slots.size ≤ (2 : Int32).toNatClampNeg) ∧ ck.slots[(2 : Int32).toNatClampNeg]? = some (.ref w_DELETE)) (el3 : ¬ ((3 : Int32) < 0 ∨ ck.slots.size ≤ (3 : Int32).toNatClampNeg) ∧ ck.slots[(3 : Int32).toNatClampNeg]? = some (.ref w_GONE)) (el4 : ¬ ((4 : Int32) < 0 ∨ ck.slots.size ≤ (4 : Int32).toNatClampNeg) ∧ ck.slots[(4 : Int32).toNatClampNeg]? = some (.ref w_UNFINISHED)) :
    MetFree l (⟨"com/example/tombsweep/tombsweep/io/RecordHeader$Kind", "of", "(B)Lcom/example/tombsweep/tombsweep/io/RecordHeader$Kind;"⟩ : MethodName) (head1 (Jvm.Cond.code (⟨"com/example/tombsweep/tombsweep/io/RecordHeader$Kind", "of", "(B)Lcom/example/tombsweep/tombsweep/io/RecordHeader$Kind;"⟩ : MethodName) prog_7_method_4_code 2 (some (.object "com/example/tombsweep/tombsweep/io/RecordHeader$Kind")) :: ws) rm_rmO1) (fun A_ U => A_ = #[(.int (69 : Int32))] ∧ Z.Warmed39 U.vm ∧ U.heap = h0) (fun _ _ _ _ _ => True) (fun _ U o U' => ∃ v L, o = .returned v ∧ Q_rmO1 Z w_PUT w_ERASED w_DELETE w_GONE w_UNFINISHED wk ck h0 n0 v U'.heap L ∧ FrameEnd U o U' L rm_rmO1.cells rm_rmO1.slots) := by
  refine MetFree.of_bodySF (plainFor_of_name pn_com_example_tombsweep_tombsweep_io_RecordHeader_Kind) hisR ?_
  intro p e s m args below meth c s₁ Bd hml0 hP hK
  obtain ⟨rfl, hZ, hh⟩ := hP
  have hx := Bd.exec
  have hby := Bd.bytes
  have hml : c.maxLocals = 2 := hml0
  have hown : s.vm.findClass "com/example/tombsweep/tombsweep/io/RecordHeader$Kind" = some m.cls := findClass_of_methodNamed Bd.named
  have hnm := (name_of_methodNamed Bd.named Bd.method).1
  have X0 : Stand p l e rm_rmO1 s m #[(.int (69 : Int32))] below meth c s₁ [] 0 0 := Stand.of_body Bd
  have e0 : s₁.heap = h0 := by rw [← hh, Bd.state]; rfl
  have N0 := Fr.nil n0
  refine Go.step (p := p) (e := e) (below := below) (G := fun o U' => ∃ v L, o = .returned v ∧ Q_rmO1 Z w_PUT w_ERASED w_DELETE w_GONE w_UNFINISHED wk ck h0 n0 v U'.heap L ∧ FrameEnd s o U' L rm_rmO1.cells rm_rmO1.slots) (S' := s₁.setTop (mkF m 0 #[iv (69 : Int32), u_] [])) (fun t k => castTop (ef_rmO1 m ) k) ?_
  refine Go.step (S' := s₁.setTop (mkF m 1 #[iv (69 : Int32), u_] [(.int (69 : Int32))])) (fun t k => ?_) ?_
  · show Steps p.tables e below (s₁.setTop (mkF m 0 #[iv (69 : Int32), u_] [])) _
    refine XS.iloadN X0.here hx rfl (hb hby d1_0) rfl ?_
    exact k
  obtain ⟨_, _, ⟨T1, L1, k1, n1⟩, -, X1, ⟨Lc1, hQ1, l1, y1, z1⟩, st1⟩ := Jvm.LawKit.callS X0 hx (y := (⟨"com/example/tombsweep/tombsweep/io/RecordHeader$Kind", "known", "(B)Lcom/example/tombsweep/tombsweep/io/RecordHeader$Kind;"⟩ : MethodName)) hown (mvT hZ (own_w hw 7 rfl)) (mvT hZ (own_w hw 8 rfl)) (mvT hZ (own_w hw 2 rfl)) (mvT hZ (own_w hw 9 rfl)) (by decide) (backOf (W := 0) (rmK1 l Z a0 hw [] w_PUT w_ERASED w_DELETE w_GONE w_UNFINISHED wk ck h0 n0 O S_KINDS F_code_PUT F_code_ERASED F_code_DELETE F_code_GONE F_code_UNFINISHED (by assumption) hlen el0 el1 el2 el3 el4) hZ (own_w hw 9 rfl) (own_w hw 2 rfl) (by decide) (by decide)) (g := (mkF m 1 #[iv (69 : Int32), u_] [(.int (69 : Int32))])) rfl (by rw [hml]; rfl) (argsL := [(.int (69 : Int32))]) (rest := []) (lenOf pd__28B_29Lcom_2fexample_2ftombsweep_2ftombsweep_2fio_2fRecordHeader_24Kind_3b rfl) rfl (by show 2 * 0 + _ ≤ _; exact Nat.le_of_eq rfl) (hb hby d1_1) (fun _ _ => ⟨rfl, e0, (by decide : 0 + 0 ≤ _), (by decide : 0 + 0 ≤ _)⟩)
  dsimp only [Pt.U, Pt.locs, Pt.cells, Pt.slots] at X1 l1 y1 z1 st1 hQ1
  subst l1 y1 z1
  obtain ⟨rfl, Nq1, e1⟩ := hQ1
  have N1 := Fr.app N0 Nq1
  refine Go.step st1 ?_
  show Go p e below _ (T1.setTop (mkF m 4 #[iv (69 : Int32), u_] [(.ref w_ERASED)]))
  refine Go.step (S' := T1.setTop (mkF m 34 #[iv (69 : Int32), rv w_ERASED] [(.ref w_ERASED)])) (fun t k => ?_) ?_
  · show Steps p.tables e below (T1.setTop (mkF m 4 #[iv (69 : Int32), u_] [(.ref w_ERASED)])) _
    refine XS.astoreN X1.here hx rfl (hb hby d1_4) rfl rfl (l' := #[iv (69 : Int32), rv w_ERASED]) rfl ?_
    show Steps p.tables e below (T1.setTop (mkF m 5 #[iv (69 : Int32), rv w_ERASED] [])) _
    refine XS.aloadN X1.here hx rfl (hb hby d1_5) rfl rfl ?_
    show Steps p.tables e below (T1.setTop (mkF m 6 #[iv (69 : Int32), rv w_ERASED] [(.ref w_ERASED)])) _
    refine XS.ifnonnullYes X1.here hx rfl (pc0 := 6) (pc' := 33) rfl (hb hby d1_6) rfl (by decide) (by decide) ?_
    show Steps p.tables e below (T1.setTop (mkF m 33 #[iv (69 : Int32), rv w_ERASED] [])) _
    refine XS.aloadN X1.here hx rfl (hb hby d1_33) rfl rfl ?_
    exact k
  obtain ⟨fs, hr, hrun, hended, hW, hsame⟩ := X1.leave (v := some (.ref w_ERASED)) (fun h => by rw [Bd.returns] at h; cases h)
  refine Go.fin (S' := T1.setFrames fs) ?_ hrun hended ⟨_, _, rfl, ?_, ⟨_, rfl⟩, hW, hsame.mono (by decide) (by decide)⟩
  · exact retOut X1 hx Bd.returns rfl (Or.inr (Or.inr (Or.inr (Or.inr ⟨rfl, rfl, rfl⟩)))) (hb hby d1_34) hr
  · show Q_rmO1 Z w_PUT w_ERASED w_DELETE w_GONE w_UNFINISHED wk ck h0 n0 (some (.ref w_ERASED)) T1.heap _
    rw [e1]
    exact ⟨rfl, N1, rfl⟩
theorem ef_rmO2 (m : MethodId)  : entryFrame m #[(.int (68 : Int32))] 2 = mkF m 0 #[.val (.int (68 : Int32)), .unset] [] := by first | (simp [entryFrame, mkF, argsToLocals, Value.category]; done) | rfl
abbrev rm_rmO2 : Room := ({ frames := 1, cells := 0, slots := 0, locals := 16 } : Room)
def Q_rmO2 (Z : State) (w_PUT : Addr) (w_ERASED : Addr) (w_DELETE : Addr) (w_GONE : Addr) (w_UNFINISHED : Addr) (wk : Addr) (ck : Cell) (h0 : Heap) (n0 : Nat) (v : Option Value) (h : Heap) (L : List Loc) : Prop := (v = some (.ref w_DELETE)) ∧ (Fr n0 L) ∧ (h = h0)
set_option maxRecDepth 65536 in
set_option maxHeartbeats 40000000 in
theorem rmO2 (l : Launch) (Z : State) (a0 : Array Value) (hw : ∀ d ∈ tables_1, d.before a0 Z = true) (ws : List Jvm.Cond) (w_PUT : Addr) (w_ERASED : Addr) (w_DELETE : Addr) (w_GONE : Addr) (w_UNFINISHED : Addr) (wk : Addr) (ck : Cell) (h0 : Heap) (n0 : Nat) (O : Old Z n0 h0) (S_KINDS : Sta Z Z.heap "com/example/tombsweep/tombsweep/io/RecordHeader$Kind" "KINDS" "[Lcom/example/tombsweep/tombsweep/io/RecordHeader$Kind;" (.ref wk)) (F_code_PUT : Fld Z Z.heap w_PUT "com/example/tombsweep/tombsweep/io/RecordHeader$Kind" "code" "B" (.int (80 : Int32))) (F_code_ERASED : Fld Z Z.heap w_ERASED "com/example/tombsweep/tombsweep/io/RecordHeader$Kind" "code" "B" (.int (69 : Int32))) (F_code_DELETE : Fld Z Z.heap w_DELETE "com/example/tombsweep/tombsweep/io/RecordHeader$Kind" "code" "B" (.int (68 : Int32))) (F_code_GONE : Fld Z Z.heap w_GONE "com/example/tombsweep/tombsweep/io/RecordHeader$Kind" "code" "B" (.int (71 : Int32))) (F_code_UNFINISHED : Fld Z Z.heap w_UNFINISHED "com/example/tombsweep/tombsweep/io/RecordHeader$Kind" "code" "B" (.int (85 : Int32))) (AK : Arr Z Z.heap wk ck (.object "com/example/tombsweep/tombsweep/io/RecordHeader$Kind")) (hlen : ck.slots.size.toInt32 = (5 : Int32)) (el0 : ¬ ((0 : Int32) < 0 ∨ ck.slots.size ≤ (0 : Int32).toNatClampNeg) ∧ ck.slots[(0 : Int32).toNatClampNeg]? = some (.ref w_PUT)) (el1 : ¬ ((1 : Int32) < 0 ∨ ck.slots.size ≤ (1 : Int32).toNatClampNeg) ∧ ck.slots[(1 : Int32).toNatClampNeg]? = some (.ref w_ERASED)) (el2 : ¬ ((2 : Int32) < 0 ∨ ck.slots.size ≤ (2 : Int32).toNatClampNeg) ∧ ck.slots[(2 : Int32).toNatClampNeg]? = some (.ref w_DELETE)) (el3 : ¬ ((3 : Int32) < 0 ∨ ck.slots.size ≤ (3 : Int32).toNatClampNeg) ∧ ck.slots[(3 : Int32).toNatClampNeg]? = some (.ref w_GONE)) (el4 : ¬ ((4 : Int32) < 0 ∨ ck.slots.size ≤ (4 : Int32).toNatClampNeg) ∧ ck.slots[(4 : Int32).toNatClampNeg]? = some (.ref w_UNFINISHED)) :
    MetFree l (⟨"com/example/tombsweep/tombsweep/io/RecordHeader$Kind", "of", "(B)Lcom/example/tombsweep/tombsweep/io/RecordHeader$Kind;"⟩ : MethodName) (head1 (Jvm.Cond.code (⟨"com/example/tombsweep/tombsweep/io/RecordHeader$Kind", "of", "(B)Lcom/example/tombsweep/tombsweep/io/RecordHeader$Kind;"⟩ : MethodName) prog_7_method_4_code 2 (some (.object "com/example/tombsweep/tombsweep/io/RecordHeader$Kind")) :: ws) rm_rmO2) (fun A_ U => A_ = #[(.int (68 : Int32))] ∧ Z.Warmed39 U.vm ∧ U.heap = h0) (fun _ _ _ _ _ => True) (fun _ U o U' => ∃ v L, o = .returned v ∧ Q_rmO2 Z w_PUT w_ERASED w_DELETE w_GONE w_UNFINISHED wk ck h0 n0 v U'.heap L ∧ FrameEnd U o U' L rm_rmO2.cells rm_rmO2.slots) := by
  refine MetFree.of_bodySF (plainFor_of_name pn_com_example_tombsweep_tombsweep_io_RecordHeader_Kind) hisR ?_
  intro p e s m args below meth c s₁ Bd hml0 hP hK
  obtain ⟨rfl, hZ, hh⟩ := hP
  have hx := Bd.exec
  have hby := Bd.bytes
  have hml : c.maxLocals = 2 := hml0
  have hown : s.vm.findClass "com/example/tombsweep/tombsweep/io/RecordHeader$Kind" = some m.cls := findClass_of_methodNamed Bd.named
  have hnm := (name_of_methodNamed Bd.named Bd.method).1
  have X0 : Stand p l e rm_rmO2 s m #[(.int (68 : Int32))] below meth c s₁ [] 0 0 := Stand.of_body Bd
  have e0 : s₁.heap = h0 := by rw [← hh, Bd.state]; rfl
  have N0 := Fr.nil n0
  refine Go.step (p := p) (e := e) (below := below) (G := fun o U' => ∃ v L, o = .returned v ∧ Q_rmO2 Z w_PUT w_ERASED w_DELETE w_GONE w_UNFINISHED wk ck h0 n0 v U'.heap L ∧ FrameEnd s o U' L rm_rmO2.cells rm_rmO2.slots) (S' := s₁.setTop (mkF m 0 #[iv (68 : Int32), u_] [])) (fun t k => castTop (ef_rmO2 m ) k) ?_
  refine Go.step (S' := s₁.setTop (mkF m 1 #[iv (68 : Int32), u_] [(.int (68 : Int32))])) (fun t k => ?_) ?_
  · show Steps p.tables e below (s₁.setTop (mkF m 0 #[iv (68 : Int32), u_] [])) _
    refine XS.iloadN X0.here hx rfl (hb hby d1_0) rfl ?_
    exact k
  obtain ⟨_, _, ⟨T1, L1, k1, n1⟩, -, X1, ⟨Lc1, hQ1, l1, y1, z1⟩, st1⟩ := Jvm.LawKit.callS X0 hx (y := (⟨"com/example/tombsweep/tombsweep/io/RecordHeader$Kind", "known", "(B)Lcom/example/tombsweep/tombsweep/io/RecordHeader$Kind;"⟩ : MethodName)) hown (mvT hZ (own_w hw 7 rfl)) (mvT hZ (own_w hw 8 rfl)) (mvT hZ (own_w hw 2 rfl)) (mvT hZ (own_w hw 9 rfl)) (by decide) (backOf (W := 0) (rmK2 l Z a0 hw [] w_PUT w_ERASED w_DELETE w_GONE w_UNFINISHED wk ck h0 n0 O S_KINDS F_code_PUT F_code_ERASED F_code_DELETE F_code_GONE F_code_UNFINISHED (by assumption) hlen el0 el1 el2 el3 el4) hZ (own_w hw 9 rfl) (own_w hw 2 rfl) (by decide) (by decide)) (g := (mkF m 1 #[iv (68 : Int32), u_] [(.int (68 : Int32))])) rfl (by rw [hml]; rfl) (argsL := [(.int (68 : Int32))]) (rest := []) (lenOf pd__28B_29Lcom_2fexample_2ftombsweep_2ftombsweep_2fio_2fRecordHeader_24Kind_3b rfl) rfl (by show 2 * 0 + _ ≤ _; exact Nat.le_of_eq rfl) (hb hby d1_1) (fun _ _ => ⟨rfl, e0, (by decide : 0 + 0 ≤ _), (by decide : 0 + 0 ≤ _)⟩)
  dsimp only [Pt.U, Pt.locs, Pt.cells, Pt.slots] at X1 l1 y1 z1 st1 hQ1
  subst l1 y1 z1
  obtain ⟨rfl, Nq1, e1⟩ := hQ1
  have N1 := Fr.app N0 Nq1
  refine Go.step st1 ?_
  show Go p e below _ (T1.setTop (mkF m 4 #[iv (68 : Int32), u_] [(.ref w_DELETE)]))
  refine Go.step (S' := T1.setTop (mkF m 34 #[iv (68 : Int32), rv w_DELETE] [(.ref w_DELETE)])) (fun t k => ?_) ?_
  · show Steps p.tables e below (T1.setTop (mkF m 4 #[iv (68 : Int32), u_] [(.ref w_DELETE)])) _
    refine XS.astoreN X1.here hx rfl (hb hby d1_4) rfl rfl (l' := #[iv (68 : Int32), rv w_DELETE]) rfl ?_
    show Steps p.tables e below (T1.setTop (mkF m 5 #[iv (68 : Int32), rv w_DELETE] [])) _
    refine XS.aloadN X1.here hx rfl (hb hby d1_5) rfl rfl ?_
    show Steps p.tables e below (T1.setTop (mkF m 6 #[iv (68 : Int32), rv w_DELETE] [(.ref w_DELETE)])) _
    refine XS.ifnonnullYes X1.here hx rfl (pc0 := 6) (pc' := 33) rfl (hb hby d1_6) rfl (by decide) (by decide) ?_
    show Steps p.tables e below (T1.setTop (mkF m 33 #[iv (68 : Int32), rv w_DELETE] [])) _
    refine XS.aloadN X1.here hx rfl (hb hby d1_33) rfl rfl ?_
    exact k
  obtain ⟨fs, hr, hrun, hended, hW, hsame⟩ := X1.leave (v := some (.ref w_DELETE)) (fun h => by rw [Bd.returns] at h; cases h)
  refine Go.fin (S' := T1.setFrames fs) ?_ hrun hended ⟨_, _, rfl, ?_, ⟨_, rfl⟩, hW, hsame.mono (by decide) (by decide)⟩
  · exact retOut X1 hx Bd.returns rfl (Or.inr (Or.inr (Or.inr (Or.inr ⟨rfl, rfl, rfl⟩)))) (hb hby d1_34) hr
  · show Q_rmO2 Z w_PUT w_ERASED w_DELETE w_GONE w_UNFINISHED wk ck h0 n0 (some (.ref w_DELETE)) T1.heap _
    rw [e1]
    exact ⟨rfl, N1, rfl⟩
theorem ef_rmO3 (m : MethodId)  : entryFrame m #[(.int (71 : Int32))] 2 = mkF m 0 #[.val (.int (71 : Int32)), .unset] [] := by first | (simp [entryFrame, mkF, argsToLocals, Value.category]; done) | rfl
abbrev rm_rmO3 : Room := ({ frames := 1, cells := 0, slots := 0, locals := 16 } : Room)
def Q_rmO3 (Z : State) (w_PUT : Addr) (w_ERASED : Addr) (w_DELETE : Addr) (w_GONE : Addr) (w_UNFINISHED : Addr) (wk : Addr) (ck : Cell) (h0 : Heap) (n0 : Nat) (v : Option Value) (h : Heap) (L : List Loc) : Prop := (v = some (.ref w_GONE)) ∧ (Fr n0 L) ∧ (h = h0)
set_option maxRecDepth 65536 in
set_option maxHeartbeats 40000000 in
theorem rmO3 (l : Launch) (Z : State) (a0 : Array Value) (hw : ∀ d ∈ tables_1, d.before a0 Z = true) (ws : List Jvm.Cond) (w_PUT : Addr) (w_ERASED : Addr) (w_DELETE : Addr) (w_GONE : Addr) (w_UNFINISHED : Addr) (wk : Addr) (ck : Cell) (h0 : Heap) (n0 : Nat) (O : Old Z n0 h0) (S_KINDS : Sta Z Z.heap "com/example/tombsweep/tombsweep/io/RecordHeader$Kind" "KINDS" "[Lcom/example/tombsweep/tombsweep/io/RecordHeader$Kind;" (.ref wk)) (F_code_PUT : Fld Z Z.heap w_PUT "com/example/tombsweep/tombsweep/io/RecordHeader$Kind" "code" "B" (.int (80 : Int32))) (F_code_ERASED : Fld Z Z.heap w_ERASED "com/example/tombsweep/tombsweep/io/RecordHeader$Kind" "code" "B" (.int (69 : Int32))) (F_code_DELETE : Fld Z Z.heap w_DELETE "com/example/tombsweep/tombsweep/io/RecordHeader$Kind" "code" "B" (.int (68 : Int32))) (F_code_GONE : Fld Z Z.heap w_GONE "com/example/tombsweep/tombsweep/io/RecordHeader$Kind" "code" "B" (.int (71 : Int32))) (F_code_UNFINISHED : Fld Z Z.heap w_UNFINISHED "com/example/tombsweep/tombsweep/io/RecordHeader$Kind" "code" "B" (.int (85 : Int32))) (AK : Arr Z Z.heap wk ck (.object "com/example/tombsweep/tombsweep/io/RecordHeader$Kind")) (hlen : ck.slots.size.toInt32 = (5 : Int32)) (el0 : ¬ ((0 : Int32) < 0 ∨ ck.slots.size ≤ (0 : Int32).toNatClampNeg) ∧ ck.slots[(0 : Int32).toNatClampNeg]? = some (.ref w_PUT)) (el1 : ¬ ((1 : Int32) < 0 ∨ ck.slots.size ≤ (1 : Int32).toNatClampNeg) ∧ ck.slots[(1 : Int32).toNatClampNeg]? = some (.ref w_ERASED)) (el2 : ¬ ((2 : Int32) < 0 ∨ ck.slots.size ≤ (2 : Int32).toNatClampNeg) ∧ ck.slots[(2 : Int32).toNatClampNeg]? = some (.ref w_DELETE)) (el3 : ¬ ((3 : Int32) < 0 ∨ ck.slots.size ≤ (3 : Int32).toNatClampNeg) ∧ ck.slots[(3 : Int32).toNatClampNeg]? = some (.ref w_GONE)) (el4 : ¬ ((4 : Int32) < 0 ∨ ck.slots.size ≤ (4 : Int32).toNatClampNeg) ∧ ck.slots[(4 : Int32).toNatClampNeg]? = some (.ref w_UNFINISHED)) :
    MetFree l (⟨"com/example/tombsweep/tombsweep/io/RecordHeader$Kind", "of", "(B)Lcom/example/tombsweep/tombsweep/io/RecordHeader$Kind;"⟩ : MethodName) (head1 (Jvm.Cond.code (⟨"com/example/tombsweep/tombsweep/io/RecordHeader$Kind", "of", "(B)Lcom/example/tombsweep/tombsweep/io/RecordHeader$Kind;"⟩ : MethodName) prog_7_method_4_code 2 (some (.object "com/example/tombsweep/tombsweep/io/RecordHeader$Kind")) :: ws) rm_rmO3) (fun A_ U => A_ = #[(.int (71 : Int32))] ∧ Z.Warmed39 U.vm ∧ U.heap = h0) (fun _ _ _ _ _ => True) (fun _ U o U' => ∃ v L, o = .returned v ∧ Q_rmO3 Z w_PUT w_ERASED w_DELETE w_GONE w_UNFINISHED wk ck h0 n0 v U'.heap L ∧ FrameEnd U o U' L rm_rmO3.cells rm_rmO3.slots) := by
  refine MetFree.of_bodySF (plainFor_of_name pn_com_example_tombsweep_tombsweep_io_RecordHeader_Kind) hisR ?_
  intro p e s m args below meth c s₁ Bd hml0 hP hK
  obtain ⟨rfl, hZ, hh⟩ := hP
  have hx := Bd.exec
  have hby := Bd.bytes
  have hml : c.maxLocals = 2 := hml0
  have hown : s.vm.findClass "com/example/tombsweep/tombsweep/io/RecordHeader$Kind" = some m.cls := findClass_of_methodNamed Bd.named
  have hnm := (name_of_methodNamed Bd.named Bd.method).1
  have X0 : Stand p l e rm_rmO3 s m #[(.int (71 : Int32))] below meth c s₁ [] 0 0 := Stand.of_body Bd
  have e0 : s₁.heap = h0 := by rw [← hh, Bd.state]; rfl
  have N0 := Fr.nil n0
  refine Go.step (p := p) (e := e) (below := below) (G := fun o U' => ∃ v L, o = .returned v ∧ Q_rmO3 Z w_PUT w_ERASED w_DELETE w_GONE w_UNFINISHED wk ck h0 n0 v U'.heap L ∧ FrameEnd s o U' L rm_rmO3.cells rm_rmO3.slots) (S' := s₁.setTop (mkF m 0 #[iv (71 : Int32), u_] [])) (fun t k => castTop (ef_rmO3 m ) k) ?_
  refine Go.step (S' := s₁.setTop (mkF m 1 #[iv (71 : Int32), u_] [(.int (71 : Int32))])) (fun t k => ?_) ?_
  · show Steps p.tables e below (s₁.setTop (mkF m 0 #[iv (71 : Int32), u_] [])) _
    refine XS.iloadN X0.here hx rfl (hb hby d1_0) rfl ?_
    exact k
  obtain ⟨_, _, ⟨T1, L1, k1, n1⟩, -, X1, ⟨Lc1, hQ1, l1, y1, z1⟩, st1⟩ := Jvm.LawKit.callS X0 hx (y := (⟨"com/example/tombsweep/tombsweep/io/RecordHeader$Kind", "known", "(B)Lcom/example/tombsweep/tombsweep/io/RecordHeader$Kind;"⟩ : MethodName)) hown (mvT hZ (own_w hw 7 rfl)) (mvT hZ (own_w hw 8 rfl)) (mvT hZ (own_w hw 2 rfl)) (mvT hZ (own_w hw 9 rfl)) (by decide) (backOf (W := 0) (rmK3 l Z a0 hw [] w_PUT w_ERASED w_DELETE w_GONE w_UNFINISHED wk ck h0 n0 O S_KINDS F_code_PUT F_code_ERASED F_code_DELETE F_code_GONE F_code_UNFINISHED (by assumption) hlen el0 el1 el2 el3 el4) hZ (own_w hw 9 rfl) (own_w hw 2 rfl) (by decide) (by decide)) (g := (mkF m 1 #[iv (71 : Int32), u_] [(.int (71 : Int32))])) rfl (by rw [hml]; rfl) (argsL := [(.int (71 : Int32))]) (rest := []) (lenOf pd__28B_29Lcom_2fexample_2ftombsweep_2ftombsweep_2fio_2fRecordHeader_24Kind_3b rfl) rfl (by show 2 * 0 + _ ≤ _; exact Nat.le_of_eq rfl) (hb hby d1_1) (fun _ _ => ⟨rfl, e0, (by decide : 0 + 0 ≤ _), (by decide : 0 + 0 ≤ _)⟩)
  dsimp only [Pt.U, Pt.locs, Pt.cells, Pt.slots] at X1 l1 y1 z1 st1 hQ1
  subst l1 y1 z1
  obtain ⟨rfl, Nq1, e1⟩ := hQ1
  have N1 := Fr.app N0 Nq1
  refine Go.step st1 ?_
  show Go p e below _ (T1.setTop (mkF m 4 #[iv (71 : Int32), u_] [(.ref w_GONE)]))
  refine Go.step (S' := T1.setTop (mkF m 34 #[iv (71 : Int32), rv w_GONE] [(.ref w_GONE)])) (fun t k => ?_) ?_
  · show Steps p.tables e below (T1.setTop (mkF m 4 #[iv (71 : Int32), u_] [(.ref w_GONE)])) _
    refine XS.astoreN X1.here hx rfl (hb hby d1_4) rfl rfl (l' := #[iv (71 : Int32), rv w_GONE]) rfl ?_
    show Steps p.tables e below (T1.setTop (mkF m 5 #[iv (71 : Int32), rv w_GONE] [])) _
    refine XS.aloadN X1.here hx rfl (hb hby d1_5) rfl rfl ?_
    show Steps p.tables e below (T1.setTop (mkF m 6 #[iv (71 : Int32), rv w_GONE] [(.ref w_GONE)])) _
    refine XS.ifnonnullYes X1.here hx rfl (pc0 := 6) (pc' := 33) rfl (hb hby d1_6) rfl (by decide) (by decide) ?_
    show Steps p.tables e below (T1.setTop (mkF m 33 #[iv (71 : Int32), rv w_GONE] [])) _
    refine XS.aloadN X1.here hx rfl (hb hby d1_33) rfl rfl ?_
    exact k
  obtain ⟨fs, hr, hrun, hended, hW, hsame⟩ := X1.leave (v := some (.ref w_GONE)) (fun h => by rw [Bd.returns] at h; cases h)
  refine Go.fin (S' := T1.setFrames fs) ?_ hrun hended ⟨_, _, rfl, ?_, ⟨_, rfl⟩, hW, hsame.mono (by decide) (by decide)⟩
  · exact retOut X1 hx Bd.returns rfl (Or.inr (Or.inr (Or.inr (Or.inr ⟨rfl, rfl, rfl⟩)))) (hb hby d1_34) hr
  · show Q_rmO3 Z w_PUT w_ERASED w_DELETE w_GONE w_UNFINISHED wk ck h0 n0 (some (.ref w_GONE)) T1.heap _
    rw [e1]
    exact ⟨rfl, N1, rfl⟩
theorem ef_rmO4 (m : MethodId)  : entryFrame m #[(.int (85 : Int32))] 2 = mkF m 0 #[.val (.int (85 : Int32)), .unset] [] := by first | (simp [entryFrame, mkF, argsToLocals, Value.category]; done) | rfl
abbrev rm_rmO4 : Room := ({ frames := 1, cells := 0, slots := 0, locals := 16 } : Room)
def Q_rmO4 (Z : State) (w_PUT : Addr) (w_ERASED : Addr) (w_DELETE : Addr) (w_GONE : Addr) (w_UNFINISHED : Addr) (wk : Addr) (ck : Cell) (h0 : Heap) (n0 : Nat) (v : Option Value) (h : Heap) (L : List Loc) : Prop := (v = some (.ref w_UNFINISHED)) ∧ (Fr n0 L) ∧ (h = h0)
set_option maxRecDepth 65536 in
set_option maxHeartbeats 40000000 in
theorem rmO4 (l : Launch) (Z : State) (a0 : Array Value) (hw : ∀ d ∈ tables_1, d.before a0 Z = true) (ws : List Jvm.Cond) (w_PUT : Addr) (w_ERASED : Addr) (w_DELETE : Addr) (w_GONE : Addr) (w_UNFINISHED : Addr) (wk : Addr) (ck : Cell) (h0 : Heap) (n0 : Nat) (O : Old Z n0 h0) (S_KINDS : Sta Z Z.heap "com/example/tombsweep/tombsweep/io/RecordHeader$Kind" "KINDS" "[Lcom/example/tombsweep/tombsweep/io/RecordHeader$Kind;" (.ref wk)) (F_code_PUT : Fld Z Z.heap w_PUT "com/example/tombsweep/tombsweep/io/RecordHeader$Kind" "code" "B" (.int (80 : Int32))) (F_code_ERASED : Fld Z Z.heap w_ERASED "com/example/tombsweep/tombsweep/io/RecordHeader$Kind" "code" "B" (.int (69 : Int32))) (F_code_DELETE : Fld Z Z.heap w_DELETE "com/example/tombsweep/tombsweep/io/RecordHeader$Kind" "code" "B" (.int (68 : Int32))) (F_code_GONE : Fld Z Z.heap w_GONE "com/example/tombsweep/tombsweep/io/RecordHeader$Kind" "code" "B" (.int (71 : Int32))) (F_code_UNFINISHED : Fld Z Z.heap w_UNFINISHED "com/example/tombsweep/tombsweep/io/RecordHeader$Kind" "code" "B" (.int (85 : Int32))) (AK : Arr Z Z.heap wk ck (.object "com/example/tombsweep/tombsweep/io/RecordHeader$Kind")) (hlen : ck.slots.size.toInt32 = (5 : Int32)) (el0 : ¬ ((0 : Int32) < 0 ∨ ck.slots.size ≤ (0 : Int32).toNatClampNeg) ∧ ck.slots[(0 : Int32).toNatClampNeg]? = some (.ref w_PUT)) (el1 : ¬ ((1 : Int32) < 0 ∨ ck.slots.size ≤ (1 : Int32).toNatClampNeg) ∧ ck.slots[(1 : Int32).toNatClampNeg]? = some (.ref w_ERASED)) (el2 : ¬ ((2 : Int32) < 0 ∨ ck.slots.size ≤ (2 : Int32).toNatClampNeg) ∧ ck.slots[(2 : Int32).toNatClampNeg]? = some (.ref w_DELETE)) (el3 : ¬ ((3 : Int32) < 0 ∨ ck.slots.size ≤ (3 : Int32).toNatClampNeg) ∧ ck.slots[(3 : Int32).toNatClampNeg]? = some (.ref w_GONE)) (el4 : ¬ ((4 : Int32) < 0 ∨ ck.slots.size ≤ (4 : Int32).toNatClampNeg) ∧ ck.slots[(4 : Int32).toNatClampNeg]? = some (.ref w_UNFINISHED)) :
    MetFree l (⟨"com/example/tombsweep/tombsweep/io/RecordHeader$Kind", "of", "(B)Lcom/example/tombsweep/tombsweep/io/RecordHeader$Kind;"⟩ : MethodName) (head1 (Jvm.Cond.code (⟨"com/example/tombsweep/tombsweep/io/RecordHeader$Kind", "of", "(B)Lcom/example/tombsweep/tombsweep/io/RecordHeader$Kind;"⟩ : MethodName) prog_7_method_4_code 2 (some (.object "com/example/tombsweep/tombsweep/io/RecordHeader$Kind")) :: ws) rm_rmO4) (fun A_ U => A_ = #[(.int (85 : Int32))] ∧ Z.Warmed39 U.vm ∧ U.heap = h0) (fun _ _ _ _ _ => True) (fun _ U o U' => ∃ v L, o = .returned v ∧ Q_rmO4 Z w_PUT w_ERASED w_DELETE w_GONE w_UNFINISHED wk ck h0 n0 v U'.heap L ∧ FrameEnd U o U' L rm_rmO4.cells rm_rmO4.slots) := by
  refine MetFree.of_bodySF (plainFor_of_name pn_com_example_tombsweep_tombsweep_io_RecordHeader_Kind) hisR ?_
  intro p e s m args below meth c s₁ Bd hml0 hP hK
  obtain ⟨rfl, hZ, hh⟩ := hP
  have hx := Bd.exec
  have hby := Bd.bytes
  have hml : c.maxLocals = 2 := hml0
  have hown : s.vm.findClass "com/example/tombsweep/tombsweep/io/RecordHeader$Kind" = some m.cls := findClass_of_methodNamed Bd.named
  have hnm := (name_of_methodNamed Bd.named Bd.method).1
  have X0 : Stand p l e rm_rmO4 s m #[(.int (85 : Int32))] below meth c s₁ [] 0 0 := Stand.of_body Bd
  have e0 : s₁.heap = h0 := by rw [← hh, Bd.state]; rfl
  have N0 := Fr.nil n0
  refine Go.step (p := p) (e := e) (below := below) (G := fun o U' => ∃ v L, o = .returned v ∧ Q_rmO4 Z w_PUT w_ERASED w_DELETE w_GONE w_UNFINISHED wk ck h0 n0 v U'.heap L ∧ FrameEnd s o U' L rm_rmO4.cells rm_rmO4.slots) (S' := s₁.setTop (mkF m 0 #[iv (85 : Int32), u_] [])) (fun t k => castTop (ef_rmO4 m ) k) ?_
  refine Go.step (S' := s₁.setTop (mkF m 1 #[iv (85 : Int32), u_] [(.int (85 : Int32))])) (fun t k => ?_) ?_
  · show Steps p.tables e below (s₁.setTop (mkF m 0 #[iv (85 : Int32), u_] [])) _
    refine XS.iloadN X0.here hx rfl (hb hby d1_0) rfl ?_
    exact k
  obtain ⟨_, _, ⟨T1, L1, k1, n1⟩, -, X1, ⟨Lc1, hQ1, l1, y1, z1⟩, st1⟩ := Jvm.LawKit.callS X0 hx (y := (⟨"com/example/tombsweep/tombsweep/io/RecordHeader$Kind", "known", "(B)Lcom/example/tombsweep/tombsweep/io/RecordHeader$Kind;"⟩ : MethodName)) hown (mvT hZ (own_w hw 7 rfl)) (mvT hZ (own_w hw 8 rfl)) (mvT hZ (own_w hw 2 rfl)) (mvT hZ (own_w hw 9 rfl)) (by decide) (backOf (W := 0) (rmK4 l Z a0 hw [] w_PUT w_ERASED w_DELETE w_GONE w_UNFINISHED wk ck h0 n0 O S_KINDS F_code_PUT F_code_ERASED F_code_DELETE F_code_GONE F_code_UNFINISHED (by assumption) hlen el0 el1 el2 el3 el4) hZ (own_w hw 9 rfl) (own_w hw 2 rfl) (by decide) (by decide)) (g := (mkF m 1 #[iv (85 : Int32), u_] [(.int (85 : Int32))])) rfl (by rw [hml]; rfl) (argsL := [(.int (85 : Int32))]) (rest := []) (lenOf pd__28B_29Lcom_2fexample_2ftombsweep_2ftombsweep_2fio_2fRecordHeader_24Kind_3b rfl) rfl (by show 2 * 0 + _ ≤ _; exact Nat.le_of_eq rfl) (hb hby d1_1) (fun _ _ => ⟨rfl, e0, (by decide : 0 + 0 ≤ _), (by decide : 0 + 0 ≤ _)⟩)
  dsimp only [Pt.U, Pt.locs, Pt.cells, Pt.slots] at X1 l1 y1 z1 st1 hQ1
  subst l1 y1 z1
  obtain ⟨rfl, Nq1, e1⟩ := hQ1
  have N1 := Fr.app N0 Nq1
  refine Go.step st1 ?_
  show Go p e below _ (T1.setTop (mkF m 4 #[iv (85 : Int32), u_] [(.ref w_UNFINISHED)]))
  refine Go.step (S' := T1.setTop (mkF m 34 #[iv (85 : Int32), rv w_UNFINISHED] [(.ref w_UNFINISHED)])) (fun t k => ?_) ?_
  · show Steps p.tables e below (T1.setTop (mkF m 4 #[iv (85 : Int32), u_] [(.ref w_UNFINISHED)])) _
    refine XS.astoreN X1.here hx rfl (hb hby d1_4) rfl rfl (l' := #[iv (85 : Int32), rv w_UNFINISHED]) rfl ?_
    show Steps p.tables e below (T1.setTop (mkF m 5 #[iv (85 : Int32), rv w_UNFINISHED] [])) _
    refine XS.aloadN X1.here hx rfl (hb hby d1_5) rfl rfl ?_
    show Steps p.tables e below (T1.setTop (mkF m 6 #[iv (85 : Int32), rv w_UNFINISHED] [(.ref w_UNFINISHED)])) _
    refine XS.ifnonnullYes X1.here hx rfl (pc0 := 6) (pc' := 33) rfl (hb hby d1_6) rfl (by decide) (by decide) ?_
    show Steps p.tables e below (T1.setTop (mkF m 33 #[iv (85 : Int32), rv w_UNFINISHED] [])) _
    refine XS.aloadN X1.here hx rfl (hb hby d1_33) rfl rfl ?_
    exact k
  obtain ⟨fs, hr, hrun, hended, hW, hsame⟩ := X1.leave (v := some (.ref w_UNFINISHED)) (fun h => by rw [Bd.returns] at h; cases h)
  refine Go.fin (S' := T1.setFrames fs) ?_ hrun hended ⟨_, _, rfl, ?_, ⟨_, rfl⟩, hW, hsame.mono (by decide) (by decide)⟩
  · exact retOut X1 hx Bd.returns rfl (Or.inr (Or.inr (Or.inr (Or.inr ⟨rfl, rfl, rfl⟩)))) (hb hby d1_34) hr
  · show Q_rmO4 Z w_PUT w_ERASED w_DELETE w_GONE w_UNFINISHED wk ck h0 n0 (some (.ref w_UNFINISHED)) T1.heap _
    rw [e1]
    exact ⟨rfl, N1, rfl⟩
theorem pn_com_example_tombsweep_tombsweep_io_KindOfPinLaw : plainName "com/example/tombsweep/tombsweep/io/KindOfPinLaw" = true := by first | (simp [plainName, overriddenIn]; done) | decide +kernel
theorem ef_rm0 (m : MethodId) (p0 : Int32) : entryFrame m #[(.int p0)] maxLocals = mkF m 0 #[.val (.int p0), .unset, .unset, .unset, .unset] [] := by first | (simp [entryFrame, mkF, argsToLocals, Value.category, maxLocals]; done) | rfl
def Q_rm0 (Z : State) (p0 : Int32) (w_PUT : Addr) (w_ERASED : Addr) (w_DELETE : Addr) (w_GONE : Addr) (w_UNFINISHED : Addr) (wk : Addr) (ck : Cell) (h0 : Heap) (n0 : Nat) (v : Option Value) (h : Heap) (L : List Loc) : Prop := (v = some (.int (1 : Int32))) ∧ (Fr n0 L) ∧ (h = h0)
set_option maxRecDepth 65536 in
set_option maxHeartbeats 40000000 in
theorem rm0 (l : Launch) (Z : State) (a0 : Array Value) (hw : ∀ d ∈ tables_1, d.before a0 Z = true) (ws : List Jvm.Cond) (p0 : Int32) (w_PUT : Addr) (w_ERASED : Addr) (w_DELETE : Addr) (w_GONE : Addr) (w_UNFINISHED : Addr) (wk : Addr) (ck : Cell) (h0 : Heap) (n0 : Nat) (O : Old Z n0 h0) (S_PUT : Sta Z Z.heap "com/example/tombsweep/tombsweep/io/RecordHeader$Kind" "PUT" "Lcom/example/tombsweep/tombsweep/io/RecordHeader$Kind;" (.ref w_PUT)) (S_ERASED : Sta Z Z.heap "com/example/tombsweep/tombsweep/io/RecordHeader$Kind" "ERASED" "Lcom/example/tombsweep/tombsweep/io/RecordHeader$Kind;" (.ref w_ERASED)) (S_DELETE : Sta Z Z.heap "com/example/tombsweep/tombsweep/io/RecordHeader$Kind" "DELETE" "Lcom/example/tombsweep/tombsweep/io/RecordHeader$Kind;" (.ref w_DELETE)) (S_GONE : Sta Z Z.heap "com/example/tombsweep/tombsweep/io/RecordHeader$Kind" "GONE" "Lcom/example/tombsweep/tombsweep/io/RecordHeader$Kind;" (.ref w_GONE)) (S_UNFINISHED : Sta Z Z.heap "com/example/tombsweep/tombsweep/io/RecordHeader$Kind" "UNFINISHED" "Lcom/example/tombsweep/tombsweep/io/RecordHeader$Kind;" (.ref w_UNFINISHED)) (S_KINDS : Sta Z Z.heap "com/example/tombsweep/tombsweep/io/RecordHeader$Kind" "KINDS" "[Lcom/example/tombsweep/tombsweep/io/RecordHeader$Kind;" (.ref wk)) (F_code_PUT : Fld Z Z.heap w_PUT "com/example/tombsweep/tombsweep/io/RecordHeader$Kind" "code" "B" (.int (80 : Int32))) (F_code_ERASED : Fld Z Z.heap w_ERASED "com/example/tombsweep/tombsweep/io/RecordHeader$Kind" "code" "B" (.int (69 : Int32))) (F_code_DELETE : Fld Z Z.heap w_DELETE "com/example/tombsweep/tombsweep/io/RecordHeader$Kind" "code" "B" (.int (68 : Int32))) (F_code_GONE : Fld Z Z.heap w_GONE "com/example/tombsweep/tombsweep/io/RecordHeader$Kind" "code" "B" (.int (71 : Int32))) (F_code_UNFINISHED : Fld Z Z.heap w_UNFINISHED "com/example/tombsweep/tombsweep/io/RecordHeader$Kind" "code" "B" (.int (85 : Int32))) (AK : Arr Z Z.heap wk ck (.object "com/example/tombsweep/tombsweep/io/RecordHeader$Kind")) (hlen : ck.slots.size.toInt32 = (5 : Int32)) (el0 : ¬ ((0 : Int32) < 0 ∨ ck.slots.size ≤ (0 : Int32).toNatClampNeg) ∧ ck.slots[(0 : Int32).toNatClampNeg]? = some (.ref w_PUT)) (el1 : ¬ ((1 : Int32) < 0 ∨ ck.slots.size ≤ (1 : Int32).toNatClampNeg) ∧ ck.slots[(1 : Int32).toNatClampNeg]? = some (.ref w_ERASED)) (el2 : ¬ ((2 : Int32) < 0 ∨ ck.slots.size ≤ (2 : Int32).toNatClampNeg) ∧ ck.slots[(2 : Int32).toNatClampNeg]? = some (.ref w_DELETE)) (el3 : ¬ ((3 : Int32) < 0 ∨ ck.slots.size ≤ (3 : Int32).toNatClampNeg) ∧ ck.slots[(3 : Int32).toNatClampNeg]? = some (.ref w_GONE)) (el4 : ¬ ((4 : Int32) < 0 ∨ ck.slots.size ≤ (4 : Int32).toNatClampNeg) ∧ ck.slots[(4 : Int32).toNatClampNeg]? = some (.ref w_UNFINISHED)) :
    MetFree l x (head1 (Jvm.Cond.code x code maxLocals ret :: ws) room_1) (fun A_ U => A_ = #[(.int p0)] ∧ Z.Warmed39 U.vm ∧ U.heap = h0) (fun _ _ _ _ _ => True) (fun _ U o U' => ∃ v L, o = .returned v ∧ Q_rm0 Z p0 w_PUT w_ERASED w_DELETE w_GONE w_UNFINISHED wk ck h0 n0 v U'.heap L ∧ FrameEnd U o U' L room_1.cells room_1.slots) := by
  refine MetFree.of_bodySF (plainFor_of_name pn_com_example_tombsweep_tombsweep_io_KindOfPinLaw) hisR ?_
  intro p e s m args below meth c s₁ Bd hml0 hP hK
  obtain ⟨rfl, hZ, hh⟩ := hP
  have hx := Bd.exec
  have hby := Bd.bytes
  have hml : c.maxLocals = 5 := hml0
  have hown : s.vm.findClass "com/example/tombsweep/tombsweep/io/KindOfPinLaw" = some m.cls := findClass_of_methodNamed Bd.named
  have hnm := (name_of_methodNamed Bd.named Bd.method).1
  have X0 : Stand p l e room_1 s m #[(.int p0)] below meth c s₁ [] 0 0 := Stand.of_body Bd
  have e0 : s₁.heap = h0 := by rw [← hh, Bd.state]; rfl
  have N0 := Fr.nil n0
  refine Go.step (p := p) (e := e) (below := below) (G := fun o U' => ∃ v L, o = .returned v ∧ Q_rm0 Z p0 w_PUT w_ERASED w_DELETE w_GONE w_UNFINISHED wk ck h0 n0 v U'.heap L ∧ FrameEnd s o U' L room_1.cells room_1.slots) (S' := s₁.setTop (mkF m 0 #[iv p0, u_, u_, u_, u_] [])) (fun t k => castTop (ef_rm0 m p0) k) ?_
  refine Go.step (S' := s₁.setTop (mkF m 8 #[iv p0, iv ((p0 &&& (2147483647 : Int32)) % (5 : Int32)), u_, u_, u_] [(.int ((p0 &&& (2147483647 : Int32)) % (5 : Int32)))])) (fun t k => ?_) ?_
  · show Steps p.tables e below (s₁.setTop (mkF m 0 #[iv p0, u_, u_, u_, u_] [])) _
    refine XS.iloadN X0.here hx rfl (hb hby at_0) rfl ?_
    show Steps p.tables e below (s₁.setTop (mkF m 1 #[iv p0, u_, u_, u_, u_] [(.int p0)])) _
    refine X0.ldcInt hx hown (mvT hZ (own_w hw 0 rfl)) (g := (mkF m 1 #[iv p0, u_, u_, u_, u_] [(.int p0)])) rfl (hb hby at_1) _ ?_
    show Steps p.tables e below (s₁.setTop (mkF m 3 #[iv p0, u_, u_, u_, u_] [(.int (2147483647 : Int32)), (.int p0)])) _
    refine XS.iand X0.here hx rfl (hb hby at_3) rfl ?_
    show Steps p.tables e below (s₁.setTop (mkF m 4 #[iv p0, u_, u_, u_, u_] [(.int (p0 &&& (2147483647 : Int32)))])) _
    refine XS.iconst X0.here hx rfl (hb hby at_4) ?_
    show Steps p.tables e below (s₁.setTop (mkF m 5 #[iv p0, u_, u_, u_, u_] [(.int (5 : Int32)), (.int (p0 &&& (2147483647 : Int32)))])) _
    refine iremM X0 hx rfl (hb hby at_5) rfl (by decide) ?_
    show Steps p.tables e below (s₁.setTop (mkF m 6 #[iv p0, u_, u_, u_, u_] [(.int ((p0 &&& (2147483647 : Int32)) % (5 : Int32)))])) _
    refine XS.istoreN X0.here hx rfl (hb hby at_6) rfl (l' := #[iv p0, iv ((p0 &&& (2147483647 : Int32)) % (5 : Int32)), u_, u_, u_]) rfl ?_
    show Steps p.tables e below (s₁.setTop (mkF m 7 #[iv p0, iv ((p0 &&& (2147483647 : Int32)) % (5 : Int32)), u_, u_, u_] [])) _
    refine XS.iloadN X0.here hx rfl (hb hby at_7) rfl ?_
    exact k
  by_cases hc8 : ((p0 &&& (2147483647 : Int32)) % (5 : Int32)) = (0 : Int32)
  · skip
    refine Go.step (S' := s₁.setTop (mkF m 14 #[iv p0, iv ((p0 &&& (2147483647 : Int32)) % (5 : Int32)), iv (80 : Int32), u_, u_] [])) (fun t k => ?_) ?_
    · show Steps p.tables e below (s₁.setTop (mkF m 8 #[iv p0, iv ((p0 &&& (2147483647 : Int32)) % (5 : Int32)), u_, u_, u_] [(.int ((p0 &&& (2147483647 : Int32)) % (5 : Int32)))])) _
      refine XS.ifNo X0.here hx rfl (hb hby at_8) rfl ((if0 _ _).trans (teq (hc8 : ((p0 &&& (2147483647 : Int32)) % (5 : Int32)) = (0 : Int32))).2) ?_
      show Steps p.tables e below (s₁.setTop (mkF m 11 #[iv p0, iv ((p0 &&& (2147483647 : Int32)) % (5 : Int32)), u_, u_, u_] [])) _
      refine XS.bipush X0.here hx rfl (hb hby at_11) ?_
      show Steps p.tables e below (s₁.setTop (mkF m 13 #[iv p0, iv ((p0 &&& (2147483647 : Int32)) % (5 : Int32)), u_, u_, u_] [(.int (80 : Int32))])) _
      refine XS.istoreN X0.here hx rfl (hb hby at_13) rfl (l' := #[iv p0, iv ((p0 &&& (2147483647 : Int32)) % (5 : Int32)), iv (80 : Int32), u_, u_]) rfl ?_
      exact k
    obtain ⟨T1, X1, e1, st1⟩ := getS2 X0 hx hZ hown (host := "") (Or.inl (own_w hw 1 rfl)) Via.refl e0 (S_PUT.ext O.2) (g := (mkF m 14 #[iv p0, iv ((p0 &&& (2147483647 : Int32)) % (5 : Int32)), iv (80 : Int32), u_, u_] [])) rfl (hb hby at_14)
    refine Go.step st1 ?_
    show Go p e below _ (T1.setTop (mkF m 17 #[iv p0, iv ((p0 &&& (2147483647 : Int32)) % (5 : Int32)), iv (80 : Int32), u_, u_] [(.ref w_PUT)]))
    refine Go.step (S' := T1.setTop (mkF m 75 #[iv p0, iv ((p0 &&& (2147483647 : Int32)) % (5 : Int32)), iv (80 : Int32), rv w_PUT, u_] [(.int ((80 : Int32).toInt8.toInt32))])) (fun t k => ?_) ?_
    · show Steps p.tables e below (T1.setTop (mkF m 17 #[iv p0, iv ((p0 &&& (2147483647 : Int32)) % (5 : Int32)), iv (80 : Int32), u_, u_] [(.ref w_PUT)])) _
      refine XS.astoreN X1.here hx rfl (hb hby at_17) rfl rfl (l' := #[iv p0, iv ((p0 &&& (2147483647 : Int32)) % (5 : Int32)), iv (80 : Int32), rv w_PUT, u_]) rfl ?_
      show Steps p.tables e below (T1.setTop (mkF m 18 #[iv p0, iv ((p0 &&& (2147483647 : Int32)) % (5 : Int32)), iv (80 : Int32), rv w_PUT, u_] [])) _
      refine XS.goto X1.here hx rfl (pc0 := 18) (pc' := 73) rfl (hb hby at_18) (by decide) (by decide) ?_
      show Steps p.tables e below (T1.setTop (mkF m 73 #[iv p0, iv ((p0 &&& (2147483647 : Int32)) % (5 : Int32)), iv (80 : Int32), rv w_PUT, u_] [])) _
      refine XS.iloadN X1.here hx rfl (hb hby at_73) rfl ?_
      show Steps p.tables e below (T1.setTop (mkF m 74 #[iv p0, iv ((p0 &&& (2147483647 : Int32)) % (5 : Int32)), iv (80 : Int32), rv w_PUT, u_] [(.int (80 : Int32))])) _
      refine XS.i2b X1.here hx rfl (hb hby at_74) rfl ?_
      exact k
    rw [show ((80 : Int32).toInt8.toInt32) = (80 : Int32) from by decide]
    show Go p e below _ (T1.setTop (mkF m 75 #[iv p0, iv ((p0 &&& (2147483647 : Int32)) % (5 : Int32)), iv (80 : Int32), rv w_PUT, u_] [(.int (80 : Int32))]))
    obtain ⟨_, _, ⟨T2, L2, k2, n2⟩, -, X2, ⟨Lc2, hQ2, l2, y2, z2⟩, st2⟩ := Jvm.LawKit.callS X1 hx (y := (⟨"com/example/tombsweep/tombsweep/io/RecordHeader$Kind", "of", "(B)Lcom/example/tombsweep/tombsweep/io/RecordHeader$Kind;"⟩ : MethodName)) hown (mvT hZ (own_w hw 4 rfl)) (mvT hZ (own_w hw 5 rfl)) (mvT hZ (own_w hw 2 rfl)) (mvT hZ (own_w hw 6 rfl)) (by decide) (backOf (W := 0) (rmO0 l Z a0 hw [] w_PUT w_ERASED w_DELETE w_GONE w_UNFINISHED wk ck h0 n0 O S_KINDS F_code_PUT F_code_ERASED F_code_DELETE F_code_GONE F_code_UNFINISHED (by assumption) hlen el0 el1 el2 el3 el4) hZ (own_w hw 6 rfl) (own_w hw 2 rfl) (by decide) (by decide)) (g := (mkF m 75 #[iv p0, iv ((p0 &&& (2147483647 : Int32)) % (5 : Int32)), iv (80 : Int32), rv w_PUT, u_] [(.int (80 : Int32))])) rfl (by rw [hml]; rfl) (argsL := [(.int (80 : Int32))]) (rest := []) (lenOf pd__28B_29Lcom_2fexample_2ftombsweep_2ftombsweep_2fio_2fRecordHeader_24Kind_3b rfl) rfl (by show 2 * 0 + _ ≤ _; exact Nat.le_of_eq rfl) (hb hby at_75) (fun _ _ => ⟨rfl, e1, (by decide : 0 + 0 ≤ _), (by decide : 0 + 0 ≤ _)⟩)
    dsimp only [Pt.U, Pt.locs, Pt.cells, Pt.slots] at X2 l2 y2 z2 st2 hQ2
    subst l2 y2 z2
    obtain ⟨rfl, Nq2, e2⟩ := hQ2
    have N2 := Fr.app N0 Nq2
    refine Go.step st2 ?_
    show Go p e below _ (T2.setTop (mkF m 78 #[iv p0, iv ((p0 &&& (2147483647 : Int32)) % (5 : Int32)), iv (80 : Int32), rv w_PUT, u_] [(.ref w_PUT)]))
    refine Go.step (S' := T2.setTop (mkF m 91 #[iv p0, iv ((p0 &&& (2147483647 : Int32)) % (5 : Int32)), iv (80 : Int32), rv w_PUT, rv w_PUT] [(.int (1 : Int32))])) (fun t k => ?_) ?_
    · show Steps p.tables e below (T2.setTop (mkF m 78 #[iv p0, iv ((p0 &&& (2147483647 : Int32)) % (5 : Int32)), iv (80 : Int32), rv w_PUT, u_] [(.ref w_PUT)])) _
      refine XS.astore X2.here hx rfl (hb hby at_78) rfl rfl (l' := #[iv p0, iv ((p0 &&& (2147483647 : Int32)) % (5 : Int32)), iv (80 : Int32), rv w_PUT, rv w_PUT]) rfl ?_
      show Steps p.tables e below (T2.setTop (mkF m 80 #[iv p0, iv ((p0 &&& (2147483647 : Int32)) % (5 : Int32)), iv (80 : Int32), rv w_PUT, rv w_PUT] [])) _
      refine XS.aload X2.here hx rfl (hb hby at_80) rfl rfl ?_
      show Steps p.tables e below (T2.setTop (mkF m 82 #[iv p0, iv ((p0 &&& (2147483647 : Int32)) % (5 : Int32)), iv (80 : Int32), rv w_PUT, rv w_PUT] [(.ref w_PUT)])) _
      refine XS.aloadN X2.here hx rfl (hb hby at_82) rfl rfl ?_
      show Steps p.tables e below (T2.setTop (mkF m 83 #[iv p0, iv ((p0 &&& (2147483647 : Int32)) % (5 : Int32)), iv (80 : Int32), rv w_PUT, rv w_PUT] [(.ref w_PUT), (.ref w_PUT)])) _
      refine Jvm.RoadKit.acmp (g := (mkF m 83 #[iv p0, iv ((p0 &&& (2147483647 : Int32)) % (5 : Int32)), iv (80 : Int32), rv w_PUT, rv w_PUT] [(.ref w_PUT), (.ref w_PUT)])) X2 hx rfl rfl rfl (pc0 := 83) (pc' := 86) (same := true) rfl (hb hby at_83) rfl (decide_eq_true rfl) (by decide) (by decide) ?_
      show Steps p.tables e below (T2.setTop (mkF m 86 #[iv p0, iv ((p0 &&& (2147483647 : Int32)) % (5 : Int32)), iv (80 : Int32), rv w_PUT, rv w_PUT] [])) _
      refine XS.iconst X2.here hx rfl (hb hby at_86) ?_
      show Steps p.tables e below (T2.setTop (mkF m 87 #[iv p0, iv ((p0 &&& (2147483647 : Int32)) % (5 : Int32)), iv (80 : Int32), rv w_PUT, rv w_PUT] [(.int (1 : Int32))])) _
      refine XS.goto X2.here hx rfl (pc0 := 87) (pc' := 91) rfl (hb hby at_87) (by decide) (by decide) ?_
      exact k
    obtain ⟨fs, hr, hrun, hended, hW, hsame⟩ := X2.leave (v := some (.int (1 : Int32))) (fun h => by rw [Bd.returns] at h; cases h)
    refine Go.fin (S' := T2.setFrames fs) ?_ hrun hended ⟨_, _, rfl, ?_, ⟨_, rfl⟩, hW, hsame.mono (by decide) (by decide)⟩
    · exact retOut X2 hx Bd.returns (by decide) (Or.inl ⟨rfl, Or.inr (Or.inl rfl), _, rfl⟩) (hb hby at_91) hr
    · show Q_rm0 Z p0 w_PUT w_ERASED w_DELETE w_GONE w_UNFINISHED wk ck h0 n0 (some (.int (1 : Int32))) T2.heap _
      rw [e2]
      exact ⟨rfl, N2, rfl⟩
  · skip
    refine Go.step (S' := s₁.setTop (mkF m 23 #[iv p0, iv ((p0 &&& (2147483647 : Int32)) % (5 : Int32)), u_, u_, u_] [(.int (1 : Int32)), (.int ((p0 &&& (2147483647 : Int32)) % (5 : Int32)))])) (fun t k => ?_) ?_
    · show Steps p.tables e below (s₁.setTop (mkF m 8 #[iv p0, iv ((p0 &&& (2147483647 : Int32)) % (5 : Int32)), u_, u_, u_] [(.int ((p0 &&& (2147483647 : Int32)) % (5 : Int32)))])) _
      refine XS.ifYes X0.here hx rfl (pc0 := 8) (pc' := 21) rfl (hb hby at_8) rfl ((if0 _ _).trans (feq (hc8 : ¬ (((p0 &&& (2147483647 : Int32)) % (5 : Int32)) = (0 : Int32)))).2) (by decide) (by decide) ?_
      show Steps p.tables e below (s₁.setTop (mkF m 21 #[iv p0, iv ((p0 &&& (2147483647 : Int32)) % (5 : Int32)), u_, u_, u_] [])) _
      refine XS.iloadN X0.here hx rfl (hb hby at_21) rfl ?_
      show Steps p.tables e below (s₁.setTop (mkF m 22 #[iv p0, iv ((p0 &&& (2147483647 : Int32)) % (5 : Int32)), u_, u_, u_] [(.int ((p0 &&& (2147483647 : Int32)) % (5 : Int32)))])) _
      refine XS.iconst X0.here hx rfl (hb hby at_22) ?_
      exact k
    by_cases hc23 : ((p0 &&& (2147483647 : Int32)) % (5 : Int32)) = (1 : Int32)
    · skip
      refine Go.step (S' := s₁.setTop (mkF m 29 #[iv p0, iv ((p0 &&& (2147483647 : Int32)) % (5 : Int32)), iv (69 : Int32), u_, u_] [])) (fun t k => ?_) ?_
      · show Steps p.tables e below (s₁.setTop (mkF m 23 #[iv p0, iv ((p0 &&& (2147483647 : Int32)) % (5 : Int32)), u_, u_, u_] [(.int (1 : Int32)), (.int ((p0 &&& (2147483647 : Int32)) % (5 : Int32)))])) _
        refine XS.icmpNo X0.here hx rfl (hb hby at_23) rfl (teq (hc23 : ((p0 &&& (2147483647 : Int32)) % (5 : Int32)) = (1 : Int32))).2 ?_
        show Steps p.tables e below (s₁.setTop (mkF m 26 #[iv p0, iv ((p0 &&& (2147483647 : Int32)) % (5 : Int32)), u_, u_, u_] [])) _
        refine XS.bipush X0.here hx rfl (hb hby at_26) ?_
        show Steps p.tables e below (s₁.setTop (mkF m 28 #[iv p0, iv ((p0 &&& (2147483647 : Int32)) % (5 : Int32)), u_, u_, u_] [(.int (69 : Int32))])) _
        refine XS.istoreN X0.here hx rfl (hb hby at_28) rfl (l' := #[iv p0, iv ((p0 &&& (2147483647 : Int32)) % (5 : Int32)), iv (69 : Int32), u_, u_]) rfl ?_
        exact k
      obtain ⟨T3, X3, e3, st3⟩ := getS2 X0 hx hZ hown (host := "") (Or.inl (own_w hw 18 rfl)) Via.refl e0 (S_ERASED.ext O.2) (g := (mkF m 29 #[iv p0, iv ((p0 &&& (2147483647 : Int32)) % (5 : Int32)), iv (69 : Int32), u_, u_] [])) rfl (hb hby at_29)
      refine Go.step st3 ?_
      show Go p e below _ (T3.setTop (mkF m 32 #[iv p0, iv ((p0 &&& (2147483647 : Int32)) % (5 : Int32)), iv (69 : Int32), u_, u_] [(.ref w_ERASED)]))
      refine Go.step (S' := T3.setTop (mkF m 75 #[iv p0, iv ((p0 &&& (2147483647 : Int32)) % (5 : Int32)), iv (69 : Int32), rv w_ERASED, u_] [(.int ((69 : Int32).toInt8.toInt32))])) (fun t k => ?_) ?_
      · show Steps p.tables e below (T3.setTop (mkF m 32 #[iv p0, iv ((p0 &&& (2147483647 : Int32)) % (5 : Int32)), iv (69 : Int32), u_, u_] [(.ref w_ERASED)])) _
        refine XS.astoreN X3.here hx rfl (hb hby at_32) rfl rfl (l' := #[iv p0, iv ((p0 &&& (2147483647 : Int32)) % (5 : Int32)), iv (69 : Int32), rv w_ERASED, u_]) rfl ?_
        show Steps p.tables e below (T3.setTop (mkF m 33 #[iv p0, iv ((p0 &&& (2147483647 : Int32)) % (5 : Int32)), iv (69 : Int32), rv w_ERASED, u_] [])) _
        refine XS.goto X3.here hx rfl (pc0 := 33) (pc' := 73) rfl (hb hby at_33) (by decide) (by decide) ?_
        show Steps p.tables e below (T3.setTop (mkF m 73 #[iv p0, iv ((p0 &&& (2147483647 : Int32)) % (5 : Int32)), iv (69 : Int32), rv w_ERASED, u_] [])) _
        refine XS.iloadN X3.here hx rfl (hb hby at_73) rfl ?_
        show Steps p.tables e below (T3.setTop (mkF m 74 #[iv p0, iv ((p0 &&& (2147483647 : Int32)) % (5 : Int32)), iv (69 : Int32), rv w_ERASED, u_] [(.int (69 : Int32))])) _
        refine XS.i2b X3.here hx rfl (hb hby at_74) rfl ?_
        exact k
      rw [show ((69 : Int32).toInt8.toInt32) = (69 : Int32) from by decide]
      show Go p e below _ (T3.setTop (mkF m 75 #[iv p0, iv ((p0 &&& (2147483647 : Int32)) % (5 : Int32)), iv (69 : Int32), rv w_ERASED, u_] [(.int (69 : Int32))]))
      obtain ⟨_, _, ⟨T4, L4, k4, n4⟩, -, X4, ⟨Lc4, hQ4, l4, y4, z4⟩, st4⟩ := Jvm.LawKit.callS X3 hx (y := (⟨"com/example/tombsweep/tombsweep/io/RecordHeader$Kind", "of", "(B)Lcom/example/tombsweep/tombsweep/io/RecordHeader$Kind;"⟩ : MethodName)) hown (mvT hZ (own_w hw 4 rfl)) (mvT hZ (own_w hw 5 rfl)) (mvT hZ (own_w hw 2 rfl)) (mvT hZ (own_w hw 6 rfl)) (by decide) (backOf (W := 0) (rmO1 l Z a0 hw [] w_PUT w_ERASED w_DELETE w_GONE w_UNFINISHED wk ck h0 n0 O S_KINDS F_code_PUT F_code_ERASED F_code_DELETE F_code_GONE F_code_UNFINISHED (by assumption) hlen el0 el1 el2 el3 el4) hZ (own_w hw 6 rfl) (own_w hw 2 rfl) (by decide) (by decide)) (g := (mkF m 75 #[iv p0, iv ((p0 &&& (2147483647 : Int32)) % (5 : Int32)), iv (69 : Int32), rv w_ERASED, u_] [(.int (69 : Int32))])) rfl (by rw [hml]; rfl) (argsL := [(.int (69 : Int32))]) (rest := []) (lenOf pd__28B_29Lcom_2fexample_2ftombsweep_2ftombsweep_2fio_2fRecordHeader_24Kind_3b rfl) rfl (by show 2 * 0 + _ ≤ _; exact Nat.le_of_eq rfl) (hb hby at_75) (fun _ _ => ⟨rfl, e3, (by decide : 0 + 0 ≤ _), (by decide : 0 + 0 ≤ _)⟩)
      dsimp only [Pt.U, Pt.locs, Pt.cells, Pt.slots] at X4 l4 y4 z4 st4 hQ4
      subst l4 y4 z4
      obtain ⟨rfl, Nq4, e4⟩ := hQ4
      have N4 := Fr.app N0 Nq4
      refine Go.step st4 ?_
      show Go p e below _ (T4.setTop (mkF m 78 #[iv p0, iv ((p0 &&& (2147483647 : Int32)) % (5 : Int32)), iv (69 : Int32), rv w_ERASED, u_] [(.ref w_ERASED)]))
      refine Go.step (S' := T4.setTop (mkF m 91 #[iv p0, iv ((p0 &&& (2147483647 : Int32)) % (5 : Int32)), iv (69 : Int32), rv w_ERASED, rv w_ERASED] [(.int (1 : Int32))])) (fun t k => ?_) ?_
      · show Steps p.tables e below (T4.setTop (mkF m 78 #[iv p0, iv ((p0 &&& (2147483647 : Int32)) % (5 : Int32)), iv (69 : Int32), rv w_ERASED, u_] [(.ref w_ERASED)])) _
        refine XS.astore X4.here hx rfl (hb hby at_78) rfl rfl (l' := #[iv p0, iv ((p0 &&& (2147483647 : Int32)) % (5 : Int32)), iv (69 : Int32), rv w_ERASED, rv w_ERASED]) rfl ?_
        show Steps p.tables e below (T4.setTop (mkF m 80 #[iv p0, iv ((p0 &&& (2147483647 : Int32)) % (5 : Int32)), iv (69 : Int32), rv w_ERASED, rv w_ERASED] [])) _
        refine XS.aload X4.here hx rfl (hb hby at_80) rfl rfl ?_
        show Steps p.tables e below (T4.setTop (mkF m 82 #[iv p0, iv ((p0 &&& (2147483647 : Int32)) % (5 : Int32)), iv (69 : Int32), rv w_ERASED, rv w_ERASED] [(.ref w_ERASED)])) _
        refine XS.aloadN X4.here hx rfl (hb hby at_82) rfl rfl ?_
        show Steps p.tables e below (T4.setTop (mkF m 83 #[iv p0, iv ((p0 &&& (2147483647 : Int32)) % (5 : Int32)), iv (69 : Int32), rv w_ERASED, rv w_ERASED] [(.ref w_ERASED), (.ref w_ERASED)])) _
        refine Jvm.RoadKit.acmp (g := (mkF m 83 #[iv p0, iv ((p0 &&& (2147483647 : Int32)) % (5 : Int32)), iv (69 : Int32), rv w_ERASED, rv w_ERASED] [(.ref w_ERASED), (.ref w_ERASED)])) X4 hx rfl rfl rfl (pc0 := 83) (pc' := 86) (same := true) rfl (hb hby at_83) rfl (decide_eq_true rfl) (by decide) (by decide) ?_
        show Steps p.tables e below (T4.setTop (mkF m 86 #[iv p0, iv ((p0 &&& (2147483647 : Int32)) % (5 : Int32)), iv (69 : Int32), rv w_ERASED, rv w_ERASED] [])) _
        refine XS.iconst X4.here hx rfl (hb hby at_86) ?_
        show Steps p.tables e below (T4.setTop (mkF m 87 #[iv p0, iv ((p0 &&& (2147483647 : Int32)) % (5 : Int32)), iv (69 : Int32), rv w_ERASED, rv w_ERASED] [(.int (1 : Int32))])) _
        refine XS.goto X4.here hx rfl (pc0 := 87) (pc' := 91) rfl (hb hby at_87) (by decide) (by decide) ?_
        exact k
      obtain ⟨fs, hr, hrun, hended, hW, hsame⟩ := X4.leave (v := some (.int (1 : Int32))) (fun h => by rw [Bd.returns] at h; cases h)
      refine Go.fin (S' := T4.setFrames fs) ?_ hrun hended ⟨_, _, rfl, ?_, ⟨_, rfl⟩, hW, hsame.mono (by decide) (by decide)⟩
      · exact retOut X4 hx Bd.returns (by decide) (Or.inl ⟨rfl, Or.inr (Or.inl rfl), _, rfl⟩) (hb hby at_91) hr
      · show Q_rm0 Z p0 w_PUT w_ERASED w_DELETE w_GONE w_UNFINISHED wk ck h0 n0 (some (.int (1 : Int32))) T4.heap _
        rw [e4]
        exact ⟨rfl, N4, rfl⟩
    · skip
      refine Go.step (S' := s₁.setTop (mkF m 38 #[iv p0, iv ((p0 &&& (2147483647 : Int32)) % (5 : Int32)), u_, u_, u_] [(.int (2 : Int32)), (.int ((p0 &&& (2147483647 : Int32)) % (5 : Int32)))])) (fun t k => ?_) ?_
      · show Steps p.tables e below (s₁.setTop (mkF m 23 #[iv p0, iv ((p0 &&& (2147483647 : Int32)) % (5 : Int32)), u_, u_, u_] [(.int (1 : Int32)), (.int ((p0 &&& (2147483647 : Int32)) % (5 : Int32)))])) _
        refine XS.icmpYes X0.here hx rfl (pc0 := 23) (pc' := 36) rfl (hb hby at_23) rfl (feq (hc23 : ¬ (((p0 &&& (2147483647 : Int32)) % (5 : Int32)) = (1 : Int32)))).2 (by decide) (by decide) ?_
        show Steps p.tables e below (s₁.setTop (mkF m 36 #[iv p0, iv ((p0 &&& (2147483647 : Int32)) % (5 : Int32)), u_, u_, u_] [])) _
        refine XS.iloadN X0.here hx rfl (hb hby at_36) rfl ?_
        show Steps p.tables e below (s₁.setTop (mkF m 37 #[iv p0, iv ((p0 &&& (2147483647 : Int32)) % (5 : Int32)), u_, u_, u_] [(.int ((p0 &&& (2147483647 : Int32)) % (5 : Int32)))])) _
        refine XS.iconst X0.here hx rfl (hb hby at_37) ?_
        exact k
      by_cases hc38 : ((p0 &&& (2147483647 : Int32)) % (5 : Int32)) = (2 : Int32)
      · skip
        refine Go.step (S' := s₁.setTop (mkF m 44 #[iv p0, iv ((p0 &&& (2147483647 : Int32)) % (5 : Int32)), iv (68 : Int32), u_, u_] [])) (fun t k => ?_) ?_
        · show Steps p.tables e below (s₁.setTop (mkF m 38 #[iv p0, iv ((p0 &&& (2147483647 : Int32)) % (5 : Int32)), u_, u_, u_] [(.int (2 : Int32)), (.int ((p0 &&& (2147483647 : Int32)) % (5 : Int32)))])) _
          refine XS.icmpNo X0.here hx rfl (hb hby at_38) rfl (teq (hc38 : ((p0 &&& (2147483647 : Int32)) % (5 : Int32)) = (2 : Int32))).2 ?_
          show Steps p.tables e below (s₁.setTop (mkF m 41 #[iv p0, iv ((p0 &&& (2147483647 : Int32)) % (5 : Int32)), u_, u_, u_] [])) _
          refine XS.bipush X0.here hx rfl (hb hby at_41) ?_
          show Steps p.tables e below (s₁.setTop (mkF m 43 #[iv p0, iv ((p0 &&& (2147483647 : Int32)) % (5 : Int32)), u_, u_, u_] [(.int (68 : Int32))])) _
          refine XS.istoreN X0.here hx rfl (hb hby at_43) rfl (l' := #[iv p0, iv ((p0 &&& (2147483647 : Int32)) % (5 : Int32)), iv (68 : Int32), u_, u_]) rfl ?_
          exact k
        obtain ⟨T5, X5, e5, st5⟩ := getS2 X0 hx hZ hown (host := "") (Or.inl (own_w hw 21 rfl)) Via.refl e0 (S_DELETE.ext O.2) (g := (mkF m 44 #[iv p0, iv ((p0 &&& (2147483647 : Int32)) % (5 : Int32)), iv (68 : Int32), u_, u_] [])) rfl (hb hby at_44)
        refine Go.step st5 ?_
        show Go p e below _ (T5.setTop (mkF m 47 #[iv p0, iv ((p0 &&& (2147483647 : Int32)) % (5 : Int32)), iv (68 : Int32), u_, u_] [(.ref w_DELETE)]))
        refine Go.step (S' := T5.setTop (mkF m 75 #[iv p0, iv ((p0 &&& (2147483647 : Int32)) % (5 : Int32)), iv (68 : Int32), rv w_DELETE, u_] [(.int ((68 : Int32).toInt8.toInt32))])) (fun t k => ?_) ?_
        · show Steps p.tables e below (T5.setTop (mkF m 47 #[iv p0, iv ((p0 &&& (2147483647 : Int32)) % (5 : Int32)), iv (68 : Int32), u_, u_] [(.ref w_DELETE)])) _
          refine XS.astoreN X5.here hx rfl (hb hby at_47) rfl rfl (l' := #[iv p0, iv ((p0 &&& (2147483647 : Int32)) % (5 : Int32)), iv (68 : Int32), rv w_DELETE, u_]) rfl ?_
          show Steps p.tables e below (T5.setTop (mkF m 48 #[iv p0, iv ((p0 &&& (2147483647 : Int32)) % (5 : Int32)), iv (68 : Int32), rv w_DELETE, u_] [])) _
          refine XS.goto X5.here hx rfl (pc0 := 48) (pc' := 73) rfl (hb hby at_48) (by decide) (by decide) ?_
          show Steps p.tables e below (T5.setTop (mkF m 73 #[iv p0, iv ((p0 &&& (2147483647 : Int32)) % (5 : Int32)), iv (68 : Int32), rv w_DELETE, u_] [])) _
          refine XS.iloadN X5.here hx rfl (hb hby at_73) rfl ?_
          show Steps p.tables e below (T5.setTop (mkF m 74 #[iv p0, iv ((p0 &&& (2147483647 : Int32)) % (5 : Int32)), iv (68 : Int32), rv w_DELETE, u_] [(.int (68 : Int32))])) _
          refine XS.i2b X5.here hx rfl (hb hby at_74) rfl ?_
          exact k
        rw [show ((68 : Int32).toInt8.toInt32) = (68 : Int32) from by decide]
        show Go p e below _ (T5.setTop (mkF m 75 #[iv p0, iv ((p0 &&& (2147483647 : Int32)) % (5 : Int32)), iv (68 : Int32), rv w_DELETE, u_] [(.int (68 : Int32))]))
        obtain ⟨_, _, ⟨T6, L6, k6, n6⟩, -, X6, ⟨Lc6, hQ6, l6, y6, z6⟩, st6⟩ := Jvm.LawKit.callS X5 hx (y := (⟨"com/example/tombsweep/tombsweep/io/RecordHeader$Kind", "of", "(B)Lcom/example/tombsweep/tombsweep/io/RecordHeader$Kind;"⟩ : MethodName)) hown (mvT hZ (own_w hw 4 rfl)) (mvT hZ (own_w hw 5 rfl)) (mvT hZ (own_w hw 2 rfl)) (mvT hZ (own_w hw 6 rfl)) (by decide) (backOf (W := 0) (rmO2 l Z a0 hw [] w_PUT w_ERASED w_DELETE w_GONE w_UNFINISHED wk ck h0 n0 O S_KINDS F_code_PUT F_code_ERASED F_code_DELETE F_code_GONE F_code_UNFINISHED (by assumption) hlen el0 el1 el2 el3 el4) hZ (own_w hw 6 rfl) (own_w hw 2 rfl) (by decide) (by decide)) (g := (mkF m 75 #[iv p0, iv ((p0 &&& (2147483647 : Int32)) % (5 : Int32)), iv (68 : Int32), rv w_DELETE, u_] [(.int (68 : Int32))])) rfl (by rw [hml]; rfl) (argsL := [(.int (68 : Int32))]) (rest := []) (lenOf pd__28B_29Lcom_2fexample_2ftombsweep_2ftombsweep_2fio_2fRecordHeader_24Kind_3b rfl) rfl (by show 2 * 0 + _ ≤ _; exact Nat.le_of_eq rfl) (hb hby at_75) (fun _ _ => ⟨rfl, e5, (by decide : 0 + 0 ≤ _), (by decide : 0 + 0 ≤ _)⟩)
        dsimp only [Pt.U, Pt.locs, Pt.cells, Pt.slots] at X6 l6 y6 z6 st6 hQ6
        subst l6 y6 z6
        obtain ⟨rfl, Nq6, e6⟩ := hQ6
        have N6 := Fr.app N0 Nq6
        refine Go.step st6 ?_
        show Go p e below _ (T6.setTop (mkF m 78 #[iv p0, iv ((p0 &&& (2147483647 : Int32)) % (5 : Int32)), iv (68 : Int32), rv w_DELETE, u_] [(.ref w_DELETE)]))
        refine Go.step (S' := T6.setTop (mkF m 91 #[iv p0, iv ((p0 &&& (2147483647 : Int32)) % (5 : Int32)), iv (68 : Int32), rv w_DELETE, rv w_DELETE] [(.int (1 : Int32))])) (fun t k => ?_) ?_
        · show Steps p.tables e below (T6.setTop (mkF m 78 #[iv p0, iv ((p0 &&& (2147483647 : Int32)) % (5 : Int32)), iv (68 : Int32), rv w_DELETE, u_] [(.ref w_DELETE)])) _
          refine XS.astore X6.here hx rfl (hb hby at_78) rfl rfl (l' := #[iv p0, iv ((p0 &&& (2147483647 : Int32)) % (5 : Int32)), iv (68 : Int32), rv w_DELETE, rv w_DELETE]) rfl ?_
          show Steps p.tables e below (T6.setTop (mkF m 80 #[iv p0, iv ((p0 &&& (2147483647 : Int32)) % (5 : Int32)), iv (68 : Int32), rv w_DELETE, rv w_DELETE] [])) _
          refine XS.aload X6.here hx rfl (hb hby at_80) rfl rfl ?_
          show Steps p.tables e below (T6.setTop (mkF m 82 #[iv p0, iv ((p0 &&& (2147483647 : Int32)) % (5 : Int32)), iv (68 : Int32), rv w_DELETE, rv w_DELETE] [(.ref w_DELETE)])) _
          refine XS.aloadN X6.here hx rfl (hb hby at_82) rfl rfl ?_
          show Steps p.tables e below (T6.setTop (mkF m 83 #[iv p0, iv ((p0 &&& (2147483647 : Int32)) % (5 : Int32)), iv (68 : Int32), rv w_DELETE, rv w_DELETE] [(.ref w_DELETE), (.ref w_DELETE)])) _
          refine Jvm.RoadKit.acmp (g := (mkF m 83 #[iv p0, iv ((p0 &&& (2147483647 : Int32)) % (5 : Int32)), iv (68 : Int32), rv w_DELETE, rv w_DELETE] [(.ref w_DELETE), (.ref w_DELETE)])) X6 hx rfl rfl rfl (pc0 := 83) (pc' := 86) (same := true) rfl (hb hby at_83) rfl (decide_eq_true rfl) (by decide) (by decide) ?_
          show Steps p.tables e below (T6.setTop (mkF m 86 #[iv p0, iv ((p0 &&& (2147483647 : Int32)) % (5 : Int32)), iv (68 : Int32), rv w_DELETE, rv w_DELETE] [])) _
          refine XS.iconst X6.here hx rfl (hb hby at_86) ?_
          show Steps p.tables e below (T6.setTop (mkF m 87 #[iv p0, iv ((p0 &&& (2147483647 : Int32)) % (5 : Int32)), iv (68 : Int32), rv w_DELETE, rv w_DELETE] [(.int (1 : Int32))])) _
          refine XS.goto X6.here hx rfl (pc0 := 87) (pc' := 91) rfl (hb hby at_87) (by decide) (by decide) ?_
          exact k
        obtain ⟨fs, hr, hrun, hended, hW, hsame⟩ := X6.leave (v := some (.int (1 : Int32))) (fun h => by rw [Bd.returns] at h; cases h)
        refine Go.fin (S' := T6.setFrames fs) ?_ hrun hended ⟨_, _, rfl, ?_, ⟨_, rfl⟩, hW, hsame.mono (by decide) (by decide)⟩
        · exact retOut X6 hx Bd.returns (by decide) (Or.inl ⟨rfl, Or.inr (Or.inl rfl), _, rfl⟩) (hb hby at_91) hr
        · show Q_rm0 Z p0 w_PUT w_ERASED w_DELETE w_GONE w_UNFINISHED wk ck h0 n0 (some (.int (1 : Int32))) T6.heap _
          rw [e6]
          exact ⟨rfl, N6, rfl⟩
      · skip
        refine Go.step (S' := s₁.setTop (mkF m 53 #[iv p0, iv ((p0 &&& (2147483647 : Int32)) % (5 : Int32)), u_, u_, u_] [(.int (3 : Int32)), (.int ((p0 &&& (2147483647 : Int32)) % (5 : Int32)))])) (fun t k => ?_) ?_
        · show Steps p.tables e below (s₁.setTop (mkF m 38 #[iv p0, iv ((p0 &&& (2147483647 : Int32)) % (5 : Int32)), u_, u_, u_] [(.int (2 : Int32)), (.int ((p0 &&& (2147483647 : Int32)) % (5 : Int32)))])) _
          refine XS.icmpYes X0.here hx rfl (pc0 := 38) (pc' := 51) rfl (hb hby at_38) rfl (feq (hc38 : ¬ (((p0 &&& (2147483647 : Int32)) % (5 : Int32)) = (2 : Int32)))).2 (by decide) (by decide) ?_
          show Steps p.tables e below (s₁.setTop (mkF m 51 #[iv p0, iv ((p0 &&& (2147483647 : Int32)) % (5 : Int32)), u_, u_, u_] [])) _
          refine XS.iloadN X0.here hx rfl (hb hby at_51) rfl ?_
          show Steps p.tables e below (s₁.setTop (mkF m 52 #[iv p0, iv ((p0 &&& (2147483647 : Int32)) % (5 : Int32)), u_, u_, u_] [(.int ((p0 &&& (2147483647 : Int32)) % (5 : Int32)))])) _
          refine XS.iconst X0.here hx rfl (hb hby at_52) ?_
          exact k
        by_cases hc53 : ((p0 &&& (2147483647 : Int32)) % (5 : Int32)) = (3 : Int32)
        · skip
          refine Go.step (S' := s₁.setTop (mkF m 59 #[iv p0, iv ((p0 &&& (2147483647 : Int32)) % (5 : Int32)), iv (71 : Int32), u_, u_] [])) (fun t k => ?_) ?_
          · show Steps p.tables e below (s₁.setTop (mkF m 53 #[iv p0, iv ((p0 &&& (2147483647 : Int32)) % (5 : Int32)), u_, u_, u_] [(.int (3 : Int32)), (.int ((p0 &&& (2147483647 : Int32)) % (5 : Int32)))])) _
            refine XS.icmpNo X0.here hx rfl (hb hby at_53) rfl (teq (hc53 : ((p0 &&& (2147483647 : Int32)) % (5 : Int32)) = (3 : Int32))).2 ?_
            show Steps p.tables e below (s₁.setTop (mkF m 56 #[iv p0, iv ((p0 &&& (2147483647 : Int32)) % (5 : Int32)), u_, u_, u_] [])) _
            refine XS.bipush X0.here hx rfl (hb hby at_56) ?_
            show Steps p.tables e below (s₁.setTop (mkF m 58 #[iv p0, iv ((p0 &&& (2147483647 : Int32)) % (5 : Int32)), u_, u_, u_] [(.int (71 : Int32))])) _
            refine XS.istoreN X0.here hx rfl (hb hby at_58) rfl (l' := #[iv p0, iv ((p0 &&& (2147483647 : Int32)) % (5 : Int32)), iv (71 : Int32), u_, u_]) rfl ?_
            exact k
          obtain ⟨T7, X7, e7, st7⟩ := getS2 X0 hx hZ hown (host := "") (Or.inl (own_w hw 14 rfl)) Via.refl e0 (S_GONE.ext O.2) (g := (mkF m 59 #[iv p0, iv ((p0 &&& (2147483647 : Int32)) % (5 : Int32)), iv (71 : Int32), u_, u_] [])) rfl (hb hby at_59)
          refine Go.step st7 ?_
          show Go p e below _ (T7.setTop (mkF m 62 #[iv p0, iv ((p0 &&& (2147483647 : Int32)) % (5 : Int32)), iv (71 : Int32), u_, u_] [(.ref w_GONE)]))
          refine Go.step (S' := T7.setTop (mkF m 75 #[iv p0, iv ((p0 &&& (2147483647 : Int32)) % (5 : Int32)), iv (71 : Int32), rv w_GONE, u_] [(.int ((71 : Int32).toInt8.toInt32))])) (fun t k => ?_) ?_
          · show Steps p.tables e below (T7.setTop (mkF m 62 #[iv p0, iv ((p0 &&& (2147483647 : Int32)) % (5 : Int32)), iv (71 : Int32), u_, u_] [(.ref w_GONE)])) _
            refine XS.astoreN X7.here hx rfl (hb hby at_62) rfl rfl (l' := #[iv p0, iv ((p0 &&& (2147483647 : Int32)) % (5 : Int32)), iv (71 : Int32), rv w_GONE, u_]) rfl ?_
            show Steps p.tables e below (T7.setTop (mkF m 63 #[iv p0, iv ((p0 &&& (2147483647 : Int32)) % (5 : Int32)), iv (71 : Int32), rv w_GONE, u_] [])) _
            refine XS.goto X7.here hx rfl (pc0 := 63) (pc' := 73) rfl (hb hby at_63) (by decide) (by decide) ?_
            show Steps p.tables e below (T7.setTop (mkF m 73 #[iv p0, iv ((p0 &&& (2147483647 : Int32)) % (5 : Int32)), iv (71 : Int32), rv w_GONE, u_] [])) _
            refine XS.iloadN X7.here hx rfl (hb hby at_73) rfl ?_
            show Steps p.tables e below (T7.setTop (mkF m 74 #[iv p0, iv ((p0 &&& (2147483647 : Int32)) % (5 : Int32)), iv (71 : Int32), rv w_GONE, u_] [(.int (71 : Int32))])) _
            refine XS.i2b X7.here hx rfl (hb hby at_74) rfl ?_
            exact k
          rw [show ((71 : Int32).toInt8.toInt32) = (71 : Int32) from by decide]
          show Go p e below _ (T7.setTop (mkF m 75 #[iv p0, iv ((p0 &&& (2147483647 : Int32)) % (5 : Int32)), iv (71 : Int32), rv w_GONE, u_] [(.int (71 : Int32))]))
          obtain ⟨_, _, ⟨T8, L8, k8, n8⟩, -, X8, ⟨Lc8, hQ8, l8, y8, z8⟩, st8⟩ := Jvm.LawKit.callS X7 hx (y := (⟨"com/example/tombsweep/tombsweep/io/RecordHeader$Kind", "of", "(B)Lcom/example/tombsweep/tombsweep/io/RecordHeader$Kind;"⟩ : MethodName)) hown (mvT hZ (own_w hw 4 rfl)) (mvT hZ (own_w hw 5 rfl)) (mvT hZ (own_w hw 2 rfl)) (mvT hZ (own_w hw 6 rfl)) (by decide) (backOf (W := 0) (rmO3 l Z a0 hw [] w_PUT w_ERASED w_DELETE w_GONE w_UNFINISHED wk ck h0 n0 O S_KINDS F_code_PUT F_code_ERASED F_code_DELETE F_code_GONE F_code_UNFINISHED (by assumption) hlen el0 el1 el2 el3 el4) hZ (own_w hw 6 rfl) (own_w hw 2 rfl) (by decide) (by decide)) (g := (mkF m 75 #[iv p0, iv ((p0 &&& (2147483647 : Int32)) % (5 : Int32)), iv (71 : Int32), rv w_GONE, u_] [(.int (71 : Int32))])) rfl (by rw [hml]; rfl) (argsL := [(.int (71 : Int32))]) (rest := []) (lenOf pd__28B_29Lcom_2fexample_2ftombsweep_2ftombsweep_2fio_2fRecordHeader_24Kind_3b rfl) rfl (by show 2 * 0 + _ ≤ _; exact Nat.le_of_eq rfl) (hb hby at_75) (fun _ _ => ⟨rfl, e7, (by decide : 0 + 0 ≤ _), (by decide : 0 + 0 ≤ _)⟩)
          dsimp only [Pt.U, Pt.locs, Pt.cells, Pt.slots] at X8 l8 y8 z8 st8 hQ8
          subst l8 y8 z8
          obtain ⟨rfl, Nq8, e8⟩ := hQ8
          have N8 := Fr.app N0 Nq8
          refine Go.step st8 ?_
          show Go p e below _ (T8.setTop (mkF m 78 #[iv p0, iv ((p0 &&& (2147483647 : Int32)) % (5 : Int32)), iv (71 : Int32), rv w_GONE, u_] [(.ref w_GONE)]))
          refine Go.step (S' := T8.setTop (mkF m 91 #[iv p0, iv ((p0 &&& (2147483647 : Int32)) % (5 : Int32)), iv (71 : Int32), rv w_GONE, rv w_GONE] [(.int (1 : Int32))])) (fun t k => ?_) ?_
          · show Steps p.tables e below (T8.setTop (mkF m 78 #[iv p0, iv ((p0 &&& (2147483647 : Int32)) % (5 : Int32)), iv (71 : Int32), rv w_GONE, u_] [(.ref w_GONE)])) _
            refine XS.astore X8.here hx rfl (hb hby at_78) rfl rfl (l' := #[iv p0, iv ((p0 &&& (2147483647 : Int32)) % (5 : Int32)), iv (71 : Int32), rv w_GONE, rv w_GONE]) rfl ?_
            show Steps p.tables e below (T8.setTop (mkF m 80 #[iv p0, iv ((p0 &&& (2147483647 : Int32)) % (5 : Int32)), iv (71 : Int32), rv w_GONE, rv w_GONE] [])) _
            refine XS.aload X8.here hx rfl (hb hby at_80) rfl rfl ?_
            show Steps p.tables e below (T8.setTop (mkF m 82 #[iv p0, iv ((p0 &&& (2147483647 : Int32)) % (5 : Int32)), iv (71 : Int32), rv w_GONE, rv w_GONE] [(.ref w_GONE)])) _
            refine XS.aloadN X8.here hx rfl (hb hby at_82) rfl rfl ?_
            show Steps p.tables e below (T8.setTop (mkF m 83 #[iv p0, iv ((p0 &&& (2147483647 : Int32)) % (5 : Int32)), iv (71 : Int32), rv w_GONE, rv w_GONE] [(.ref w_GONE), (.ref w_GONE)])) _
            refine Jvm.RoadKit.acmp (g := (mkF m 83 #[iv p0, iv ((p0 &&& (2147483647 : Int32)) % (5 : Int32)), iv (71 : Int32), rv w_GONE, rv w_GONE] [(.ref w_GONE), (.ref w_GONE)])) X8 hx rfl rfl rfl (pc0 := 83) (pc' := 86) (same := true) rfl (hb hby at_83) rfl (decide_eq_true rfl) (by decide) (by decide) ?_
            show Steps p.tables e below (T8.setTop (mkF m 86 #[iv p0, iv ((p0 &&& (2147483647 : Int32)) % (5 : Int32)), iv (71 : Int32), rv w_GONE, rv w_GONE] [])) _
            refine XS.iconst X8.here hx rfl (hb hby at_86) ?_
            show Steps p.tables e below (T8.setTop (mkF m 87 #[iv p0, iv ((p0 &&& (2147483647 : Int32)) % (5 : Int32)), iv (71 : Int32), rv w_GONE, rv w_GONE] [(.int (1 : Int32))])) _
            refine XS.goto X8.here hx rfl (pc0 := 87) (pc' := 91) rfl (hb hby at_87) (by decide) (by decide) ?_
            exact k
          obtain ⟨fs, hr, hrun, hended, hW, hsame⟩ := X8.leave (v := some (.int (1 : Int32))) (fun h => by rw [Bd.returns] at h; cases h)
          refine Go.fin (S' := T8.setFrames fs) ?_ hrun hended ⟨_, _, rfl, ?_, ⟨_, rfl⟩, hW, hsame.mono (by decide) (by decide)⟩
          · exact retOut X8 hx Bd.returns (by decide) (Or.inl ⟨rfl, Or.inr (Or.inl rfl), _, rfl⟩) (hb hby at_91) hr
          · show Q_rm0 Z p0 w_PUT w_ERASED w_DELETE w_GONE w_UNFINISHED wk ck h0 n0 (some (.int (1 : Int32))) T8.heap _
            rw [e8]
            exact ⟨rfl, N8, rfl⟩
        · skip
          refine Go.step (S' := s₁.setTop (mkF m 69 #[iv p0, iv ((p0 &&& (2147483647 : Int32)) % (5 : Int32)), iv (85 : Int32), u_, u_] [])) (fun t k => ?_) ?_
          · show Steps p.tables e below (s₁.setTop (mkF m 53 #[iv p0, iv ((p0 &&& (2147483647 : Int32)) % (5 : Int32)), u_, u_, u_] [(.int (3 : Int32)), (.int ((p0 &&& (2147483647 : Int32)) % (5 : Int32)))])) _
            refine XS.icmpYes X0.here hx rfl (pc0 := 53) (pc' := 66) rfl (hb hby at_53) rfl (feq (hc53 : ¬ (((p0 &&& (2147483647 : Int32)) % (5 : Int32)) = (3 : Int32)))).2 (by decide) (by decide) ?_
            show Steps p.tables e below (s₁.setTop (mkF m 66 #[iv p0, iv ((p0 &&& (2147483647 : Int32)) % (5 : Int32)), u_, u_, u_] [])) _
            refine XS.bipush X0.here hx rfl (hb hby at_66) ?_
            show Steps p.tables e below (s₁.setTop (mkF m 68 #[iv p0, iv ((p0 &&& (2147483647 : Int32)) % (5 : Int32)), u_, u_, u_] [(.int (85 : Int32))])) _
            refine XS.istoreN X0.here hx rfl (hb hby at_68) rfl (l' := #[iv p0, iv ((p0 &&& (2147483647 : Int32)) % (5 : Int32)), iv (85 : Int32), u_, u_]) rfl ?_
            exact k
          obtain ⟨T9, X9, e9, st9⟩ := getS2 X0 hx hZ hown (host := "") (Or.inl (own_w hw 19 rfl)) Via.refl e0 (S_UNFINISHED.ext O.2) (g := (mkF m 69 #[iv p0, iv ((p0 &&& (2147483647 : Int32)) % (5 : Int32)), iv (85 : Int32), u_, u_] [])) rfl (hb hby at_69)
          refine Go.step st9 ?_
          show Go p e below _ (T9.setTop (mkF m 72 #[iv p0, iv ((p0 &&& (2147483647 : Int32)) % (5 : Int32)), iv (85 : Int32), u_, u_] [(.ref w_UNFINISHED)]))
          refine Go.step (S' := T9.setTop (mkF m 75 #[iv p0, iv ((p0 &&& (2147483647 : Int32)) % (5 : Int32)), iv (85 : Int32), rv w_UNFINISHED, u_] [(.int ((85 : Int32).toInt8.toInt32))])) (fun t k => ?_) ?_
          · show Steps p.tables e below (T9.setTop (mkF m 72 #[iv p0, iv ((p0 &&& (2147483647 : Int32)) % (5 : Int32)), iv (85 : Int32), u_, u_] [(.ref w_UNFINISHED)])) _
            refine XS.astoreN X9.here hx rfl (hb hby at_72) rfl rfl (l' := #[iv p0, iv ((p0 &&& (2147483647 : Int32)) % (5 : Int32)), iv (85 : Int32), rv w_UNFINISHED, u_]) rfl ?_
            show Steps p.tables e below (T9.setTop (mkF m 73 #[iv p0, iv ((p0 &&& (2147483647 : Int32)) % (5 : Int32)), iv (85 : Int32), rv w_UNFINISHED, u_] [])) _
            refine XS.iloadN X9.here hx rfl (hb hby at_73) rfl ?_
            show Steps p.tables e below (T9.setTop (mkF m 74 #[iv p0, iv ((p0 &&& (2147483647 : Int32)) % (5 : Int32)), iv (85 : Int32), rv w_UNFINISHED, u_] [(.int (85 : Int32))])) _
            refine XS.i2b X9.here hx rfl (hb hby at_74) rfl ?_
            exact k
          rw [show ((85 : Int32).toInt8.toInt32) = (85 : Int32) from by decide]
          show Go p e below _ (T9.setTop (mkF m 75 #[iv p0, iv ((p0 &&& (2147483647 : Int32)) % (5 : Int32)), iv (85 : Int32), rv w_UNFINISHED, u_] [(.int (85 : Int32))]))
          obtain ⟨_, _, ⟨T10, L10, k10, n10⟩, -, X10, ⟨Lc10, hQ10, l10, y10, z10⟩, st10⟩ := Jvm.LawKit.callS X9 hx (y := (⟨"com/example/tombsweep/tombsweep/io/RecordHeader$Kind", "of", "(B)Lcom/example/tombsweep/tombsweep/io/RecordHeader$Kind;"⟩ : MethodName)) hown (mvT hZ (own_w hw 4 rfl)) (mvT hZ (own_w hw 5 rfl)) (mvT hZ (own_w hw 2 rfl)) (mvT hZ (own_w hw 6 rfl)) (by decide) (backOf (W := 0) (rmO4 l Z a0 hw [] w_PUT w_ERASED w_DELETE w_GONE w_UNFINISHED wk ck h0 n0 O S_KINDS F_code_PUT F_code_ERASED F_code_DELETE F_code_GONE F_code_UNFINISHED (by assumption) hlen el0 el1 el2 el3 el4) hZ (own_w hw 6 rfl) (own_w hw 2 rfl) (by decide) (by decide)) (g := (mkF m 75 #[iv p0, iv ((p0 &&& (2147483647 : Int32)) % (5 : Int32)), iv (85 : Int32), rv w_UNFINISHED, u_] [(.int (85 : Int32))])) rfl (by rw [hml]; rfl) (argsL := [(.int (85 : Int32))]) (rest := []) (lenOf pd__28B_29Lcom_2fexample_2ftombsweep_2ftombsweep_2fio_2fRecordHeader_24Kind_3b rfl) rfl (by show 2 * 0 + _ ≤ _; exact Nat.le_of_eq rfl) (hb hby at_75) (fun _ _ => ⟨rfl, e9, (by decide : 0 + 0 ≤ _), (by decide : 0 + 0 ≤ _)⟩)
          dsimp only [Pt.U, Pt.locs, Pt.cells, Pt.slots] at X10 l10 y10 z10 st10 hQ10
          subst l10 y10 z10
          obtain ⟨rfl, Nq10, e10⟩ := hQ10
          have N10 := Fr.app N0 Nq10
          refine Go.step st10 ?_
          show Go p e below _ (T10.setTop (mkF m 78 #[iv p0, iv ((p0 &&& (2147483647 : Int32)) % (5 : Int32)), iv (85 : Int32), rv w_UNFINISHED, u_] [(.ref w_UNFINISHED)]))
          refine Go.step (S' := T10.setTop (mkF m 91 #[iv p0, iv ((p0 &&& (2147483647 : Int32)) % (5 : Int32)), iv (85 : Int32), rv w_UNFINISHED, rv w_UNFINISHED] [(.int (1 : Int32))])) (fun t k => ?_) ?_
          · show Steps p.tables e below (T10.setTop (mkF m 78 #[iv p0, iv ((p0 &&& (2147483647 : Int32)) % (5 : Int32)), iv (85 : Int32), rv w_UNFINISHED, u_] [(.ref w_UNFINISHED)])) _
            refine XS.astore X10.here hx rfl (hb hby at_78) rfl rfl (l' := #[iv p0, iv ((p0 &&& (2147483647 : Int32)) % (5 : Int32)), iv (85 : Int32), rv w_UNFINISHED, rv w_UNFINISHED]) rfl ?_
            show Steps p.tables e below (T10.setTop (mkF m 80 #[iv p0, iv ((p0 &&& (2147483647 : Int32)) % (5 : Int32)), iv (85 : Int32), rv w_UNFINISHED, rv w_UNFINISHED] [])) _
            refine XS.aload X10.here hx rfl (hb hby at_80) rfl rfl ?_
            show Steps p.tables e below (T10.setTop (mkF m 82 #[iv p0, iv ((p0 &&& (2147483647 : Int32)) % (5 : Int32)), iv (85 : Int32), rv w_UNFINISHED, rv w_UNFINISHED] [(.ref w_UNFINISHED)])) _
            refine XS.aloadN X10.here hx rfl (hb hby at_82) rfl rfl ?_
            show Steps p.tables e below (T10.setTop (mkF m 83 #[iv p0, iv ((p0 &&& (2147483647 : Int32)) % (5 : Int32)), iv (85 : Int32), rv w_UNFINISHED, rv w_UNFINISHED] [(.ref w_UNFINISHED), (.ref w_UNFINISHED)])) _
            refine Jvm.RoadKit.acmp (g := (mkF m 83 #[iv p0, iv ((p0 &&& (2147483647 : Int32)) % (5 : Int32)), iv (85 : Int32), rv w_UNFINISHED, rv w_UNFINISHED] [(.ref w_UNFINISHED), (.ref w_UNFINISHED)])) X10 hx rfl rfl rfl (pc0 := 83) (pc' := 86) (same := true) rfl (hb hby at_83) rfl (decide_eq_true rfl) (by decide) (by decide) ?_
            show Steps p.tables e below (T10.setTop (mkF m 86 #[iv p0, iv ((p0 &&& (2147483647 : Int32)) % (5 : Int32)), iv (85 : Int32), rv w_UNFINISHED, rv w_UNFINISHED] [])) _
            refine XS.iconst X10.here hx rfl (hb hby at_86) ?_
            show Steps p.tables e below (T10.setTop (mkF m 87 #[iv p0, iv ((p0 &&& (2147483647 : Int32)) % (5 : Int32)), iv (85 : Int32), rv w_UNFINISHED, rv w_UNFINISHED] [(.int (1 : Int32))])) _
            refine XS.goto X10.here hx rfl (pc0 := 87) (pc' := 91) rfl (hb hby at_87) (by decide) (by decide) ?_
            exact k
          obtain ⟨fs, hr, hrun, hended, hW, hsame⟩ := X10.leave (v := some (.int (1 : Int32))) (fun h => by rw [Bd.returns] at h; cases h)
          refine Go.fin (S' := T10.setFrames fs) ?_ hrun hended ⟨_, _, rfl, ?_, ⟨_, rfl⟩, hW, hsame.mono (by decide) (by decide)⟩
          · exact retOut X10 hx Bd.returns (by decide) (Or.inl ⟨rfl, Or.inr (Or.inl rfl), _, rfl⟩) (hb hby at_91) hr
          · show Q_rm0 Z p0 w_PUT w_ERASED w_DELETE w_GONE w_UNFINISHED wk ck h0 n0 (some (.int (1 : Int32))) T10.heap _
            rw [e10]
            exact ⟨rfl, N10, rfl⟩
set_option maxRecDepth 65536 in
set_option maxHeartbeats 40000000 in
theorem comes_1 {Post : Tables → Env → Array Value → State → Outcome → State → Prop} (hpost : ∀ tb e args s v u, (limb_1_1.after args s (.returned v) u = true ∧ limb_1_2.after args s (.returned v) u = true ∧ True) → FrameEnd s (.returned v) u (Jvm.fieldLocs frame_1_writes args s ++ Jvm.arrayLocs frame_1_arrays args s ++ Jvm.staticLocs frame_1_statics s) 0 0 → Post tb e args s (.returned v) u) :
    ArmFor flags0 classFile x code maxLocals ret World_1 tables_1 room_1 Calls_1 rest_1 Pre_1 Post := by
  intro l hfl _ _ p e ha hc hk s m args below hf hA hF happ hP
  obtain ⟨hcalls, hrest, hpre⟩ := hP
  obtain ⟨-, -, -, hnamed, -, -, -, hat⟩ := (Spec.applies_iff hf).mp happ
  obtain ⟨hg, hn⟩ := and_e (Cond.before_iff.mp (show (Jvm.Cond.and given_1 narrow_1).before args s = true from hpre))
  obtain ⟨hgl, hgr⟩ := and_e hg
  obtain ⟨w0, rfl⟩ : ∃ w0 : Value, args = #[w0] := by
    have hs : args.size = 1 := by simpa [Cond.value, given_1] using hgl
    obtain ⟨L⟩ := args
    match L, hs with
    | [w0], _ => exact ⟨w0, rfl⟩
  have hw := fun d (hd : d ∈ tables_1) => atoms_spec (ws := Jvm.Cond.code x code maxLocals ret :: tables_1) hat d (List.mem_cons_of_mem _ hd)
  have hfit : Fit s := fun {y c} hc i hi => by
    obtain ⟨ha, rfl⟩ := Array.getElem?_eq_some_iff.mp hc
    have q := List.all_eq_true.mp ((Array.all_eq_true_iff_forall_mem.mp hF) _ (Array.getElem_mem ha)) i (List.mem_range.mpr hi)
    simpa [Array.getElem?_eq_getElem hi] using q
  obtain ⟨i0, ei0⟩ := is_v hgr
  obtain rfl : w0 = (.int i0) := Option.some.inj ei0
  obtain ⟨hna, hnb⟩ := and_e hn
  obtain ⟨w_PUT, ev_PUT⟩ := exa_v hna
  have E_PUT := Exa.start ev_PUT hna
  have S_PUT := Sta.start ev_PUT (Or.inr ⟨(own_w hw 2 rfl), (own_w hw 3 rfl)⟩)
  obtain ⟨hnba, hnbb⟩ := and_e hnb
  obtain ⟨hnbba, hnbbb⟩ := and_e hnbb
  obtain ⟨hnbbba, hnbbbb⟩ := and_e hnbbb
  obtain ⟨hnbbbba, hnbbbbb⟩ := and_e hnbbbb
  obtain ⟨hnbbbbba, hnbbbbbb⟩ := and_e hnbbbbb
  obtain ⟨w_GONE, ev_GONE⟩ := exa_v hnbbbbba
  have E_GONE := Exa.start ev_GONE hnbbbbba
  have S_GONE := Sta.start ev_GONE (Or.inr ⟨(own_w hw 2 rfl), (own_w hw 15 rfl)⟩)
  obtain ⟨hnbbbbbba, hnbbbbbbb⟩ := and_e hnbbbbbb
  obtain ⟨w_ERASED, ev_ERASED⟩ := exa_v hnbbbbbba
  have E_ERASED := Exa.start ev_ERASED hnbbbbbba
  have S_ERASED := Sta.start ev_ERASED (Or.inr ⟨(own_w hw 2 rfl), (own_w hw 16 rfl)⟩)
  obtain ⟨hnbbbbbbba, hnbbbbbbbb⟩ := and_e hnbbbbbbb
  obtain ⟨hnbbbbbbbba, hnbbbbbbbbb⟩ := and_e hnbbbbbbbb
  obtain ⟨hnbbbbbbbbba, hnbbbbbbbbbb⟩ := and_e hnbbbbbbbbb
  obtain ⟨w_DELETE, ev_DELETE⟩ := exa_v hnbbbbbbbbba
  have E_DELETE := Exa.start ev_DELETE hnbbbbbbbbba
  have S_DELETE := Sta.start ev_DELETE (Or.inr ⟨(own_w hw 2 rfl), (own_w hw 17 rfl)⟩)
  obtain ⟨hnbbbbbbbbbba, hnbbbbbbbbbbb⟩ := and_e hnbbbbbbbbbb
  obtain ⟨hnbbbbbbbbbbba, hnbbbbbbbbbbbb⟩ := and_e hnbbbbbbbbbbb
  obtain ⟨hnbbbbbbbbbbbba, hnbbbbbbbbbbbbb⟩ := and_e hnbbbbbbbbbbbb
  obtain ⟨hnbbbbbbbbbbbbba, hnbbbbbbbbbbbbbb⟩ := and_e hnbbbbbbbbbbbbb
  obtain ⟨hnbbbbbbbbbbbbbba, hnbbbbbbbbbbbbbbb⟩ := and_e hnbbbbbbbbbbbbbb
  obtain ⟨w_UNFINISHED, ev_UNFINISHED⟩ := exa_v hnbbbbbbbbbbbbbba
  have E_UNFINISHED := Exa.start ev_UNFINISHED hnbbbbbbbbbbbbbba
  have S_UNFINISHED := Sta.start ev_UNFINISHED (Or.inr ⟨(own_w hw 2 rfl), (own_w hw 20 rfl)⟩)
  obtain ⟨hnbbbbbbbbbbbbbbba, hnbbbbbbbbbbbbbbbb⟩ := and_e hnbbbbbbbbbbbbbbb
  have F_code_PUT := Fld.start ((fld_at ev_PUT).symm.trans (own_eqI hnbbbba))
  have F_code_ERASED := Fld.start ((fld_at ev_ERASED).symm.trans (own_eqI hnbbbbbbbba))
  have F_code_DELETE := Fld.start ((fld_at ev_DELETE).symm.trans (own_eqI hnbbbbbbbbbbba))
  have F_code_GONE := Fld.start ((fld_at ev_GONE).symm.trans (own_eqI hnbbbbbbbbbbbbba))
  have F_code_UNFINISHED := Fld.start ((fld_at ev_UNFINISHED).symm.trans (own_eqI hnbbbbbbbbbbbbbbbb))
  obtain ⟨wk, evk⟩ := arr_v hnba
  have S_KINDS := Sta.start evk (Or.inr ⟨(own_w hw 2 rfl), (own_w hw 11 rfl)⟩)
  obtain ⟨ck, AK⟩ := Arr.start evk hnba
  have hatk : s.arrayAt? wk = some ck := AK.fin (Vm.Alike.refl _)
  have hlen := own_len evk hatk hnbba
  have el0 := elem_in (own_eqR ev_PUT hnbbba) evk (rfl : (Term.int 0).eval _ s none [] s = some (.int 0)) AK.1
  have el1 := elem_in (own_eqR ev_ERASED hnbbbbbbba) evk (rfl : (Term.int 1).eval _ s none [] s = some (.int 1)) AK.1
  have el2 := elem_in (own_eqR ev_DELETE hnbbbbbbbbbba) evk (rfl : (Term.int 2).eval _ s none [] s = some (.int 2)) AK.1
  have el3 := elem_in (own_eqR ev_GONE hnbbbbbbbbbbbba) evk (rfl : (Term.int 3).eval _ s none [] s = some (.int 3)) AK.1
  have el4 := elem_in (own_eqR ev_UNFINISHED hnbbbbbbbbbbbbbbba) evk (rfl : (Term.int 4).eval _ s none [] s = some (.int 4)) AK.1
  obtain ⟨n, o, h1, h2, h3, _, L, rfl, ⟨rfl, N, -⟩, hq⟩ := rm0 l s _ hw tables_1 i0 w_PUT w_ERASED w_DELETE w_GONE w_UNFINISHED wk ck s.heap s.heap.size (Old.start s) S_PUT S_ERASED S_DELETE S_GONE S_UNFINISHED S_KINDS F_code_PUT F_code_ERASED F_code_DELETE F_code_GONE F_code_UNFINISHED AK hlen el0 el1 el2 el3 el4 p e ha hc hk s m _ below hf ((Spec.applies_iff_loose hf).mp happ).1 ⟨rfl, State.Warmed39.refl s, rfl⟩ trivial
  refine ⟨n, _, h1, h2, h3, hpost _ _ _ _ _ _ ⟨Cond.after_iff.mpr rfl, Cond.after_iff.mpr (eq_i res_at (Term.int_eval (1)) rfl), trivial⟩ ⟨hq.1, hq.2.1, (hq.2.2.sift fun y hy => Or.inr (N y hy)).mono (by decide) (by decide)⟩⟩
theorem main_1_1 : Claimed_1_1 := comes_1 fun _ _ _ _ _ _ h hF => ⟨h.1, hF⟩
theorem main_1_2 : Claimed_1_2 := comes_1 fun _ _ _ _ _ _ h hF => ⟨h.2.1, hF⟩
end Jvm.Pilot.@@N@@
namespace Jvm.Pilot.@@N@@
open Jvm Jvm.ClassFile Sem Op Lib Jvm.Free Jvm.Stand Jvm.Pilot.@@N@@.Jvm.D
/-! MADE BY PROGRAM (witnessworld.py) out of the Statement's table words and the real class files: 13 classes; the members and pool entries that the words name. The judged class is class 1, her method 1. -/
namespace start1
open Jvm.ClassFile
def u (s : String) : CpInfo := .utf8 (stringToUtf16 s)
/-- a pool by its gaps: so many unusable entries, then the entry; so many at the end -/
def gap : Nat → List CpInfo → List CpInfo
  | 0, r => r
  | n + 1, r => .unusable :: gap n r
def poolList (es : List (Nat × CpInfo)) (last : Nat) : List CpInfo := es.foldr (fun e r => gap e.1 (e.2 :: r)) (gap last [])
def pool (es : List (Nat × CpInfo)) (last : Nat) : Array CpInfo := ⟨poolList es last⟩
def fileOf (pool : Array CpInfo) (this : Nat) (attrs : Array Attribute := #[]) (ms : Array MethodInfo := #[]) (fl : Nat := 33) (sup : Nat := 0) (ifs : Array Nat := #[]) (fds : Array FieldInfo := #[]) : ClassFile where
  minorVersion := 0
  majorVersion := 65
  constantPool := pool
  accessFlags := fl
  thisClass := this
  superClass := sup
  interfaces := ifs
  fields := fds
  methods := ms
  attributes := attrs
def plain (name : String) (sup : Option ClassId) : Class where
  name := name
  kind := .ordinary
  loader := none
  accessFlags := 33
  super := sup
  interfaces := #[]
  cf := none
  fields := #[]
  methods := #[]
  instanceTypes := #[]
  staticTypes := #[]
  resolved := #[]
  callSites := []
  init := .initialized
  statics := none
  mirror := none

def pool0 : Array CpInfo := pool [(5, u "<init>"), (0, u "()V"), (1, .class_ 10), (1, u "java/lang/Object")] 113

def k0m0 : Method := { name := "<init>", desc := "()V", sig := { parameters := [], returnType := none }, accessFlags := 1, code := none }
/-- java/lang/Object -/
def k0 : Class := { plain "java/lang/Object" none with
  accessFlags := 33
  interfaces := #[]
  cf := some (fileOf pool0 8 #[] #[{ accessFlags := 1, nameIndex := 5, descriptorIndex := 6, attributes := #[] }] 33 0 #[] #[])
  fields := #[]
  methods := #[k0m0]
  instanceTypes := #[]
  staticTypes := #[]
  resolved := Array.replicate 124 none
  statics := none }

def pool1 : Array CpInfo := pool [(2, .class_ 4), (1, u "java/lang/Object"), (0, u "<init>"), (0, u "()V"), (0, .integer 2147483647), (0, .fieldref 9 10), (0, .class_ 11), (0, .nameAndType 12 13), (0, u "com/example/tombsweep/tombsweep/io/RecordHeader$Kind"), (0, u "PUT"), (0, u "Lcom/example/tombsweep/tombsweep/io/RecordHeader$Kind;"), (0, .fieldref 9 15), (0, .nameAndType 16 13), (0, u "ERASED"), (0, .fieldref 9 18), (0, .nameAndType 19 13), (0, u "DELETE"), (0, .fieldref 9 21), (0, .nameAndType 22 13), (0, u "GONE"), (0, .fieldref 9 24), (0, .nameAndType 25 13), (0, u "UNFINISHED"), (0, .methodref 9 27), (0, .nameAndType 28 29), (0, u "of"), (0, u "(B)Lcom/example/tombsweep/tombsweep/io/RecordHeader$Kind;"), (0, .class_ 31), (0, u "com/example/tombsweep/tombsweep/io/KindOfPinLaw"), (2, u "law"), (0, u "(I)Z")] 10

def k1m0 : Method := { name := "<init>", desc := "()V", sig := { parameters := [], returnType := none }, accessFlags := 1, code := none }
def k1c1 : Code := { maxStack := 2, maxLocals := 5, code := code, exceptionTable := #[], attributes := #[] }
def k1m1 : Method := { name := "law", desc := "(I)Z", sig := { parameters := [.int], returnType := some .boolean }, accessFlags := 9, code := some k1c1 }
/-- com/example/tombsweep/tombsweep/io/KindOfPinLaw -/
def k1 : Class := { plain "com/example/tombsweep/tombsweep/io/KindOfPinLaw" (some 0) with
  accessFlags := 49
  interfaces := #[]
  cf := some (fileOf pool1 30 #[] #[{ accessFlags := 1, nameIndex := 5, descriptorIndex := 6, attributes := #[] }, { accessFlags := 9, nameIndex := 34, descriptorIndex := 35, attributes := #[] }] 49 2 #[] #[])
  fields := #[]
  methods := #[k1m0, k1m1]
  instanceTypes := #[]
  staticTypes := #[]
  resolved := Array.replicate 46 none
  statics := none }

def pool2 : Array CpInfo := pool [(1, .class_ 2), (0, u "java/lang/constant/Constable"), (0, .class_ 4), (0, u "java/lang/Object")] 6

/-- java/lang/constant/Constable -/
def k2 : Class := { plain "java/lang/constant/Constable" (some 0) with
  accessFlags := 1537
  interfaces := #[]
  cf := some (fileOf pool2 1 #[] #[] 1537 3 #[] #[])
  fields := #[]
  methods := #[]
  instanceTypes := #[]
  staticTypes := #[]
  resolved := Array.replicate 11 none
  statics := none }

def pool3 : Array CpInfo := pool [(1, .class_ 2), (0, u "java/lang/Comparable"), (0, .class_ 4), (0, u "java/lang/Object")] 7

/-- java/lang/Comparable -/
def k3 : Class := { plain "java/lang/Comparable" (some 0) with
  accessFlags := 1537
  interfaces := #[]
  cf := some (fileOf pool3 1 #[] #[] 1537 3 #[] #[])
  fields := #[]
  methods := #[]
  instanceTypes := #[]
  staticTypes := #[]
  resolved := Array.replicate 12 none
  statics := none }

def pool4 : Array CpInfo := pool [(1, .class_ 2), (0, u "java/io/Serializable"), (0, .class_ 4), (0, u "java/lang/Object")] 2

/-- java/io/Serializable -/
def k4 : Class := { plain "java/io/Serializable" (some 0) with
  accessFlags := 1537
  interfaces := #[]
  cf := some (fileOf pool4 1 #[] #[] 1537 3 #[] #[])
  fields := #[]
  methods := #[]
  instanceTypes := #[]
  staticTypes := #[]
  resolved := Array.replicate 7 none
  statics := none }

def pool5 : Array CpInfo := pool [(2, .class_ 4), (1, u "java/lang/Enum"), (0, u "name"), (0, u "Ljava/lang/String;"), (2, u "ordinal"), (0, u "I"), (1, .class_ 14), (1, u "java/lang/Object"), (4, u "hash"), (86, .class_ 108), (1, u "java/lang/Enum$EnumDesc"), (2, .class_ 112), (0, u "java/lang/constant/Constable"), (0, .class_ 114), (0, u "java/lang/Comparable"), (0, .class_ 116), (0, u "java/io/Serializable")] 87

/-- java/lang/Enum -/
def k5 : Class := { plain "java/lang/Enum" (some 0) with
  accessFlags := 1057
  interfaces := #[2, 3, 4]
  cf := some (fileOf pool5 2 #[.nestMembers #[106]] #[] 1057 12 #[111, 113, 115] #[{ accessFlags := 18, nameIndex := 5, descriptorIndex := 6, attributes := #[] }, { accessFlags := 18, nameIndex := 9, descriptorIndex := 10, attributes := #[] }, { accessFlags := 2, nameIndex := 19, descriptorIndex := 10, attributes := #[] }])
  fields := #[{ name := "name", type := (.object "java/lang/String"), accessFlags := 18, slot := 0, constantValue := 0 }, { name := "ordinal", type := .int, accessFlags := 18, slot := 1, constantValue := 0 }, { name := "hash", type := .int, accessFlags := 2, slot := 2, constantValue := 0 }]
  methods := #[]
  instanceTypes := #[(.object "java/lang/String"), .int, .int]
  staticTypes := #[]
  resolved := Array.replicate 204 none
  statics := none }

def pool6 : Array CpInfo := pool [(1, .class_ 2), (0, u "com/example/tombsweep/tombsweep/io/RecordHeader$Kind"), (2, u "PUT"), (0, u "Lcom/example/tombsweep/tombsweep/io/RecordHeader$Kind;"), (2, u "ERASED"), (2, u "DELETE"), (2, u "GONE"), (2, u "UNFINISHED"), (2, u "$VALUES"), (0, u "[Lcom/example/tombsweep/tombsweep/io/RecordHeader$Kind;"), (6, .class_ 31), (1, u "java/lang/Enum"), (6, .fieldref 1 39), (0, .nameAndType 40 41), (0, u "code"), (0, u "B"), (0, .methodref 1 43), (0, .nameAndType 44 45), (0, u "known"), (0, u "(B)Lcom/example/tombsweep/tombsweep/io/RecordHeader$Kind;"), (20, .fieldref 1 67), (0, .nameAndType 68 22), (0, u "KINDS"), (21, u "of"), (8, .class_ 100), (0, u "com/example/tombsweep/tombsweep/io/RecordHeader")] 2

def k6c0 : Code := { maxStack := 7, maxLocals := 2, code := prog_7_method_4_code, exceptionTable := #[], attributes := #[] }
def k6m0 : Method := { name := "of", desc := "(B)Lcom/example/tombsweep/tombsweep/io/RecordHeader$Kind;", sig := { parameters := [.byte], returnType := some (.object "com/example/tombsweep/tombsweep/io/RecordHeader$Kind") }, accessFlags := 8, code := some k6c0 }
def k6c1 : Code := { maxStack := 2, maxLocals := 5, code := prog_7_method_5_code, exceptionTable := #[], attributes := #[] }
def k6m1 : Method := { name := "known", desc := "(B)Lcom/example/tombsweep/tombsweep/io/RecordHeader$Kind;", sig := { parameters := [.byte], returnType := some (.object "com/example/tombsweep/tombsweep/io/RecordHeader$Kind") }, accessFlags := 10, code := some k6c1 }
/-- com/example/tombsweep/tombsweep/io/RecordHeader$Kind -/
def k6 : Class := { plain "com/example/tombsweep/tombsweep/io/RecordHeader$Kind" (some 5) with
  accessFlags := 16433
  interfaces := #[]
  cf := some (fileOf pool6 1 #[.nestHost 99] #[{ accessFlags := 8, nameIndex := 90, descriptorIndex := 45, attributes := #[] }, { accessFlags := 10, nameIndex := 44, descriptorIndex := 45, attributes := #[] }] 16433 29 #[] #[{ accessFlags := 16409, nameIndex := 5, descriptorIndex := 6, attributes := #[] }, { accessFlags := 16409, nameIndex := 9, descriptorIndex := 6, attributes := #[] }, { accessFlags := 16409, nameIndex := 12, descriptorIndex := 6, attributes := #[] }, { accessFlags := 16409, nameIndex := 15, descriptorIndex := 6, attributes := #[] }, { accessFlags := 16409, nameIndex := 18, descriptorIndex := 6, attributes := #[] }, { accessFlags := 26, nameIndex := 68, descriptorIndex := 22, attributes := #[] }, { accessFlags := 18, nameIndex := 40, descriptorIndex := 41, attributes := #[] }, { accessFlags := 4122, nameIndex := 21, descriptorIndex := 22, attributes := #[] }])
  fields := #[{ name := "PUT", type := (.object "com/example/tombsweep/tombsweep/io/RecordHeader$Kind"), accessFlags := 16409, slot := 0, constantValue := 0 }, { name := "ERASED", type := (.object "com/example/tombsweep/tombsweep/io/RecordHeader$Kind"), accessFlags := 16409, slot := 1, constantValue := 0 }, { name := "DELETE", type := (.object "com/example/tombsweep/tombsweep/io/RecordHeader$Kind"), accessFlags := 16409, slot := 2, constantValue := 0 }, { name := "GONE", type := (.object "com/example/tombsweep/tombsweep/io/RecordHeader$Kind"), accessFlags := 16409, slot := 3, constantValue := 0 }, { name := "UNFINISHED", type := (.object "com/example/tombsweep/tombsweep/io/RecordHeader$Kind"), accessFlags := 16409, slot := 4, constantValue := 0 }, { name := "KINDS", type := (.array (.object "com/example/tombsweep/tombsweep/io/RecordHeader$Kind")), accessFlags := 26, slot := 5, constantValue := 0 }, { name := "code", type := .byte, accessFlags := 18, slot := 3, constantValue := 0 }, { name := "$VALUES", type := (.array (.object "com/example/tombsweep/tombsweep/io/RecordHeader$Kind")), accessFlags := 4122, slot := 6, constantValue := 0 }]
  methods := #[k6m0, k6m1]
  instanceTypes := #[(.object "java/lang/String"), .int, .int, .byte]
  staticTypes := #[(.object "com/example/tombsweep/tombsweep/io/RecordHeader$Kind"), (.object "com/example/tombsweep/tombsweep/io/RecordHeader$Kind"), (.object "com/example/tombsweep/tombsweep/io/RecordHeader$Kind"), (.object "com/example/tombsweep/tombsweep/io/RecordHeader$Kind"), (.object "com/example/tombsweep/tombsweep/io/RecordHeader$Kind"), (.array (.object "com/example/tombsweep/tombsweep/io/RecordHeader$Kind")), (.array (.object "com/example/tombsweep/tombsweep/io/RecordHeader$Kind"))]
  resolved := Array.replicate 103 none
  statics := some 0 }

def pool7 : Array CpInfo := pool [(1, u "java/lang/Cloneable"), (0, .class_ 1), (0, u "java/lang/Object"), (0, .class_ 3)] 3

/-- java/lang/Cloneable -/
def k7 : Class := { plain "java/lang/Cloneable" (some 0) with
  accessFlags := 1537
  interfaces := #[]
  cf := some (fileOf pool7 2 #[] #[] 1537 4 #[] #[])
  fields := #[]
  methods := #[]
  instanceTypes := #[]
  staticTypes := #[]
  resolved := Array.replicate 8 none
  statics := none }

/-- the primitive byte -/
def k8 : Class := { plain "byte" none with kind := .primitive 'B', accessFlags := 0x411 }
/-- [B -/
def k9 : Class := { plain "[B" (some 0) with kind := .array 8 .byte, interfaces := #[7, 4], accessFlags := 1041 }

/-- the primitive int -/
def k10 : Class := { plain "int" none with kind := .primitive 'I', accessFlags := 0x411 }
/-- [I -/
def k11 : Class := { plain "[I" (some 0) with kind := .array 10 .int, interfaces := #[7, 4], accessFlags := 1041 }

/-- [Lcom/example/tombsweep/tombsweep/io/RecordHeader$Kind; -/
def k12 : Class := { plain "[Lcom/example/tombsweep/tombsweep/io/RecordHeader$Kind;" (some 0) with kind := .array 6 (.object "com/example/tombsweep/tombsweep/io/RecordHeader$Kind"), interfaces := #[7, 4], accessFlags := 1041 }

def heap : Heap := #[{ cls := 6, slots := #[.ref 2, .ref 4, .ref 5, .ref 3, .ref 6, .ref 1, .null], vm := .statics 6 },
  { cls := 12, slots := #[.ref 2, .ref 4, .ref 5, .ref 3, .ref 6], vm := .none },
  { cls := 6, slots := #[.null, .int 0, .int 0, .int 80], vm := .none },
  { cls := 6, slots := #[.null, .int 0, .int 0, .int 71], vm := .none },
  { cls := 6, slots := #[.null, .int 0, .int 0, .int 69], vm := .none },
  { cls := 6, slots := #[.null, .int 0, .int 0, .int 68], vm := .none },
  { cls := 6, slots := #[.null, .int 0, .int 0, .int 85], vm := .none }]
def classes : Array Class := #[k0, k1, k2, k3, k4, k5, k6, k7, k8, k9, k10, k11, k12]
def interned : List (Array UInt16 × Addr) := []
def slotsUsed : Nat := 32
def theMethod : MethodId := ⟨1, 1⟩
def args0 : Array Value := #[.int 1]
def aboutOver (below : List Frame) : State where
  vm := { classes := classes, interned := interned.toArray }
  heap := heap
  slotsUsed := slotsUsed
  threads := #[{ frames := .invoking theMethod args0 :: below }]
def below0 : List Frame := [.native { method := ⟨0, 0⟩, args := #[] }]
def about1 : State := aboutOver below0
def p0 : Program := .bare "" "" ""
def e0 : Env := launch0.env 0 0 0
theorem w_frames : about1.frames = Frame.invoking theMethod args0 :: below0 := rfl
set_option maxRecDepth 65536 in
theorem w_args : argsFit about1.vm theMethod args0 = true := by decide +kernel
set_option maxRecDepth 65536 in
theorem w_heap : heapFits about1 = true := by decide +kernel
set_option maxRecDepth 65536 in
theorem w_runnable : about1.curStatus? = some .runnable := by decide +kernel
set_option maxRecDepth 65536 in
theorem w_alone : about1.alone = true := by decide +kernel
set_option maxRecDepth 65536 in
theorem w_named : about1.methodNamed? x = some theMethod := by decide +kernel
set_option maxRecDepth 65536 in
theorem w_hears : about1.hears theMethod below0 = true := by decide +kernel
set_option maxRecDepth 65536 in
theorem w_ripe : about1.ripe theMethod args0 below0 = true := by decide +kernel
theorem w_running : about1.status = .running := rfl
set_option maxRecDepth 65536 in
theorem w_room : about1.hasRoom e0.platform room_1 = true :=
  launch0.hasRoom_least _ room_1 (by decide +kernel) (by decide +kernel) (by decide +kernel) (by decide +kernel) (by decide +kernel) (by decide +kernel)
theorem allAtoms_all (ts : List Jvm.Cond) (a : Array Jvm.Value) (st : Jvm.State) : (allAtoms ts).before a st = ts.all (fun c => c.before a st) := by
  induction ts with
  | nil => rfl
  | cons c t ih =>
    show (Jvm.Cond.and c (allAtoms t)).before a st = _
    rw [Jvm.Cond.before_and, ih, List.all_cons]
def words1 : List Jvm.Cond := Jvm.Cond.code x code maxLocals ret :: tables_1
/-- a 'code' word, met by the world's own term for the bytes: nothing is compared byte by byte -/
theorem code_word {y : MethodName} {bytes : ByteArray} {mx : Nat} {rt : Option FieldType} {a : Array Value} {s : State} {m : MethodId} {meth : Method} {c : Code} (h1 : s.methodNamed? y = some m) (h2 : s.vm.method? m = some meth) (h3 : meth.code = some c) (h4 : c.code = bytes)
    (h5 : (c.maxLocals == mx && c.exceptionTable.isEmpty && decide (c.maxStack ≤ mostOperands) && decide (meth.sig.returnType = rt) && !meth.locks && decide (parseMethodDescriptor y.desc = some meth.sig)) = true) : (Jvm.Cond.code y bytes mx rt).before a s = true := by
  simp only [Bool.and_eq_true, beq_iff_eq, Bool.not_eq_true', decide_eq_true_eq] at h5
  obtain ⟨⟨⟨⟨⟨g1, g2⟩, g3⟩, g4⟩, g5⟩, g6⟩ := h5
  simp [Cond.before, Cond.holds, Cond.value, h1, h2, h3, h4, g1, g2, g3, g4, g5, g6]
def isCode : Jvm.Cond → Bool
  | .code _ _ _ _ => true
  | _ => false
theorem all_split {L : List Jvm.Cond} {P : Jvm.Cond → Bool} (h1 : L.all (fun c => isCode c || P c) = true) (h2 : ∀ c ∈ L.filter isCode, P c = true) : L.all P = true := by
  refine List.all_eq_true.mpr fun c hc => ?_
  have h := List.all_eq_true.mp h1 c hc
  rcases Bool.eq_false_or_eq_true (isCode c) with hi | hi
  · exact h2 c (List.mem_filter.mpr ⟨hc, hi⟩)
  · simpa [hi] using h
set_option maxRecDepth 65536 in
theorem w_c0 : (Jvm.Cond.code x code maxLocals ret).before args0 about1 = true := code_word (m := ⟨1, 1⟩) (meth := k1m1) (c := k1c1) (by decide +kernel) rfl rfl rfl (by decide +kernel)
set_option maxRecDepth 65536 in
theorem w_c1 : (Jvm.Cond.code ({ cls := "com/example/tombsweep/tombsweep/io/RecordHeader$Kind", name := "of", desc := "(B)Lcom/example/tombsweep/tombsweep/io/RecordHeader$Kind;" } : Jvm.MethodName) prog_7_method_4_code (2 : Nat) (Option.some (Jvm.ClassFile.FieldType.object "com/example/tombsweep/tombsweep/io/RecordHeader$Kind"))).before args0 about1 = true := code_word (m := ⟨6, 0⟩) (meth := k6m0) (c := k6c0) (by decide +kernel) rfl rfl rfl (by decide +kernel)
set_option maxRecDepth 65536 in
theorem w_c2 : (Jvm.Cond.code ({ cls := "com/example/tombsweep/tombsweep/io/RecordHeader$Kind", name := "known", desc := "(B)Lcom/example/tombsweep/tombsweep/io/RecordHeader$Kind;" } : Jvm.MethodName) prog_7_method_5_code (5 : Nat) (Option.some (Jvm.ClassFile.FieldType.object "com/example/tombsweep/tombsweep/io/RecordHeader$Kind"))).before args0 about1 = true := code_word (m := ⟨6, 1⟩) (meth := k6m1) (c := k6c1) (by decide +kernel) rfl rfl rfl (by decide +kernel)
def codes1 : List Jvm.Cond := [Jvm.Cond.code x code maxLocals ret, Jvm.Cond.code ({ cls := "com/example/tombsweep/tombsweep/io/RecordHeader$Kind", name := "of", desc := "(B)Lcom/example/tombsweep/tombsweep/io/RecordHeader$Kind;" } : Jvm.MethodName) prog_7_method_4_code (2 : Nat) (Option.some (Jvm.ClassFile.FieldType.object "com/example/tombsweep/tombsweep/io/RecordHeader$Kind")), Jvm.Cond.code ({ cls := "com/example/tombsweep/tombsweep/io/RecordHeader$Kind", name := "known", desc := "(B)Lcom/example/tombsweep/tombsweep/io/RecordHeader$Kind;" } : Jvm.MethodName) prog_7_method_5_code (5 : Nat) (Option.some (Jvm.ClassFile.FieldType.object "com/example/tombsweep/tombsweep/io/RecordHeader$Kind"))]
set_option maxRecDepth 65536 in
theorem codes_eq : words1.filter isCode = codes1 := rfl
theorem w_codes : ∀ c ∈ words1.filter isCode, c.before args0 about1 = true := by
  rw [codes_eq]
  intro c hc
  simp only [codes1, List.mem_cons, List.not_mem_nil, or_false] at hc
  rcases hc with rfl | rfl | rfl
  · exact w_c0
  · exact w_c1
  · exact w_c2
set_option maxRecDepth 65536 in
theorem w_t1 : words1.all (fun c => isCode c || c.before args0 about1) = true := by decide +kernel
theorem w_tables : (allAtoms (Jvm.Cond.code x code maxLocals ret :: tables_1)).before args0 about1 = true := by
  rw [allAtoms_all]
  show words1.all (fun c => c.before args0 about1) = true
  refine all_split ?_ w_codes
  rw [w_t1]
set_option maxRecDepth 65536 in
theorem w_case : (Jvm.Cond.and given_1 narrow_1).before args0 about1 = true := by decide +kernel
theorem w_applies : (headSpec (Jvm.Cond.code x code maxLocals ret :: tables_1) room_1).applies x e0.platform about1 = true :=
  (Spec.applies_iff w_frames).mpr ⟨w_running, w_runnable, w_alone, w_named, w_hears, w_ripe, w_room, w_tables⟩
theorem atStart : AtStart classFile x code maxLocals ret World_1 tables_1 room_1 Calls_1 rest_1 Pre_1 launch0 p0 e0 about1 theMethod args0 below0 :=
  ⟨lists_1, trivial, launch0.admits_env _ _ _, launch0.least_env, fairChoices_fair.cas, fairChoices_fair.clock, w_frames, w_args, w_heap, w_applies, trivial, trivial, w_case⟩
end start1
theorem witness_1 : WitnessClaimed_1 := ⟨start1.p0, start1.e0, start1.about1, start1.theMethod, start1.args0, start1.below0, start1.atStart⟩
end Jvm.Pilot.@@N@@
