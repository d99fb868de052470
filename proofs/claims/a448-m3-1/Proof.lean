import JvmDerived
import JvmDerived.Pilot.@@N@@Statement
import JvmDerived.Pilot.@@N@@Code
set_option linter.unusedVariables false
set_option linter.unusedSimpArgs false
namespace Jvm.Pilot.@@N@@
open Jvm Jvm.ClassFile Sem Op Lib Jvm.Free Jvm.Stand Jvm.LawKit Jvm.RoadKit Bundle Jvm.Pilot.@@N@@.Jvm.D
/-- from the state S the body comes to its end, and there G holds -/
def Go (p : Program) (e : Env) (below : List Frame) (G : Outcome → State → Prop) (S : State) : Prop := ∃ s₂ o, Steps p.tables e below S s₂ ∧ s₂.status = .running ∧ Ended s₂ below o ∧ G o s₂
theorem Go.step {p : Program} {e : Env} {below : List Frame} {G : Outcome → State → Prop} {S S' : State} (k : ∀ t, Steps p.tables e below S' t → Steps p.tables e below S t) (g : Go p e below G S') : Go p e below G S := by
  obtain ⟨s₂, o, h, r⟩ := g
  exact ⟨s₂, o, k _ h, r⟩
theorem Go.fin {p : Program} {e : Env} {below : List Frame} {G : Outcome → State → Prop} {S S' : State} {o : Outcome} (h : Steps p.tables e below S S') (h1 : S'.status = .running) (h2 : Ended S' below o) (h3 : G o S') : Go p e below G S := ⟨_, _, h, h1, h2, h3⟩
abbrev lv (x : Int64) : Slot := .val (.long x)
abbrev u_ : Slot := .unset
theorem own_w {Z : State} {a0 : Array Value} (hw : ∀ d ∈ tables_1, d.before a0 Z = true) (k : Nat) {d : Jvm.Cond} (h : tables_1[k]? = some d) : d.before a0 Z = true := hw d (List.mem_of_getElem? h)
theorem old_le {Z : State} {n0 : Nat} {h : Heap} (O : Old Z n0 h) : n0 ≤ h.size := O.1 ▸ O.2.1
theorem own_getR {p : Program} {l : Launch} {e : Env} {R : Room} {s : State} {m : MethodId} {args : Array Value} {below : List Frame} {meth : Method} {c : Code} {T : State} {locs : List Loc} {cells slots : Nat} {Z : State} {a0 : Array Value} {h : Heap}
    (X : Stand p l e R s m args below meth c T locs cells slots) (hx : p.tables.exec = Jvm.exec) (hZ : Z.Warmed39 s.vm) {own R0 n d : String} {index : Nat} (hown : s.vm.findClass own = some m.cls) (w : (Jvm.Cond.fieldRef own index R0 n d).before a0 Z = true)
    (eT : T.heap = h) {a : Addr} {v : Value} (F : Fld Z h a R0 n d v) {g : JFrame} (hg : g.method = m) {rest : List Value} (hs : g.stack = .ref a :: rest) (hd : decode c.code g.pc = .ok (.getfield index, 3)) : ∀ target, Steps p.tables e below (T.setTop { g with pc := g.pc + 3, stack := v :: rest }) target → Steps p.tables e below (T.setTop g) target := by
  obtain ⟨cell, cf, k, i, f, h1, h2, h3, h4, -, -, h7⟩ := F
  have hT : Z.Warmed39 T.vm := wtrans hZ X.warmed
  have w' := Cond.fieldRef_warmed39 hT w
  have ho : (Z.setVm T.vm).vm.findClass own = some m.cls := by show T.vm.findClass own = _; rw [X.warmed.alike.findClass]; exact hown
  obtain ⟨c1, k1, i1, f1, e1, hr⟩ := Cond.fieldRef_spec ho w'
  obtain ⟨k', hi, -⟩ := State.fieldFound?_setVm (s := Z) hT.alike h2
  cases e1.symm.trans hi
  intro target kk
  exact (X.getfieldR hx hg hr h3 hs (by rw [eT]; exact h1) h4 h7 hd (Steps.refl _)).trans kk
theorem own_selP {Z s : State} {a0 args : Array Value} {y : MethodName} {n : Nat} (hZ : Z.Warmed39 s.vm) (wi : (Jvm.Cond.instantiable y.cls n).before a0 Z = true) (wn : (Jvm.Cond.instanceMethod y).before a0 Z = true) (wp : (Jvm.Cond.privateMethod y).before a0 Z = true)
    (hy : y.cls ≠ "java/lang/invoke/MethodHandle" ∧ y.cls ≠ "java/lang/invoke/VarHandle") : (Jvm.Cond.selects y.cls y y).before args s = true := by
  have wi' : (Jvm.Cond.instantiable y.cls n).before args s = true := mv hZ wi
  obtain ⟨c, k, h1, h2, -, h4, -⟩ := Cond.instantiable_spec wi'
  exact Stand.selects_self_of_private h1 h2 (by simp only [Bool.or_eq_false_iff] at h4; exact h4.1) (Cond.privateMethod_at (args := args) (mvP hZ wp)) (mvT hZ wn) hy
theorem own_eqI {t : Term} {n : Int32} {args : Array Value} {s : State} (h : (Jvm.Cond.eq t (.int n)).value args s none s [] = some true) : t.eval args s none [] s = some (.int n) := by
  have hn : (Term.int n).eval args s none [] s = some (.int n) := rfl
  cases ht : t.eval args s none [] s with
  | none => simp [Cond.value, ht] at h
  | some v => cases v <;> simp [Cond.value, ht, hn] at h ⊢; exact h
theorem own_eqJ {t : Term} {n : Int64} {args : Array Value} {s : State} (h : (Jvm.Cond.eq t (.long n)).value args s none s [] = some true) : t.eval args s none [] s = some (.long n) := by
  have hn : (Term.long n).eval args s none [] s = some (.long n) := rfl
  cases ht : t.eval args s none [] s with
  | none => simp [Cond.value, ht] at h
  | some v => cases v <;> simp [Cond.value, ht, hn] at h ⊢; exact h
theorem own_wS {Z : State} {a0 : Array Value} (hw : ∀ d ∈ tables_1, d.before a0 Z = true) : ∀ a ∈ Bundle.stringAtoms, a.before a0 Z = true := by
  intro a ha
  simp only [Bundle.stringAtoms, List.mem_cons, List.not_mem_nil, or_false] at ha
  rcases ha with rfl | rfl | rfl | rfl | rfl | rfl | rfl
  · exact (own_w hw 4 rfl)
  · exact (own_w hw 3 rfl)
  · exact (own_w hw 20 rfl)
  · exact (own_w hw 30 rfl)
  · exact (own_w hw 28 rfl)
  · exact (own_w hw 53 rfl)
  · exact (own_w hw 54 rfl)
abbrev EL_ : List (String × Nat) := [("java/lang/String", 7)]
theorem own_EW {Z : State} {a0 : Array Value} (hw : ∀ d ∈ tables_1, d.before a0 Z = true) : EW Z a0 EL_ := EW.cons (own_w hw 52 rfl) (by decide) (EW.nil)
theorem own_CHw {Z s : State} {vm0 vm' : Vm} {a0 : Array Value} {h : Heap} {EL : List (String × Nat)} (hZ : Z.Warmed39 vm0) (w : EW Z a0 EL) (hW : (s.setVm vm0).WarmedH vm') (H : CHv Z EL vm0 h) : CHv Z EL vm' h :=
  (CHv.later (h' := h) hZ (hW := (show (Wst Z vm0 h).Warmed39 vm' from hW.wide)) w ⟨Nat.le_refl _, fun _ _ q => q⟩ (Or.inl hW.interned_eq) H).1
theorem own_backX {p : Program} {l : Launch} {e : Env} {R : Room} {s : State} {args : Array Value} {below : List Frame} {Z : State} {a0 : Array Value} {h : Heap} {y : MethodName} {bytes : ByteArray} {maxL : Nat} {ret : Option FieldType} {rm : Room} {len W : Nat} {as' : Array Value} {Q : Option Value → Heap → List Loc → Prop} {Ex : Vm → Prop}
    (hM : MetFree l y (head1 [Jvm.Cond.code y bytes maxL ret] rm) (fun a U => a = as' ∧ Z.Warmed39 U.vm ∧ U.heap = h ∧ Ex U.vm) (fun _ _ _ _ _ => True) (fun _ U o U' => ∃ v L, o = .returned v ∧ Q v U'.heap L ∧ ReturnedEndW U o U' L rm.cells rm.slots))
    (hZ : Z.Warmed39 s.vm) (wc : (Jvm.Cond.code y bytes maxL ret).before a0 Z = true) (wz : (Jvm.Cond.initialized y.cls).before a0 Z = true) (hf : rm.frames + 1 ≤ R.frames) (hl : W + (maxL + 11) + rm.locals ≤ R.locals) (hE : ∀ vm', s.WarmedH vm' → Ex vm') :
    BackS l R p e below s args y len W (fun A a => a = as' ∧ A.U.heap = h ∧ A.cells + rm.cells ≤ R.cells ∧ A.slots + rm.slots ≤ R.slots)
      (fun A _ v B => ∃ L, Q v B.U.heap L ∧ B.locs = A.locs ++ L ∧ B.cells = A.cells + rm.cells ∧ B.slots = A.slots + rm.slots) := by
  refine BackS.of_freeW (bytes := bytes) (maxL := maxL) (ret := ret) (E := fun _ _ o t L k n => k = rm.cells ∧ n = rm.slots ∧ ∃ v, o = .returned v ∧ Q v t.heap L) hM hf hl ?_ ?_ ?_ ?_ ?_
  · intro m meth c A a Y hp
    have hU : Z.Warmed39 A.U.vm := wtrans hZ Y.warmed
    refine ⟨?_, mv hU wc, mv hU wz, hp.2.2.1, hp.2.2.2⟩
    show (Jvm.Cond.and _ .tt).before a A.U = true
    rw [Cond.before_and, mv hU wc]; rfl
  · exact fun m meth c A a g mk Y hp => ⟨hp.1, wtrans hZ Y.warmed, hp.2.1, hE _ Y.warmed⟩
  · exact fun _ _ _ _ _ _ _ _ _ => trivial
  · rintro a first o t ⟨v, L, e1, e2, e3⟩
    exact ⟨L, _, _, e3, rfl, rfl, v, e1, e2⟩
  · rintro m meth c A a g mk v t L k n Y hp _ _ ⟨rfl, rfl, v', e3, e4⟩
    cases e3
    exact ⟨L, e4, rfl, rfl, rfl⟩
theorem own_b2 (x : Int32) : ((x.toInt8.toInt32).toInt8.toInt32) = (x.toInt8.toInt32) := by
  rw [← Int32.toInt_inj]
  have h1 := c_i2b x
  have h2 := c_i2b x.toInt8.toInt32
  omega
theorem own_i2c {x : Int32} (h0 : ¬ (x < (0 : Int32))) (h1 : ¬ ((255 : Int32) < x)) : (x.toUInt32.toUInt16.toUInt32.toInt32) = x := by
  rw [← Int32.toInt_inj]
  have := c_i2c x
  simp only [Int32.lt_iff_toInt_lt, show (0 : Int32).toInt = 0 from rfl, show (255 : Int32).toInt = 255 from rfl] at h0 h1
  omega
abbrev y_0 : MethodName := ⟨"java/lang/StringUTF16", "compress", "([CI[BII)I"⟩
theorem pn_java_lang_StringUTF16 : plainName "java/lang/StringUTF16" = true := by first | (simp [plainName, overriddenIn]; done) | decide +kernel
theorem d5_0 : decode jdk_52_method_21_code 0 = .ok (.iconst 0, 1) := by decide +kernel
theorem d5_1 : decode jdk_52_method_21_code 1 = .ok (.istore 5, 2) := by decide +kernel
theorem d5_3 : decode jdk_52_method_21_code 3 = .ok (.iload 5, 2) := by decide +kernel
theorem d5_5 : decode jdk_52_method_21_code 5 = .ok (.iload 4, 2) := by decide +kernel
theorem d5_7 : decode jdk_52_method_21_code 7 = .ok (.if_icmp .ge 37, 3) := by decide +kernel
theorem d5_10 : decode jdk_52_method_21_code 10 = .ok (.aload_n 0, 1) := by decide +kernel
theorem d5_11 : decode jdk_52_method_21_code 11 = .ok (.iload_n 1, 1) := by decide +kernel
theorem d5_12 : decode jdk_52_method_21_code 12 = .ok (.caload, 1) := by decide +kernel
theorem d5_13 : decode jdk_52_method_21_code 13 = .ok (.istore 6, 2) := by decide +kernel
theorem d5_15 : decode jdk_52_method_21_code 15 = .ok (.iload 6, 2) := by decide +kernel
theorem d5_17 : decode jdk_52_method_21_code 17 = .ok (.sipush 255, 3) := by decide +kernel
theorem d5_20 : decode jdk_52_method_21_code 20 = .ok (.if_icmp .le 6, 3) := by decide +kernel
theorem d5_26 : decode jdk_52_method_21_code 26 = .ok (.aload_n 2, 1) := by decide +kernel
theorem d5_27 : decode jdk_52_method_21_code 27 = .ok (.iload_n 3, 1) := by decide +kernel
theorem d5_28 : decode jdk_52_method_21_code 28 = .ok (.iload 6, 2) := by decide +kernel
theorem d5_30 : decode jdk_52_method_21_code 30 = .ok (.i2b, 1) := by decide +kernel
theorem d5_31 : decode jdk_52_method_21_code 31 = .ok (.bastore, 1) := by decide +kernel
theorem d5_32 : decode jdk_52_method_21_code 32 = .ok (.iinc 1 1, 3) := by decide +kernel
theorem d5_35 : decode jdk_52_method_21_code 35 = .ok (.iinc 3 1, 3) := by decide +kernel
theorem d5_38 : decode jdk_52_method_21_code 38 = .ok (.iinc 5 1, 3) := by decide +kernel
theorem d5_41 : decode jdk_52_method_21_code 41 = .ok (.goto (-38), 3) := by decide +kernel
theorem d5_44 : decode jdk_52_method_21_code 44 = .ok (.iload 4, 2) := by decide +kernel
theorem d5_46 : decode jdk_52_method_21_code 46 = .ok (.ireturn, 1) := by decide +kernel
theorem ef_rmCl1 (m : MethodId) (vc : Addr) (db : Addr) : entryFrame m #[(.ref vc), (.int (0 : Int32)), (.ref db), (.int (0 : Int32)), (.int (1 : Int32))] 7 = mkF m 0 #[.val (.ref vc), .val (.int (0 : Int32)), .val (.ref db), .val (.int (0 : Int32)), .val (.int (1 : Int32)), .unset, .unset] [] := by first | (simp [entryFrame, mkF, argsToLocals, Value.category]; done) | rfl
abbrev rm_rmCl1 : Room := ({ frames := 0, cells := 0, slots := 0, locals := 0 } : Room)
def Q_rmCl1 (Z : State) (vc : Addr) (db : Addr) (kc : ClassId) (kb : ClassId) (x0 : Int32) (h0 : Heap) (n0 : Nat) (v : Option Value) (h : Heap) (L : List Loc) : Prop := (v = some (.int (1 : Int32))) ∧ (Fr n0 L) ∧ (Keep h0 h [db]) ∧ (Arv Z h db kb .byte (1 : Int32) [(.int (x0.toInt8.toInt32))] (.int (0 : Int32)))
set_option maxRecDepth 65536 in
set_option maxHeartbeats 4000000 in
theorem rmCl1 (l : Launch) (Z : State) (a0 : Array Value) (hw : ∀ d ∈ tables_1, d.before a0 Z = true) (ws : List Jvm.Cond) (vc : Addr) (db : Addr) (kc : ClassId) (kb : ClassId) (x0 : Int32) (h0 : Heap) (n0 : Nat) (O : Old Z n0 h0) (V_vc : Arv Z h0 vc kc .char (1 : Int32) [(.int x0)] (.int (0 : Int32))) (V_db : Arv Z h0 db kb .byte (1 : Int32) [(.int (0 : Int32))] (.int (0 : Int32))) (g_db : n0 ≤ db) (ne_vc_db : vc ≠ db) (u0 : ¬ ((255 : Int32) < x0)) :
    MetFree l y_0 (head1 (Jvm.Cond.code y_0 jdk_52_method_21_code 7 (some .int) :: ws) rm_rmCl1) (fun A_ U => A_ = #[(.ref vc), (.int (0 : Int32)), (.ref db), (.int (0 : Int32)), (.int (1 : Int32))] ∧ Z.Warmed39 U.vm ∧ U.heap = h0) (fun _ _ _ _ _ => True) (fun _ U o U' => ∃ v L, o = .returned v ∧ Q_rmCl1 Z vc db kc kb x0 h0 n0 v U'.heap L ∧ FrameEnd U o U' L rm_rmCl1.cells rm_rmCl1.slots) := by
  refine MetFree.of_bodySF (plainFor_of_name pn_java_lang_StringUTF16) hisR ?_
  intro p e s m args below meth c s₁ Bd hml0 hP hK
  obtain ⟨rfl, hZ, hh⟩ := hP
  have hx := Bd.exec
  have hby := Bd.bytes
  have hml : c.maxLocals = 7 := hml0
  have hown : s.vm.findClass "java/lang/StringUTF16" = some m.cls := findClass_of_methodNamed Bd.named
  have hnm := (name_of_methodNamed Bd.named Bd.method).1
  have X0 : Stand p l e rm_rmCl1 s m #[(.ref vc), (.int (0 : Int32)), (.ref db), (.int (0 : Int32)), (.int (1 : Int32))] below meth c s₁ [] 0 0 := Stand.of_body Bd
  have e0 : s₁.heap = h0 := by rw [← hh, Bd.state]; rfl
  have N0 := Fr.nil n0
  have K := Keep.refl h0 [db]
  refine Go.step (p := p) (e := e) (below := below) (G := fun o U' => ∃ v L, o = .returned v ∧ Q_rmCl1 Z vc db kc kb x0 h0 n0 v U'.heap L ∧ FrameEnd s o U' L rm_rmCl1.cells rm_rmCl1.slots) (S' := s₁.setTop (mkF m 0 #[rv vc, iv (0 : Int32), rv db, iv (0 : Int32), iv (1 : Int32), u_, u_] [])) (fun t k => castTop (ef_rmCl1 m vc db) k) ?_
  refine Go.step (S' := s₁.setTop (mkF m 12 #[rv vc, iv (0 : Int32), rv db, iv (0 : Int32), iv (1 : Int32), iv (0 : Int32), u_] [(.int (0 : Int32)), (.ref vc)])) (fun t k => ?_) ?_
  · refine XS.iconst X0.here hx rfl (hb hby d5_0) ?_
    refine XS.istore X0.here hx rfl (hb hby d5_1) rfl (l' := #[rv vc, iv (0 : Int32), rv db, iv (0 : Int32), iv (1 : Int32), iv (0 : Int32), u_]) rfl ?_
    refine XS.iload X0.here hx rfl (hb hby d5_3) rfl ?_
    show Steps p.tables e below (s₁.setTop (mkF m 5 #[rv vc, iv (0 : Int32), rv db, iv (0 : Int32), iv (1 : Int32), iv (0 : Int32), u_] [(.int (0 : Int32))])) _
    refine XS.iload X0.here hx rfl (hb hby d5_5) rfl ?_
    refine XS.icmpNo X0.here hx rfl (hb hby d5_7) rfl (tlt ((by decide) : (0 : Int32) < (1 : Int32))).2.1 ?_
    refine XS.aloadN X0.here hx rfl (hb hby d5_10) rfl rfl ?_
    show Steps p.tables e below (s₁.setTop (mkF m 11 #[rv vc, iv (0 : Int32), rv db, iv (0 : Int32), iv (1 : Int32), iv (0 : Int32), u_] [(.ref vc)])) _
    refine XS.iloadN X0.here hx rfl (hb hby d5_11) rfl ?_
    exact k
  obtain ⟨cl1, Ar1, -, S1, -, H1, -⟩ := id V_vc
  have hin1 : ¬ ((0 : Int32) < 0 ∨ cl1.slots.size ≤ ((0 : Int32)).toNatClampNeg) := inb_of S1 ⟨by decide, by decide⟩
  refine Go.step (S' := s₁.setTop (mkF m 13 #[rv vc, iv (0 : Int32), rv db, iv (0 : Int32), iv (1 : Int32), iv (0 : Int32), u_] [(.int x0)])) (fun t k => X0.caload hx (j := (0 : Int32)) (v := (.int x0)) (by rw [e0]; exact Ar1.1) (State.isArrayOf_alike hZ.alike Ar1.2.1) Ar1.2.2 hin1 (H1.at hin1 rfl) (g := (mkF m 12 #[rv vc, iv (0 : Int32), rv db, iv (0 : Int32), iv (1 : Int32), iv (0 : Int32), u_] [(.int (0 : Int32)), (.ref vc)])) rfl rfl (hb hby d5_12) _ k) ?_
  refine Go.step (S' := s₁.setTop (mkF m 31 #[rv vc, iv (0 : Int32), rv db, iv (0 : Int32), iv (1 : Int32), iv (0 : Int32), iv x0] [(.int (x0.toInt8.toInt32)), (.int (0 : Int32)), (.ref db)])) (fun t k => ?_) ?_
  · refine XS.istore X0.here hx rfl (hb hby d5_13) rfl (l' := #[rv vc, iv (0 : Int32), rv db, iv (0 : Int32), iv (1 : Int32), iv (0 : Int32), iv x0]) rfl ?_
    refine XS.iload X0.here hx rfl (hb hby d5_15) rfl ?_
    refine XS.sipush X0.here hx rfl (hb hby d5_17) ?_
    show Steps p.tables e below (s₁.setTop (mkF m 20 #[rv vc, iv (0 : Int32), rv db, iv (0 : Int32), iv (1 : Int32), iv (0 : Int32), iv x0] [(.int (255 : Int32)), (.int x0)])) _
    refine XS.icmpYes X0.here hx rfl (pc0 := 20) (pc' := 26) rfl (hb hby d5_20) rfl (flt (u0 : ¬ ((255 : Int32) < x0))).2.2.2 (by decide) (by decide) ?_
    refine XS.aloadN X0.here hx rfl (hb hby d5_26) rfl rfl ?_
    refine XS.iloadN X0.here hx rfl (hb hby d5_27) rfl ?_
    show Steps p.tables e below (s₁.setTop (mkF m 28 #[rv vc, iv (0 : Int32), rv db, iv (0 : Int32), iv (1 : Int32), iv (0 : Int32), iv x0] [(.int (0 : Int32)), (.ref db)])) _
    refine XS.iload X0.here hx rfl (hb hby d5_28) rfl ?_
    refine XS.i2b X0.here hx rfl (hb hby d5_30) rfl ?_
    exact k
  obtain ⟨cl2, Ar2, q2, S2, N2_, H2, G2⟩ := V_db
  have hin2 : ¬ ((0 : Int32) < 0 ∨ cl2.slots.size ≤ ((0 : Int32)).toNatClampNeg) := inb_of S2 ⟨by decide, by decide⟩
  obtain ⟨T2, h2, X2, e2, W2, st2⟩ := stB X0 hx hZ e0 Ar2 (j := (0 : Int32)) hin2 (g := (mkF m 31 #[rv vc, iv (0 : Int32), rv db, iv (0 : Int32), iv (1 : Int32), iv (0 : Int32), iv x0] [(.int (x0.toInt8.toInt32)), (.int (0 : Int32)), (.ref db)])) rfl rfl (hb hby d5_31)
  have O := O.wr W2 g_db
  have V_vc := V_vc.other W2 ne_vc_db
  have K := K.wr W2 (Or.inl (List.mem_of_getElem? (i := 0) rfl))
  have V_db : Arv Z h2 db kb .byte (1 : Int32) [(.int ((x0.toInt8.toInt32).toInt8.toInt32))] (.int (0 : Int32)) := Arv.set Ar2 q2 S2 N2_ H2 G2 (fits_nar_byte _) W2 0 rfl (Nat.le_of_ble_eq_true rfl)
  rw [(own_b2 x0 : ((x0.toInt8.toInt32).toInt8.toInt32) = (x0.toInt8.toInt32))] at V_db
  have N2 := Fr.snoc X2 N0 g_db
  refine Go.step st2 ?_
  show Go p e below _ (T2.setTop (mkF m 32 #[rv vc, iv (0 : Int32), rv db, iv (0 : Int32), iv (1 : Int32), iv (0 : Int32), iv x0] []))
  refine Go.step (S' := T2.setTop (mkF m 35 #[rv vc, iv ((0 : Int32) + (1 : Int32)), rv db, iv (0 : Int32), iv (1 : Int32), iv (0 : Int32), iv x0] [])) (fun t k => ?_) ?_
  · refine XS.iinc X2.here hx rfl (hb hby d5_32) rfl (l' := #[rv vc, iv ((0 : Int32) + (1 : Int32)), rv db, iv (0 : Int32), iv (1 : Int32), iv (0 : Int32), iv x0]) rfl ?_
    exact k
  rw [show ((0 : Int32) + (1 : Int32)) = (1 : Int32) from by decide]
  show Go p e below _ (T2.setTop (mkF m 35 #[rv vc, iv (1 : Int32), rv db, iv (0 : Int32), iv (1 : Int32), iv (0 : Int32), iv x0] []))
  refine Go.step (S' := T2.setTop (mkF m 38 #[rv vc, iv (1 : Int32), rv db, iv ((0 : Int32) + (1 : Int32)), iv (1 : Int32), iv (0 : Int32), iv x0] [])) (fun t k => ?_) ?_
  · refine XS.iinc X2.here hx rfl (hb hby d5_35) rfl (l' := #[rv vc, iv (1 : Int32), rv db, iv ((0 : Int32) + (1 : Int32)), iv (1 : Int32), iv (0 : Int32), iv x0]) rfl ?_
    exact k
  rw [show ((0 : Int32) + (1 : Int32)) = (1 : Int32) from by decide]
  show Go p e below _ (T2.setTop (mkF m 38 #[rv vc, iv (1 : Int32), rv db, iv (1 : Int32), iv (1 : Int32), iv (0 : Int32), iv x0] []))
  refine Go.step (S' := T2.setTop (mkF m 41 #[rv vc, iv (1 : Int32), rv db, iv (1 : Int32), iv (1 : Int32), iv ((0 : Int32) + (1 : Int32)), iv x0] [])) (fun t k => ?_) ?_
  · refine XS.iinc X2.here hx rfl (hb hby d5_38) rfl (l' := #[rv vc, iv (1 : Int32), rv db, iv (1 : Int32), iv (1 : Int32), iv ((0 : Int32) + (1 : Int32)), iv x0]) rfl ?_
    exact k
  rw [show ((0 : Int32) + (1 : Int32)) = (1 : Int32) from by decide]
  show Go p e below _ (T2.setTop (mkF m 41 #[rv vc, iv (1 : Int32), rv db, iv (1 : Int32), iv (1 : Int32), iv (1 : Int32), iv x0] []))
  refine Go.step (S' := T2.setTop (mkF m 46 #[rv vc, iv (1 : Int32), rv db, iv (1 : Int32), iv (1 : Int32), iv (1 : Int32), iv x0] [(.int (1 : Int32))])) (fun t k => ?_) ?_
  · refine XS.goto X2.here hx rfl (pc0 := 41) (pc' := 3) rfl (hb hby d5_41) (by decide) (by decide) ?_
    refine XS.iload X2.here hx rfl (hb hby d5_3) rfl ?_
    refine XS.iload X2.here hx rfl (hb hby d5_5) rfl ?_
    show Steps p.tables e below (T2.setTop (mkF m 7 #[rv vc, iv (1 : Int32), rv db, iv (1 : Int32), iv (1 : Int32), iv (1 : Int32), iv x0] [(.int (1 : Int32)), (.int (1 : Int32))])) _
    refine XS.icmpYes X2.here hx rfl (pc0 := 7) (pc' := 44) rfl (hb hby d5_7) rfl (flt ((by decide) : ¬ ((1 : Int32) < (1 : Int32)))).2.1 (by decide) (by decide) ?_
    refine XS.iload X2.here hx rfl (hb hby d5_44) rfl ?_
    exact k
  obtain ⟨fs, hr, hrun, hended, hW, hsame⟩ := X2.leave (v := some (.int (1 : Int32))) (fun h => by rw [Bd.returns] at h; cases h)
  refine Go.fin (S' := T2.setFrames fs) ?_ hrun hended ⟨_, _, rfl, ?_, ⟨_, rfl⟩, hW, hsame.mono (by decide) (by decide)⟩
  · exact retOut X2 hx Bd.returns rfl (Or.inl ⟨rfl, Or.inl rfl, _, rfl⟩) (hb hby d5_46) hr
  · show Q_rmCl1 Z vc db kc kb x0 h0 n0 (some (.int (1 : Int32))) T2.heap _
    rw [e2]
    exact ⟨rfl, N2, K, V_db⟩
abbrev y_1 : MethodName := ⟨"java/lang/StringUTF16", "compress", "([CII)[B"⟩
theorem d4_0 : decode jdk_52_method_16_code 0 = .ok (.iload_n 2, 1) := by decide +kernel
theorem d4_1 : decode jdk_52_method_16_code 1 = .ok (.newarray .byte, 2) := by decide +kernel
theorem d4_3 : decode jdk_52_method_16_code 3 = .ok (.astore_n 3, 1) := by decide +kernel
theorem d4_4 : decode jdk_52_method_16_code 4 = .ok (.aload_n 0, 1) := by decide +kernel
theorem d4_5 : decode jdk_52_method_16_code 5 = .ok (.iload_n 1, 1) := by decide +kernel
theorem d4_6 : decode jdk_52_method_16_code 6 = .ok (.aload_n 3, 1) := by decide +kernel
theorem d4_7 : decode jdk_52_method_16_code 7 = .ok (.iconst 0, 1) := by decide +kernel
theorem d4_8 : decode jdk_52_method_16_code 8 = .ok (.iload_n 2, 1) := by decide +kernel
theorem d4_9 : decode jdk_52_method_16_code 9 = .ok (.invokestatic 115, 3) := by decide +kernel
theorem pd__28_5bCI_5bBII_29I : parseMethodDescriptor "([CI[BII)I" = some ⟨[(.array .char), .int, (.array .byte), .int, .int], some .int⟩ := by decide +kernel
theorem d4_12 : decode jdk_52_method_16_code 12 = .ok (.istore 4, 2) := by decide +kernel
theorem d4_14 : decode jdk_52_method_16_code 14 = .ok (.iload 4, 2) := by decide +kernel
theorem d4_16 : decode jdk_52_method_16_code 16 = .ok (.iload_n 2, 1) := by decide +kernel
theorem d4_17 : decode jdk_52_method_16_code 17 = .ok (.if_icmp .eq 40, 3) := by decide +kernel
theorem d4_57 : decode jdk_52_method_16_code 57 = .ok (.aload_n 3, 1) := by decide +kernel
theorem d4_58 : decode jdk_52_method_16_code 58 = .ok (.areturn, 1) := by decide +kernel
theorem ef_rmCm1 (m : MethodId) (vc : Addr) : entryFrame m #[(.ref vc), (.int (0 : Int32)), (.int (1 : Int32))] 6 = mkF m 0 #[.val (.ref vc), .val (.int (0 : Int32)), .val (.int (1 : Int32)), .unset, .unset, .unset] [] := by first | (simp [entryFrame, mkF, argsToLocals, Value.category]; done) | rfl
abbrev rm_rmCm1 : Room := ({ frames := 1, cells := 1, slots := 1, locals := 18 } : Room)
def Q_rmCm1 (Z : State) (vc : Addr) (kc : ClassId) (x0 : Int32) (h0 : Heap) (n0 : Nat) (v : Option Value) (h : Heap) (L : List Loc) : Prop := ∃ b : Addr, ∃ kb : ClassId, (v = some (.ref b)) ∧ (Fr n0 L) ∧ (Keep h0 h []) ∧ (Arv Z h b kb .byte (1 : Int32) [(.int (x0.toInt8.toInt32))] (.int (0 : Int32)))
set_option maxRecDepth 65536 in
set_option maxHeartbeats 4000000 in
theorem rmCm1 (l : Launch) (Z : State) (a0 : Array Value) (hw : ∀ d ∈ tables_1, d.before a0 Z = true) (ws : List Jvm.Cond) (vc : Addr) (kc : ClassId) (x0 : Int32) (h0 : Heap) (n0 : Nat) (O : Old Z n0 h0) (V_vc : Arv Z h0 vc kc .char (1 : Int32) [(.int x0)] (.int (0 : Int32))) (u0 : ¬ ((255 : Int32) < x0)) :
    MetFree l y_1 (head1 (Jvm.Cond.code y_1 jdk_52_method_16_code 6 (some (.array .byte)) :: ws) rm_rmCm1) (fun A_ U => A_ = #[(.ref vc), (.int (0 : Int32)), (.int (1 : Int32))] ∧ Z.Warmed39 U.vm ∧ U.heap = h0) (fun _ _ _ _ _ => True) (fun _ U o U' => ∃ v L, o = .returned v ∧ Q_rmCm1 Z vc kc x0 h0 n0 v U'.heap L ∧ FrameEnd U o U' L rm_rmCm1.cells rm_rmCm1.slots) := by
  refine MetFree.of_bodySF (plainFor_of_name pn_java_lang_StringUTF16) hisR ?_
  intro p e s m args below meth c s₁ Bd hml0 hP hK
  obtain ⟨rfl, hZ, hh⟩ := hP
  have hx := Bd.exec
  have hby := Bd.bytes
  have hml : c.maxLocals = 6 := hml0
  have hown : s.vm.findClass "java/lang/StringUTF16" = some m.cls := findClass_of_methodNamed Bd.named
  have hnm := (name_of_methodNamed Bd.named Bd.method).1
  have X0 : Stand p l e rm_rmCm1 s m #[(.ref vc), (.int (0 : Int32)), (.int (1 : Int32))] below meth c s₁ [] 0 0 := Stand.of_body Bd
  have e0 : s₁.heap = h0 := by rw [← hh, Bd.state]; rfl
  have N0 := Fr.nil n0
  have K := Keep.refl h0 []
  refine Go.step (p := p) (e := e) (below := below) (G := fun o U' => ∃ v L, o = .returned v ∧ Q_rmCm1 Z vc kc x0 h0 n0 v U'.heap L ∧ FrameEnd s o U' L rm_rmCm1.cells rm_rmCm1.slots) (S' := s₁.setTop (mkF m 0 #[rv vc, iv (0 : Int32), iv (1 : Int32), u_, u_, u_] [])) (fun t k => castTop (ef_rmCm1 m vc) k) ?_
  refine Go.step (S' := s₁.setTop (mkF m 1 #[rv vc, iv (0 : Int32), iv (1 : Int32), u_, u_, u_] [(.int (1 : Int32))])) (fun t k => ?_) ?_
  · refine XS.iloadN X0.here hx rfl (hb hby d4_0) rfl ?_
    exact k
  obtain ⟨T1, h1, k1, X1, e1, E1, A1, st1⟩ := newP X0 hx hZ (own_w hw 20 rfl) e0 (g := (mkF m 1 #[rv vc, iv (0 : Int32), iv (1 : Int32), u_, u_, u_] [(.int (1 : Int32))])) rfl (hb hby d4_1) rfl (by decide) (cap := 1) (by decide) (by decide) (by decide) (by decide)
  obtain ⟨b1, g1⟩ : ∃ z, z = Array.size h0 := ⟨_, rfl⟩
  have g_b1 : n0 ≤ b1 := Nat.le_trans (old_le O) (Nat.le_of_eq g1.symm)
  have sz_b1 : h0.size ≤ b1 := Nat.le_trans K.1 (Nat.le_of_eq g1.symm)
  have ne_vc_b1 : vc ≠ b1 := Nat.ne_of_lt (Nat.lt_of_lt_of_le V_vc.lt (Nat.le_of_eq g1.symm))
  rw [← g1] at A1 st1
  have O := O.ext E1
  have V_vc := V_vc.ext E1
  have K := K.ext E1
  have V_b1 : Arv Z h1 b1 k1 .byte (1 : Int32) [(.int (0 : Int32))] (.int (0 : Int32)) := (Arv.new A1 (by decide)).pad (pad_rep [] (.int (0 : Int32)) 1)
  refine Go.step st1 ?_
  show Go p e below _ (T1.setTop (mkF m 3 #[rv vc, iv (0 : Int32), iv (1 : Int32), u_, u_, u_] [(.ref b1)]))
  refine Go.step (S' := T1.setTop (mkF m 9 #[rv vc, iv (0 : Int32), iv (1 : Int32), rv b1, u_, u_] [(.int (1 : Int32)), (.int (0 : Int32)), (.ref b1), (.int (0 : Int32)), (.ref vc)])) (fun t k => ?_) ?_
  · refine XS.astoreN X1.here hx rfl (hb hby d4_3) rfl rfl (l' := #[rv vc, iv (0 : Int32), iv (1 : Int32), rv b1, u_, u_]) rfl ?_
    refine XS.aloadN X1.here hx rfl (hb hby d4_4) rfl rfl ?_
    refine XS.iloadN X1.here hx rfl (hb hby d4_5) rfl ?_
    show Steps p.tables e below (T1.setTop (mkF m 6 #[rv vc, iv (0 : Int32), iv (1 : Int32), rv b1, u_, u_] [(.int (0 : Int32)), (.ref vc)])) _
    refine XS.aloadN X1.here hx rfl (hb hby d4_6) rfl rfl ?_
    refine XS.iconst X1.here hx rfl (hb hby d4_7) ?_
    refine XS.iloadN X1.here hx rfl (hb hby d4_8) rfl ?_
    exact k
  obtain ⟨_, _, ⟨T2, L2, k2, n2⟩, -, X2, ⟨Lc2, hQ2, l2, y2, z2⟩, st2⟩ := Jvm.LawKit.callS X1 hx (y := y_0) hown (mvT hZ (own_w hw 21 rfl)) (mvT hZ (own_w hw 22 rfl)) (mvT hZ (own_w hw 18 rfl)) (mvT hZ (own_w hw 23 rfl)) (by decide) (backOf (W := 0) (rmCl1 l Z a0 hw [] vc b1 kc k1 x0 h1 n0 O V_vc V_b1 (by assumption) ne_vc_b1 u0) hZ (own_w hw 23 rfl) (own_w hw 18 rfl) (by decide) (by decide)) (g := (mkF m 9 #[rv vc, iv (0 : Int32), iv (1 : Int32), rv b1, u_, u_] [(.int (1 : Int32)), (.int (0 : Int32)), (.ref b1), (.int (0 : Int32)), (.ref vc)])) rfl (by rw [hml]; rfl) (argsL := [(.ref vc), (.int (0 : Int32)), (.ref b1), (.int (0 : Int32)), (.int (1 : Int32))]) (rest := []) (lenOf pd__28_5bCI_5bBII_29I rfl) rfl (Nat.le_of_eq rfl) (hb hby d4_9) (fun _ _ => ⟨rfl, e1, (by decide : 1 + 0 ≤ _), (by decide : 1 + 0 ≤ _)⟩)
  dsimp only [Pt.U, Pt.locs, Pt.cells, Pt.slots] at X2 l2 y2 z2 st2 hQ2
  subst l2 y2 z2
  obtain ⟨rfl, Nq2, K2, P2_V⟩ := hQ2
  have N2 := Fr.app N0 Nq2
  have O := O.keep K2 (allS g_b1 all0)
  have V_vc := V_vc.keep K2 (ninS ne_vc_b1 nin0)
  have K := K.trans K2 (allS (Or.inr sz_b1) all0)
  have V_2 := P2_V
  refine Go.step st2 ?_
  show Go p e below _ (T2.setTop (mkF m 12 #[rv vc, iv (0 : Int32), iv (1 : Int32), rv b1, u_, u_] [(.int (1 : Int32))]))
  refine Go.step (S' := T2.setTop (mkF m 58 #[rv vc, iv (0 : Int32), iv (1 : Int32), rv b1, iv (1 : Int32), u_] [(.ref b1)])) (fun t k => ?_) ?_
  · refine XS.istore X2.here hx rfl (hb hby d4_12) rfl (l' := #[rv vc, iv (0 : Int32), iv (1 : Int32), rv b1, iv (1 : Int32), u_]) rfl ?_
    refine XS.iload X2.here hx rfl (hb hby d4_14) rfl ?_
    refine XS.iloadN X2.here hx rfl (hb hby d4_16) rfl ?_
    show Steps p.tables e below (T2.setTop (mkF m 17 #[rv vc, iv (0 : Int32), iv (1 : Int32), rv b1, iv (1 : Int32), u_] [(.int (1 : Int32)), (.int (1 : Int32))])) _
    refine XS.icmpYes X2.here hx rfl (pc0 := 17) (pc' := 57) rfl (hb hby d4_17) rfl (teq ((by decide) : (1 : Int32) = (1 : Int32))).1 (by decide) (by decide) ?_
    refine XS.aloadN X2.here hx rfl (hb hby d4_57) rfl rfl ?_
    exact k
  obtain ⟨fs, hr, hrun, hended, hW, hsame⟩ := X2.leave (v := some (.ref b1)) (fun h => by rw [Bd.returns] at h; cases h)
  refine Go.fin (S' := T2.setFrames fs) ?_ hrun hended ⟨_, _, rfl, ?_, ⟨_, rfl⟩, hW, hsame.mono (by decide) (by decide)⟩
  · exact retOut X2 hx Bd.returns rfl (Or.inr (Or.inr (Or.inr (Or.inr ⟨rfl, rfl, rfl⟩)))) (hb hby d4_58) hr
  · show Q_rmCm1 Z vc kc x0 h0 n0 (some (.ref b1)) T2.heap _
    exact ⟨b1, k1, rfl, N2, K, V_2⟩
abbrev y_2 : MethodName := ⟨"java/lang/StringUTF16", "coderFromArrayLen", "([BI)B"⟩
theorem d6_0 : decode jdk_52_method_15_code 0 = .ok (.iload_n 1, 1) := by decide +kernel
theorem d6_1 : decode jdk_52_method_15_code 1 = .ok (.aload_n 0, 1) := by decide +kernel
theorem d6_2 : decode jdk_52_method_15_code 2 = .ok (.arraylength, 1) := by decide +kernel
theorem d6_3 : decode jdk_52_method_15_code 3 = .ok (.isub, 1) := by decide +kernel
theorem d6_4 : decode jdk_52_method_15_code 4 = .ok (.bipush 31, 2) := by decide +kernel
theorem d6_6 : decode jdk_52_method_15_code 6 = .ok (.iushr, 1) := by decide +kernel
theorem d6_7 : decode jdk_52_method_15_code 7 = .ok (.i2b, 1) := by decide +kernel
theorem d6_8 : decode jdk_52_method_15_code 8 = .ok (.ireturn, 1) := by decide +kernel
theorem ef_rmCf1 (m : MethodId) (tb : Addr) : entryFrame m #[(.ref tb), (.int (1 : Int32))] 2 = mkF m 0 #[.val (.ref tb), .val (.int (1 : Int32))] [] := by first | (simp [entryFrame, mkF, argsToLocals, Value.category]; done) | rfl
abbrev rm_rmCf1 : Room := ({ frames := 0, cells := 0, slots := 0, locals := 0 } : Room)
def Q_rmCf1 (Z : State) (tb : Addr) (kb : ClassId) (x0 : Int32) (h0 : Heap) (n0 : Nat) (v : Option Value) (h : Heap) (L : List Loc) : Prop := (v = some (.int (0 : Int32))) ∧ (Fr n0 L) ∧ (h = h0)
set_option maxRecDepth 65536 in
set_option maxHeartbeats 4000000 in
theorem rmCf1 (l : Launch) (Z : State) (a0 : Array Value) (hw : ∀ d ∈ tables_1, d.before a0 Z = true) (ws : List Jvm.Cond) (tb : Addr) (kb : ClassId) (x0 : Int32) (h0 : Heap) (n0 : Nat) (O : Old Z n0 h0) (V_tb : Arv Z h0 tb kb .byte (1 : Int32) [(.int (x0.toInt8.toInt32))] (.int (0 : Int32))) :
    MetFree l y_2 (head1 (Jvm.Cond.code y_2 jdk_52_method_15_code 2 (some .byte) :: ws) rm_rmCf1) (fun A_ U => A_ = #[(.ref tb), (.int (1 : Int32))] ∧ Z.Warmed39 U.vm ∧ U.heap = h0) (fun _ _ _ _ _ => True) (fun _ U o U' => ∃ v L, o = .returned v ∧ Q_rmCf1 Z tb kb x0 h0 n0 v U'.heap L ∧ FrameEnd U o U' L rm_rmCf1.cells rm_rmCf1.slots) := by
  refine MetFree.of_bodySF (plainFor_of_name pn_java_lang_StringUTF16) hisR ?_
  intro p e s m args below meth c s₁ Bd hml0 hP hK
  obtain ⟨rfl, hZ, hh⟩ := hP
  have hx := Bd.exec
  have hby := Bd.bytes
  have hml : c.maxLocals = 2 := hml0
  have hown : s.vm.findClass "java/lang/StringUTF16" = some m.cls := findClass_of_methodNamed Bd.named
  have hnm := (name_of_methodNamed Bd.named Bd.method).1
  have X0 : Stand p l e rm_rmCf1 s m #[(.ref tb), (.int (1 : Int32))] below meth c s₁ [] 0 0 := Stand.of_body Bd
  have e0 : s₁.heap = h0 := by rw [← hh, Bd.state]; rfl
  have N0 := Fr.nil n0
  refine Go.step (p := p) (e := e) (below := below) (G := fun o U' => ∃ v L, o = .returned v ∧ Q_rmCf1 Z tb kb x0 h0 n0 v U'.heap L ∧ FrameEnd s o U' L rm_rmCf1.cells rm_rmCf1.slots) (S' := s₁.setTop (mkF m 0 #[rv tb, iv (1 : Int32)] [])) (fun t k => castTop (ef_rmCf1 m tb) k) ?_
  refine Go.step (S' := s₁.setTop (mkF m 2 #[rv tb, iv (1 : Int32)] [(.ref tb), (.int (1 : Int32))])) (fun t k => ?_) ?_
  · refine XS.iloadN X0.here hx rfl (hb hby d6_0) rfl ?_
    refine XS.aloadN X0.here hx rfl (hb hby d6_1) rfl rfl ?_
    exact k
  obtain ⟨cl1, Ar1, -, S1, N1_, -, -⟩ := id V_tb
  refine Go.step (S' := s₁.setTop (mkF m 3 #[rv tb, iv (1 : Int32)] [(.int cl1.slots.size.toInt32), (.int (1 : Int32))])) (fun t k => X0.arraylength hx (by rw [e0]; exact Ar1.1) (State.isArrayOf_alike hZ.alike Ar1.2.1) (g := (mkF m 2 #[rv tb, iv (1 : Int32)] [(.ref tb), (.int (1 : Int32))])) rfl rfl (hb hby d6_2) _ k) ?_
  rw [len_of S1 N1_]
  show Go p e below _ (s₁.setTop (mkF m 3 #[rv tb, iv (1 : Int32)] [(.int (1 : Int32)), (.int (1 : Int32))]))
  refine Go.step (S' := s₁.setTop (mkF m 4 #[rv tb, iv (1 : Int32)] [(.int ((1 : Int32) - (1 : Int32)))])) (fun t k => ?_) ?_
  · refine XS.isub X0.here hx rfl (hb hby d6_3) rfl ?_
    exact k
  rw [show ((1 : Int32) - (1 : Int32)) = (0 : Int32) from by decide]
  show Go p e below _ (s₁.setTop (mkF m 4 #[rv tb, iv (1 : Int32)] [(.int (0 : Int32))]))
  refine Go.step (S' := s₁.setTop (mkF m 7 #[rv tb, iv (1 : Int32)] [(.int (((0 : Int32).toUInt32 >>> ((31 : Int32) &&& 31).toUInt32).toInt32))])) (fun t k => ?_) ?_
  · refine XS.bipush X0.here hx rfl (hb hby d6_4) ?_
    refine XS.iushr X0.here hx rfl (hb hby d6_6) rfl ?_
    exact k
  rw [show (((0 : Int32).toUInt32 >>> ((31 : Int32) &&& 31).toUInt32).toInt32) = (0 : Int32) from by decide]
  show Go p e below _ (s₁.setTop (mkF m 7 #[rv tb, iv (1 : Int32)] [(.int (0 : Int32))]))
  refine Go.step (S' := s₁.setTop (mkF m 8 #[rv tb, iv (1 : Int32)] [(.int ((0 : Int32).toInt8.toInt32))])) (fun t k => ?_) ?_
  · refine XS.i2b X0.here hx rfl (hb hby d6_7) rfl ?_
    exact k
  rw [show ((0 : Int32).toInt8.toInt32) = (0 : Int32) from by decide]
  show Go p e below _ (s₁.setTop (mkF m 8 #[rv tb, iv (1 : Int32)] [(.int (0 : Int32))]))
  obtain ⟨fs, hr, hrun, hended, hW, hsame⟩ := X0.leave (v := some (.int (0 : Int32))) (fun h => by rw [Bd.returns] at h; cases h)
  refine Go.fin (S' := s₁.setFrames fs) ?_ hrun hended ⟨_, _, rfl, ?_, ⟨_, rfl⟩, hW, hsame.mono (by decide) (by decide)⟩
  · exact retOut X0 hx Bd.returns (by decide) (Or.inl ⟨rfl, Or.inr (Or.inr (Or.inl rfl)), _, rfl⟩) (hb hby d6_8) hr
  · show Q_rmCf1 Z tb kb x0 h0 n0 (some (.int (0 : Int32))) s₁.heap _
    rw [e0]
    exact ⟨rfl, N0, rfl⟩
abbrev y_3 : MethodName := ⟨"java/lang/String", "<init>", "([CIILjava/lang/Void;)V"⟩
theorem pn_java_lang_String : plainName "java/lang/String" = true := by first | (simp [plainName, overriddenIn]; done) | decide +kernel
theorem d2_0 : decode jdk_42_method_149_code 0 = .ok (.aload_n 0, 1) := by decide +kernel
theorem d2_1 : decode jdk_42_method_149_code 1 = .ok (.invokespecial 1, 3) := by decide +kernel
theorem d2_4 : decode jdk_42_method_149_code 4 = .ok (.iload_n 3, 1) := by decide +kernel
theorem d2_5 : decode jdk_42_method_149_code 5 = .ok (.ifCond .ne 22, 3) := by decide +kernel
theorem d2_27 : decode jdk_42_method_149_code 27 = .ok (.getstatic 38, 3) := by decide +kernel
theorem d2_30 : decode jdk_42_method_149_code 30 = .ok (.ifCond .eq 28, 3) := by decide +kernel
theorem d2_33 : decode jdk_42_method_149_code 33 = .ok (.aload_n 1, 1) := by decide +kernel
theorem d2_34 : decode jdk_42_method_149_code 34 = .ok (.iload_n 2, 1) := by decide +kernel
theorem d2_35 : decode jdk_42_method_149_code 35 = .ok (.iload_n 3, 1) := by decide +kernel
theorem d2_36 : decode jdk_42_method_149_code 36 = .ok (.invokestatic 177, 3) := by decide +kernel
theorem pd__28_5bCII_29_5bB : parseMethodDescriptor "([CII)[B" = some ⟨[(.array .char), .int, .int], some (.array .byte)⟩ := by decide +kernel
theorem d2_39 : decode jdk_42_method_149_code 39 = .ok (.astore 5, 2) := by decide +kernel
theorem d2_41 : decode jdk_42_method_149_code 41 = .ok (.aload_n 0, 1) := by decide +kernel
theorem d2_42 : decode jdk_42_method_149_code 42 = .ok (.aload 5, 2) := by decide +kernel
theorem d2_44 : decode jdk_42_method_149_code 44 = .ok (.iload_n 3, 1) := by decide +kernel
theorem d2_45 : decode jdk_42_method_149_code 45 = .ok (.invokestatic 47, 3) := by decide +kernel
theorem pd__28_5bBI_29B : parseMethodDescriptor "([BI)B" = some ⟨[(.array .byte), .int], some .byte⟩ := by decide +kernel
theorem d2_48 : decode jdk_42_method_149_code 48 = .ok (.putfield 15, 3) := by decide +kernel
theorem d2_51 : decode jdk_42_method_149_code 51 = .ok (.aload_n 0, 1) := by decide +kernel
theorem d2_52 : decode jdk_42_method_149_code 52 = .ok (.aload 5, 2) := by decide +kernel
theorem d2_54 : decode jdk_42_method_149_code 54 = .ok (.putfield 9, 3) := by decide +kernel
theorem d2_57 : decode jdk_42_method_149_code 57 = .ok (.return_, 1) := by decide +kernel
theorem ef_rmN4_1 (m : MethodId) (so : Addr) (vc : Addr) : entryFrame m #[(.ref so), (.ref vc), (.int (0 : Int32)), (.int (1 : Int32)), .null] 6 = mkF m 0 #[.val (.ref so), .val (.ref vc), .val (.int (0 : Int32)), .val (.int (1 : Int32)), .val .null, .unset] [] := by first | (simp [entryFrame, mkF, argsToLocals, Value.category]; done) | rfl
abbrev rm_rmN4_1 : Room := ({ frames := 2, cells := 1, slots := 1, locals := 35 } : Room)
def Q_rmN4_1 (Z : State) (so : Addr) (vc : Addr) (kc : ClassId) (cs : Int32) (x0 : Int32) (h0 : Heap) (n0 : Nat) (v : Option Value) (h : Heap) (L : List Loc) : Prop := ∃ tb : Addr, ∃ kb : ClassId, (v = none) ∧ (Fr n0 L) ∧ (Keep h0 h [so]) ∧ (Exa Z h so "java/lang/String") ∧ (Fld Z h so "java/lang/String" "value" "[B" (.ref tb)) ∧ (Fld Z h so "java/lang/String" "coder" "B" (.int (0 : Int32))) ∧ (Arv Z h tb kb .byte (1 : Int32) [(.int (x0.toInt8.toInt32))] (.int (0 : Int32)))
set_option maxRecDepth 65536 in
set_option maxHeartbeats 4000000 in
theorem rmN4_1 (l : Launch) (Z : State) (a0 : Array Value) (hw : ∀ d ∈ tables_1, d.before a0 Z = true) (ws : List Jvm.Cond) (so : Addr) (vc : Addr) (kc : ClassId) (cs : Int32) (x0 : Int32) (h0 : Heap) (n0 : Nat) (O : Old Z n0 h0) (S_CS : Sta Z Z.heap "java/lang/String" "COMPACT_STRINGS" "Z" (.int cs)) (E_so : Exa Z h0 so "java/lang/String") (F_v : Fld Z h0 so "java/lang/String" "value" "[B" .null) (F_c : Fld Z h0 so "java/lang/String" "coder" "B" (.int (0 : Int32))) (V_vc : Arv Z h0 vc kc .char (1 : Int32) [(.int x0)] (.int (0 : Int32))) (g_so : n0 ≤ so) (hcs : ¬ (cs = (0 : Int32))) (u0 : ¬ ((255 : Int32) < x0)) :
    MetFree l y_3 (head1 (Jvm.Cond.code y_3 jdk_42_method_149_code 6 none :: ws) rm_rmN4_1) (fun A_ U => A_ = #[(.ref so), (.ref vc), (.int (0 : Int32)), (.int (1 : Int32)), .null] ∧ Z.Warmed39 U.vm ∧ U.heap = h0) (fun _ _ _ _ _ => True) (fun _ U o U' => ∃ v L, o = .returned v ∧ Q_rmN4_1 Z so vc kc cs x0 h0 n0 v U'.heap L ∧ FrameEnd U o U' L rm_rmN4_1.cells rm_rmN4_1.slots) := by
  refine MetFree.of_bodySF (plainFor_of_name pn_java_lang_String) hisR ?_
  intro p e s m args below meth c s₁ Bd hml0 hP hK
  obtain ⟨rfl, hZ, hh⟩ := hP
  have hx := Bd.exec
  have hby := Bd.bytes
  have hml : c.maxLocals = 6 := hml0
  have hown : s.vm.findClass "java/lang/String" = some m.cls := findClass_of_methodNamed Bd.named
  have hnm := (name_of_methodNamed Bd.named Bd.method).1
  have X0 : Stand p l e rm_rmN4_1 s m #[(.ref so), (.ref vc), (.int (0 : Int32)), (.int (1 : Int32)), .null] below meth c s₁ [] 0 0 := Stand.of_body Bd
  have e0 : s₁.heap = h0 := by rw [← hh, Bd.state]; rfl
  have N0 := Fr.nil n0
  have K := Keep.refl h0 [so]
  refine Go.step (p := p) (e := e) (below := below) (G := fun o U' => ∃ v L, o = .returned v ∧ Q_rmN4_1 Z so vc kc cs x0 h0 n0 v U'.heap L ∧ FrameEnd s o U' L rm_rmN4_1.cells rm_rmN4_1.slots) (S' := s₁.setTop (mkF m 0 #[rv so, rv vc, iv (0 : Int32), iv (1 : Int32), .val .null, u_] [])) (fun t k => castTop (ef_rmN4_1 m so vc) k) ?_
  refine Go.step (S' := s₁.setTop (mkF m 1 #[rv so, rv vc, iv (0 : Int32), iv (1 : Int32), .val .null, u_] [(.ref so)])) (fun t k => ?_) ?_
  · refine XS.aloadN X0.here hx rfl (hb hby d2_0) rfl rfl ?_
    exact k
  obtain ⟨T1, X1, e1, st1⟩ := initO X0 hx hZ hown (own_w hw 12 rfl) (own_w hw 13 rfl) (own_w hw 14 rfl) e0 (g := (mkF m 1 #[rv so, rv vc, iv (0 : Int32), iv (1 : Int32), .val .null, u_] [(.ref so)])) rfl (by rw [hml]; rfl) rfl (hb hby d2_1) (by decide) (W := 0) (by show 2 * 0 + _ ≤ _; exact Nat.le_of_eq rfl) (by decide)
  refine Go.step st1 ?_
  show Go p e below _ (T1.setTop (mkF m 4 #[rv so, rv vc, iv (0 : Int32), iv (1 : Int32), .val .null, u_] []))
  refine Go.step (S' := T1.setTop (mkF m 27 #[rv so, rv vc, iv (0 : Int32), iv (1 : Int32), .val .null, u_] [])) (fun t k => ?_) ?_
  · refine XS.iloadN X1.here hx rfl (hb hby d2_4) rfl ?_
    refine XS.ifYes X1.here hx rfl (pc0 := 5) (pc' := 27) rfl (hb hby d2_5) rfl ((if0 _ _).trans (feq ((by decide) : ¬ ((1 : Int32) = (0 : Int32)))).2) (by decide) (by decide) ?_
    exact k
  obtain ⟨T2, X2, e2, st2⟩ := getS2 X1 hx hZ hown (host := "") (Or.inl (own_w hw 15 rfl)) Via.refl e1 (S_CS.ext O.2) (g := (mkF m 27 #[rv so, rv vc, iv (0 : Int32), iv (1 : Int32), .val .null, u_] [])) rfl (hb hby d2_27)
  refine Go.step st2 ?_
  show Go p e below _ (T2.setTop (mkF m 30 #[rv so, rv vc, iv (0 : Int32), iv (1 : Int32), .val .null, u_] [(.int cs)]))
  refine Go.step (S' := T2.setTop (mkF m 36 #[rv so, rv vc, iv (0 : Int32), iv (1 : Int32), .val .null, u_] [(.int (1 : Int32)), (.int (0 : Int32)), (.ref vc)])) (fun t k => ?_) ?_
  · refine XS.ifNo X2.here hx rfl (hb hby d2_30) rfl ((if0 _ _).trans (feq (hcs : ¬ (cs = (0 : Int32)))).1) ?_
    refine XS.aloadN X2.here hx rfl (hb hby d2_33) rfl rfl ?_
    refine XS.iloadN X2.here hx rfl (hb hby d2_34) rfl ?_
    show Steps p.tables e below (T2.setTop (mkF m 35 #[rv so, rv vc, iv (0 : Int32), iv (1 : Int32), .val .null, u_] [(.int (0 : Int32)), (.ref vc)])) _
    refine XS.iloadN X2.here hx rfl (hb hby d2_35) rfl ?_
    exact k
  obtain ⟨_, _, ⟨T3, L3, k3, n3⟩, -, X3, ⟨Lc3, hQ3, l3, y3, z3⟩, st3⟩ := Jvm.LawKit.callS X2 hx (y := y_1) hown (mvT hZ (own_w hw 16 rfl)) (mvT hZ (own_w hw 17 rfl)) (mvT hZ (own_w hw 18 rfl)) (mvT hZ (own_w hw 19 rfl)) (by decide) (backOf (W := 0) (rmCm1 l Z a0 hw [] vc kc x0 h0 n0 O V_vc u0) hZ (own_w hw 19 rfl) (own_w hw 18 rfl) (by decide) (by decide)) (g := (mkF m 36 #[rv so, rv vc, iv (0 : Int32), iv (1 : Int32), .val .null, u_] [(.int (1 : Int32)), (.int (0 : Int32)), (.ref vc)])) rfl (by rw [hml]; rfl) (argsL := [(.ref vc), (.int (0 : Int32)), (.int (1 : Int32))]) (rest := []) (lenOf pd__28_5bCII_29_5bB rfl) rfl (Nat.le_of_eq rfl) (hb hby d2_36) (fun _ _ => ⟨rfl, e2, (by decide : 0 + 1 ≤ _), (by decide : 0 + 1 ≤ _)⟩)
  dsimp only [Pt.U, Pt.locs, Pt.cells, Pt.slots] at X3 l3 y3 z3 st3 hQ3
  subst l3 y3 z3
  obtain ⟨b_3, kb_3, rfl, Nq3, K3, P3_V⟩ := hQ3
  have N3 := Fr.app N0 Nq3
  have O := O.keep K3 all0
  have E_so := E_so.keep K3
  have F_v := F_v.keep K3 nin0
  have F_c := F_c.keep K3 nin0
  have V_vc := V_vc.keep K3 nin0
  have K := K.trans K3 all0
  have V_3 := P3_V
  refine Go.step st3 ?_
  show Go p e below _ (T3.setTop (mkF m 39 #[rv so, rv vc, iv (0 : Int32), iv (1 : Int32), .val .null, u_] [(.ref b_3)]))
  refine Go.step (S' := T3.setTop (mkF m 45 #[rv so, rv vc, iv (0 : Int32), iv (1 : Int32), .val .null, rv b_3] [(.int (1 : Int32)), (.ref b_3), (.ref so)])) (fun t k => ?_) ?_
  · refine XS.astore X3.here hx rfl (hb hby d2_39) rfl rfl (l' := #[rv so, rv vc, iv (0 : Int32), iv (1 : Int32), .val .null, rv b_3]) rfl ?_
    refine XS.aloadN X3.here hx rfl (hb hby d2_41) rfl rfl ?_
    refine XS.aload X3.here hx rfl (hb hby d2_42) rfl rfl ?_
    show Steps p.tables e below (T3.setTop (mkF m 44 #[rv so, rv vc, iv (0 : Int32), iv (1 : Int32), .val .null, rv b_3] [(.ref b_3), (.ref so)])) _
    refine XS.iloadN X3.here hx rfl (hb hby d2_44) rfl ?_
    exact k
  obtain ⟨_, _, ⟨T4, L4, k4, n4⟩, -, X4, ⟨Lc4, hQ4, l4, y4, z4⟩, st4⟩ := Jvm.LawKit.callS X3 hx (y := y_2) hown (mvT hZ (own_w hw 24 rfl)) (mvT hZ (own_w hw 25 rfl)) (mvT hZ (own_w hw 18 rfl)) (mvT hZ (own_w hw 26 rfl)) (by decide) (backOf (W := 1) (rmCf1 l Z a0 hw [] b_3 kb_3 x0 T3.heap n0 O V_3) hZ (own_w hw 26 rfl) (own_w hw 18 rfl) (by decide) (by decide)) (g := (mkF m 45 #[rv so, rv vc, iv (0 : Int32), iv (1 : Int32), .val .null, rv b_3] [(.int (1 : Int32)), (.ref b_3), (.ref so)])) rfl (by rw [hml]; rfl) (argsL := [(.ref b_3), (.int (1 : Int32))]) (rest := [(.ref so)]) (lenOf pd__28_5bBI_29B rfl) rfl (Nat.le_of_eq rfl) (hb hby d2_45) (fun _ _ => ⟨rfl, (Eq.refl T3.heap), (by decide : 1 + 0 ≤ _), (by decide : 1 + 0 ≤ _)⟩)
  dsimp only [Pt.U, Pt.locs, Pt.cells, Pt.slots] at X4 l4 y4 z4 st4 hQ4
  subst l4 y4 z4
  obtain ⟨rfl, Nq4, e4⟩ := hQ4
  have N4 := Fr.app N3 Nq4
  refine Go.step st4 ?_
  show Go p e below _ (T4.setTop (mkF m 48 #[rv so, rv vc, iv (0 : Int32), iv (1 : Int32), .val .null, rv b_3] [(.int (0 : Int32)), (.ref so)]))
  obtain ⟨T5, h5, X5, e5, W5, st5⟩ := putFN X4 hx hZ hown (own_w hw 27 rfl) Via.refl e4 F_c E_so (Or.inr ⟨(own_w hw 28 rfl), rfl, hnm⟩) (own_w hw 3 rfl) (ty := .byte) (v' := (.int (0 : Int32))) (by decide) rfl rfl (g := (mkF m 48 #[rv so, rv vc, iv (0 : Int32), iv (1 : Int32), .val .null, rv b_3] [(.int (0 : Int32)), (.ref so)])) rfl rfl (hb hby d2_48)
  have ne_vc_so : vc ≠ so := Ne.symm (Exa.neArv E_so V_vc (own_w hw 3 rfl))
  have ne_b_3_so : b_3 ≠ so := Ne.symm (Exa.neArv E_so V_3 (own_w hw 3 rfl))
  have O := O.wr W5 g_so
  have E_so := E_so.wr W5
  have F_v := F_v.other W5 (Or.inr (slot_ne (Or.inr (own_w hw 30 rfl)) (Or.inr (own_w hw 28 rfl)) (by decide) (t := (.array .byte)) (t' := .byte) (by decide) (by decide)))
  have F_c := F_c.same W5
  have V_vc := V_vc.other W5 ne_vc_so
  have K := K.wr W5 (Or.inl (List.mem_of_getElem? (i := 0) rfl))
  have V_3 := V_3.other W5 ne_b_3_so
  have N5 := Fr.snoc X5 N4 g_so
  refine Go.step st5 ?_
  show Go p e below _ (T5.setTop (mkF m 51 #[rv so, rv vc, iv (0 : Int32), iv (1 : Int32), .val .null, rv b_3] []))
  refine Go.step (S' := T5.setTop (mkF m 54 #[rv so, rv vc, iv (0 : Int32), iv (1 : Int32), .val .null, rv b_3] [(.ref b_3), (.ref so)])) (fun t k => ?_) ?_
  · refine XS.aloadN X5.here hx rfl (hb hby d2_51) rfl rfl ?_
    refine XS.aload X5.here hx rfl (hb hby d2_52) rfl rfl ?_
    exact k
  obtain ⟨T6, h6, X6, e6, W6, st6⟩ := putF X5 hx hZ hown (host := "") (Or.inl (own_w hw 29 rfl)) Via.refl e5 F_v E_so (Or.inr ⟨(own_w hw 30 rfl), rfl, hnm⟩) (own_w hw 3 rfl) (ty := (.array .byte)) (by decide) rfl rfl (g := (mkF m 54 #[rv so, rv vc, iv (0 : Int32), iv (1 : Int32), .val .null, rv b_3] [(.ref b_3), (.ref so)])) rfl rfl (hb hby d2_54)
  have O := O.wr W6 g_so
  have E_so := E_so.wr W6
  have F_v := F_v.same W6
  have F_c := F_c.other W6 (Or.inr (slot_ne (Or.inr (own_w hw 28 rfl)) (Or.inr (own_w hw 30 rfl)) (by decide) (t := .byte) (t' := (.array .byte)) (by decide) (by decide)))
  have V_vc := V_vc.other W6 ne_vc_so
  have K := K.wr W6 (Or.inl (List.mem_of_getElem? (i := 0) rfl))
  have V_3 := V_3.other W6 ne_b_3_so
  have N6 := Fr.snoc X6 N5 g_so
  refine Go.step st6 ?_
  show Go p e below _ (T6.setTop (mkF m 57 #[rv so, rv vc, iv (0 : Int32), iv (1 : Int32), .val .null, rv b_3] []))
  obtain ⟨fs, hr, hrun, hended, hW, hsame⟩ := X6.leave (v := none) (fun _ => rfl)
  refine Go.fin (S' := T6.setFrames fs) ?_ hrun hended ⟨_, _, rfl, ?_, ⟨_, rfl⟩, hW, hsame.mono (by decide) (by decide)⟩
  · exact X6.returnOut hx Bd.returns (hb hby d2_57) hr
  · show Q_rmN4_1 Z so vc kc cs x0 h0 n0 (none) T6.heap _
    rw [e6]
    exact ⟨b_3, kb_3, rfl, N6, K, E_so, F_v, F_c, V_3⟩
abbrev y_4 : MethodName := ⟨"java/lang/String", "<init>", "([C)V"⟩
theorem d1_0 : decode jdk_42_method_3_code 0 = .ok (.aload_n 0, 1) := by decide +kernel
theorem d1_1 : decode jdk_42_method_3_code 1 = .ok (.aload_n 1, 1) := by decide +kernel
theorem d1_2 : decode jdk_42_method_3_code 2 = .ok (.iconst 0, 1) := by decide +kernel
theorem d1_3 : decode jdk_42_method_3_code 3 = .ok (.aload_n 1, 1) := by decide +kernel
theorem d1_4 : decode jdk_42_method_3_code 4 = .ok (.arraylength, 1) := by decide +kernel
theorem d1_5 : decode jdk_42_method_3_code 5 = .ok (.aconst_null, 1) := by decide +kernel
theorem d1_6 : decode jdk_42_method_3_code 6 = .ok (.invokespecial 27, 3) := by decide +kernel
theorem pd__28_5bCIILjava_2flang_2fVoid_3b_29V : parseMethodDescriptor "([CIILjava/lang/Void;)V" = some ⟨[(.array .char), .int, .int, (.object "java/lang/Void")], none⟩ := by decide +kernel
theorem d1_9 : decode jdk_42_method_3_code 9 = .ok (.return_, 1) := by decide +kernel
theorem ef_rmNS1 (m : MethodId) (so : Addr) (vc : Addr) : entryFrame m #[(.ref so), (.ref vc)] 2 = mkF m 0 #[.val (.ref so), .val (.ref vc)] [] := by first | (simp [entryFrame, mkF, argsToLocals, Value.category]; done) | rfl
abbrev rm_rmNS1 : Room := ({ frames := 3, cells := 1, slots := 1, locals := 52 } : Room)
def Q_rmNS1 (Z : State) (so : Addr) (vc : Addr) (kc : ClassId) (cs : Int32) (x0 : Int32) (h0 : Heap) (n0 : Nat) (v : Option Value) (h : Heap) (L : List Loc) : Prop := ∃ tb : Addr, ∃ kb : ClassId, (v = none) ∧ (Fr n0 L) ∧ (Keep h0 h [so]) ∧ (Exa Z h so "java/lang/String") ∧ (Fld Z h so "java/lang/String" "value" "[B" (.ref tb)) ∧ (Fld Z h so "java/lang/String" "coder" "B" (.int (0 : Int32))) ∧ (Arv Z h tb kb .byte (1 : Int32) [(.int (x0.toInt8.toInt32))] (.int (0 : Int32)))
set_option maxRecDepth 65536 in
set_option maxHeartbeats 4000000 in
theorem rmNS1 (l : Launch) (Z : State) (a0 : Array Value) (hw : ∀ d ∈ tables_1, d.before a0 Z = true) (ws : List Jvm.Cond) (so : Addr) (vc : Addr) (kc : ClassId) (cs : Int32) (x0 : Int32) (h0 : Heap) (n0 : Nat) (O : Old Z n0 h0) (S_CS : Sta Z Z.heap "java/lang/String" "COMPACT_STRINGS" "Z" (.int cs)) (E_so : Exa Z h0 so "java/lang/String") (F_v : Fld Z h0 so "java/lang/String" "value" "[B" .null) (F_c : Fld Z h0 so "java/lang/String" "coder" "B" (.int (0 : Int32))) (V_vc : Arv Z h0 vc kc .char (1 : Int32) [(.int x0)] (.int (0 : Int32))) (g_so : n0 ≤ so) (hcs : ¬ (cs = (0 : Int32))) (u0 : ¬ ((255 : Int32) < x0)) :
    MetFree l y_4 (head1 (Jvm.Cond.code y_4 jdk_42_method_3_code 2 none :: ws) rm_rmNS1) (fun A_ U => A_ = #[(.ref so), (.ref vc)] ∧ Z.Warmed39 U.vm ∧ U.heap = h0) (fun _ _ _ _ _ => True) (fun _ U o U' => ∃ v L, o = .returned v ∧ Q_rmNS1 Z so vc kc cs x0 h0 n0 v U'.heap L ∧ FrameEnd U o U' L rm_rmNS1.cells rm_rmNS1.slots) := by
  refine MetFree.of_bodySF (plainFor_of_name pn_java_lang_String) hisR ?_
  intro p e s m args below meth c s₁ Bd hml0 hP hK
  obtain ⟨rfl, hZ, hh⟩ := hP
  have hx := Bd.exec
  have hby := Bd.bytes
  have hml : c.maxLocals = 2 := hml0
  have hown : s.vm.findClass "java/lang/String" = some m.cls := findClass_of_methodNamed Bd.named
  have hnm := (name_of_methodNamed Bd.named Bd.method).1
  have X0 : Stand p l e rm_rmNS1 s m #[(.ref so), (.ref vc)] below meth c s₁ [] 0 0 := Stand.of_body Bd
  have e0 : s₁.heap = h0 := by rw [← hh, Bd.state]; rfl
  have N0 := Fr.nil n0
  have K := Keep.refl h0 [so]
  refine Go.step (p := p) (e := e) (below := below) (G := fun o U' => ∃ v L, o = .returned v ∧ Q_rmNS1 Z so vc kc cs x0 h0 n0 v U'.heap L ∧ FrameEnd s o U' L rm_rmNS1.cells rm_rmNS1.slots) (S' := s₁.setTop (mkF m 0 #[rv so, rv vc] [])) (fun t k => castTop (ef_rmNS1 m so vc) k) ?_
  refine Go.step (S' := s₁.setTop (mkF m 4 #[rv so, rv vc] [(.ref vc), (.int (0 : Int32)), (.ref vc), (.ref so)])) (fun t k => ?_) ?_
  · refine XS.aloadN X0.here hx rfl (hb hby d1_0) rfl rfl ?_
    refine XS.aloadN X0.here hx rfl (hb hby d1_1) rfl rfl ?_
    refine XS.iconst X0.here hx rfl (hb hby d1_2) ?_
    show Steps p.tables e below (s₁.setTop (mkF m 3 #[rv so, rv vc] [(.int (0 : Int32)), (.ref vc), (.ref so)])) _
    refine XS.aloadN X0.here hx rfl (hb hby d1_3) rfl rfl ?_
    exact k
  obtain ⟨cl1, Ar1, -, S1, N1_, -, -⟩ := id V_vc
  refine Go.step (S' := s₁.setTop (mkF m 5 #[rv so, rv vc] [(.int cl1.slots.size.toInt32), (.int (0 : Int32)), (.ref vc), (.ref so)])) (fun t k => X0.arraylength hx (by rw [e0]; exact Ar1.1) (State.isArrayOf_alike hZ.alike Ar1.2.1) (g := (mkF m 4 #[rv so, rv vc] [(.ref vc), (.int (0 : Int32)), (.ref vc), (.ref so)])) rfl rfl (hb hby d1_4) _ k) ?_
  rw [len_of S1 N1_]
  show Go p e below _ (s₁.setTop (mkF m 5 #[rv so, rv vc] [(.int (1 : Int32)), (.int (0 : Int32)), (.ref vc), (.ref so)]))
  refine Go.step (S' := s₁.setTop (mkF m 6 #[rv so, rv vc] [.null, (.int (1 : Int32)), (.int (0 : Int32)), (.ref vc), (.ref so)])) (fun t k => ?_) ?_
  · refine XS.aconstNull X0.here hx rfl (hb hby d1_5) ?_
    exact k
  obtain ⟨_, _, ⟨T2, L2, k2, n2⟩, -, X2, ⟨Lc2, hQ2, l2, y2, z2⟩, st2⟩ := X0.specialBack hx (y := y_3) rfl hown (mvT hZ (own_w hw 8 rfl)) (mvT hZ (own_w hw 9 rfl)) (mvT hZ (own_w hw 11 rfl)) (by decide) (backOf (W := 0) (rmN4_1 l Z a0 hw [] so vc kc cs x0 h0 n0 O S_CS E_so F_v F_c V_vc (by assumption) hcs u0) hZ (own_w hw 11 rfl) (own_w hw 4 rfl) (by decide) (by decide)) (g := (mkF m 6 #[rv so, rv vc] [.null, (.int (1 : Int32)), (.int (0 : Int32)), (.ref vc), (.ref so)])) rfl (by rw [hml]; rfl) (Steps.refl _) (a := so) (argsL := [(.ref vc), (.int (0 : Int32)), (.int (1 : Int32)), .null]) (rest := []) (lenOf pd__28_5bCIILjava_2flang_2fVoid_3b_29V rfl) rfl (Nat.le_of_eq rfl) (hb hby d1_6) (fun _ _ => ⟨rfl, e0, (by decide : 0 + 1 ≤ _), (by decide : 0 + 1 ≤ _)⟩)
  dsimp only [Pt.U, Pt.locs, Pt.cells, Pt.slots] at X2 l2 y2 z2 st2 hQ2
  subst l2 y2 z2
  obtain ⟨tb_2, kb_2, rfl, Nq2, K2, P2_E, P2_Fv, P2_Fc, P2_V⟩ := hQ2
  have N2 := Fr.app N0 Nq2
  have ne_vc_so : vc ≠ so := Ne.symm (Exa.neArv E_so V_vc (own_w hw 3 rfl))
  have O := O.keep K2 (allS g_so all0)
  have E_so := E_so.keep K2
  have V_vc := V_vc.keep K2 (ninS ne_vc_so nin0)
  have K := K.trans K2 (allS (Or.inl (List.mem_of_getElem? (i := 0) rfl)) all0)
  have E_2 := P2_E
  have Fv_2 := P2_Fv
  have Fc_2 := P2_Fc
  have V_2 := P2_V
  refine Go.step (fun t k => st2.trans k) ?_
  show Go p e below _ (T2.setTop (mkF m 9 #[rv so, rv vc] []))
  obtain ⟨fs, hr, hrun, hended, hW, hsame⟩ := X2.leave (v := none) (fun _ => rfl)
  refine Go.fin (S' := T2.setFrames fs) ?_ hrun hended ⟨_, _, rfl, ?_, ⟨_, rfl⟩, hW, hsame.mono (by decide) (by decide)⟩
  · exact X2.returnOut hx Bd.returns (hb hby d1_9) hr
  · show Q_rmNS1 Z so vc kc cs x0 h0 n0 (none) T2.heap _
    exact ⟨tb_2, kb_2, rfl, N2, K, E_so, Fv_2, Fc_2, V_2⟩
theorem ef_rmCl2 (m : MethodId) (vc : Addr) (db : Addr) : entryFrame m #[(.ref vc), (.int (0 : Int32)), (.ref db), (.int (0 : Int32)), (.int (2 : Int32))] 7 = mkF m 0 #[.val (.ref vc), .val (.int (0 : Int32)), .val (.ref db), .val (.int (0 : Int32)), .val (.int (2 : Int32)), .unset, .unset] [] := by first | (simp [entryFrame, mkF, argsToLocals, Value.category]; done) | rfl
abbrev rm_rmCl2 : Room := ({ frames := 0, cells := 0, slots := 0, locals := 0 } : Room)
def Q_rmCl2 (Z : State) (vc : Addr) (db : Addr) (kc : ClassId) (kb : ClassId) (x0 : Int32) (x1 : Int32) (h0 : Heap) (n0 : Nat) (v : Option Value) (h : Heap) (L : List Loc) : Prop := (v = some (.int (2 : Int32))) ∧ (Fr n0 L) ∧ (Keep h0 h [db]) ∧ (Arv Z h db kb .byte (2 : Int32) [(.int (x0.toInt8.toInt32)), (.int (x1.toInt8.toInt32))] (.int (0 : Int32)))
set_option maxRecDepth 65536 in
set_option maxHeartbeats 4000000 in
theorem rmCl2 (l : Launch) (Z : State) (a0 : Array Value) (hw : ∀ d ∈ tables_1, d.before a0 Z = true) (ws : List Jvm.Cond) (vc : Addr) (db : Addr) (kc : ClassId) (kb : ClassId) (x0 : Int32) (x1 : Int32) (h0 : Heap) (n0 : Nat) (O : Old Z n0 h0) (V_vc : Arv Z h0 vc kc .char (2 : Int32) [(.int x0), (.int x1)] (.int (0 : Int32))) (V_db : Arv Z h0 db kb .byte (2 : Int32) [(.int (0 : Int32)), (.int (0 : Int32))] (.int (0 : Int32))) (g_db : n0 ≤ db) (ne_vc_db : vc ≠ db) (u0 : ¬ ((255 : Int32) < x0)) (u1 : ¬ ((255 : Int32) < x1)) :
    MetFree l y_0 (head1 (Jvm.Cond.code y_0 jdk_52_method_21_code 7 (some .int) :: ws) rm_rmCl2) (fun A_ U => A_ = #[(.ref vc), (.int (0 : Int32)), (.ref db), (.int (0 : Int32)), (.int (2 : Int32))] ∧ Z.Warmed39 U.vm ∧ U.heap = h0) (fun _ _ _ _ _ => True) (fun _ U o U' => ∃ v L, o = .returned v ∧ Q_rmCl2 Z vc db kc kb x0 x1 h0 n0 v U'.heap L ∧ FrameEnd U o U' L rm_rmCl2.cells rm_rmCl2.slots) := by
  refine MetFree.of_bodySF (plainFor_of_name pn_java_lang_StringUTF16) hisR ?_
  intro p e s m args below meth c s₁ Bd hml0 hP hK
  obtain ⟨rfl, hZ, hh⟩ := hP
  have hx := Bd.exec
  have hby := Bd.bytes
  have hml : c.maxLocals = 7 := hml0
  have hown : s.vm.findClass "java/lang/StringUTF16" = some m.cls := findClass_of_methodNamed Bd.named
  have hnm := (name_of_methodNamed Bd.named Bd.method).1
  have X0 : Stand p l e rm_rmCl2 s m #[(.ref vc), (.int (0 : Int32)), (.ref db), (.int (0 : Int32)), (.int (2 : Int32))] below meth c s₁ [] 0 0 := Stand.of_body Bd
  have e0 : s₁.heap = h0 := by rw [← hh, Bd.state]; rfl
  have N0 := Fr.nil n0
  have K := Keep.refl h0 [db]
  refine Go.step (p := p) (e := e) (below := below) (G := fun o U' => ∃ v L, o = .returned v ∧ Q_rmCl2 Z vc db kc kb x0 x1 h0 n0 v U'.heap L ∧ FrameEnd s o U' L rm_rmCl2.cells rm_rmCl2.slots) (S' := s₁.setTop (mkF m 0 #[rv vc, iv (0 : Int32), rv db, iv (0 : Int32), iv (2 : Int32), u_, u_] [])) (fun t k => castTop (ef_rmCl2 m vc db) k) ?_
  refine Go.step (S' := s₁.setTop (mkF m 12 #[rv vc, iv (0 : Int32), rv db, iv (0 : Int32), iv (2 : Int32), iv (0 : Int32), u_] [(.int (0 : Int32)), (.ref vc)])) (fun t k => ?_) ?_
  · refine XS.iconst X0.here hx rfl (hb hby d5_0) ?_
    refine XS.istore X0.here hx rfl (hb hby d5_1) rfl (l' := #[rv vc, iv (0 : Int32), rv db, iv (0 : Int32), iv (2 : Int32), iv (0 : Int32), u_]) rfl ?_
    refine XS.iload X0.here hx rfl (hb hby d5_3) rfl ?_
    show Steps p.tables e below (s₁.setTop (mkF m 5 #[rv vc, iv (0 : Int32), rv db, iv (0 : Int32), iv (2 : Int32), iv (0 : Int32), u_] [(.int (0 : Int32))])) _
    refine XS.iload X0.here hx rfl (hb hby d5_5) rfl ?_
    refine XS.icmpNo X0.here hx rfl (hb hby d5_7) rfl (tlt ((by decide) : (0 : Int32) < (2 : Int32))).2.1 ?_
    refine XS.aloadN X0.here hx rfl (hb hby d5_10) rfl rfl ?_
    show Steps p.tables e below (s₁.setTop (mkF m 11 #[rv vc, iv (0 : Int32), rv db, iv (0 : Int32), iv (2 : Int32), iv (0 : Int32), u_] [(.ref vc)])) _
    refine XS.iloadN X0.here hx rfl (hb hby d5_11) rfl ?_
    exact k
  obtain ⟨cl1, Ar1, -, S1, -, H1, -⟩ := id V_vc
  have hin1 : ¬ ((0 : Int32) < 0 ∨ cl1.slots.size ≤ ((0 : Int32)).toNatClampNeg) := inb_of S1 ⟨by decide, by decide⟩
  refine Go.step (S' := s₁.setTop (mkF m 13 #[rv vc, iv (0 : Int32), rv db, iv (0 : Int32), iv (2 : Int32), iv (0 : Int32), u_] [(.int x0)])) (fun t k => X0.caload hx (j := (0 : Int32)) (v := (.int x0)) (by rw [e0]; exact Ar1.1) (State.isArrayOf_alike hZ.alike Ar1.2.1) Ar1.2.2 hin1 (H1.at hin1 rfl) (g := (mkF m 12 #[rv vc, iv (0 : Int32), rv db, iv (0 : Int32), iv (2 : Int32), iv (0 : Int32), u_] [(.int (0 : Int32)), (.ref vc)])) rfl rfl (hb hby d5_12) _ k) ?_
  refine Go.step (S' := s₁.setTop (mkF m 31 #[rv vc, iv (0 : Int32), rv db, iv (0 : Int32), iv (2 : Int32), iv (0 : Int32), iv x0] [(.int (x0.toInt8.toInt32)), (.int (0 : Int32)), (.ref db)])) (fun t k => ?_) ?_
  · refine XS.istore X0.here hx rfl (hb hby d5_13) rfl (l' := #[rv vc, iv (0 : Int32), rv db, iv (0 : Int32), iv (2 : Int32), iv (0 : Int32), iv x0]) rfl ?_
    refine XS.iload X0.here hx rfl (hb hby d5_15) rfl ?_
    refine XS.sipush X0.here hx rfl (hb hby d5_17) ?_
    show Steps p.tables e below (s₁.setTop (mkF m 20 #[rv vc, iv (0 : Int32), rv db, iv (0 : Int32), iv (2 : Int32), iv (0 : Int32), iv x0] [(.int (255 : Int32)), (.int x0)])) _
    refine XS.icmpYes X0.here hx rfl (pc0 := 20) (pc' := 26) rfl (hb hby d5_20) rfl (flt (u0 : ¬ ((255 : Int32) < x0))).2.2.2 (by decide) (by decide) ?_
    refine XS.aloadN X0.here hx rfl (hb hby d5_26) rfl rfl ?_
    refine XS.iloadN X0.here hx rfl (hb hby d5_27) rfl ?_
    show Steps p.tables e below (s₁.setTop (mkF m 28 #[rv vc, iv (0 : Int32), rv db, iv (0 : Int32), iv (2 : Int32), iv (0 : Int32), iv x0] [(.int (0 : Int32)), (.ref db)])) _
    refine XS.iload X0.here hx rfl (hb hby d5_28) rfl ?_
    refine XS.i2b X0.here hx rfl (hb hby d5_30) rfl ?_
    exact k
  obtain ⟨cl2, Ar2, q2, S2, N2_, H2, G2⟩ := V_db
  have hin2 : ¬ ((0 : Int32) < 0 ∨ cl2.slots.size ≤ ((0 : Int32)).toNatClampNeg) := inb_of S2 ⟨by decide, by decide⟩
  obtain ⟨T2, h2, X2, e2, W2, st2⟩ := stB X0 hx hZ e0 Ar2 (j := (0 : Int32)) hin2 (g := (mkF m 31 #[rv vc, iv (0 : Int32), rv db, iv (0 : Int32), iv (2 : Int32), iv (0 : Int32), iv x0] [(.int (x0.toInt8.toInt32)), (.int (0 : Int32)), (.ref db)])) rfl rfl (hb hby d5_31)
  have O := O.wr W2 g_db
  have V_vc := V_vc.other W2 ne_vc_db
  have K := K.wr W2 (Or.inl (List.mem_of_getElem? (i := 0) rfl))
  have V_db : Arv Z h2 db kb .byte (2 : Int32) [(.int ((x0.toInt8.toInt32).toInt8.toInt32)), (.int (0 : Int32))] (.int (0 : Int32)) := Arv.set Ar2 q2 S2 N2_ H2 G2 (fits_nar_byte _) W2 0 rfl (Nat.le_of_ble_eq_true rfl)
  rw [(own_b2 x0 : ((x0.toInt8.toInt32).toInt8.toInt32) = (x0.toInt8.toInt32))] at V_db
  have N2 := Fr.snoc X2 N0 g_db
  refine Go.step st2 ?_
  show Go p e below _ (T2.setTop (mkF m 32 #[rv vc, iv (0 : Int32), rv db, iv (0 : Int32), iv (2 : Int32), iv (0 : Int32), iv x0] []))
  refine Go.step (S' := T2.setTop (mkF m 35 #[rv vc, iv ((0 : Int32) + (1 : Int32)), rv db, iv (0 : Int32), iv (2 : Int32), iv (0 : Int32), iv x0] [])) (fun t k => ?_) ?_
  · refine XS.iinc X2.here hx rfl (hb hby d5_32) rfl (l' := #[rv vc, iv ((0 : Int32) + (1 : Int32)), rv db, iv (0 : Int32), iv (2 : Int32), iv (0 : Int32), iv x0]) rfl ?_
    exact k
  rw [show ((0 : Int32) + (1 : Int32)) = (1 : Int32) from by decide]
  show Go p e below _ (T2.setTop (mkF m 35 #[rv vc, iv (1 : Int32), rv db, iv (0 : Int32), iv (2 : Int32), iv (0 : Int32), iv x0] []))
  refine Go.step (S' := T2.setTop (mkF m 38 #[rv vc, iv (1 : Int32), rv db, iv ((0 : Int32) + (1 : Int32)), iv (2 : Int32), iv (0 : Int32), iv x0] [])) (fun t k => ?_) ?_
  · refine XS.iinc X2.here hx rfl (hb hby d5_35) rfl (l' := #[rv vc, iv (1 : Int32), rv db, iv ((0 : Int32) + (1 : Int32)), iv (2 : Int32), iv (0 : Int32), iv x0]) rfl ?_
    exact k
  rw [show ((0 : Int32) + (1 : Int32)) = (1 : Int32) from by decide]
  show Go p e below _ (T2.setTop (mkF m 38 #[rv vc, iv (1 : Int32), rv db, iv (1 : Int32), iv (2 : Int32), iv (0 : Int32), iv x0] []))
  refine Go.step (S' := T2.setTop (mkF m 41 #[rv vc, iv (1 : Int32), rv db, iv (1 : Int32), iv (2 : Int32), iv ((0 : Int32) + (1 : Int32)), iv x0] [])) (fun t k => ?_) ?_
  · refine XS.iinc X2.here hx rfl (hb hby d5_38) rfl (l' := #[rv vc, iv (1 : Int32), rv db, iv (1 : Int32), iv (2 : Int32), iv ((0 : Int32) + (1 : Int32)), iv x0]) rfl ?_
    exact k
  rw [show ((0 : Int32) + (1 : Int32)) = (1 : Int32) from by decide]
  show Go p e below _ (T2.setTop (mkF m 41 #[rv vc, iv (1 : Int32), rv db, iv (1 : Int32), iv (2 : Int32), iv (1 : Int32), iv x0] []))
  refine Go.step (S' := T2.setTop (mkF m 12 #[rv vc, iv (1 : Int32), rv db, iv (1 : Int32), iv (2 : Int32), iv (1 : Int32), iv x0] [(.int (1 : Int32)), (.ref vc)])) (fun t k => ?_) ?_
  · refine XS.goto X2.here hx rfl (pc0 := 41) (pc' := 3) rfl (hb hby d5_41) (by decide) (by decide) ?_
    refine XS.iload X2.here hx rfl (hb hby d5_3) rfl ?_
    refine XS.iload X2.here hx rfl (hb hby d5_5) rfl ?_
    show Steps p.tables e below (T2.setTop (mkF m 7 #[rv vc, iv (1 : Int32), rv db, iv (1 : Int32), iv (2 : Int32), iv (1 : Int32), iv x0] [(.int (2 : Int32)), (.int (1 : Int32))])) _
    refine XS.icmpNo X2.here hx rfl (hb hby d5_7) rfl (tlt ((by decide) : (1 : Int32) < (2 : Int32))).2.1 ?_
    refine XS.aloadN X2.here hx rfl (hb hby d5_10) rfl rfl ?_
    refine XS.iloadN X2.here hx rfl (hb hby d5_11) rfl ?_
    exact k
  obtain ⟨cl3, Ar3, -, S3, -, H3, -⟩ := id V_vc
  have hin3 : ¬ ((1 : Int32) < 0 ∨ cl3.slots.size ≤ ((1 : Int32)).toNatClampNeg) := inb_of S3 ⟨by decide, by decide⟩
  refine Go.step (S' := T2.setTop (mkF m 13 #[rv vc, iv (1 : Int32), rv db, iv (1 : Int32), iv (2 : Int32), iv (1 : Int32), iv x0] [(.int x1)])) (fun t k => X2.caload hx (j := (1 : Int32)) (v := (.int x1)) (by rw [e2]; exact Ar3.1) (State.isArrayOf_alike hZ.alike Ar3.2.1) Ar3.2.2 hin3 (H3.at hin3 rfl) (g := (mkF m 12 #[rv vc, iv (1 : Int32), rv db, iv (1 : Int32), iv (2 : Int32), iv (1 : Int32), iv x0] [(.int (1 : Int32)), (.ref vc)])) rfl rfl (hb hby d5_12) _ k) ?_
  refine Go.step (S' := T2.setTop (mkF m 31 #[rv vc, iv (1 : Int32), rv db, iv (1 : Int32), iv (2 : Int32), iv (1 : Int32), iv x1] [(.int (x1.toInt8.toInt32)), (.int (1 : Int32)), (.ref db)])) (fun t k => ?_) ?_
  · refine XS.istore X2.here hx rfl (hb hby d5_13) rfl (l' := #[rv vc, iv (1 : Int32), rv db, iv (1 : Int32), iv (2 : Int32), iv (1 : Int32), iv x1]) rfl ?_
    refine XS.iload X2.here hx rfl (hb hby d5_15) rfl ?_
    refine XS.sipush X2.here hx rfl (hb hby d5_17) ?_
    show Steps p.tables e below (T2.setTop (mkF m 20 #[rv vc, iv (1 : Int32), rv db, iv (1 : Int32), iv (2 : Int32), iv (1 : Int32), iv x1] [(.int (255 : Int32)), (.int x1)])) _
    refine XS.icmpYes X2.here hx rfl (pc0 := 20) (pc' := 26) rfl (hb hby d5_20) rfl (flt (u1 : ¬ ((255 : Int32) < x1))).2.2.2 (by decide) (by decide) ?_
    refine XS.aloadN X2.here hx rfl (hb hby d5_26) rfl rfl ?_
    refine XS.iloadN X2.here hx rfl (hb hby d5_27) rfl ?_
    show Steps p.tables e below (T2.setTop (mkF m 28 #[rv vc, iv (1 : Int32), rv db, iv (1 : Int32), iv (2 : Int32), iv (1 : Int32), iv x1] [(.int (1 : Int32)), (.ref db)])) _
    refine XS.iload X2.here hx rfl (hb hby d5_28) rfl ?_
    refine XS.i2b X2.here hx rfl (hb hby d5_30) rfl ?_
    exact k
  obtain ⟨cl4, Ar4, q4, S4, N4_, H4, G4⟩ := V_db
  have hin4 : ¬ ((1 : Int32) < 0 ∨ cl4.slots.size ≤ ((1 : Int32)).toNatClampNeg) := inb_of S4 ⟨by decide, by decide⟩
  obtain ⟨T4, h4, X4, e4, W4, st4⟩ := stB X2 hx hZ e2 Ar4 (j := (1 : Int32)) hin4 (g := (mkF m 31 #[rv vc, iv (1 : Int32), rv db, iv (1 : Int32), iv (2 : Int32), iv (1 : Int32), iv x1] [(.int (x1.toInt8.toInt32)), (.int (1 : Int32)), (.ref db)])) rfl rfl (hb hby d5_31)
  have O := O.wr W4 g_db
  have V_vc := V_vc.other W4 ne_vc_db
  have K := K.wr W4 (Or.inl (List.mem_of_getElem? (i := 0) rfl))
  have V_db : Arv Z h4 db kb .byte (2 : Int32) [(.int (x0.toInt8.toInt32)), (.int ((x1.toInt8.toInt32).toInt8.toInt32))] (.int (0 : Int32)) := Arv.set Ar4 q4 S4 N4_ H4 G4 (fits_nar_byte _) W4 1 rfl (Nat.le_of_ble_eq_true rfl)
  rw [(own_b2 x1 : ((x1.toInt8.toInt32).toInt8.toInt32) = (x1.toInt8.toInt32))] at V_db
  have N4 := Fr.snoc X4 N2 g_db
  refine Go.step st4 ?_
  show Go p e below _ (T4.setTop (mkF m 32 #[rv vc, iv (1 : Int32), rv db, iv (1 : Int32), iv (2 : Int32), iv (1 : Int32), iv x1] []))
  refine Go.step (S' := T4.setTop (mkF m 35 #[rv vc, iv ((1 : Int32) + (1 : Int32)), rv db, iv (1 : Int32), iv (2 : Int32), iv (1 : Int32), iv x1] [])) (fun t k => ?_) ?_
  · refine XS.iinc X4.here hx rfl (hb hby d5_32) rfl (l' := #[rv vc, iv ((1 : Int32) + (1 : Int32)), rv db, iv (1 : Int32), iv (2 : Int32), iv (1 : Int32), iv x1]) rfl ?_
    exact k
  rw [show ((1 : Int32) + (1 : Int32)) = (2 : Int32) from by decide]
  show Go p e below _ (T4.setTop (mkF m 35 #[rv vc, iv (2 : Int32), rv db, iv (1 : Int32), iv (2 : Int32), iv (1 : Int32), iv x1] []))
  refine Go.step (S' := T4.setTop (mkF m 38 #[rv vc, iv (2 : Int32), rv db, iv ((1 : Int32) + (1 : Int32)), iv (2 : Int32), iv (1 : Int32), iv x1] [])) (fun t k => ?_) ?_
  · refine XS.iinc X4.here hx rfl (hb hby d5_35) rfl (l' := #[rv vc, iv (2 : Int32), rv db, iv ((1 : Int32) + (1 : Int32)), iv (2 : Int32), iv (1 : Int32), iv x1]) rfl ?_
    exact k
  rw [show ((1 : Int32) + (1 : Int32)) = (2 : Int32) from by decide]
  show Go p e below _ (T4.setTop (mkF m 38 #[rv vc, iv (2 : Int32), rv db, iv (2 : Int32), iv (2 : Int32), iv (1 : Int32), iv x1] []))
  refine Go.step (S' := T4.setTop (mkF m 41 #[rv vc, iv (2 : Int32), rv db, iv (2 : Int32), iv (2 : Int32), iv ((1 : Int32) + (1 : Int32)), iv x1] [])) (fun t k => ?_) ?_
  · refine XS.iinc X4.here hx rfl (hb hby d5_38) rfl (l' := #[rv vc, iv (2 : Int32), rv db, iv (2 : Int32), iv (2 : Int32), iv ((1 : Int32) + (1 : Int32)), iv x1]) rfl ?_
    exact k
  rw [show ((1 : Int32) + (1 : Int32)) = (2 : Int32) from by decide]
  show Go p e below _ (T4.setTop (mkF m 41 #[rv vc, iv (2 : Int32), rv db, iv (2 : Int32), iv (2 : Int32), iv (2 : Int32), iv x1] []))
  refine Go.step (S' := T4.setTop (mkF m 46 #[rv vc, iv (2 : Int32), rv db, iv (2 : Int32), iv (2 : Int32), iv (2 : Int32), iv x1] [(.int (2 : Int32))])) (fun t k => ?_) ?_
  · refine XS.goto X4.here hx rfl (pc0 := 41) (pc' := 3) rfl (hb hby d5_41) (by decide) (by decide) ?_
    refine XS.iload X4.here hx rfl (hb hby d5_3) rfl ?_
    refine XS.iload X4.here hx rfl (hb hby d5_5) rfl ?_
    show Steps p.tables e below (T4.setTop (mkF m 7 #[rv vc, iv (2 : Int32), rv db, iv (2 : Int32), iv (2 : Int32), iv (2 : Int32), iv x1] [(.int (2 : Int32)), (.int (2 : Int32))])) _
    refine XS.icmpYes X4.here hx rfl (pc0 := 7) (pc' := 44) rfl (hb hby d5_7) rfl (flt ((by decide) : ¬ ((2 : Int32) < (2 : Int32)))).2.1 (by decide) (by decide) ?_
    refine XS.iload X4.here hx rfl (hb hby d5_44) rfl ?_
    exact k
  obtain ⟨fs, hr, hrun, hended, hW, hsame⟩ := X4.leave (v := some (.int (2 : Int32))) (fun h => by rw [Bd.returns] at h; cases h)
  refine Go.fin (S' := T4.setFrames fs) ?_ hrun hended ⟨_, _, rfl, ?_, ⟨_, rfl⟩, hW, hsame.mono (by decide) (by decide)⟩
  · exact retOut X4 hx Bd.returns rfl (Or.inl ⟨rfl, Or.inl rfl, _, rfl⟩) (hb hby d5_46) hr
  · show Q_rmCl2 Z vc db kc kb x0 x1 h0 n0 (some (.int (2 : Int32))) T4.heap _
    rw [e4]
    exact ⟨rfl, N4, K, V_db⟩
theorem ef_rmCm2 (m : MethodId) (vc : Addr) : entryFrame m #[(.ref vc), (.int (0 : Int32)), (.int (2 : Int32))] 6 = mkF m 0 #[.val (.ref vc), .val (.int (0 : Int32)), .val (.int (2 : Int32)), .unset, .unset, .unset] [] := by first | (simp [entryFrame, mkF, argsToLocals, Value.category]; done) | rfl
abbrev rm_rmCm2 : Room := ({ frames := 1, cells := 1, slots := 2, locals := 18 } : Room)
def Q_rmCm2 (Z : State) (vc : Addr) (kc : ClassId) (x0 : Int32) (x1 : Int32) (h0 : Heap) (n0 : Nat) (v : Option Value) (h : Heap) (L : List Loc) : Prop := ∃ b : Addr, ∃ kb : ClassId, (v = some (.ref b)) ∧ (Fr n0 L) ∧ (Keep h0 h []) ∧ (Arv Z h b kb .byte (2 : Int32) [(.int (x0.toInt8.toInt32)), (.int (x1.toInt8.toInt32))] (.int (0 : Int32)))
set_option maxRecDepth 65536 in
set_option maxHeartbeats 4000000 in
theorem rmCm2 (l : Launch) (Z : State) (a0 : Array Value) (hw : ∀ d ∈ tables_1, d.before a0 Z = true) (ws : List Jvm.Cond) (vc : Addr) (kc : ClassId) (x0 : Int32) (x1 : Int32) (h0 : Heap) (n0 : Nat) (O : Old Z n0 h0) (V_vc : Arv Z h0 vc kc .char (2 : Int32) [(.int x0), (.int x1)] (.int (0 : Int32))) (u0 : ¬ ((255 : Int32) < x0)) (u1 : ¬ ((255 : Int32) < x1)) :
    MetFree l y_1 (head1 (Jvm.Cond.code y_1 jdk_52_method_16_code 6 (some (.array .byte)) :: ws) rm_rmCm2) (fun A_ U => A_ = #[(.ref vc), (.int (0 : Int32)), (.int (2 : Int32))] ∧ Z.Warmed39 U.vm ∧ U.heap = h0) (fun _ _ _ _ _ => True) (fun _ U o U' => ∃ v L, o = .returned v ∧ Q_rmCm2 Z vc kc x0 x1 h0 n0 v U'.heap L ∧ FrameEnd U o U' L rm_rmCm2.cells rm_rmCm2.slots) := by
  refine MetFree.of_bodySF (plainFor_of_name pn_java_lang_StringUTF16) hisR ?_
  intro p e s m args below meth c s₁ Bd hml0 hP hK
  obtain ⟨rfl, hZ, hh⟩ := hP
  have hx := Bd.exec
  have hby := Bd.bytes
  have hml : c.maxLocals = 6 := hml0
  have hown : s.vm.findClass "java/lang/StringUTF16" = some m.cls := findClass_of_methodNamed Bd.named
  have hnm := (name_of_methodNamed Bd.named Bd.method).1
  have X0 : Stand p l e rm_rmCm2 s m #[(.ref vc), (.int (0 : Int32)), (.int (2 : Int32))] below meth c s₁ [] 0 0 := Stand.of_body Bd
  have e0 : s₁.heap = h0 := by rw [← hh, Bd.state]; rfl
  have N0 := Fr.nil n0
  have K := Keep.refl h0 []
  refine Go.step (p := p) (e := e) (below := below) (G := fun o U' => ∃ v L, o = .returned v ∧ Q_rmCm2 Z vc kc x0 x1 h0 n0 v U'.heap L ∧ FrameEnd s o U' L rm_rmCm2.cells rm_rmCm2.slots) (S' := s₁.setTop (mkF m 0 #[rv vc, iv (0 : Int32), iv (2 : Int32), u_, u_, u_] [])) (fun t k => castTop (ef_rmCm2 m vc) k) ?_
  refine Go.step (S' := s₁.setTop (mkF m 1 #[rv vc, iv (0 : Int32), iv (2 : Int32), u_, u_, u_] [(.int (2 : Int32))])) (fun t k => ?_) ?_
  · refine XS.iloadN X0.here hx rfl (hb hby d4_0) rfl ?_
    exact k
  obtain ⟨T1, h1, k1, X1, e1, E1, A1, st1⟩ := newP X0 hx hZ (own_w hw 20 rfl) e0 (g := (mkF m 1 #[rv vc, iv (0 : Int32), iv (2 : Int32), u_, u_, u_] [(.int (2 : Int32))])) rfl (hb hby d4_1) rfl (by decide) (cap := 2) (by decide) (by decide) (by decide) (by decide)
  obtain ⟨b1, g1⟩ : ∃ z, z = Array.size h0 := ⟨_, rfl⟩
  have g_b1 : n0 ≤ b1 := Nat.le_trans (old_le O) (Nat.le_of_eq g1.symm)
  have sz_b1 : h0.size ≤ b1 := Nat.le_trans K.1 (Nat.le_of_eq g1.symm)
  have ne_vc_b1 : vc ≠ b1 := Nat.ne_of_lt (Nat.lt_of_lt_of_le V_vc.lt (Nat.le_of_eq g1.symm))
  rw [← g1] at A1 st1
  have O := O.ext E1
  have V_vc := V_vc.ext E1
  have K := K.ext E1
  have V_b1 : Arv Z h1 b1 k1 .byte (2 : Int32) [(.int (0 : Int32)), (.int (0 : Int32))] (.int (0 : Int32)) := (Arv.new A1 (by decide)).pad (pad_rep [] (.int (0 : Int32)) 2)
  refine Go.step st1 ?_
  show Go p e below _ (T1.setTop (mkF m 3 #[rv vc, iv (0 : Int32), iv (2 : Int32), u_, u_, u_] [(.ref b1)]))
  refine Go.step (S' := T1.setTop (mkF m 9 #[rv vc, iv (0 : Int32), iv (2 : Int32), rv b1, u_, u_] [(.int (2 : Int32)), (.int (0 : Int32)), (.ref b1), (.int (0 : Int32)), (.ref vc)])) (fun t k => ?_) ?_
  · refine XS.astoreN X1.here hx rfl (hb hby d4_3) rfl rfl (l' := #[rv vc, iv (0 : Int32), iv (2 : Int32), rv b1, u_, u_]) rfl ?_
    refine XS.aloadN X1.here hx rfl (hb hby d4_4) rfl rfl ?_
    refine XS.iloadN X1.here hx rfl (hb hby d4_5) rfl ?_
    show Steps p.tables e below (T1.setTop (mkF m 6 #[rv vc, iv (0 : Int32), iv (2 : Int32), rv b1, u_, u_] [(.int (0 : Int32)), (.ref vc)])) _
    refine XS.aloadN X1.here hx rfl (hb hby d4_6) rfl rfl ?_
    refine XS.iconst X1.here hx rfl (hb hby d4_7) ?_
    refine XS.iloadN X1.here hx rfl (hb hby d4_8) rfl ?_
    exact k
  obtain ⟨_, _, ⟨T2, L2, k2, n2⟩, -, X2, ⟨Lc2, hQ2, l2, y2, z2⟩, st2⟩ := Jvm.LawKit.callS X1 hx (y := y_0) hown (mvT hZ (own_w hw 21 rfl)) (mvT hZ (own_w hw 22 rfl)) (mvT hZ (own_w hw 18 rfl)) (mvT hZ (own_w hw 23 rfl)) (by decide) (backOf (W := 0) (rmCl2 l Z a0 hw [] vc b1 kc k1 x0 x1 h1 n0 O V_vc V_b1 (by assumption) ne_vc_b1 u0 u1) hZ (own_w hw 23 rfl) (own_w hw 18 rfl) (by decide) (by decide)) (g := (mkF m 9 #[rv vc, iv (0 : Int32), iv (2 : Int32), rv b1, u_, u_] [(.int (2 : Int32)), (.int (0 : Int32)), (.ref b1), (.int (0 : Int32)), (.ref vc)])) rfl (by rw [hml]; rfl) (argsL := [(.ref vc), (.int (0 : Int32)), (.ref b1), (.int (0 : Int32)), (.int (2 : Int32))]) (rest := []) (lenOf pd__28_5bCI_5bBII_29I rfl) rfl (Nat.le_of_eq rfl) (hb hby d4_9) (fun _ _ => ⟨rfl, e1, (by decide : 1 + 0 ≤ _), (by decide : 2 + 0 ≤ _)⟩)
  dsimp only [Pt.U, Pt.locs, Pt.cells, Pt.slots] at X2 l2 y2 z2 st2 hQ2
  subst l2 y2 z2
  obtain ⟨rfl, Nq2, K2, P2_V⟩ := hQ2
  have N2 := Fr.app N0 Nq2
  have O := O.keep K2 (allS g_b1 all0)
  have V_vc := V_vc.keep K2 (ninS ne_vc_b1 nin0)
  have K := K.trans K2 (allS (Or.inr sz_b1) all0)
  have V_2 := P2_V
  refine Go.step st2 ?_
  show Go p e below _ (T2.setTop (mkF m 12 #[rv vc, iv (0 : Int32), iv (2 : Int32), rv b1, u_, u_] [(.int (2 : Int32))]))
  refine Go.step (S' := T2.setTop (mkF m 58 #[rv vc, iv (0 : Int32), iv (2 : Int32), rv b1, iv (2 : Int32), u_] [(.ref b1)])) (fun t k => ?_) ?_
  · refine XS.istore X2.here hx rfl (hb hby d4_12) rfl (l' := #[rv vc, iv (0 : Int32), iv (2 : Int32), rv b1, iv (2 : Int32), u_]) rfl ?_
    refine XS.iload X2.here hx rfl (hb hby d4_14) rfl ?_
    refine XS.iloadN X2.here hx rfl (hb hby d4_16) rfl ?_
    show Steps p.tables e below (T2.setTop (mkF m 17 #[rv vc, iv (0 : Int32), iv (2 : Int32), rv b1, iv (2 : Int32), u_] [(.int (2 : Int32)), (.int (2 : Int32))])) _
    refine XS.icmpYes X2.here hx rfl (pc0 := 17) (pc' := 57) rfl (hb hby d4_17) rfl (teq ((by decide) : (2 : Int32) = (2 : Int32))).1 (by decide) (by decide) ?_
    refine XS.aloadN X2.here hx rfl (hb hby d4_57) rfl rfl ?_
    exact k
  obtain ⟨fs, hr, hrun, hended, hW, hsame⟩ := X2.leave (v := some (.ref b1)) (fun h => by rw [Bd.returns] at h; cases h)
  refine Go.fin (S' := T2.setFrames fs) ?_ hrun hended ⟨_, _, rfl, ?_, ⟨_, rfl⟩, hW, hsame.mono (by decide) (by decide)⟩
  · exact retOut X2 hx Bd.returns rfl (Or.inr (Or.inr (Or.inr (Or.inr ⟨rfl, rfl, rfl⟩)))) (hb hby d4_58) hr
  · show Q_rmCm2 Z vc kc x0 x1 h0 n0 (some (.ref b1)) T2.heap _
    exact ⟨b1, k1, rfl, N2, K, V_2⟩
theorem ef_rmCf2 (m : MethodId) (tb : Addr) : entryFrame m #[(.ref tb), (.int (2 : Int32))] 2 = mkF m 0 #[.val (.ref tb), .val (.int (2 : Int32))] [] := by first | (simp [entryFrame, mkF, argsToLocals, Value.category]; done) | rfl
abbrev rm_rmCf2 : Room := ({ frames := 0, cells := 0, slots := 0, locals := 0 } : Room)
def Q_rmCf2 (Z : State) (tb : Addr) (kb : ClassId) (x0 : Int32) (x1 : Int32) (h0 : Heap) (n0 : Nat) (v : Option Value) (h : Heap) (L : List Loc) : Prop := (v = some (.int (0 : Int32))) ∧ (Fr n0 L) ∧ (h = h0)
set_option maxRecDepth 65536 in
set_option maxHeartbeats 4000000 in
theorem rmCf2 (l : Launch) (Z : State) (a0 : Array Value) (hw : ∀ d ∈ tables_1, d.before a0 Z = true) (ws : List Jvm.Cond) (tb : Addr) (kb : ClassId) (x0 : Int32) (x1 : Int32) (h0 : Heap) (n0 : Nat) (O : Old Z n0 h0) (V_tb : Arv Z h0 tb kb .byte (2 : Int32) [(.int (x0.toInt8.toInt32)), (.int (x1.toInt8.toInt32))] (.int (0 : Int32))) :
    MetFree l y_2 (head1 (Jvm.Cond.code y_2 jdk_52_method_15_code 2 (some .byte) :: ws) rm_rmCf2) (fun A_ U => A_ = #[(.ref tb), (.int (2 : Int32))] ∧ Z.Warmed39 U.vm ∧ U.heap = h0) (fun _ _ _ _ _ => True) (fun _ U o U' => ∃ v L, o = .returned v ∧ Q_rmCf2 Z tb kb x0 x1 h0 n0 v U'.heap L ∧ FrameEnd U o U' L rm_rmCf2.cells rm_rmCf2.slots) := by
  refine MetFree.of_bodySF (plainFor_of_name pn_java_lang_StringUTF16) hisR ?_
  intro p e s m args below meth c s₁ Bd hml0 hP hK
  obtain ⟨rfl, hZ, hh⟩ := hP
  have hx := Bd.exec
  have hby := Bd.bytes
  have hml : c.maxLocals = 2 := hml0
  have hown : s.vm.findClass "java/lang/StringUTF16" = some m.cls := findClass_of_methodNamed Bd.named
  have hnm := (name_of_methodNamed Bd.named Bd.method).1
  have X0 : Stand p l e rm_rmCf2 s m #[(.ref tb), (.int (2 : Int32))] below meth c s₁ [] 0 0 := Stand.of_body Bd
  have e0 : s₁.heap = h0 := by rw [← hh, Bd.state]; rfl
  have N0 := Fr.nil n0
  refine Go.step (p := p) (e := e) (below := below) (G := fun o U' => ∃ v L, o = .returned v ∧ Q_rmCf2 Z tb kb x0 x1 h0 n0 v U'.heap L ∧ FrameEnd s o U' L rm_rmCf2.cells rm_rmCf2.slots) (S' := s₁.setTop (mkF m 0 #[rv tb, iv (2 : Int32)] [])) (fun t k => castTop (ef_rmCf2 m tb) k) ?_
  refine Go.step (S' := s₁.setTop (mkF m 2 #[rv tb, iv (2 : Int32)] [(.ref tb), (.int (2 : Int32))])) (fun t k => ?_) ?_
  · refine XS.iloadN X0.here hx rfl (hb hby d6_0) rfl ?_
    refine XS.aloadN X0.here hx rfl (hb hby d6_1) rfl rfl ?_
    exact k
  obtain ⟨cl1, Ar1, -, S1, N1_, -, -⟩ := id V_tb
  refine Go.step (S' := s₁.setTop (mkF m 3 #[rv tb, iv (2 : Int32)] [(.int cl1.slots.size.toInt32), (.int (2 : Int32))])) (fun t k => X0.arraylength hx (by rw [e0]; exact Ar1.1) (State.isArrayOf_alike hZ.alike Ar1.2.1) (g := (mkF m 2 #[rv tb, iv (2 : Int32)] [(.ref tb), (.int (2 : Int32))])) rfl rfl (hb hby d6_2) _ k) ?_
  rw [len_of S1 N1_]
  show Go p e below _ (s₁.setTop (mkF m 3 #[rv tb, iv (2 : Int32)] [(.int (2 : Int32)), (.int (2 : Int32))]))
  refine Go.step (S' := s₁.setTop (mkF m 4 #[rv tb, iv (2 : Int32)] [(.int ((2 : Int32) - (2 : Int32)))])) (fun t k => ?_) ?_
  · refine XS.isub X0.here hx rfl (hb hby d6_3) rfl ?_
    exact k
  rw [show ((2 : Int32) - (2 : Int32)) = (0 : Int32) from by decide]
  show Go p e below _ (s₁.setTop (mkF m 4 #[rv tb, iv (2 : Int32)] [(.int (0 : Int32))]))
  refine Go.step (S' := s₁.setTop (mkF m 7 #[rv tb, iv (2 : Int32)] [(.int (((0 : Int32).toUInt32 >>> ((31 : Int32) &&& 31).toUInt32).toInt32))])) (fun t k => ?_) ?_
  · refine XS.bipush X0.here hx rfl (hb hby d6_4) ?_
    refine XS.iushr X0.here hx rfl (hb hby d6_6) rfl ?_
    exact k
  rw [show (((0 : Int32).toUInt32 >>> ((31 : Int32) &&& 31).toUInt32).toInt32) = (0 : Int32) from by decide]
  show Go p e below _ (s₁.setTop (mkF m 7 #[rv tb, iv (2 : Int32)] [(.int (0 : Int32))]))
  refine Go.step (S' := s₁.setTop (mkF m 8 #[rv tb, iv (2 : Int32)] [(.int ((0 : Int32).toInt8.toInt32))])) (fun t k => ?_) ?_
  · refine XS.i2b X0.here hx rfl (hb hby d6_7) rfl ?_
    exact k
  rw [show ((0 : Int32).toInt8.toInt32) = (0 : Int32) from by decide]
  show Go p e below _ (s₁.setTop (mkF m 8 #[rv tb, iv (2 : Int32)] [(.int (0 : Int32))]))
  obtain ⟨fs, hr, hrun, hended, hW, hsame⟩ := X0.leave (v := some (.int (0 : Int32))) (fun h => by rw [Bd.returns] at h; cases h)
  refine Go.fin (S' := s₁.setFrames fs) ?_ hrun hended ⟨_, _, rfl, ?_, ⟨_, rfl⟩, hW, hsame.mono (by decide) (by decide)⟩
  · exact retOut X0 hx Bd.returns (by decide) (Or.inl ⟨rfl, Or.inr (Or.inr (Or.inl rfl)), _, rfl⟩) (hb hby d6_8) hr
  · show Q_rmCf2 Z tb kb x0 x1 h0 n0 (some (.int (0 : Int32))) s₁.heap _
    rw [e0]
    exact ⟨rfl, N0, rfl⟩
theorem ef_rmN4_2 (m : MethodId) (so : Addr) (vc : Addr) : entryFrame m #[(.ref so), (.ref vc), (.int (0 : Int32)), (.int (2 : Int32)), .null] 6 = mkF m 0 #[.val (.ref so), .val (.ref vc), .val (.int (0 : Int32)), .val (.int (2 : Int32)), .val .null, .unset] [] := by first | (simp [entryFrame, mkF, argsToLocals, Value.category]; done) | rfl
abbrev rm_rmN4_2 : Room := ({ frames := 2, cells := 1, slots := 2, locals := 35 } : Room)
def Q_rmN4_2 (Z : State) (so : Addr) (vc : Addr) (kc : ClassId) (cs : Int32) (x0 : Int32) (x1 : Int32) (h0 : Heap) (n0 : Nat) (v : Option Value) (h : Heap) (L : List Loc) : Prop := ∃ tb : Addr, ∃ kb : ClassId, (v = none) ∧ (Fr n0 L) ∧ (Keep h0 h [so]) ∧ (Exa Z h so "java/lang/String") ∧ (Fld Z h so "java/lang/String" "value" "[B" (.ref tb)) ∧ (Fld Z h so "java/lang/String" "coder" "B" (.int (0 : Int32))) ∧ (Arv Z h tb kb .byte (2 : Int32) [(.int (x0.toInt8.toInt32)), (.int (x1.toInt8.toInt32))] (.int (0 : Int32)))
set_option maxRecDepth 65536 in
set_option maxHeartbeats 4000000 in
theorem rmN4_2 (l : Launch) (Z : State) (a0 : Array Value) (hw : ∀ d ∈ tables_1, d.before a0 Z = true) (ws : List Jvm.Cond) (so : Addr) (vc : Addr) (kc : ClassId) (cs : Int32) (x0 : Int32) (x1 : Int32) (h0 : Heap) (n0 : Nat) (O : Old Z n0 h0) (S_CS : Sta Z Z.heap "java/lang/String" "COMPACT_STRINGS" "Z" (.int cs)) (E_so : Exa Z h0 so "java/lang/String") (F_v : Fld Z h0 so "java/lang/String" "value" "[B" .null) (F_c : Fld Z h0 so "java/lang/String" "coder" "B" (.int (0 : Int32))) (V_vc : Arv Z h0 vc kc .char (2 : Int32) [(.int x0), (.int x1)] (.int (0 : Int32))) (g_so : n0 ≤ so) (hcs : ¬ (cs = (0 : Int32))) (u0 : ¬ ((255 : Int32) < x0)) (u1 : ¬ ((255 : Int32) < x1)) :
    MetFree l y_3 (head1 (Jvm.Cond.code y_3 jdk_42_method_149_code 6 none :: ws) rm_rmN4_2) (fun A_ U => A_ = #[(.ref so), (.ref vc), (.int (0 : Int32)), (.int (2 : Int32)), .null] ∧ Z.Warmed39 U.vm ∧ U.heap = h0) (fun _ _ _ _ _ => True) (fun _ U o U' => ∃ v L, o = .returned v ∧ Q_rmN4_2 Z so vc kc cs x0 x1 h0 n0 v U'.heap L ∧ FrameEnd U o U' L rm_rmN4_2.cells rm_rmN4_2.slots) := by
  refine MetFree.of_bodySF (plainFor_of_name pn_java_lang_String) hisR ?_
  intro p e s m args below meth c s₁ Bd hml0 hP hK
  obtain ⟨rfl, hZ, hh⟩ := hP
  have hx := Bd.exec
  have hby := Bd.bytes
  have hml : c.maxLocals = 6 := hml0
  have hown : s.vm.findClass "java/lang/String" = some m.cls := findClass_of_methodNamed Bd.named
  have hnm := (name_of_methodNamed Bd.named Bd.method).1
  have X0 : Stand p l e rm_rmN4_2 s m #[(.ref so), (.ref vc), (.int (0 : Int32)), (.int (2 : Int32)), .null] below meth c s₁ [] 0 0 := Stand.of_body Bd
  have e0 : s₁.heap = h0 := by rw [← hh, Bd.state]; rfl
  have N0 := Fr.nil n0
  have K := Keep.refl h0 [so]
  refine Go.step (p := p) (e := e) (below := below) (G := fun o U' => ∃ v L, o = .returned v ∧ Q_rmN4_2 Z so vc kc cs x0 x1 h0 n0 v U'.heap L ∧ FrameEnd s o U' L rm_rmN4_2.cells rm_rmN4_2.slots) (S' := s₁.setTop (mkF m 0 #[rv so, rv vc, iv (0 : Int32), iv (2 : Int32), .val .null, u_] [])) (fun t k => castTop (ef_rmN4_2 m so vc) k) ?_
  refine Go.step (S' := s₁.setTop (mkF m 1 #[rv so, rv vc, iv (0 : Int32), iv (2 : Int32), .val .null, u_] [(.ref so)])) (fun t k => ?_) ?_
  · refine XS.aloadN X0.here hx rfl (hb hby d2_0) rfl rfl ?_
    exact k
  obtain ⟨T1, X1, e1, st1⟩ := initO X0 hx hZ hown (own_w hw 12 rfl) (own_w hw 13 rfl) (own_w hw 14 rfl) e0 (g := (mkF m 1 #[rv so, rv vc, iv (0 : Int32), iv (2 : Int32), .val .null, u_] [(.ref so)])) rfl (by rw [hml]; rfl) rfl (hb hby d2_1) (by decide) (W := 0) (by show 2 * 0 + _ ≤ _; exact Nat.le_of_eq rfl) (by decide)
  refine Go.step st1 ?_
  show Go p e below _ (T1.setTop (mkF m 4 #[rv so, rv vc, iv (0 : Int32), iv (2 : Int32), .val .null, u_] []))
  refine Go.step (S' := T1.setTop (mkF m 27 #[rv so, rv vc, iv (0 : Int32), iv (2 : Int32), .val .null, u_] [])) (fun t k => ?_) ?_
  · refine XS.iloadN X1.here hx rfl (hb hby d2_4) rfl ?_
    refine XS.ifYes X1.here hx rfl (pc0 := 5) (pc' := 27) rfl (hb hby d2_5) rfl ((if0 _ _).trans (feq ((by decide) : ¬ ((2 : Int32) = (0 : Int32)))).2) (by decide) (by decide) ?_
    exact k
  obtain ⟨T2, X2, e2, st2⟩ := getS2 X1 hx hZ hown (host := "") (Or.inl (own_w hw 15 rfl)) Via.refl e1 (S_CS.ext O.2) (g := (mkF m 27 #[rv so, rv vc, iv (0 : Int32), iv (2 : Int32), .val .null, u_] [])) rfl (hb hby d2_27)
  refine Go.step st2 ?_
  show Go p e below _ (T2.setTop (mkF m 30 #[rv so, rv vc, iv (0 : Int32), iv (2 : Int32), .val .null, u_] [(.int cs)]))
  refine Go.step (S' := T2.setTop (mkF m 36 #[rv so, rv vc, iv (0 : Int32), iv (2 : Int32), .val .null, u_] [(.int (2 : Int32)), (.int (0 : Int32)), (.ref vc)])) (fun t k => ?_) ?_
  · refine XS.ifNo X2.here hx rfl (hb hby d2_30) rfl ((if0 _ _).trans (feq (hcs : ¬ (cs = (0 : Int32)))).1) ?_
    refine XS.aloadN X2.here hx rfl (hb hby d2_33) rfl rfl ?_
    refine XS.iloadN X2.here hx rfl (hb hby d2_34) rfl ?_
    show Steps p.tables e below (T2.setTop (mkF m 35 #[rv so, rv vc, iv (0 : Int32), iv (2 : Int32), .val .null, u_] [(.int (0 : Int32)), (.ref vc)])) _
    refine XS.iloadN X2.here hx rfl (hb hby d2_35) rfl ?_
    exact k
  obtain ⟨_, _, ⟨T3, L3, k3, n3⟩, -, X3, ⟨Lc3, hQ3, l3, y3, z3⟩, st3⟩ := Jvm.LawKit.callS X2 hx (y := y_1) hown (mvT hZ (own_w hw 16 rfl)) (mvT hZ (own_w hw 17 rfl)) (mvT hZ (own_w hw 18 rfl)) (mvT hZ (own_w hw 19 rfl)) (by decide) (backOf (W := 0) (rmCm2 l Z a0 hw [] vc kc x0 x1 h0 n0 O V_vc u0 u1) hZ (own_w hw 19 rfl) (own_w hw 18 rfl) (by decide) (by decide)) (g := (mkF m 36 #[rv so, rv vc, iv (0 : Int32), iv (2 : Int32), .val .null, u_] [(.int (2 : Int32)), (.int (0 : Int32)), (.ref vc)])) rfl (by rw [hml]; rfl) (argsL := [(.ref vc), (.int (0 : Int32)), (.int (2 : Int32))]) (rest := []) (lenOf pd__28_5bCII_29_5bB rfl) rfl (Nat.le_of_eq rfl) (hb hby d2_36) (fun _ _ => ⟨rfl, e2, (by decide : 0 + 1 ≤ _), (by decide : 0 + 2 ≤ _)⟩)
  dsimp only [Pt.U, Pt.locs, Pt.cells, Pt.slots] at X3 l3 y3 z3 st3 hQ3
  subst l3 y3 z3
  obtain ⟨b_3, kb_3, rfl, Nq3, K3, P3_V⟩ := hQ3
  have N3 := Fr.app N0 Nq3
  have O := O.keep K3 all0
  have E_so := E_so.keep K3
  have F_v := F_v.keep K3 nin0
  have F_c := F_c.keep K3 nin0
  have V_vc := V_vc.keep K3 nin0
  have K := K.trans K3 all0
  have V_3 := P3_V
  refine Go.step st3 ?_
  show Go p e below _ (T3.setTop (mkF m 39 #[rv so, rv vc, iv (0 : Int32), iv (2 : Int32), .val .null, u_] [(.ref b_3)]))
  refine Go.step (S' := T3.setTop (mkF m 45 #[rv so, rv vc, iv (0 : Int32), iv (2 : Int32), .val .null, rv b_3] [(.int (2 : Int32)), (.ref b_3), (.ref so)])) (fun t k => ?_) ?_
  · refine XS.astore X3.here hx rfl (hb hby d2_39) rfl rfl (l' := #[rv so, rv vc, iv (0 : Int32), iv (2 : Int32), .val .null, rv b_3]) rfl ?_
    refine XS.aloadN X3.here hx rfl (hb hby d2_41) rfl rfl ?_
    refine XS.aload X3.here hx rfl (hb hby d2_42) rfl rfl ?_
    show Steps p.tables e below (T3.setTop (mkF m 44 #[rv so, rv vc, iv (0 : Int32), iv (2 : Int32), .val .null, rv b_3] [(.ref b_3), (.ref so)])) _
    refine XS.iloadN X3.here hx rfl (hb hby d2_44) rfl ?_
    exact k
  obtain ⟨_, _, ⟨T4, L4, k4, n4⟩, -, X4, ⟨Lc4, hQ4, l4, y4, z4⟩, st4⟩ := Jvm.LawKit.callS X3 hx (y := y_2) hown (mvT hZ (own_w hw 24 rfl)) (mvT hZ (own_w hw 25 rfl)) (mvT hZ (own_w hw 18 rfl)) (mvT hZ (own_w hw 26 rfl)) (by decide) (backOf (W := 1) (rmCf2 l Z a0 hw [] b_3 kb_3 x0 x1 T3.heap n0 O V_3) hZ (own_w hw 26 rfl) (own_w hw 18 rfl) (by decide) (by decide)) (g := (mkF m 45 #[rv so, rv vc, iv (0 : Int32), iv (2 : Int32), .val .null, rv b_3] [(.int (2 : Int32)), (.ref b_3), (.ref so)])) rfl (by rw [hml]; rfl) (argsL := [(.ref b_3), (.int (2 : Int32))]) (rest := [(.ref so)]) (lenOf pd__28_5bBI_29B rfl) rfl (Nat.le_of_eq rfl) (hb hby d2_45) (fun _ _ => ⟨rfl, (Eq.refl T3.heap), (by decide : 1 + 0 ≤ _), (by decide : 2 + 0 ≤ _)⟩)
  dsimp only [Pt.U, Pt.locs, Pt.cells, Pt.slots] at X4 l4 y4 z4 st4 hQ4
  subst l4 y4 z4
  obtain ⟨rfl, Nq4, e4⟩ := hQ4
  have N4 := Fr.app N3 Nq4
  refine Go.step st4 ?_
  show Go p e below _ (T4.setTop (mkF m 48 #[rv so, rv vc, iv (0 : Int32), iv (2 : Int32), .val .null, rv b_3] [(.int (0 : Int32)), (.ref so)]))
  obtain ⟨T5, h5, X5, e5, W5, st5⟩ := putFN X4 hx hZ hown (own_w hw 27 rfl) Via.refl e4 F_c E_so (Or.inr ⟨(own_w hw 28 rfl), rfl, hnm⟩) (own_w hw 3 rfl) (ty := .byte) (v' := (.int (0 : Int32))) (by decide) rfl rfl (g := (mkF m 48 #[rv so, rv vc, iv (0 : Int32), iv (2 : Int32), .val .null, rv b_3] [(.int (0 : Int32)), (.ref so)])) rfl rfl (hb hby d2_48)
  have ne_vc_so : vc ≠ so := Ne.symm (Exa.neArv E_so V_vc (own_w hw 3 rfl))
  have ne_b_3_so : b_3 ≠ so := Ne.symm (Exa.neArv E_so V_3 (own_w hw 3 rfl))
  have O := O.wr W5 g_so
  have E_so := E_so.wr W5
  have F_v := F_v.other W5 (Or.inr (slot_ne (Or.inr (own_w hw 30 rfl)) (Or.inr (own_w hw 28 rfl)) (by decide) (t := (.array .byte)) (t' := .byte) (by decide) (by decide)))
  have F_c := F_c.same W5
  have V_vc := V_vc.other W5 ne_vc_so
  have K := K.wr W5 (Or.inl (List.mem_of_getElem? (i := 0) rfl))
  have V_3 := V_3.other W5 ne_b_3_so
  have N5 := Fr.snoc X5 N4 g_so
  refine Go.step st5 ?_
  show Go p e below _ (T5.setTop (mkF m 51 #[rv so, rv vc, iv (0 : Int32), iv (2 : Int32), .val .null, rv b_3] []))
  refine Go.step (S' := T5.setTop (mkF m 54 #[rv so, rv vc, iv (0 : Int32), iv (2 : Int32), .val .null, rv b_3] [(.ref b_3), (.ref so)])) (fun t k => ?_) ?_
  · refine XS.aloadN X5.here hx rfl (hb hby d2_51) rfl rfl ?_
    refine XS.aload X5.here hx rfl (hb hby d2_52) rfl rfl ?_
    exact k
  obtain ⟨T6, h6, X6, e6, W6, st6⟩ := putF X5 hx hZ hown (host := "") (Or.inl (own_w hw 29 rfl)) Via.refl e5 F_v E_so (Or.inr ⟨(own_w hw 30 rfl), rfl, hnm⟩) (own_w hw 3 rfl) (ty := (.array .byte)) (by decide) rfl rfl (g := (mkF m 54 #[rv so, rv vc, iv (0 : Int32), iv (2 : Int32), .val .null, rv b_3] [(.ref b_3), (.ref so)])) rfl rfl (hb hby d2_54)
  have O := O.wr W6 g_so
  have E_so := E_so.wr W6
  have F_v := F_v.same W6
  have F_c := F_c.other W6 (Or.inr (slot_ne (Or.inr (own_w hw 28 rfl)) (Or.inr (own_w hw 30 rfl)) (by decide) (t := .byte) (t' := (.array .byte)) (by decide) (by decide)))
  have V_vc := V_vc.other W6 ne_vc_so
  have K := K.wr W6 (Or.inl (List.mem_of_getElem? (i := 0) rfl))
  have V_3 := V_3.other W6 ne_b_3_so
  have N6 := Fr.snoc X6 N5 g_so
  refine Go.step st6 ?_
  show Go p e below _ (T6.setTop (mkF m 57 #[rv so, rv vc, iv (0 : Int32), iv (2 : Int32), .val .null, rv b_3] []))
  obtain ⟨fs, hr, hrun, hended, hW, hsame⟩ := X6.leave (v := none) (fun _ => rfl)
  refine Go.fin (S' := T6.setFrames fs) ?_ hrun hended ⟨_, _, rfl, ?_, ⟨_, rfl⟩, hW, hsame.mono (by decide) (by decide)⟩
  · exact X6.returnOut hx Bd.returns (hb hby d2_57) hr
  · show Q_rmN4_2 Z so vc kc cs x0 x1 h0 n0 (none) T6.heap _
    rw [e6]
    exact ⟨b_3, kb_3, rfl, N6, K, E_so, F_v, F_c, V_3⟩
theorem ef_rmNS2 (m : MethodId) (so : Addr) (vc : Addr) : entryFrame m #[(.ref so), (.ref vc)] 2 = mkF m 0 #[.val (.ref so), .val (.ref vc)] [] := by first | (simp [entryFrame, mkF, argsToLocals, Value.category]; done) | rfl
abbrev rm_rmNS2 : Room := ({ frames := 3, cells := 1, slots := 2, locals := 52 } : Room)
def Q_rmNS2 (Z : State) (so : Addr) (vc : Addr) (kc : ClassId) (cs : Int32) (x0 : Int32) (x1 : Int32) (h0 : Heap) (n0 : Nat) (v : Option Value) (h : Heap) (L : List Loc) : Prop := ∃ tb : Addr, ∃ kb : ClassId, (v = none) ∧ (Fr n0 L) ∧ (Keep h0 h [so]) ∧ (Exa Z h so "java/lang/String") ∧ (Fld Z h so "java/lang/String" "value" "[B" (.ref tb)) ∧ (Fld Z h so "java/lang/String" "coder" "B" (.int (0 : Int32))) ∧ (Arv Z h tb kb .byte (2 : Int32) [(.int (x0.toInt8.toInt32)), (.int (x1.toInt8.toInt32))] (.int (0 : Int32)))
set_option maxRecDepth 65536 in
set_option maxHeartbeats 4000000 in
theorem rmNS2 (l : Launch) (Z : State) (a0 : Array Value) (hw : ∀ d ∈ tables_1, d.before a0 Z = true) (ws : List Jvm.Cond) (so : Addr) (vc : Addr) (kc : ClassId) (cs : Int32) (x0 : Int32) (x1 : Int32) (h0 : Heap) (n0 : Nat) (O : Old Z n0 h0) (S_CS : Sta Z Z.heap "java/lang/String" "COMPACT_STRINGS" "Z" (.int cs)) (E_so : Exa Z h0 so "java/lang/String") (F_v : Fld Z h0 so "java/lang/String" "value" "[B" .null) (F_c : Fld Z h0 so "java/lang/String" "coder" "B" (.int (0 : Int32))) (V_vc : Arv Z h0 vc kc .char (2 : Int32) [(.int x0), (.int x1)] (.int (0 : Int32))) (g_so : n0 ≤ so) (hcs : ¬ (cs = (0 : Int32))) (u0 : ¬ ((255 : Int32) < x0)) (u1 : ¬ ((255 : Int32) < x1)) :
    MetFree l y_4 (head1 (Jvm.Cond.code y_4 jdk_42_method_3_code 2 none :: ws) rm_rmNS2) (fun A_ U => A_ = #[(.ref so), (.ref vc)] ∧ Z.Warmed39 U.vm ∧ U.heap = h0) (fun _ _ _ _ _ => True) (fun _ U o U' => ∃ v L, o = .returned v ∧ Q_rmNS2 Z so vc kc cs x0 x1 h0 n0 v U'.heap L ∧ FrameEnd U o U' L rm_rmNS2.cells rm_rmNS2.slots) := by
  refine MetFree.of_bodySF (plainFor_of_name pn_java_lang_String) hisR ?_
  intro p e s m args below meth c s₁ Bd hml0 hP hK
  obtain ⟨rfl, hZ, hh⟩ := hP
  have hx := Bd.exec
  have hby := Bd.bytes
  have hml : c.maxLocals = 2 := hml0
  have hown : s.vm.findClass "java/lang/String" = some m.cls := findClass_of_methodNamed Bd.named
  have hnm := (name_of_methodNamed Bd.named Bd.method).1
  have X0 : Stand p l e rm_rmNS2 s m #[(.ref so), (.ref vc)] below meth c s₁ [] 0 0 := Stand.of_body Bd
  have e0 : s₁.heap = h0 := by rw [← hh, Bd.state]; rfl
  have N0 := Fr.nil n0
  have K := Keep.refl h0 [so]
  refine Go.step (p := p) (e := e) (below := below) (G := fun o U' => ∃ v L, o = .returned v ∧ Q_rmNS2 Z so vc kc cs x0 x1 h0 n0 v U'.heap L ∧ FrameEnd s o U' L rm_rmNS2.cells rm_rmNS2.slots) (S' := s₁.setTop (mkF m 0 #[rv so, rv vc] [])) (fun t k => castTop (ef_rmNS2 m so vc) k) ?_
  refine Go.step (S' := s₁.setTop (mkF m 4 #[rv so, rv vc] [(.ref vc), (.int (0 : Int32)), (.ref vc), (.ref so)])) (fun t k => ?_) ?_
  · refine XS.aloadN X0.here hx rfl (hb hby d1_0) rfl rfl ?_
    refine XS.aloadN X0.here hx rfl (hb hby d1_1) rfl rfl ?_
    refine XS.iconst X0.here hx rfl (hb hby d1_2) ?_
    show Steps p.tables e below (s₁.setTop (mkF m 3 #[rv so, rv vc] [(.int (0 : Int32)), (.ref vc), (.ref so)])) _
    refine XS.aloadN X0.here hx rfl (hb hby d1_3) rfl rfl ?_
    exact k
  obtain ⟨cl1, Ar1, -, S1, N1_, -, -⟩ := id V_vc
  refine Go.step (S' := s₁.setTop (mkF m 5 #[rv so, rv vc] [(.int cl1.slots.size.toInt32), (.int (0 : Int32)), (.ref vc), (.ref so)])) (fun t k => X0.arraylength hx (by rw [e0]; exact Ar1.1) (State.isArrayOf_alike hZ.alike Ar1.2.1) (g := (mkF m 4 #[rv so, rv vc] [(.ref vc), (.int (0 : Int32)), (.ref vc), (.ref so)])) rfl rfl (hb hby d1_4) _ k) ?_
  rw [len_of S1 N1_]
  show Go p e below _ (s₁.setTop (mkF m 5 #[rv so, rv vc] [(.int (2 : Int32)), (.int (0 : Int32)), (.ref vc), (.ref so)]))
  refine Go.step (S' := s₁.setTop (mkF m 6 #[rv so, rv vc] [.null, (.int (2 : Int32)), (.int (0 : Int32)), (.ref vc), (.ref so)])) (fun t k => ?_) ?_
  · refine XS.aconstNull X0.here hx rfl (hb hby d1_5) ?_
    exact k
  obtain ⟨_, _, ⟨T2, L2, k2, n2⟩, -, X2, ⟨Lc2, hQ2, l2, y2, z2⟩, st2⟩ := X0.specialBack hx (y := y_3) rfl hown (mvT hZ (own_w hw 8 rfl)) (mvT hZ (own_w hw 9 rfl)) (mvT hZ (own_w hw 11 rfl)) (by decide) (backOf (W := 0) (rmN4_2 l Z a0 hw [] so vc kc cs x0 x1 h0 n0 O S_CS E_so F_v F_c V_vc (by assumption) hcs u0 u1) hZ (own_w hw 11 rfl) (own_w hw 4 rfl) (by decide) (by decide)) (g := (mkF m 6 #[rv so, rv vc] [.null, (.int (2 : Int32)), (.int (0 : Int32)), (.ref vc), (.ref so)])) rfl (by rw [hml]; rfl) (Steps.refl _) (a := so) (argsL := [(.ref vc), (.int (0 : Int32)), (.int (2 : Int32)), .null]) (rest := []) (lenOf pd__28_5bCIILjava_2flang_2fVoid_3b_29V rfl) rfl (Nat.le_of_eq rfl) (hb hby d1_6) (fun _ _ => ⟨rfl, e0, (by decide : 0 + 1 ≤ _), (by decide : 0 + 2 ≤ _)⟩)
  dsimp only [Pt.U, Pt.locs, Pt.cells, Pt.slots] at X2 l2 y2 z2 st2 hQ2
  subst l2 y2 z2
  obtain ⟨tb_2, kb_2, rfl, Nq2, K2, P2_E, P2_Fv, P2_Fc, P2_V⟩ := hQ2
  have N2 := Fr.app N0 Nq2
  have ne_vc_so : vc ≠ so := Ne.symm (Exa.neArv E_so V_vc (own_w hw 3 rfl))
  have O := O.keep K2 (allS g_so all0)
  have E_so := E_so.keep K2
  have V_vc := V_vc.keep K2 (ninS ne_vc_so nin0)
  have K := K.trans K2 (allS (Or.inl (List.mem_of_getElem? (i := 0) rfl)) all0)
  have E_2 := P2_E
  have Fv_2 := P2_Fv
  have Fc_2 := P2_Fc
  have V_2 := P2_V
  refine Go.step (fun t k => st2.trans k) ?_
  show Go p e below _ (T2.setTop (mkF m 9 #[rv so, rv vc] []))
  obtain ⟨fs, hr, hrun, hended, hW, hsame⟩ := X2.leave (v := none) (fun _ => rfl)
  refine Go.fin (S' := T2.setFrames fs) ?_ hrun hended ⟨_, _, rfl, ?_, ⟨_, rfl⟩, hW, hsame.mono (by decide) (by decide)⟩
  · exact X2.returnOut hx Bd.returns (hb hby d1_9) hr
  · show Q_rmNS2 Z so vc kc cs x0 x1 h0 n0 (none) T2.heap _
    exact ⟨tb_2, kb_2, rfl, N2, K, E_so, Fv_2, Fc_2, V_2⟩
theorem ef_rmCl3 (m : MethodId) (vc : Addr) (db : Addr) : entryFrame m #[(.ref vc), (.int (0 : Int32)), (.ref db), (.int (0 : Int32)), (.int (3 : Int32))] 7 = mkF m 0 #[.val (.ref vc), .val (.int (0 : Int32)), .val (.ref db), .val (.int (0 : Int32)), .val (.int (3 : Int32)), .unset, .unset] [] := by first | (simp [entryFrame, mkF, argsToLocals, Value.category]; done) | rfl
abbrev rm_rmCl3 : Room := ({ frames := 0, cells := 0, slots := 0, locals := 0 } : Room)
def Q_rmCl3 (Z : State) (vc : Addr) (db : Addr) (kc : ClassId) (kb : ClassId) (x0 : Int32) (x1 : Int32) (x2 : Int32) (h0 : Heap) (n0 : Nat) (v : Option Value) (h : Heap) (L : List Loc) : Prop := (v = some (.int (3 : Int32))) ∧ (Fr n0 L) ∧ (Keep h0 h [db]) ∧ (Arv Z h db kb .byte (3 : Int32) [(.int (x0.toInt8.toInt32)), (.int (x1.toInt8.toInt32)), (.int (x2.toInt8.toInt32))] (.int (0 : Int32)))
set_option maxRecDepth 65536 in
set_option maxHeartbeats 4000000 in
theorem rmCl3 (l : Launch) (Z : State) (a0 : Array Value) (hw : ∀ d ∈ tables_1, d.before a0 Z = true) (ws : List Jvm.Cond) (vc : Addr) (db : Addr) (kc : ClassId) (kb : ClassId) (x0 : Int32) (x1 : Int32) (x2 : Int32) (h0 : Heap) (n0 : Nat) (O : Old Z n0 h0) (V_vc : Arv Z h0 vc kc .char (3 : Int32) [(.int x0), (.int x1), (.int x2)] (.int (0 : Int32))) (V_db : Arv Z h0 db kb .byte (3 : Int32) [(.int (0 : Int32)), (.int (0 : Int32)), (.int (0 : Int32))] (.int (0 : Int32))) (g_db : n0 ≤ db) (ne_vc_db : vc ≠ db) (u0 : ¬ ((255 : Int32) < x0)) (u1 : ¬ ((255 : Int32) < x1)) (u2 : ¬ ((255 : Int32) < x2)) :
    MetFree l y_0 (head1 (Jvm.Cond.code y_0 jdk_52_method_21_code 7 (some .int) :: ws) rm_rmCl3) (fun A_ U => A_ = #[(.ref vc), (.int (0 : Int32)), (.ref db), (.int (0 : Int32)), (.int (3 : Int32))] ∧ Z.Warmed39 U.vm ∧ U.heap = h0) (fun _ _ _ _ _ => True) (fun _ U o U' => ∃ v L, o = .returned v ∧ Q_rmCl3 Z vc db kc kb x0 x1 x2 h0 n0 v U'.heap L ∧ FrameEnd U o U' L rm_rmCl3.cells rm_rmCl3.slots) := by
  refine MetFree.of_bodySF (plainFor_of_name pn_java_lang_StringUTF16) hisR ?_
  intro p e s m args below meth c s₁ Bd hml0 hP hK
  obtain ⟨rfl, hZ, hh⟩ := hP
  have hx := Bd.exec
  have hby := Bd.bytes
  have hml : c.maxLocals = 7 := hml0
  have hown : s.vm.findClass "java/lang/StringUTF16" = some m.cls := findClass_of_methodNamed Bd.named
  have hnm := (name_of_methodNamed Bd.named Bd.method).1
  have X0 : Stand p l e rm_rmCl3 s m #[(.ref vc), (.int (0 : Int32)), (.ref db), (.int (0 : Int32)), (.int (3 : Int32))] below meth c s₁ [] 0 0 := Stand.of_body Bd
  have e0 : s₁.heap = h0 := by rw [← hh, Bd.state]; rfl
  have N0 := Fr.nil n0
  have K := Keep.refl h0 [db]
  refine Go.step (p := p) (e := e) (below := below) (G := fun o U' => ∃ v L, o = .returned v ∧ Q_rmCl3 Z vc db kc kb x0 x1 x2 h0 n0 v U'.heap L ∧ FrameEnd s o U' L rm_rmCl3.cells rm_rmCl3.slots) (S' := s₁.setTop (mkF m 0 #[rv vc, iv (0 : Int32), rv db, iv (0 : Int32), iv (3 : Int32), u_, u_] [])) (fun t k => castTop (ef_rmCl3 m vc db) k) ?_
  refine Go.step (S' := s₁.setTop (mkF m 12 #[rv vc, iv (0 : Int32), rv db, iv (0 : Int32), iv (3 : Int32), iv (0 : Int32), u_] [(.int (0 : Int32)), (.ref vc)])) (fun t k => ?_) ?_
  · refine XS.iconst X0.here hx rfl (hb hby d5_0) ?_
    refine XS.istore X0.here hx rfl (hb hby d5_1) rfl (l' := #[rv vc, iv (0 : Int32), rv db, iv (0 : Int32), iv (3 : Int32), iv (0 : Int32), u_]) rfl ?_
    refine XS.iload X0.here hx rfl (hb hby d5_3) rfl ?_
    show Steps p.tables e below (s₁.setTop (mkF m 5 #[rv vc, iv (0 : Int32), rv db, iv (0 : Int32), iv (3 : Int32), iv (0 : Int32), u_] [(.int (0 : Int32))])) _
    refine XS.iload X0.here hx rfl (hb hby d5_5) rfl ?_
    refine XS.icmpNo X0.here hx rfl (hb hby d5_7) rfl (tlt ((by decide) : (0 : Int32) < (3 : Int32))).2.1 ?_
    refine XS.aloadN X0.here hx rfl (hb hby d5_10) rfl rfl ?_
    show Steps p.tables e below (s₁.setTop (mkF m 11 #[rv vc, iv (0 : Int32), rv db, iv (0 : Int32), iv (3 : Int32), iv (0 : Int32), u_] [(.ref vc)])) _
    refine XS.iloadN X0.here hx rfl (hb hby d5_11) rfl ?_
    exact k
  obtain ⟨cl1, Ar1, -, S1, -, H1, -⟩ := id V_vc
  have hin1 : ¬ ((0 : Int32) < 0 ∨ cl1.slots.size ≤ ((0 : Int32)).toNatClampNeg) := inb_of S1 ⟨by decide, by decide⟩
  refine Go.step (S' := s₁.setTop (mkF m 13 #[rv vc, iv (0 : Int32), rv db, iv (0 : Int32), iv (3 : Int32), iv (0 : Int32), u_] [(.int x0)])) (fun t k => X0.caload hx (j := (0 : Int32)) (v := (.int x0)) (by rw [e0]; exact Ar1.1) (State.isArrayOf_alike hZ.alike Ar1.2.1) Ar1.2.2 hin1 (H1.at hin1 rfl) (g := (mkF m 12 #[rv vc, iv (0 : Int32), rv db, iv (0 : Int32), iv (3 : Int32), iv (0 : Int32), u_] [(.int (0 : Int32)), (.ref vc)])) rfl rfl (hb hby d5_12) _ k) ?_
  refine Go.step (S' := s₁.setTop (mkF m 31 #[rv vc, iv (0 : Int32), rv db, iv (0 : Int32), iv (3 : Int32), iv (0 : Int32), iv x0] [(.int (x0.toInt8.toInt32)), (.int (0 : Int32)), (.ref db)])) (fun t k => ?_) ?_
  · refine XS.istore X0.here hx rfl (hb hby d5_13) rfl (l' := #[rv vc, iv (0 : Int32), rv db, iv (0 : Int32), iv (3 : Int32), iv (0 : Int32), iv x0]) rfl ?_
    refine XS.iload X0.here hx rfl (hb hby d5_15) rfl ?_
    refine XS.sipush X0.here hx rfl (hb hby d5_17) ?_
    show Steps p.tables e below (s₁.setTop (mkF m 20 #[rv vc, iv (0 : Int32), rv db, iv (0 : Int32), iv (3 : Int32), iv (0 : Int32), iv x0] [(.int (255 : Int32)), (.int x0)])) _
    refine XS.icmpYes X0.here hx rfl (pc0 := 20) (pc' := 26) rfl (hb hby d5_20) rfl (flt (u0 : ¬ ((255 : Int32) < x0))).2.2.2 (by decide) (by decide) ?_
    refine XS.aloadN X0.here hx rfl (hb hby d5_26) rfl rfl ?_
    refine XS.iloadN X0.here hx rfl (hb hby d5_27) rfl ?_
    show Steps p.tables e below (s₁.setTop (mkF m 28 #[rv vc, iv (0 : Int32), rv db, iv (0 : Int32), iv (3 : Int32), iv (0 : Int32), iv x0] [(.int (0 : Int32)), (.ref db)])) _
    refine XS.iload X0.here hx rfl (hb hby d5_28) rfl ?_
    refine XS.i2b X0.here hx rfl (hb hby d5_30) rfl ?_
    exact k
  obtain ⟨cl2, Ar2, q2, S2, N2_, H2, G2⟩ := V_db
  have hin2 : ¬ ((0 : Int32) < 0 ∨ cl2.slots.size ≤ ((0 : Int32)).toNatClampNeg) := inb_of S2 ⟨by decide, by decide⟩
  obtain ⟨T2, h2, X2, e2, W2, st2⟩ := stB X0 hx hZ e0 Ar2 (j := (0 : Int32)) hin2 (g := (mkF m 31 #[rv vc, iv (0 : Int32), rv db, iv (0 : Int32), iv (3 : Int32), iv (0 : Int32), iv x0] [(.int (x0.toInt8.toInt32)), (.int (0 : Int32)), (.ref db)])) rfl rfl (hb hby d5_31)
  have O := O.wr W2 g_db
  have V_vc := V_vc.other W2 ne_vc_db
  have K := K.wr W2 (Or.inl (List.mem_of_getElem? (i := 0) rfl))
  have V_db : Arv Z h2 db kb .byte (3 : Int32) [(.int ((x0.toInt8.toInt32).toInt8.toInt32)), (.int (0 : Int32)), (.int (0 : Int32))] (.int (0 : Int32)) := Arv.set Ar2 q2 S2 N2_ H2 G2 (fits_nar_byte _) W2 0 rfl (Nat.le_of_ble_eq_true rfl)
  rw [(own_b2 x0 : ((x0.toInt8.toInt32).toInt8.toInt32) = (x0.toInt8.toInt32))] at V_db
  have N2 := Fr.snoc X2 N0 g_db
  refine Go.step st2 ?_
  show Go p e below _ (T2.setTop (mkF m 32 #[rv vc, iv (0 : Int32), rv db, iv (0 : Int32), iv (3 : Int32), iv (0 : Int32), iv x0] []))
  refine Go.step (S' := T2.setTop (mkF m 35 #[rv vc, iv ((0 : Int32) + (1 : Int32)), rv db, iv (0 : Int32), iv (3 : Int32), iv (0 : Int32), iv x0] [])) (fun t k => ?_) ?_
  · refine XS.iinc X2.here hx rfl (hb hby d5_32) rfl (l' := #[rv vc, iv ((0 : Int32) + (1 : Int32)), rv db, iv (0 : Int32), iv (3 : Int32), iv (0 : Int32), iv x0]) rfl ?_
    exact k
  rw [show ((0 : Int32) + (1 : Int32)) = (1 : Int32) from by decide]
  show Go p e below _ (T2.setTop (mkF m 35 #[rv vc, iv (1 : Int32), rv db, iv (0 : Int32), iv (3 : Int32), iv (0 : Int32), iv x0] []))
  refine Go.step (S' := T2.setTop (mkF m 38 #[rv vc, iv (1 : Int32), rv db, iv ((0 : Int32) + (1 : Int32)), iv (3 : Int32), iv (0 : Int32), iv x0] [])) (fun t k => ?_) ?_
  · refine XS.iinc X2.here hx rfl (hb hby d5_35) rfl (l' := #[rv vc, iv (1 : Int32), rv db, iv ((0 : Int32) + (1 : Int32)), iv (3 : Int32), iv (0 : Int32), iv x0]) rfl ?_
    exact k
  rw [show ((0 : Int32) + (1 : Int32)) = (1 : Int32) from by decide]
  show Go p e below _ (T2.setTop (mkF m 38 #[rv vc, iv (1 : Int32), rv db, iv (1 : Int32), iv (3 : Int32), iv (0 : Int32), iv x0] []))
  refine Go.step (S' := T2.setTop (mkF m 41 #[rv vc, iv (1 : Int32), rv db, iv (1 : Int32), iv (3 : Int32), iv ((0 : Int32) + (1 : Int32)), iv x0] [])) (fun t k => ?_) ?_
  · refine XS.iinc X2.here hx rfl (hb hby d5_38) rfl (l' := #[rv vc, iv (1 : Int32), rv db, iv (1 : Int32), iv (3 : Int32), iv ((0 : Int32) + (1 : Int32)), iv x0]) rfl ?_
    exact k
  rw [show ((0 : Int32) + (1 : Int32)) = (1 : Int32) from by decide]
  show Go p e below _ (T2.setTop (mkF m 41 #[rv vc, iv (1 : Int32), rv db, iv (1 : Int32), iv (3 : Int32), iv (1 : Int32), iv x0] []))
  refine Go.step (S' := T2.setTop (mkF m 12 #[rv vc, iv (1 : Int32), rv db, iv (1 : Int32), iv (3 : Int32), iv (1 : Int32), iv x0] [(.int (1 : Int32)), (.ref vc)])) (fun t k => ?_) ?_
  · refine XS.goto X2.here hx rfl (pc0 := 41) (pc' := 3) rfl (hb hby d5_41) (by decide) (by decide) ?_
    refine XS.iload X2.here hx rfl (hb hby d5_3) rfl ?_
    refine XS.iload X2.here hx rfl (hb hby d5_5) rfl ?_
    show Steps p.tables e below (T2.setTop (mkF m 7 #[rv vc, iv (1 : Int32), rv db, iv (1 : Int32), iv (3 : Int32), iv (1 : Int32), iv x0] [(.int (3 : Int32)), (.int (1 : Int32))])) _
    refine XS.icmpNo X2.here hx rfl (hb hby d5_7) rfl (tlt ((by decide) : (1 : Int32) < (3 : Int32))).2.1 ?_
    refine XS.aloadN X2.here hx rfl (hb hby d5_10) rfl rfl ?_
    refine XS.iloadN X2.here hx rfl (hb hby d5_11) rfl ?_
    exact k
  obtain ⟨cl3, Ar3, -, S3, -, H3, -⟩ := id V_vc
  have hin3 : ¬ ((1 : Int32) < 0 ∨ cl3.slots.size ≤ ((1 : Int32)).toNatClampNeg) := inb_of S3 ⟨by decide, by decide⟩
  refine Go.step (S' := T2.setTop (mkF m 13 #[rv vc, iv (1 : Int32), rv db, iv (1 : Int32), iv (3 : Int32), iv (1 : Int32), iv x0] [(.int x1)])) (fun t k => X2.caload hx (j := (1 : Int32)) (v := (.int x1)) (by rw [e2]; exact Ar3.1) (State.isArrayOf_alike hZ.alike Ar3.2.1) Ar3.2.2 hin3 (H3.at hin3 rfl) (g := (mkF m 12 #[rv vc, iv (1 : Int32), rv db, iv (1 : Int32), iv (3 : Int32), iv (1 : Int32), iv x0] [(.int (1 : Int32)), (.ref vc)])) rfl rfl (hb hby d5_12) _ k) ?_
  refine Go.step (S' := T2.setTop (mkF m 31 #[rv vc, iv (1 : Int32), rv db, iv (1 : Int32), iv (3 : Int32), iv (1 : Int32), iv x1] [(.int (x1.toInt8.toInt32)), (.int (1 : Int32)), (.ref db)])) (fun t k => ?_) ?_
  · refine XS.istore X2.here hx rfl (hb hby d5_13) rfl (l' := #[rv vc, iv (1 : Int32), rv db, iv (1 : Int32), iv (3 : Int32), iv (1 : Int32), iv x1]) rfl ?_
    refine XS.iload X2.here hx rfl (hb hby d5_15) rfl ?_
    refine XS.sipush X2.here hx rfl (hb hby d5_17) ?_
    show Steps p.tables e below (T2.setTop (mkF m 20 #[rv vc, iv (1 : Int32), rv db, iv (1 : Int32), iv (3 : Int32), iv (1 : Int32), iv x1] [(.int (255 : Int32)), (.int x1)])) _
    refine XS.icmpYes X2.here hx rfl (pc0 := 20) (pc' := 26) rfl (hb hby d5_20) rfl (flt (u1 : ¬ ((255 : Int32) < x1))).2.2.2 (by decide) (by decide) ?_
    refine XS.aloadN X2.here hx rfl (hb hby d5_26) rfl rfl ?_
    refine XS.iloadN X2.here hx rfl (hb hby d5_27) rfl ?_
    show Steps p.tables e below (T2.setTop (mkF m 28 #[rv vc, iv (1 : Int32), rv db, iv (1 : Int32), iv (3 : Int32), iv (1 : Int32), iv x1] [(.int (1 : Int32)), (.ref db)])) _
    refine XS.iload X2.here hx rfl (hb hby d5_28) rfl ?_
    refine XS.i2b X2.here hx rfl (hb hby d5_30) rfl ?_
    exact k
  obtain ⟨cl4, Ar4, q4, S4, N4_, H4, G4⟩ := V_db
  have hin4 : ¬ ((1 : Int32) < 0 ∨ cl4.slots.size ≤ ((1 : Int32)).toNatClampNeg) := inb_of S4 ⟨by decide, by decide⟩
  obtain ⟨T4, h4, X4, e4, W4, st4⟩ := stB X2 hx hZ e2 Ar4 (j := (1 : Int32)) hin4 (g := (mkF m 31 #[rv vc, iv (1 : Int32), rv db, iv (1 : Int32), iv (3 : Int32), iv (1 : Int32), iv x1] [(.int (x1.toInt8.toInt32)), (.int (1 : Int32)), (.ref db)])) rfl rfl (hb hby d5_31)
  have O := O.wr W4 g_db
  have V_vc := V_vc.other W4 ne_vc_db
  have K := K.wr W4 (Or.inl (List.mem_of_getElem? (i := 0) rfl))
  have V_db : Arv Z h4 db kb .byte (3 : Int32) [(.int (x0.toInt8.toInt32)), (.int ((x1.toInt8.toInt32).toInt8.toInt32)), (.int (0 : Int32))] (.int (0 : Int32)) := Arv.set Ar4 q4 S4 N4_ H4 G4 (fits_nar_byte _) W4 1 rfl (Nat.le_of_ble_eq_true rfl)
  rw [(own_b2 x1 : ((x1.toInt8.toInt32).toInt8.toInt32) = (x1.toInt8.toInt32))] at V_db
  have N4 := Fr.snoc X4 N2 g_db
  refine Go.step st4 ?_
  show Go p e below _ (T4.setTop (mkF m 32 #[rv vc, iv (1 : Int32), rv db, iv (1 : Int32), iv (3 : Int32), iv (1 : Int32), iv x1] []))
  refine Go.step (S' := T4.setTop (mkF m 35 #[rv vc, iv ((1 : Int32) + (1 : Int32)), rv db, iv (1 : Int32), iv (3 : Int32), iv (1 : Int32), iv x1] [])) (fun t k => ?_) ?_
  · refine XS.iinc X4.here hx rfl (hb hby d5_32) rfl (l' := #[rv vc, iv ((1 : Int32) + (1 : Int32)), rv db, iv (1 : Int32), iv (3 : Int32), iv (1 : Int32), iv x1]) rfl ?_
    exact k
  rw [show ((1 : Int32) + (1 : Int32)) = (2 : Int32) from by decide]
  show Go p e below _ (T4.setTop (mkF m 35 #[rv vc, iv (2 : Int32), rv db, iv (1 : Int32), iv (3 : Int32), iv (1 : Int32), iv x1] []))
  refine Go.step (S' := T4.setTop (mkF m 38 #[rv vc, iv (2 : Int32), rv db, iv ((1 : Int32) + (1 : Int32)), iv (3 : Int32), iv (1 : Int32), iv x1] [])) (fun t k => ?_) ?_
  · refine XS.iinc X4.here hx rfl (hb hby d5_35) rfl (l' := #[rv vc, iv (2 : Int32), rv db, iv ((1 : Int32) + (1 : Int32)), iv (3 : Int32), iv (1 : Int32), iv x1]) rfl ?_
    exact k
  rw [show ((1 : Int32) + (1 : Int32)) = (2 : Int32) from by decide]
  show Go p e below _ (T4.setTop (mkF m 38 #[rv vc, iv (2 : Int32), rv db, iv (2 : Int32), iv (3 : Int32), iv (1 : Int32), iv x1] []))
  refine Go.step (S' := T4.setTop (mkF m 41 #[rv vc, iv (2 : Int32), rv db, iv (2 : Int32), iv (3 : Int32), iv ((1 : Int32) + (1 : Int32)), iv x1] [])) (fun t k => ?_) ?_
  · refine XS.iinc X4.here hx rfl (hb hby d5_38) rfl (l' := #[rv vc, iv (2 : Int32), rv db, iv (2 : Int32), iv (3 : Int32), iv ((1 : Int32) + (1 : Int32)), iv x1]) rfl ?_
    exact k
  rw [show ((1 : Int32) + (1 : Int32)) = (2 : Int32) from by decide]
  show Go p e below _ (T4.setTop (mkF m 41 #[rv vc, iv (2 : Int32), rv db, iv (2 : Int32), iv (3 : Int32), iv (2 : Int32), iv x1] []))
  refine Go.step (S' := T4.setTop (mkF m 12 #[rv vc, iv (2 : Int32), rv db, iv (2 : Int32), iv (3 : Int32), iv (2 : Int32), iv x1] [(.int (2 : Int32)), (.ref vc)])) (fun t k => ?_) ?_
  · refine XS.goto X4.here hx rfl (pc0 := 41) (pc' := 3) rfl (hb hby d5_41) (by decide) (by decide) ?_
    refine XS.iload X4.here hx rfl (hb hby d5_3) rfl ?_
    refine XS.iload X4.here hx rfl (hb hby d5_5) rfl ?_
    show Steps p.tables e below (T4.setTop (mkF m 7 #[rv vc, iv (2 : Int32), rv db, iv (2 : Int32), iv (3 : Int32), iv (2 : Int32), iv x1] [(.int (3 : Int32)), (.int (2 : Int32))])) _
    refine XS.icmpNo X4.here hx rfl (hb hby d5_7) rfl (tlt ((by decide) : (2 : Int32) < (3 : Int32))).2.1 ?_
    refine XS.aloadN X4.here hx rfl (hb hby d5_10) rfl rfl ?_
    refine XS.iloadN X4.here hx rfl (hb hby d5_11) rfl ?_
    exact k
  obtain ⟨cl5, Ar5, -, S5, -, H5, -⟩ := id V_vc
  have hin5 : ¬ ((2 : Int32) < 0 ∨ cl5.slots.size ≤ ((2 : Int32)).toNatClampNeg) := inb_of S5 ⟨by decide, by decide⟩
  refine Go.step (S' := T4.setTop (mkF m 13 #[rv vc, iv (2 : Int32), rv db, iv (2 : Int32), iv (3 : Int32), iv (2 : Int32), iv x1] [(.int x2)])) (fun t k => X4.caload hx (j := (2 : Int32)) (v := (.int x2)) (by rw [e4]; exact Ar5.1) (State.isArrayOf_alike hZ.alike Ar5.2.1) Ar5.2.2 hin5 (H5.at hin5 rfl) (g := (mkF m 12 #[rv vc, iv (2 : Int32), rv db, iv (2 : Int32), iv (3 : Int32), iv (2 : Int32), iv x1] [(.int (2 : Int32)), (.ref vc)])) rfl rfl (hb hby d5_12) _ k) ?_
  refine Go.step (S' := T4.setTop (mkF m 31 #[rv vc, iv (2 : Int32), rv db, iv (2 : Int32), iv (3 : Int32), iv (2 : Int32), iv x2] [(.int (x2.toInt8.toInt32)), (.int (2 : Int32)), (.ref db)])) (fun t k => ?_) ?_
  · refine XS.istore X4.here hx rfl (hb hby d5_13) rfl (l' := #[rv vc, iv (2 : Int32), rv db, iv (2 : Int32), iv (3 : Int32), iv (2 : Int32), iv x2]) rfl ?_
    refine XS.iload X4.here hx rfl (hb hby d5_15) rfl ?_
    refine XS.sipush X4.here hx rfl (hb hby d5_17) ?_
    show Steps p.tables e below (T4.setTop (mkF m 20 #[rv vc, iv (2 : Int32), rv db, iv (2 : Int32), iv (3 : Int32), iv (2 : Int32), iv x2] [(.int (255 : Int32)), (.int x2)])) _
    refine XS.icmpYes X4.here hx rfl (pc0 := 20) (pc' := 26) rfl (hb hby d5_20) rfl (flt (u2 : ¬ ((255 : Int32) < x2))).2.2.2 (by decide) (by decide) ?_
    refine XS.aloadN X4.here hx rfl (hb hby d5_26) rfl rfl ?_
    refine XS.iloadN X4.here hx rfl (hb hby d5_27) rfl ?_
    show Steps p.tables e below (T4.setTop (mkF m 28 #[rv vc, iv (2 : Int32), rv db, iv (2 : Int32), iv (3 : Int32), iv (2 : Int32), iv x2] [(.int (2 : Int32)), (.ref db)])) _
    refine XS.iload X4.here hx rfl (hb hby d5_28) rfl ?_
    refine XS.i2b X4.here hx rfl (hb hby d5_30) rfl ?_
    exact k
  obtain ⟨cl6, Ar6, q6, S6, N6_, H6, G6⟩ := V_db
  have hin6 : ¬ ((2 : Int32) < 0 ∨ cl6.slots.size ≤ ((2 : Int32)).toNatClampNeg) := inb_of S6 ⟨by decide, by decide⟩
  obtain ⟨T6, h6, X6, e6, W6, st6⟩ := stB X4 hx hZ e4 Ar6 (j := (2 : Int32)) hin6 (g := (mkF m 31 #[rv vc, iv (2 : Int32), rv db, iv (2 : Int32), iv (3 : Int32), iv (2 : Int32), iv x2] [(.int (x2.toInt8.toInt32)), (.int (2 : Int32)), (.ref db)])) rfl rfl (hb hby d5_31)
  have O := O.wr W6 g_db
  have V_vc := V_vc.other W6 ne_vc_db
  have K := K.wr W6 (Or.inl (List.mem_of_getElem? (i := 0) rfl))
  have V_db : Arv Z h6 db kb .byte (3 : Int32) [(.int (x0.toInt8.toInt32)), (.int (x1.toInt8.toInt32)), (.int ((x2.toInt8.toInt32).toInt8.toInt32))] (.int (0 : Int32)) := Arv.set Ar6 q6 S6 N6_ H6 G6 (fits_nar_byte _) W6 2 rfl (Nat.le_of_ble_eq_true rfl)
  rw [(own_b2 x2 : ((x2.toInt8.toInt32).toInt8.toInt32) = (x2.toInt8.toInt32))] at V_db
  have N6 := Fr.snoc X6 N4 g_db
  refine Go.step st6 ?_
  show Go p e below _ (T6.setTop (mkF m 32 #[rv vc, iv (2 : Int32), rv db, iv (2 : Int32), iv (3 : Int32), iv (2 : Int32), iv x2] []))
  refine Go.step (S' := T6.setTop (mkF m 35 #[rv vc, iv ((2 : Int32) + (1 : Int32)), rv db, iv (2 : Int32), iv (3 : Int32), iv (2 : Int32), iv x2] [])) (fun t k => ?_) ?_
  · refine XS.iinc X6.here hx rfl (hb hby d5_32) rfl (l' := #[rv vc, iv ((2 : Int32) + (1 : Int32)), rv db, iv (2 : Int32), iv (3 : Int32), iv (2 : Int32), iv x2]) rfl ?_
    exact k
  rw [show ((2 : Int32) + (1 : Int32)) = (3 : Int32) from by decide]
  show Go p e below _ (T6.setTop (mkF m 35 #[rv vc, iv (3 : Int32), rv db, iv (2 : Int32), iv (3 : Int32), iv (2 : Int32), iv x2] []))
  refine Go.step (S' := T6.setTop (mkF m 38 #[rv vc, iv (3 : Int32), rv db, iv ((2 : Int32) + (1 : Int32)), iv (3 : Int32), iv (2 : Int32), iv x2] [])) (fun t k => ?_) ?_
  · refine XS.iinc X6.here hx rfl (hb hby d5_35) rfl (l' := #[rv vc, iv (3 : Int32), rv db, iv ((2 : Int32) + (1 : Int32)), iv (3 : Int32), iv (2 : Int32), iv x2]) rfl ?_
    exact k
  rw [show ((2 : Int32) + (1 : Int32)) = (3 : Int32) from by decide]
  show Go p e below _ (T6.setTop (mkF m 38 #[rv vc, iv (3 : Int32), rv db, iv (3 : Int32), iv (3 : Int32), iv (2 : Int32), iv x2] []))
  refine Go.step (S' := T6.setTop (mkF m 41 #[rv vc, iv (3 : Int32), rv db, iv (3 : Int32), iv (3 : Int32), iv ((2 : Int32) + (1 : Int32)), iv x2] [])) (fun t k => ?_) ?_
  · refine XS.iinc X6.here hx rfl (hb hby d5_38) rfl (l' := #[rv vc, iv (3 : Int32), rv db, iv (3 : Int32), iv (3 : Int32), iv ((2 : Int32) + (1 : Int32)), iv x2]) rfl ?_
    exact k
  rw [show ((2 : Int32) + (1 : Int32)) = (3 : Int32) from by decide]
  show Go p e below _ (T6.setTop (mkF m 41 #[rv vc, iv (3 : Int32), rv db, iv (3 : Int32), iv (3 : Int32), iv (3 : Int32), iv x2] []))
  refine Go.step (S' := T6.setTop (mkF m 46 #[rv vc, iv (3 : Int32), rv db, iv (3 : Int32), iv (3 : Int32), iv (3 : Int32), iv x2] [(.int (3 : Int32))])) (fun t k => ?_) ?_
  · refine XS.goto X6.here hx rfl (pc0 := 41) (pc' := 3) rfl (hb hby d5_41) (by decide) (by decide) ?_
    refine XS.iload X6.here hx rfl (hb hby d5_3) rfl ?_
    refine XS.iload X6.here hx rfl (hb hby d5_5) rfl ?_
    show Steps p.tables e below (T6.setTop (mkF m 7 #[rv vc, iv (3 : Int32), rv db, iv (3 : Int32), iv (3 : Int32), iv (3 : Int32), iv x2] [(.int (3 : Int32)), (.int (3 : Int32))])) _
    refine XS.icmpYes X6.here hx rfl (pc0 := 7) (pc' := 44) rfl (hb hby d5_7) rfl (flt ((by decide) : ¬ ((3 : Int32) < (3 : Int32)))).2.1 (by decide) (by decide) ?_
    refine XS.iload X6.here hx rfl (hb hby d5_44) rfl ?_
    exact k
  obtain ⟨fs, hr, hrun, hended, hW, hsame⟩ := X6.leave (v := some (.int (3 : Int32))) (fun h => by rw [Bd.returns] at h; cases h)
  refine Go.fin (S' := T6.setFrames fs) ?_ hrun hended ⟨_, _, rfl, ?_, ⟨_, rfl⟩, hW, hsame.mono (by decide) (by decide)⟩
  · exact retOut X6 hx Bd.returns rfl (Or.inl ⟨rfl, Or.inl rfl, _, rfl⟩) (hb hby d5_46) hr
  · show Q_rmCl3 Z vc db kc kb x0 x1 x2 h0 n0 (some (.int (3 : Int32))) T6.heap _
    rw [e6]
    exact ⟨rfl, N6, K, V_db⟩
theorem ef_rmCm3 (m : MethodId) (vc : Addr) : entryFrame m #[(.ref vc), (.int (0 : Int32)), (.int (3 : Int32))] 6 = mkF m 0 #[.val (.ref vc), .val (.int (0 : Int32)), .val (.int (3 : Int32)), .unset, .unset, .unset] [] := by first | (simp [entryFrame, mkF, argsToLocals, Value.category]; done) | rfl
abbrev rm_rmCm3 : Room := ({ frames := 1, cells := 1, slots := 3, locals := 18 } : Room)
def Q_rmCm3 (Z : State) (vc : Addr) (kc : ClassId) (x0 : Int32) (x1 : Int32) (x2 : Int32) (h0 : Heap) (n0 : Nat) (v : Option Value) (h : Heap) (L : List Loc) : Prop := ∃ b : Addr, ∃ kb : ClassId, (v = some (.ref b)) ∧ (Fr n0 L) ∧ (Keep h0 h []) ∧ (Arv Z h b kb .byte (3 : Int32) [(.int (x0.toInt8.toInt32)), (.int (x1.toInt8.toInt32)), (.int (x2.toInt8.toInt32))] (.int (0 : Int32)))
set_option maxRecDepth 65536 in
set_option maxHeartbeats 4000000 in
theorem rmCm3 (l : Launch) (Z : State) (a0 : Array Value) (hw : ∀ d ∈ tables_1, d.before a0 Z = true) (ws : List Jvm.Cond) (vc : Addr) (kc : ClassId) (x0 : Int32) (x1 : Int32) (x2 : Int32) (h0 : Heap) (n0 : Nat) (O : Old Z n0 h0) (V_vc : Arv Z h0 vc kc .char (3 : Int32) [(.int x0), (.int x1), (.int x2)] (.int (0 : Int32))) (u0 : ¬ ((255 : Int32) < x0)) (u1 : ¬ ((255 : Int32) < x1)) (u2 : ¬ ((255 : Int32) < x2)) :
    MetFree l y_1 (head1 (Jvm.Cond.code y_1 jdk_52_method_16_code 6 (some (.array .byte)) :: ws) rm_rmCm3) (fun A_ U => A_ = #[(.ref vc), (.int (0 : Int32)), (.int (3 : Int32))] ∧ Z.Warmed39 U.vm ∧ U.heap = h0) (fun _ _ _ _ _ => True) (fun _ U o U' => ∃ v L, o = .returned v ∧ Q_rmCm3 Z vc kc x0 x1 x2 h0 n0 v U'.heap L ∧ FrameEnd U o U' L rm_rmCm3.cells rm_rmCm3.slots) := by
  refine MetFree.of_bodySF (plainFor_of_name pn_java_lang_StringUTF16) hisR ?_
  intro p e s m args below meth c s₁ Bd hml0 hP hK
  obtain ⟨rfl, hZ, hh⟩ := hP
  have hx := Bd.exec
  have hby := Bd.bytes
  have hml : c.maxLocals = 6 := hml0
  have hown : s.vm.findClass "java/lang/StringUTF16" = some m.cls := findClass_of_methodNamed Bd.named
  have hnm := (name_of_methodNamed Bd.named Bd.method).1
  have X0 : Stand p l e rm_rmCm3 s m #[(.ref vc), (.int (0 : Int32)), (.int (3 : Int32))] below meth c s₁ [] 0 0 := Stand.of_body Bd
  have e0 : s₁.heap = h0 := by rw [← hh, Bd.state]; rfl
  have N0 := Fr.nil n0
  have K := Keep.refl h0 []
  refine Go.step (p := p) (e := e) (below := below) (G := fun o U' => ∃ v L, o = .returned v ∧ Q_rmCm3 Z vc kc x0 x1 x2 h0 n0 v U'.heap L ∧ FrameEnd s o U' L rm_rmCm3.cells rm_rmCm3.slots) (S' := s₁.setTop (mkF m 0 #[rv vc, iv (0 : Int32), iv (3 : Int32), u_, u_, u_] [])) (fun t k => castTop (ef_rmCm3 m vc) k) ?_
  refine Go.step (S' := s₁.setTop (mkF m 1 #[rv vc, iv (0 : Int32), iv (3 : Int32), u_, u_, u_] [(.int (3 : Int32))])) (fun t k => ?_) ?_
  · refine XS.iloadN X0.here hx rfl (hb hby d4_0) rfl ?_
    exact k
  obtain ⟨T1, h1, k1, X1, e1, E1, A1, st1⟩ := newP X0 hx hZ (own_w hw 20 rfl) e0 (g := (mkF m 1 #[rv vc, iv (0 : Int32), iv (3 : Int32), u_, u_, u_] [(.int (3 : Int32))])) rfl (hb hby d4_1) rfl (by decide) (cap := 3) (by decide) (by decide) (by decide) (by decide)
  obtain ⟨b1, g1⟩ : ∃ z, z = Array.size h0 := ⟨_, rfl⟩
  have g_b1 : n0 ≤ b1 := Nat.le_trans (old_le O) (Nat.le_of_eq g1.symm)
  have sz_b1 : h0.size ≤ b1 := Nat.le_trans K.1 (Nat.le_of_eq g1.symm)
  have ne_vc_b1 : vc ≠ b1 := Nat.ne_of_lt (Nat.lt_of_lt_of_le V_vc.lt (Nat.le_of_eq g1.symm))
  rw [← g1] at A1 st1
  have O := O.ext E1
  have V_vc := V_vc.ext E1
  have K := K.ext E1
  have V_b1 : Arv Z h1 b1 k1 .byte (3 : Int32) [(.int (0 : Int32)), (.int (0 : Int32)), (.int (0 : Int32))] (.int (0 : Int32)) := (Arv.new A1 (by decide)).pad (pad_rep [] (.int (0 : Int32)) 3)
  refine Go.step st1 ?_
  show Go p e below _ (T1.setTop (mkF m 3 #[rv vc, iv (0 : Int32), iv (3 : Int32), u_, u_, u_] [(.ref b1)]))
  refine Go.step (S' := T1.setTop (mkF m 9 #[rv vc, iv (0 : Int32), iv (3 : Int32), rv b1, u_, u_] [(.int (3 : Int32)), (.int (0 : Int32)), (.ref b1), (.int (0 : Int32)), (.ref vc)])) (fun t k => ?_) ?_
  · refine XS.astoreN X1.here hx rfl (hb hby d4_3) rfl rfl (l' := #[rv vc, iv (0 : Int32), iv (3 : Int32), rv b1, u_, u_]) rfl ?_
    refine XS.aloadN X1.here hx rfl (hb hby d4_4) rfl rfl ?_
    refine XS.iloadN X1.here hx rfl (hb hby d4_5) rfl ?_
    show Steps p.tables e below (T1.setTop (mkF m 6 #[rv vc, iv (0 : Int32), iv (3 : Int32), rv b1, u_, u_] [(.int (0 : Int32)), (.ref vc)])) _
    refine XS.aloadN X1.here hx rfl (hb hby d4_6) rfl rfl ?_
    refine XS.iconst X1.here hx rfl (hb hby d4_7) ?_
    refine XS.iloadN X1.here hx rfl (hb hby d4_8) rfl ?_
    exact k
  obtain ⟨_, _, ⟨T2, L2, k2, n2⟩, -, X2, ⟨Lc2, hQ2, l2, y2, z2⟩, st2⟩ := Jvm.LawKit.callS X1 hx (y := y_0) hown (mvT hZ (own_w hw 21 rfl)) (mvT hZ (own_w hw 22 rfl)) (mvT hZ (own_w hw 18 rfl)) (mvT hZ (own_w hw 23 rfl)) (by decide) (backOf (W := 0) (rmCl3 l Z a0 hw [] vc b1 kc k1 x0 x1 x2 h1 n0 O V_vc V_b1 (by assumption) ne_vc_b1 u0 u1 u2) hZ (own_w hw 23 rfl) (own_w hw 18 rfl) (by decide) (by decide)) (g := (mkF m 9 #[rv vc, iv (0 : Int32), iv (3 : Int32), rv b1, u_, u_] [(.int (3 : Int32)), (.int (0 : Int32)), (.ref b1), (.int (0 : Int32)), (.ref vc)])) rfl (by rw [hml]; rfl) (argsL := [(.ref vc), (.int (0 : Int32)), (.ref b1), (.int (0 : Int32)), (.int (3 : Int32))]) (rest := []) (lenOf pd__28_5bCI_5bBII_29I rfl) rfl (Nat.le_of_eq rfl) (hb hby d4_9) (fun _ _ => ⟨rfl, e1, (by decide : 1 + 0 ≤ _), (by decide : 3 + 0 ≤ _)⟩)
  dsimp only [Pt.U, Pt.locs, Pt.cells, Pt.slots] at X2 l2 y2 z2 st2 hQ2
  subst l2 y2 z2
  obtain ⟨rfl, Nq2, K2, P2_V⟩ := hQ2
  have N2 := Fr.app N0 Nq2
  have O := O.keep K2 (allS g_b1 all0)
  have V_vc := V_vc.keep K2 (ninS ne_vc_b1 nin0)
  have K := K.trans K2 (allS (Or.inr sz_b1) all0)
  have V_2 := P2_V
  refine Go.step st2 ?_
  show Go p e below _ (T2.setTop (mkF m 12 #[rv vc, iv (0 : Int32), iv (3 : Int32), rv b1, u_, u_] [(.int (3 : Int32))]))
  refine Go.step (S' := T2.setTop (mkF m 58 #[rv vc, iv (0 : Int32), iv (3 : Int32), rv b1, iv (3 : Int32), u_] [(.ref b1)])) (fun t k => ?_) ?_
  · refine XS.istore X2.here hx rfl (hb hby d4_12) rfl (l' := #[rv vc, iv (0 : Int32), iv (3 : Int32), rv b1, iv (3 : Int32), u_]) rfl ?_
    refine XS.iload X2.here hx rfl (hb hby d4_14) rfl ?_
    refine XS.iloadN X2.here hx rfl (hb hby d4_16) rfl ?_
    show Steps p.tables e below (T2.setTop (mkF m 17 #[rv vc, iv (0 : Int32), iv (3 : Int32), rv b1, iv (3 : Int32), u_] [(.int (3 : Int32)), (.int (3 : Int32))])) _
    refine XS.icmpYes X2.here hx rfl (pc0 := 17) (pc' := 57) rfl (hb hby d4_17) rfl (teq ((by decide) : (3 : Int32) = (3 : Int32))).1 (by decide) (by decide) ?_
    refine XS.aloadN X2.here hx rfl (hb hby d4_57) rfl rfl ?_
    exact k
  obtain ⟨fs, hr, hrun, hended, hW, hsame⟩ := X2.leave (v := some (.ref b1)) (fun h => by rw [Bd.returns] at h; cases h)
  refine Go.fin (S' := T2.setFrames fs) ?_ hrun hended ⟨_, _, rfl, ?_, ⟨_, rfl⟩, hW, hsame.mono (by decide) (by decide)⟩
  · exact retOut X2 hx Bd.returns rfl (Or.inr (Or.inr (Or.inr (Or.inr ⟨rfl, rfl, rfl⟩)))) (hb hby d4_58) hr
  · show Q_rmCm3 Z vc kc x0 x1 x2 h0 n0 (some (.ref b1)) T2.heap _
    exact ⟨b1, k1, rfl, N2, K, V_2⟩
theorem ef_rmCf3 (m : MethodId) (tb : Addr) : entryFrame m #[(.ref tb), (.int (3 : Int32))] 2 = mkF m 0 #[.val (.ref tb), .val (.int (3 : Int32))] [] := by first | (simp [entryFrame, mkF, argsToLocals, Value.category]; done) | rfl
abbrev rm_rmCf3 : Room := ({ frames := 0, cells := 0, slots := 0, locals := 0 } : Room)
def Q_rmCf3 (Z : State) (tb : Addr) (kb : ClassId) (x0 : Int32) (x1 : Int32) (x2 : Int32) (h0 : Heap) (n0 : Nat) (v : Option Value) (h : Heap) (L : List Loc) : Prop := (v = some (.int (0 : Int32))) ∧ (Fr n0 L) ∧ (h = h0)
set_option maxRecDepth 65536 in
set_option maxHeartbeats 4000000 in
theorem rmCf3 (l : Launch) (Z : State) (a0 : Array Value) (hw : ∀ d ∈ tables_1, d.before a0 Z = true) (ws : List Jvm.Cond) (tb : Addr) (kb : ClassId) (x0 : Int32) (x1 : Int32) (x2 : Int32) (h0 : Heap) (n0 : Nat) (O : Old Z n0 h0) (V_tb : Arv Z h0 tb kb .byte (3 : Int32) [(.int (x0.toInt8.toInt32)), (.int (x1.toInt8.toInt32)), (.int (x2.toInt8.toInt32))] (.int (0 : Int32))) :
    MetFree l y_2 (head1 (Jvm.Cond.code y_2 jdk_52_method_15_code 2 (some .byte) :: ws) rm_rmCf3) (fun A_ U => A_ = #[(.ref tb), (.int (3 : Int32))] ∧ Z.Warmed39 U.vm ∧ U.heap = h0) (fun _ _ _ _ _ => True) (fun _ U o U' => ∃ v L, o = .returned v ∧ Q_rmCf3 Z tb kb x0 x1 x2 h0 n0 v U'.heap L ∧ FrameEnd U o U' L rm_rmCf3.cells rm_rmCf3.slots) := by
  refine MetFree.of_bodySF (plainFor_of_name pn_java_lang_StringUTF16) hisR ?_
  intro p e s m args below meth c s₁ Bd hml0 hP hK
  obtain ⟨rfl, hZ, hh⟩ := hP
  have hx := Bd.exec
  have hby := Bd.bytes
  have hml : c.maxLocals = 2 := hml0
  have hown : s.vm.findClass "java/lang/StringUTF16" = some m.cls := findClass_of_methodNamed Bd.named
  have hnm := (name_of_methodNamed Bd.named Bd.method).1
  have X0 : Stand p l e rm_rmCf3 s m #[(.ref tb), (.int (3 : Int32))] below meth c s₁ [] 0 0 := Stand.of_body Bd
  have e0 : s₁.heap = h0 := by rw [← hh, Bd.state]; rfl
  have N0 := Fr.nil n0
  refine Go.step (p := p) (e := e) (below := below) (G := fun o U' => ∃ v L, o = .returned v ∧ Q_rmCf3 Z tb kb x0 x1 x2 h0 n0 v U'.heap L ∧ FrameEnd s o U' L rm_rmCf3.cells rm_rmCf3.slots) (S' := s₁.setTop (mkF m 0 #[rv tb, iv (3 : Int32)] [])) (fun t k => castTop (ef_rmCf3 m tb) k) ?_
  refine Go.step (S' := s₁.setTop (mkF m 2 #[rv tb, iv (3 : Int32)] [(.ref tb), (.int (3 : Int32))])) (fun t k => ?_) ?_
  · refine XS.iloadN X0.here hx rfl (hb hby d6_0) rfl ?_
    refine XS.aloadN X0.here hx rfl (hb hby d6_1) rfl rfl ?_
    exact k
  obtain ⟨cl1, Ar1, -, S1, N1_, -, -⟩ := id V_tb
  refine Go.step (S' := s₁.setTop (mkF m 3 #[rv tb, iv (3 : Int32)] [(.int cl1.slots.size.toInt32), (.int (3 : Int32))])) (fun t k => X0.arraylength hx (by rw [e0]; exact Ar1.1) (State.isArrayOf_alike hZ.alike Ar1.2.1) (g := (mkF m 2 #[rv tb, iv (3 : Int32)] [(.ref tb), (.int (3 : Int32))])) rfl rfl (hb hby d6_2) _ k) ?_
  rw [len_of S1 N1_]
  show Go p e below _ (s₁.setTop (mkF m 3 #[rv tb, iv (3 : Int32)] [(.int (3 : Int32)), (.int (3 : Int32))]))
  refine Go.step (S' := s₁.setTop (mkF m 4 #[rv tb, iv (3 : Int32)] [(.int ((3 : Int32) - (3 : Int32)))])) (fun t k => ?_) ?_
  · refine XS.isub X0.here hx rfl (hb hby d6_3) rfl ?_
    exact k
  rw [show ((3 : Int32) - (3 : Int32)) = (0 : Int32) from by decide]
  show Go p e below _ (s₁.setTop (mkF m 4 #[rv tb, iv (3 : Int32)] [(.int (0 : Int32))]))
  refine Go.step (S' := s₁.setTop (mkF m 7 #[rv tb, iv (3 : Int32)] [(.int (((0 : Int32).toUInt32 >>> ((31 : Int32) &&& 31).toUInt32).toInt32))])) (fun t k => ?_) ?_
  · refine XS.bipush X0.here hx rfl (hb hby d6_4) ?_
    refine XS.iushr X0.here hx rfl (hb hby d6_6) rfl ?_
    exact k
  rw [show (((0 : Int32).toUInt32 >>> ((31 : Int32) &&& 31).toUInt32).toInt32) = (0 : Int32) from by decide]
  show Go p e below _ (s₁.setTop (mkF m 7 #[rv tb, iv (3 : Int32)] [(.int (0 : Int32))]))
  refine Go.step (S' := s₁.setTop (mkF m 8 #[rv tb, iv (3 : Int32)] [(.int ((0 : Int32).toInt8.toInt32))])) (fun t k => ?_) ?_
  · refine XS.i2b X0.here hx rfl (hb hby d6_7) rfl ?_
    exact k
  rw [show ((0 : Int32).toInt8.toInt32) = (0 : Int32) from by decide]
  show Go p e below _ (s₁.setTop (mkF m 8 #[rv tb, iv (3 : Int32)] [(.int (0 : Int32))]))
  obtain ⟨fs, hr, hrun, hended, hW, hsame⟩ := X0.leave (v := some (.int (0 : Int32))) (fun h => by rw [Bd.returns] at h; cases h)
  refine Go.fin (S' := s₁.setFrames fs) ?_ hrun hended ⟨_, _, rfl, ?_, ⟨_, rfl⟩, hW, hsame.mono (by decide) (by decide)⟩
  · exact retOut X0 hx Bd.returns (by decide) (Or.inl ⟨rfl, Or.inr (Or.inr (Or.inl rfl)), _, rfl⟩) (hb hby d6_8) hr
  · show Q_rmCf3 Z tb kb x0 x1 x2 h0 n0 (some (.int (0 : Int32))) s₁.heap _
    rw [e0]
    exact ⟨rfl, N0, rfl⟩
theorem ef_rmN4_3 (m : MethodId) (so : Addr) (vc : Addr) : entryFrame m #[(.ref so), (.ref vc), (.int (0 : Int32)), (.int (3 : Int32)), .null] 6 = mkF m 0 #[.val (.ref so), .val (.ref vc), .val (.int (0 : Int32)), .val (.int (3 : Int32)), .val .null, .unset] [] := by first | (simp [entryFrame, mkF, argsToLocals, Value.category]; done) | rfl
abbrev rm_rmN4_3 : Room := ({ frames := 2, cells := 1, slots := 3, locals := 35 } : Room)
def Q_rmN4_3 (Z : State) (so : Addr) (vc : Addr) (kc : ClassId) (cs : Int32) (x0 : Int32) (x1 : Int32) (x2 : Int32) (h0 : Heap) (n0 : Nat) (v : Option Value) (h : Heap) (L : List Loc) : Prop := ∃ tb : Addr, ∃ kb : ClassId, (v = none) ∧ (Fr n0 L) ∧ (Keep h0 h [so]) ∧ (Exa Z h so "java/lang/String") ∧ (Fld Z h so "java/lang/String" "value" "[B" (.ref tb)) ∧ (Fld Z h so "java/lang/String" "coder" "B" (.int (0 : Int32))) ∧ (Arv Z h tb kb .byte (3 : Int32) [(.int (x0.toInt8.toInt32)), (.int (x1.toInt8.toInt32)), (.int (x2.toInt8.toInt32))] (.int (0 : Int32)))
set_option maxRecDepth 65536 in
set_option maxHeartbeats 4000000 in
theorem rmN4_3 (l : Launch) (Z : State) (a0 : Array Value) (hw : ∀ d ∈ tables_1, d.before a0 Z = true) (ws : List Jvm.Cond) (so : Addr) (vc : Addr) (kc : ClassId) (cs : Int32) (x0 : Int32) (x1 : Int32) (x2 : Int32) (h0 : Heap) (n0 : Nat) (O : Old Z n0 h0) (S_CS : Sta Z Z.heap "java/lang/String" "COMPACT_STRINGS" "Z" (.int cs)) (E_so : Exa Z h0 so "java/lang/String") (F_v : Fld Z h0 so "java/lang/String" "value" "[B" .null) (F_c : Fld Z h0 so "java/lang/String" "coder" "B" (.int (0 : Int32))) (V_vc : Arv Z h0 vc kc .char (3 : Int32) [(.int x0), (.int x1), (.int x2)] (.int (0 : Int32))) (g_so : n0 ≤ so) (hcs : ¬ (cs = (0 : Int32))) (u0 : ¬ ((255 : Int32) < x0)) (u1 : ¬ ((255 : Int32) < x1)) (u2 : ¬ ((255 : Int32) < x2)) :
    MetFree l y_3 (head1 (Jvm.Cond.code y_3 jdk_42_method_149_code 6 none :: ws) rm_rmN4_3) (fun A_ U => A_ = #[(.ref so), (.ref vc), (.int (0 : Int32)), (.int (3 : Int32)), .null] ∧ Z.Warmed39 U.vm ∧ U.heap = h0) (fun _ _ _ _ _ => True) (fun _ U o U' => ∃ v L, o = .returned v ∧ Q_rmN4_3 Z so vc kc cs x0 x1 x2 h0 n0 v U'.heap L ∧ FrameEnd U o U' L rm_rmN4_3.cells rm_rmN4_3.slots) := by
  refine MetFree.of_bodySF (plainFor_of_name pn_java_lang_String) hisR ?_
  intro p e s m args below meth c s₁ Bd hml0 hP hK
  obtain ⟨rfl, hZ, hh⟩ := hP
  have hx := Bd.exec
  have hby := Bd.bytes
  have hml : c.maxLocals = 6 := hml0
  have hown : s.vm.findClass "java/lang/String" = some m.cls := findClass_of_methodNamed Bd.named
  have hnm := (name_of_methodNamed Bd.named Bd.method).1
  have X0 : Stand p l e rm_rmN4_3 s m #[(.ref so), (.ref vc), (.int (0 : Int32)), (.int (3 : Int32)), .null] below meth c s₁ [] 0 0 := Stand.of_body Bd
  have e0 : s₁.heap = h0 := by rw [← hh, Bd.state]; rfl
  have N0 := Fr.nil n0
  have K := Keep.refl h0 [so]
  refine Go.step (p := p) (e := e) (below := below) (G := fun o U' => ∃ v L, o = .returned v ∧ Q_rmN4_3 Z so vc kc cs x0 x1 x2 h0 n0 v U'.heap L ∧ FrameEnd s o U' L rm_rmN4_3.cells rm_rmN4_3.slots) (S' := s₁.setTop (mkF m 0 #[rv so, rv vc, iv (0 : Int32), iv (3 : Int32), .val .null, u_] [])) (fun t k => castTop (ef_rmN4_3 m so vc) k) ?_
  refine Go.step (S' := s₁.setTop (mkF m 1 #[rv so, rv vc, iv (0 : Int32), iv (3 : Int32), .val .null, u_] [(.ref so)])) (fun t k => ?_) ?_
  · refine XS.aloadN X0.here hx rfl (hb hby d2_0) rfl rfl ?_
    exact k
  obtain ⟨T1, X1, e1, st1⟩ := initO X0 hx hZ hown (own_w hw 12 rfl) (own_w hw 13 rfl) (own_w hw 14 rfl) e0 (g := (mkF m 1 #[rv so, rv vc, iv (0 : Int32), iv (3 : Int32), .val .null, u_] [(.ref so)])) rfl (by rw [hml]; rfl) rfl (hb hby d2_1) (by decide) (W := 0) (by show 2 * 0 + _ ≤ _; exact Nat.le_of_eq rfl) (by decide)
  refine Go.step st1 ?_
  show Go p e below _ (T1.setTop (mkF m 4 #[rv so, rv vc, iv (0 : Int32), iv (3 : Int32), .val .null, u_] []))
  refine Go.step (S' := T1.setTop (mkF m 27 #[rv so, rv vc, iv (0 : Int32), iv (3 : Int32), .val .null, u_] [])) (fun t k => ?_) ?_
  · refine XS.iloadN X1.here hx rfl (hb hby d2_4) rfl ?_
    refine XS.ifYes X1.here hx rfl (pc0 := 5) (pc' := 27) rfl (hb hby d2_5) rfl ((if0 _ _).trans (feq ((by decide) : ¬ ((3 : Int32) = (0 : Int32)))).2) (by decide) (by decide) ?_
    exact k
  obtain ⟨T2, X2, e2, st2⟩ := getS2 X1 hx hZ hown (host := "") (Or.inl (own_w hw 15 rfl)) Via.refl e1 (S_CS.ext O.2) (g := (mkF m 27 #[rv so, rv vc, iv (0 : Int32), iv (3 : Int32), .val .null, u_] [])) rfl (hb hby d2_27)
  refine Go.step st2 ?_
  show Go p e below _ (T2.setTop (mkF m 30 #[rv so, rv vc, iv (0 : Int32), iv (3 : Int32), .val .null, u_] [(.int cs)]))
  refine Go.step (S' := T2.setTop (mkF m 36 #[rv so, rv vc, iv (0 : Int32), iv (3 : Int32), .val .null, u_] [(.int (3 : Int32)), (.int (0 : Int32)), (.ref vc)])) (fun t k => ?_) ?_
  · refine XS.ifNo X2.here hx rfl (hb hby d2_30) rfl ((if0 _ _).trans (feq (hcs : ¬ (cs = (0 : Int32)))).1) ?_
    refine XS.aloadN X2.here hx rfl (hb hby d2_33) rfl rfl ?_
    refine XS.iloadN X2.here hx rfl (hb hby d2_34) rfl ?_
    show Steps p.tables e below (T2.setTop (mkF m 35 #[rv so, rv vc, iv (0 : Int32), iv (3 : Int32), .val .null, u_] [(.int (0 : Int32)), (.ref vc)])) _
    refine XS.iloadN X2.here hx rfl (hb hby d2_35) rfl ?_
    exact k
  obtain ⟨_, _, ⟨T3, L3, k3, n3⟩, -, X3, ⟨Lc3, hQ3, l3, y3, z3⟩, st3⟩ := Jvm.LawKit.callS X2 hx (y := y_1) hown (mvT hZ (own_w hw 16 rfl)) (mvT hZ (own_w hw 17 rfl)) (mvT hZ (own_w hw 18 rfl)) (mvT hZ (own_w hw 19 rfl)) (by decide) (backOf (W := 0) (rmCm3 l Z a0 hw [] vc kc x0 x1 x2 h0 n0 O V_vc u0 u1 u2) hZ (own_w hw 19 rfl) (own_w hw 18 rfl) (by decide) (by decide)) (g := (mkF m 36 #[rv so, rv vc, iv (0 : Int32), iv (3 : Int32), .val .null, u_] [(.int (3 : Int32)), (.int (0 : Int32)), (.ref vc)])) rfl (by rw [hml]; rfl) (argsL := [(.ref vc), (.int (0 : Int32)), (.int (3 : Int32))]) (rest := []) (lenOf pd__28_5bCII_29_5bB rfl) rfl (Nat.le_of_eq rfl) (hb hby d2_36) (fun _ _ => ⟨rfl, e2, (by decide : 0 + 1 ≤ _), (by decide : 0 + 3 ≤ _)⟩)
  dsimp only [Pt.U, Pt.locs, Pt.cells, Pt.slots] at X3 l3 y3 z3 st3 hQ3
  subst l3 y3 z3
  obtain ⟨b_3, kb_3, rfl, Nq3, K3, P3_V⟩ := hQ3
  have N3 := Fr.app N0 Nq3
  have O := O.keep K3 all0
  have E_so := E_so.keep K3
  have F_v := F_v.keep K3 nin0
  have F_c := F_c.keep K3 nin0
  have V_vc := V_vc.keep K3 nin0
  have K := K.trans K3 all0
  have V_3 := P3_V
  refine Go.step st3 ?_
  show Go p e below _ (T3.setTop (mkF m 39 #[rv so, rv vc, iv (0 : Int32), iv (3 : Int32), .val .null, u_] [(.ref b_3)]))
  refine Go.step (S' := T3.setTop (mkF m 45 #[rv so, rv vc, iv (0 : Int32), iv (3 : Int32), .val .null, rv b_3] [(.int (3 : Int32)), (.ref b_3), (.ref so)])) (fun t k => ?_) ?_
  · refine XS.astore X3.here hx rfl (hb hby d2_39) rfl rfl (l' := #[rv so, rv vc, iv (0 : Int32), iv (3 : Int32), .val .null, rv b_3]) rfl ?_
    refine XS.aloadN X3.here hx rfl (hb hby d2_41) rfl rfl ?_
    refine XS.aload X3.here hx rfl (hb hby d2_42) rfl rfl ?_
    show Steps p.tables e below (T3.setTop (mkF m 44 #[rv so, rv vc, iv (0 : Int32), iv (3 : Int32), .val .null, rv b_3] [(.ref b_3), (.ref so)])) _
    refine XS.iloadN X3.here hx rfl (hb hby d2_44) rfl ?_
    exact k
  obtain ⟨_, _, ⟨T4, L4, k4, n4⟩, -, X4, ⟨Lc4, hQ4, l4, y4, z4⟩, st4⟩ := Jvm.LawKit.callS X3 hx (y := y_2) hown (mvT hZ (own_w hw 24 rfl)) (mvT hZ (own_w hw 25 rfl)) (mvT hZ (own_w hw 18 rfl)) (mvT hZ (own_w hw 26 rfl)) (by decide) (backOf (W := 1) (rmCf3 l Z a0 hw [] b_3 kb_3 x0 x1 x2 T3.heap n0 O V_3) hZ (own_w hw 26 rfl) (own_w hw 18 rfl) (by decide) (by decide)) (g := (mkF m 45 #[rv so, rv vc, iv (0 : Int32), iv (3 : Int32), .val .null, rv b_3] [(.int (3 : Int32)), (.ref b_3), (.ref so)])) rfl (by rw [hml]; rfl) (argsL := [(.ref b_3), (.int (3 : Int32))]) (rest := [(.ref so)]) (lenOf pd__28_5bBI_29B rfl) rfl (Nat.le_of_eq rfl) (hb hby d2_45) (fun _ _ => ⟨rfl, (Eq.refl T3.heap), (by decide : 1 + 0 ≤ _), (by decide : 3 + 0 ≤ _)⟩)
  dsimp only [Pt.U, Pt.locs, Pt.cells, Pt.slots] at X4 l4 y4 z4 st4 hQ4
  subst l4 y4 z4
  obtain ⟨rfl, Nq4, e4⟩ := hQ4
  have N4 := Fr.app N3 Nq4
  refine Go.step st4 ?_
  show Go p e below _ (T4.setTop (mkF m 48 #[rv so, rv vc, iv (0 : Int32), iv (3 : Int32), .val .null, rv b_3] [(.int (0 : Int32)), (.ref so)]))
  obtain ⟨T5, h5, X5, e5, W5, st5⟩ := putFN X4 hx hZ hown (own_w hw 27 rfl) Via.refl e4 F_c E_so (Or.inr ⟨(own_w hw 28 rfl), rfl, hnm⟩) (own_w hw 3 rfl) (ty := .byte) (v' := (.int (0 : Int32))) (by decide) rfl rfl (g := (mkF m 48 #[rv so, rv vc, iv (0 : Int32), iv (3 : Int32), .val .null, rv b_3] [(.int (0 : Int32)), (.ref so)])) rfl rfl (hb hby d2_48)
  have ne_vc_so : vc ≠ so := Ne.symm (Exa.neArv E_so V_vc (own_w hw 3 rfl))
  have ne_b_3_so : b_3 ≠ so := Ne.symm (Exa.neArv E_so V_3 (own_w hw 3 rfl))
  have O := O.wr W5 g_so
  have E_so := E_so.wr W5
  have F_v := F_v.other W5 (Or.inr (slot_ne (Or.inr (own_w hw 30 rfl)) (Or.inr (own_w hw 28 rfl)) (by decide) (t := (.array .byte)) (t' := .byte) (by decide) (by decide)))
  have F_c := F_c.same W5
  have V_vc := V_vc.other W5 ne_vc_so
  have K := K.wr W5 (Or.inl (List.mem_of_getElem? (i := 0) rfl))
  have V_3 := V_3.other W5 ne_b_3_so
  have N5 := Fr.snoc X5 N4 g_so
  refine Go.step st5 ?_
  show Go p e below _ (T5.setTop (mkF m 51 #[rv so, rv vc, iv (0 : Int32), iv (3 : Int32), .val .null, rv b_3] []))
  refine Go.step (S' := T5.setTop (mkF m 54 #[rv so, rv vc, iv (0 : Int32), iv (3 : Int32), .val .null, rv b_3] [(.ref b_3), (.ref so)])) (fun t k => ?_) ?_
  · refine XS.aloadN X5.here hx rfl (hb hby d2_51) rfl rfl ?_
    refine XS.aload X5.here hx rfl (hb hby d2_52) rfl rfl ?_
    exact k
  obtain ⟨T6, h6, X6, e6, W6, st6⟩ := putF X5 hx hZ hown (host := "") (Or.inl (own_w hw 29 rfl)) Via.refl e5 F_v E_so (Or.inr ⟨(own_w hw 30 rfl), rfl, hnm⟩) (own_w hw 3 rfl) (ty := (.array .byte)) (by decide) rfl rfl (g := (mkF m 54 #[rv so, rv vc, iv (0 : Int32), iv (3 : Int32), .val .null, rv b_3] [(.ref b_3), (.ref so)])) rfl rfl (hb hby d2_54)
  have O := O.wr W6 g_so
  have E_so := E_so.wr W6
  have F_v := F_v.same W6
  have F_c := F_c.other W6 (Or.inr (slot_ne (Or.inr (own_w hw 28 rfl)) (Or.inr (own_w hw 30 rfl)) (by decide) (t := .byte) (t' := (.array .byte)) (by decide) (by decide)))
  have V_vc := V_vc.other W6 ne_vc_so
  have K := K.wr W6 (Or.inl (List.mem_of_getElem? (i := 0) rfl))
  have V_3 := V_3.other W6 ne_b_3_so
  have N6 := Fr.snoc X6 N5 g_so
  refine Go.step st6 ?_
  show Go p e below _ (T6.setTop (mkF m 57 #[rv so, rv vc, iv (0 : Int32), iv (3 : Int32), .val .null, rv b_3] []))
  obtain ⟨fs, hr, hrun, hended, hW, hsame⟩ := X6.leave (v := none) (fun _ => rfl)
  refine Go.fin (S' := T6.setFrames fs) ?_ hrun hended ⟨_, _, rfl, ?_, ⟨_, rfl⟩, hW, hsame.mono (by decide) (by decide)⟩
  · exact X6.returnOut hx Bd.returns (hb hby d2_57) hr
  · show Q_rmN4_3 Z so vc kc cs x0 x1 x2 h0 n0 (none) T6.heap _
    rw [e6]
    exact ⟨b_3, kb_3, rfl, N6, K, E_so, F_v, F_c, V_3⟩
theorem ef_rmNS3 (m : MethodId) (so : Addr) (vc : Addr) : entryFrame m #[(.ref so), (.ref vc)] 2 = mkF m 0 #[.val (.ref so), .val (.ref vc)] [] := by first | (simp [entryFrame, mkF, argsToLocals, Value.category]; done) | rfl
abbrev rm_rmNS3 : Room := ({ frames := 3, cells := 1, slots := 3, locals := 52 } : Room)
def Q_rmNS3 (Z : State) (so : Addr) (vc : Addr) (kc : ClassId) (cs : Int32) (x0 : Int32) (x1 : Int32) (x2 : Int32) (h0 : Heap) (n0 : Nat) (v : Option Value) (h : Heap) (L : List Loc) : Prop := ∃ tb : Addr, ∃ kb : ClassId, (v = none) ∧ (Fr n0 L) ∧ (Keep h0 h [so]) ∧ (Exa Z h so "java/lang/String") ∧ (Fld Z h so "java/lang/String" "value" "[B" (.ref tb)) ∧ (Fld Z h so "java/lang/String" "coder" "B" (.int (0 : Int32))) ∧ (Arv Z h tb kb .byte (3 : Int32) [(.int (x0.toInt8.toInt32)), (.int (x1.toInt8.toInt32)), (.int (x2.toInt8.toInt32))] (.int (0 : Int32)))
set_option maxRecDepth 65536 in
set_option maxHeartbeats 4000000 in
theorem rmNS3 (l : Launch) (Z : State) (a0 : Array Value) (hw : ∀ d ∈ tables_1, d.before a0 Z = true) (ws : List Jvm.Cond) (so : Addr) (vc : Addr) (kc : ClassId) (cs : Int32) (x0 : Int32) (x1 : Int32) (x2 : Int32) (h0 : Heap) (n0 : Nat) (O : Old Z n0 h0) (S_CS : Sta Z Z.heap "java/lang/String" "COMPACT_STRINGS" "Z" (.int cs)) (E_so : Exa Z h0 so "java/lang/String") (F_v : Fld Z h0 so "java/lang/String" "value" "[B" .null) (F_c : Fld Z h0 so "java/lang/String" "coder" "B" (.int (0 : Int32))) (V_vc : Arv Z h0 vc kc .char (3 : Int32) [(.int x0), (.int x1), (.int x2)] (.int (0 : Int32))) (g_so : n0 ≤ so) (hcs : ¬ (cs = (0 : Int32))) (u0 : ¬ ((255 : Int32) < x0)) (u1 : ¬ ((255 : Int32) < x1)) (u2 : ¬ ((255 : Int32) < x2)) :
    MetFree l y_4 (head1 (Jvm.Cond.code y_4 jdk_42_method_3_code 2 none :: ws) rm_rmNS3) (fun A_ U => A_ = #[(.ref so), (.ref vc)] ∧ Z.Warmed39 U.vm ∧ U.heap = h0) (fun _ _ _ _ _ => True) (fun _ U o U' => ∃ v L, o = .returned v ∧ Q_rmNS3 Z so vc kc cs x0 x1 x2 h0 n0 v U'.heap L ∧ FrameEnd U o U' L rm_rmNS3.cells rm_rmNS3.slots) := by
  refine MetFree.of_bodySF (plainFor_of_name pn_java_lang_String) hisR ?_
  intro p e s m args below meth c s₁ Bd hml0 hP hK
  obtain ⟨rfl, hZ, hh⟩ := hP
  have hx := Bd.exec
  have hby := Bd.bytes
  have hml : c.maxLocals = 2 := hml0
  have hown : s.vm.findClass "java/lang/String" = some m.cls := findClass_of_methodNamed Bd.named
  have hnm := (name_of_methodNamed Bd.named Bd.method).1
  have X0 : Stand p l e rm_rmNS3 s m #[(.ref so), (.ref vc)] below meth c s₁ [] 0 0 := Stand.of_body Bd
  have e0 : s₁.heap = h0 := by rw [← hh, Bd.state]; rfl
  have N0 := Fr.nil n0
  have K := Keep.refl h0 [so]
  refine Go.step (p := p) (e := e) (below := below) (G := fun o U' => ∃ v L, o = .returned v ∧ Q_rmNS3 Z so vc kc cs x0 x1 x2 h0 n0 v U'.heap L ∧ FrameEnd s o U' L rm_rmNS3.cells rm_rmNS3.slots) (S' := s₁.setTop (mkF m 0 #[rv so, rv vc] [])) (fun t k => castTop (ef_rmNS3 m so vc) k) ?_
  refine Go.step (S' := s₁.setTop (mkF m 4 #[rv so, rv vc] [(.ref vc), (.int (0 : Int32)), (.ref vc), (.ref so)])) (fun t k => ?_) ?_
  · refine XS.aloadN X0.here hx rfl (hb hby d1_0) rfl rfl ?_
    refine XS.aloadN X0.here hx rfl (hb hby d1_1) rfl rfl ?_
    refine XS.iconst X0.here hx rfl (hb hby d1_2) ?_
    show Steps p.tables e below (s₁.setTop (mkF m 3 #[rv so, rv vc] [(.int (0 : Int32)), (.ref vc), (.ref so)])) _
    refine XS.aloadN X0.here hx rfl (hb hby d1_3) rfl rfl ?_
    exact k
  obtain ⟨cl1, Ar1, -, S1, N1_, -, -⟩ := id V_vc
  refine Go.step (S' := s₁.setTop (mkF m 5 #[rv so, rv vc] [(.int cl1.slots.size.toInt32), (.int (0 : Int32)), (.ref vc), (.ref so)])) (fun t k => X0.arraylength hx (by rw [e0]; exact Ar1.1) (State.isArrayOf_alike hZ.alike Ar1.2.1) (g := (mkF m 4 #[rv so, rv vc] [(.ref vc), (.int (0 : Int32)), (.ref vc), (.ref so)])) rfl rfl (hb hby d1_4) _ k) ?_
  rw [len_of S1 N1_]
  show Go p e below _ (s₁.setTop (mkF m 5 #[rv so, rv vc] [(.int (3 : Int32)), (.int (0 : Int32)), (.ref vc), (.ref so)]))
  refine Go.step (S' := s₁.setTop (mkF m 6 #[rv so, rv vc] [.null, (.int (3 : Int32)), (.int (0 : Int32)), (.ref vc), (.ref so)])) (fun t k => ?_) ?_
  · refine XS.aconstNull X0.here hx rfl (hb hby d1_5) ?_
    exact k
  obtain ⟨_, _, ⟨T2, L2, k2, n2⟩, -, X2, ⟨Lc2, hQ2, l2, y2, z2⟩, st2⟩ := X0.specialBack hx (y := y_3) rfl hown (mvT hZ (own_w hw 8 rfl)) (mvT hZ (own_w hw 9 rfl)) (mvT hZ (own_w hw 11 rfl)) (by decide) (backOf (W := 0) (rmN4_3 l Z a0 hw [] so vc kc cs x0 x1 x2 h0 n0 O S_CS E_so F_v F_c V_vc (by assumption) hcs u0 u1 u2) hZ (own_w hw 11 rfl) (own_w hw 4 rfl) (by decide) (by decide)) (g := (mkF m 6 #[rv so, rv vc] [.null, (.int (3 : Int32)), (.int (0 : Int32)), (.ref vc), (.ref so)])) rfl (by rw [hml]; rfl) (Steps.refl _) (a := so) (argsL := [(.ref vc), (.int (0 : Int32)), (.int (3 : Int32)), .null]) (rest := []) (lenOf pd__28_5bCIILjava_2flang_2fVoid_3b_29V rfl) rfl (Nat.le_of_eq rfl) (hb hby d1_6) (fun _ _ => ⟨rfl, e0, (by decide : 0 + 1 ≤ _), (by decide : 0 + 3 ≤ _)⟩)
  dsimp only [Pt.U, Pt.locs, Pt.cells, Pt.slots] at X2 l2 y2 z2 st2 hQ2
  subst l2 y2 z2
  obtain ⟨tb_2, kb_2, rfl, Nq2, K2, P2_E, P2_Fv, P2_Fc, P2_V⟩ := hQ2
  have N2 := Fr.app N0 Nq2
  have ne_vc_so : vc ≠ so := Ne.symm (Exa.neArv E_so V_vc (own_w hw 3 rfl))
  have O := O.keep K2 (allS g_so all0)
  have E_so := E_so.keep K2
  have V_vc := V_vc.keep K2 (ninS ne_vc_so nin0)
  have K := K.trans K2 (allS (Or.inl (List.mem_of_getElem? (i := 0) rfl)) all0)
  have E_2 := P2_E
  have Fv_2 := P2_Fv
  have Fc_2 := P2_Fc
  have V_2 := P2_V
  refine Go.step (fun t k => st2.trans k) ?_
  show Go p e below _ (T2.setTop (mkF m 9 #[rv so, rv vc] []))
  obtain ⟨fs, hr, hrun, hended, hW, hsame⟩ := X2.leave (v := none) (fun _ => rfl)
  refine Go.fin (S' := T2.setFrames fs) ?_ hrun hended ⟨_, _, rfl, ?_, ⟨_, rfl⟩, hW, hsame.mono (by decide) (by decide)⟩
  · exact X2.returnOut hx Bd.returns (hb hby d1_9) hr
  · show Q_rmNS3 Z so vc kc cs x0 x1 x2 h0 n0 (none) T2.heap _
    exact ⟨tb_2, kb_2, rfl, N2, K, E_so, Fv_2, Fc_2, V_2⟩
theorem own_mod4 (p : Int32) : ((p &&& (2147483647 : Int32)) % (4 : Int32)) = (0 : Int32) ∨ ((p &&& (2147483647 : Int32)) % (4 : Int32)) = (1 : Int32) ∨ ((p &&& (2147483647 : Int32)) % (4 : Int32)) = (2 : Int32) ∨ ((p &&& (2147483647 : Int32)) % (4 : Int32)) = (3 : Int32) := by
  have h1 := c_mask p 2147483647 31 (by decide) (by decide)
  generalize (p &&& (2147483647 : Int32)) = w at *
  have h2 := c_irem w 4 4 (by decide)
  simp only [← Int32.toInt_inj, show (0 : Int32).toInt = 0 from rfl, show (1 : Int32).toInt = 1 from rfl, show (2 : Int32).toInt = 2 from rfl, show (3 : Int32).toInt = 3 from rfl]
  omega
theorem own_m255 (p : Int32) : ¬ ((255 : Int32) < (p &&& (255 : Int32))) := by
  have h1 := c_mask p 255 8 (by decide) (by decide)
  rw [Int32.lt_iff_toInt_lt, show (255 : Int32).toInt = 255 from rfl]; omega
theorem own_cc (p : Int32) : ((p &&& (255 : Int32)).toUInt32.toUInt16.toUInt32.toInt32).toUInt32.toUInt16.toUInt32.toInt32 = (p &&& (255 : Int32)) := by
  rw [show ((p &&& (255 : Int32)).toUInt32.toUInt16.toUInt32.toInt32) = (p &&& (255 : Int32)) from i2c_mask p]; exact i2c_mask p
theorem d2_8 : decode jdk_42_method_149_code 8 = .ok (.aload_n 0, 1) := by decide +kernel
theorem d2_9 : decode jdk_42_method_149_code 9 = .ok (.ldc 7, 2) := by decide +kernel
theorem d2_11 : decode jdk_42_method_149_code 11 = .ok (.getfield 9, 3) := by decide +kernel
theorem d2_14 : decode jdk_42_method_149_code 14 = .ok (.putfield 9, 3) := by decide +kernel
theorem d2_17 : decode jdk_42_method_149_code 17 = .ok (.aload_n 0, 1) := by decide +kernel
theorem d2_18 : decode jdk_42_method_149_code 18 = .ok (.ldc 7, 2) := by decide +kernel
theorem d2_20 : decode jdk_42_method_149_code 20 = .ok (.getfield 15, 3) := by decide +kernel
theorem d2_23 : decode jdk_42_method_149_code 23 = .ok (.putfield 15, 3) := by decide +kernel
theorem d2_26 : decode jdk_42_method_149_code 26 = .ok (.return_, 1) := by decide +kernel
theorem ef_rmN4_0 (m : MethodId) (so : Addr) (vc : Addr) : entryFrame m #[(.ref so), (.ref vc), (.int (0 : Int32)), (.int (0 : Int32)), .null] 6 = mkF m 0 #[.val (.ref so), .val (.ref vc), .val (.int (0 : Int32)), .val (.int (0 : Int32)), .val .null, .unset] [] := by first | (simp [entryFrame, mkF, argsToLocals, Value.category]; done) | rfl
abbrev rm_rmN4_0 : Room := ({ frames := 1, cells := 2, slots := 4, locals := 12 } : Room)
def Q_rmN4_0 (Z : State) (so : Addr) (vc : Addr) (h0 : Heap) (n0 : Nat) (v : Option Value) (h : Heap) (L : List Loc) : Prop := ∃ tb : Addr, ∃ kb : ClassId, (v = none) ∧ (Fr n0 L) ∧ (Keep h0 h [so]) ∧ (Exa Z h so "java/lang/String") ∧ (Fld Z h so "java/lang/String" "value" "[B" (.ref tb)) ∧ (Fld Z h so "java/lang/String" "coder" "B" (.int (0 : Int32))) ∧ (Arv Z h tb kb .byte (0 : Int32) [] (.int (0 : Int32)))
set_option maxRecDepth 65536 in
set_option maxHeartbeats 4000000 in
theorem rmN4_0 (l : Launch) (Z : State) (a0 : Array Value) (hw : ∀ d ∈ tables_1, d.before a0 Z = true) (ws : List Jvm.Cond) (so : Addr) (vc : Addr) (h0 : Heap) (n0 : Nat) (O : Old Z n0 h0) (E_so : Exa Z h0 so "java/lang/String") (F_v : Fld Z h0 so "java/lang/String" "value" "[B" .null) (F_c : Fld Z h0 so "java/lang/String" "coder" "B" (.int (0 : Int32))) (g_so : n0 ≤ so) :
    MetFree l y_3 (head1 (Jvm.Cond.code y_3 jdk_42_method_149_code 6 none :: ws) rm_rmN4_0) (fun A_ U => A_ = #[(.ref so), (.ref vc), (.int (0 : Int32)), (.int (0 : Int32)), .null] ∧ Z.Warmed39 U.vm ∧ U.heap = h0 ∧ CHv Z EL_ U.vm h0) (fun _ _ _ _ _ => True) (fun _ U o U' => ∃ v L, o = .returned v ∧ Q_rmN4_0 Z so vc h0 n0 v U'.heap L ∧ ReturnedEndW U o U' L rm_rmN4_0.cells rm_rmN4_0.slots) := by
  refine MetFree.of_bodySF (plainFor_of_name pn_java_lang_String) hisR ?_
  intro p e s m args below meth c s₁ Bd hml0 hP hK
  obtain ⟨rfl, hZ, hh, CH⟩ := hP
  have hx := Bd.exec
  have hby := Bd.bytes
  have hml : c.maxLocals = 6 := hml0
  have hown : s.vm.findClass "java/lang/String" = some m.cls := findClass_of_methodNamed Bd.named
  have hnm := (name_of_methodNamed Bd.named Bd.method).1
  have X0 : Stand p l e rm_rmN4_0 (s.setVm s.vm) m #[(.ref so), (.ref vc), (.int (0 : Int32)), (.int (0 : Int32)), .null] below meth c s₁ [] 0 0 := Stand.of_body Bd
  have e0 : s₁.heap = h0 := by rw [← hh, Bd.state]; rfl
  have N0 := Fr.nil n0
  have K := Keep.refl h0 [so]
  have hS : s.Since s.vm 0 := (State.WarmedH.refl s).since 0
  have hk : 0 ≤ h0.size := Nat.zero_le _
  have wS := own_wS hw
  refine Go.step (p := p) (e := e) (below := below) (G := fun o U' => ∃ v L, o = .returned v ∧ Q_rmN4_0 Z so vc h0 n0 v U'.heap L ∧ ReturnedEndW s o U' L rm_rmN4_0.cells rm_rmN4_0.slots) (S' := s₁.setTop (mkF m 0 #[rv so, rv vc, iv (0 : Int32), iv (0 : Int32), .val .null, u_] [])) (fun t k => castTop (ef_rmN4_0 m so vc) k) ?_
  refine Go.step (S' := s₁.setTop (mkF m 1 #[rv so, rv vc, iv (0 : Int32), iv (0 : Int32), .val .null, u_] [(.ref so)])) (fun t k => ?_) ?_
  · refine XS.aloadN X0.here hx rfl (hb hby d2_0) rfl rfl ?_
    exact k
  obtain ⟨T1, X1, e1, st1⟩ := initO X0 hx hZ hown (own_w hw 12 rfl) (own_w hw 13 rfl) (own_w hw 14 rfl) e0 (g := (mkF m 1 #[rv so, rv vc, iv (0 : Int32), iv (0 : Int32), .val .null, u_] [(.ref so)])) rfl (by rw [hml]; rfl) rfl (hb hby d2_1) (by decide) (W := 0) (by show 2 * 0 + _ ≤ _; exact Nat.le_of_eq rfl) (by decide)
  refine Go.step st1 ?_
  show Go p e below _ (T1.setTop (mkF m 4 #[rv so, rv vc, iv (0 : Int32), iv (0 : Int32), .val .null, u_] []))
  refine Go.step (S' := T1.setTop (mkF m 9 #[rv so, rv vc, iv (0 : Int32), iv (0 : Int32), .val .null, u_] [(.ref so)])) (fun t k => ?_) ?_
  · refine XS.iloadN X1.here hx rfl (hb hby d2_4) rfl ?_
    refine XS.ifNo X1.here hx rfl (hb hby d2_5) rfl ((if0 _ _).trans (teq ((by decide) : (0 : Int32) = (0 : Int32))).2) ?_
    refine XS.aloadN X1.here hx rfl (hb hby d2_8) rfl rfl ?_
    exact k
  obtain ⟨a2, T2, h2, k2, b2, kb2, X2, e2, E2, hS, hk, hZ, hown, Ea2, Fc2, Fv2, Va2, -, -, -, LIT, -, st2⟩ := ldcCH X1 hx hZ hown (own_w hw 52 rfl) wS e1 hS hk (own_EW hw) (List.mem_of_getElem? (i := 0) rfl) CH (vs := []) (z := (0 : Int32)) ⟨by decide, rfl⟩ (by decide) rfl (g := (mkF m 9 #[rv so, rv vc, iv (0 : Int32), iv (0 : Int32), .val .null, u_] [(.ref so)])) rfl (hb hby d2_9) (n := 0) (by decide) (by decide) (by decide) (by decide)
  have O := O.ext E2
  have E_so := E_so.ext E2
  have F_v := F_v.ext E2
  have F_c := F_c.ext E2
  have K := K.ext E2
  refine Go.step st2 ?_
  show Go p e below _ (T2.setTop (mkF m 11 #[rv so, rv vc, iv (0 : Int32), iv (0 : Int32), .val .null, u_] [(.ref a2), (.ref so)]))
  obtain ⟨T3, X3, e3, st3⟩ := getF X2 hx hZ hown (host := "") (Or.inl (own_w hw 29 rfl)) Via.refl e2 Fv2 (g := (mkF m 11 #[rv so, rv vc, iv (0 : Int32), iv (0 : Int32), .val .null, u_] [(.ref a2), (.ref so)])) rfl rfl (hb hby d2_11)
  refine Go.step st3 ?_
  show Go p e below _ (T3.setTop (mkF m 14 #[rv so, rv vc, iv (0 : Int32), iv (0 : Int32), .val .null, u_] [(.ref b2), (.ref so)]))
  obtain ⟨T4, h4, X4, e4, W4, st4⟩ := putF X3 hx hZ hown (host := "") (Or.inl (own_w hw 29 rfl)) Via.refl e3 F_v E_so (Or.inr ⟨(own_w hw 30 rfl), rfl, hnm⟩) (own_w hw 3 rfl) (ty := (.array .byte)) (by decide) rfl rfl (g := (mkF m 14 #[rv so, rv vc, iv (0 : Int32), iv (0 : Int32), .val .null, u_] [(.ref b2), (.ref so)])) rfl rfl (hb hby d2_14)
  have ne_a2_so : a2 ≠ so := Fld.ne Fv2 F_v nofun
  have ne_b2_so : b2 ≠ so := Ne.symm (Exa.neArv E_so Va2 (own_w hw 3 rfl))
  have O := O.wr W4 g_so
  have E_so := E_so.wr W4
  have F_v := F_v.same W4
  have F_c := F_c.other W4 (Or.inr (slot_ne (Or.inr (own_w hw 28 rfl)) (Or.inr (own_w hw 30 rfl)) (by decide) (t := .byte) (t' := (.array .byte)) (by decide) (by decide)))
  have K := K.wr W4 (Or.inl (List.mem_of_getElem? (i := 0) rfl))
  have hk := Nat.le_trans hk (Keep.of_wr W4).1
  have Ea2 := Ea2.wr W4
  have Fc2 := Fc2.other W4 (Or.inl ne_a2_so)
  have Fv2 := Fv2.other W4 (Or.inl ne_a2_so)
  have Va2 := Va2.other W4 ne_b2_so
  have N4 := Fr.snoc X4 N0 g_so
  refine Go.step st4 ?_
  show Go p e below _ (T4.setTop (mkF m 17 #[rv so, rv vc, iv (0 : Int32), iv (0 : Int32), .val .null, u_] []))
  refine Go.step (S' := T4.setTop (mkF m 18 #[rv so, rv vc, iv (0 : Int32), iv (0 : Int32), .val .null, u_] [(.ref so)])) (fun t k => ?_) ?_
  · refine XS.aloadN X4.here hx rfl (hb hby d2_17) rfl rfl ?_
    exact k
  refine Go.step (S' := T4.setTop (mkF m 20 #[rv so, rv vc, iv (0 : Int32), iv (0 : Int32), .val .null, u_] [(.ref a2), (.ref so)])) (ldcAgain X4 hx hZ hown (own_w hw 52 rfl) LIT (g := (mkF m 18 #[rv so, rv vc, iv (0 : Int32), iv (0 : Int32), .val .null, u_] [(.ref so)])) rfl (hb hby d2_18)) ?_
  obtain ⟨T5, X5, e5, st5⟩ := getF X4 hx hZ hown (host := "") (Or.inl (own_w hw 27 rfl)) Via.refl e4 Fc2 (g := (mkF m 20 #[rv so, rv vc, iv (0 : Int32), iv (0 : Int32), .val .null, u_] [(.ref a2), (.ref so)])) rfl rfl (hb hby d2_20)
  refine Go.step st5 ?_
  show Go p e below _ (T5.setTop (mkF m 23 #[rv so, rv vc, iv (0 : Int32), iv (0 : Int32), .val .null, u_] [(.int (0 : Int32)), (.ref so)]))
  obtain ⟨T6, h6, X6, e6, W6, st6⟩ := putFN X5 hx hZ hown (own_w hw 27 rfl) Via.refl e5 F_c E_so (Or.inr ⟨(own_w hw 28 rfl), rfl, hnm⟩) (own_w hw 3 rfl) (ty := .byte) (v' := (.int (0 : Int32))) (by decide) rfl rfl (g := (mkF m 23 #[rv so, rv vc, iv (0 : Int32), iv (0 : Int32), .val .null, u_] [(.int (0 : Int32)), (.ref so)])) rfl rfl (hb hby d2_23)
  have O := O.wr W6 g_so
  have E_so := E_so.wr W6
  have F_v := F_v.other W6 (Or.inr (slot_ne (Or.inr (own_w hw 30 rfl)) (Or.inr (own_w hw 28 rfl)) (by decide) (t := (.array .byte)) (t' := .byte) (by decide) (by decide)))
  have F_c := F_c.same W6
  have K := K.wr W6 (Or.inl (List.mem_of_getElem? (i := 0) rfl))
  have hk := Nat.le_trans hk (Keep.of_wr W6).1
  have Ea2 := Ea2.wr W6
  have Fc2 := Fc2.other W6 (Or.inl ne_a2_so)
  have Fv2 := Fv2.other W6 (Or.inl ne_a2_so)
  have Va2 := Va2.other W6 ne_b2_so
  have N6 := Fr.snoc X6 N4 g_so
  refine Go.step st6 ?_
  show Go p e below _ (T6.setTop (mkF m 26 #[rv so, rv vc, iv (0 : Int32), iv (0 : Int32), .val .null, u_] []))
  obtain ⟨fs, hr, hrun, hended, hR⟩ := X6.leaveW hS (by rw [e6]; exact hk) (v := none) (fun _ => rfl)
  refine Go.fin (S' := T6.setFrames fs) ?_ hrun hended ⟨_, _, rfl, ?_, hR.1, hR.2.1, hR.2.2.1, hR.2.2.2.mono (by decide) (by decide)⟩
  · exact X6.returnOut hx Bd.returns (hb hby d2_26) hr
  · show Q_rmN4_0 Z so vc h0 n0 (none) T6.heap _
    rw [e6]
    exact ⟨b2, kb2, rfl, N6, K, E_so, F_v, F_c, Va2⟩
theorem ef_rmNS0 (m : MethodId) (so : Addr) (vc : Addr) : entryFrame m #[(.ref so), (.ref vc)] 2 = mkF m 0 #[.val (.ref so), .val (.ref vc)] [] := by first | (simp [entryFrame, mkF, argsToLocals, Value.category]; done) | rfl
abbrev rm_rmNS0 : Room := ({ frames := 2, cells := 2, slots := 4, locals := 29 } : Room)
def Q_rmNS0 (Z : State) (so : Addr) (vc : Addr) (kc : ClassId) (h0 : Heap) (n0 : Nat) (v : Option Value) (h : Heap) (L : List Loc) : Prop := ∃ tb : Addr, ∃ kb : ClassId, (v = none) ∧ (Fr n0 L) ∧ (Keep h0 h [so]) ∧ (Exa Z h so "java/lang/String") ∧ (Fld Z h so "java/lang/String" "value" "[B" (.ref tb)) ∧ (Fld Z h so "java/lang/String" "coder" "B" (.int (0 : Int32))) ∧ (Arv Z h tb kb .byte (0 : Int32) [] (.int (0 : Int32)))
set_option maxRecDepth 65536 in
set_option maxHeartbeats 4000000 in
theorem rmNS0 (l : Launch) (Z : State) (a0 : Array Value) (hw : ∀ d ∈ tables_1, d.before a0 Z = true) (ws : List Jvm.Cond) (so : Addr) (vc : Addr) (kc : ClassId) (h0 : Heap) (n0 : Nat) (O : Old Z n0 h0) (E_so : Exa Z h0 so "java/lang/String") (F_v : Fld Z h0 so "java/lang/String" "value" "[B" .null) (F_c : Fld Z h0 so "java/lang/String" "coder" "B" (.int (0 : Int32))) (V_vc : Arv Z h0 vc kc .char (0 : Int32) [] (.int (0 : Int32))) (g_so : n0 ≤ so) :
    MetFree l y_4 (head1 (Jvm.Cond.code y_4 jdk_42_method_3_code 2 none :: ws) rm_rmNS0) (fun A_ U => A_ = #[(.ref so), (.ref vc)] ∧ Z.Warmed39 U.vm ∧ U.heap = h0 ∧ CHv Z EL_ U.vm h0) (fun _ _ _ _ _ => True) (fun _ U o U' => ∃ v L, o = .returned v ∧ Q_rmNS0 Z so vc kc h0 n0 v U'.heap L ∧ ReturnedEndW U o U' L rm_rmNS0.cells rm_rmNS0.slots) := by
  refine MetFree.of_bodySF (plainFor_of_name pn_java_lang_String) hisR ?_
  intro p e s m args below meth c s₁ Bd hml0 hP hK
  obtain ⟨rfl, hZ, hh, CH⟩ := hP
  have hx := Bd.exec
  have hby := Bd.bytes
  have hml : c.maxLocals = 2 := hml0
  have hown : s.vm.findClass "java/lang/String" = some m.cls := findClass_of_methodNamed Bd.named
  have hnm := (name_of_methodNamed Bd.named Bd.method).1
  have X0 : Stand p l e rm_rmNS0 (s.setVm s.vm) m #[(.ref so), (.ref vc)] below meth c s₁ [] 0 0 := Stand.of_body Bd
  have e0 : s₁.heap = h0 := by rw [← hh, Bd.state]; rfl
  have N0 := Fr.nil n0
  have K := Keep.refl h0 [so]
  have hS : s.Since s.vm 0 := (State.WarmedH.refl s).since 0
  have hk : 0 ≤ h0.size := Nat.zero_le _
  have wS := own_wS hw
  refine Go.step (p := p) (e := e) (below := below) (G := fun o U' => ∃ v L, o = .returned v ∧ Q_rmNS0 Z so vc kc h0 n0 v U'.heap L ∧ ReturnedEndW s o U' L rm_rmNS0.cells rm_rmNS0.slots) (S' := s₁.setTop (mkF m 0 #[rv so, rv vc] [])) (fun t k => castTop (ef_rmNS0 m so vc) k) ?_
  refine Go.step (S' := s₁.setTop (mkF m 4 #[rv so, rv vc] [(.ref vc), (.int (0 : Int32)), (.ref vc), (.ref so)])) (fun t k => ?_) ?_
  · refine XS.aloadN X0.here hx rfl (hb hby d1_0) rfl rfl ?_
    refine XS.aloadN X0.here hx rfl (hb hby d1_1) rfl rfl ?_
    refine XS.iconst X0.here hx rfl (hb hby d1_2) ?_
    show Steps p.tables e below (s₁.setTop (mkF m 3 #[rv so, rv vc] [(.int (0 : Int32)), (.ref vc), (.ref so)])) _
    refine XS.aloadN X0.here hx rfl (hb hby d1_3) rfl rfl ?_
    exact k
  obtain ⟨cl1, Ar1, -, S1, N1_, -, -⟩ := id V_vc
  refine Go.step (S' := s₁.setTop (mkF m 5 #[rv so, rv vc] [(.int cl1.slots.size.toInt32), (.int (0 : Int32)), (.ref vc), (.ref so)])) (fun t k => X0.arraylength hx (by rw [e0]; exact Ar1.1) (State.isArrayOf_alike hZ.alike Ar1.2.1) (g := (mkF m 4 #[rv so, rv vc] [(.ref vc), (.int (0 : Int32)), (.ref vc), (.ref so)])) rfl rfl (hb hby d1_4) _ k) ?_
  rw [len_of S1 N1_]
  show Go p e below _ (s₁.setTop (mkF m 5 #[rv so, rv vc] [(.int (0 : Int32)), (.int (0 : Int32)), (.ref vc), (.ref so)]))
  refine Go.step (S' := s₁.setTop (mkF m 6 #[rv so, rv vc] [.null, (.int (0 : Int32)), (.int (0 : Int32)), (.ref vc), (.ref so)])) (fun t k => ?_) ?_
  · refine XS.aconstNull X0.here hx rfl (hb hby d1_5) ?_
    exact k
  obtain ⟨_, _, ⟨T2, L2, k2, n2⟩, -, X2, hS2, hgr2, ⟨Lc2, hQ2, l2, y2, z2⟩, st2⟩ := X0.specialBackS hx (y := y_3) rfl hown (mvT hZ (own_w hw 8 rfl)) (mvT hZ (own_w hw 9 rfl)) (mvT hZ (own_w hw 11 rfl)) (by decide) (own_backX (W := 0) (rmN4_0 l Z a0 hw [] so vc h0 n0 O E_so F_v F_c (by assumption)) hZ (own_w hw 11 rfl) (own_w hw 4 rfl) (by decide) (by decide) (fun vm' hvm => own_CHw hZ (own_EW hw) hvm CH)) (g := (mkF m 6 #[rv so, rv vc] [.null, (.int (0 : Int32)), (.int (0 : Int32)), (.ref vc), (.ref so)])) rfl (by rw [hml]; rfl) (Steps.refl _) (a := so) (argsL := [(.ref vc), (.int (0 : Int32)), (.int (0 : Int32)), .null]) (rest := []) (lenOf pd__28_5bCIILjava_2flang_2fVoid_3b_29V rfl) rfl (Nat.le_of_eq rfl) (hb hby d1_6) (fun _ _ => ⟨rfl, e0, (by decide : 0 + 2 ≤ _), (by decide : 0 + 4 ≤ _)⟩)
  dsimp only [Pt.U, Pt.locs, Pt.cells, Pt.slots] at X2 l2 y2 z2 st2 hQ2 hS2 hgr2
  subst l2 y2 z2
  have hS := foldS hS (by rw [e0]; exact hk) hS2 hgr2
  have hown : (s.setVm T2.vm).vm.findClass "java/lang/String" = some m.cls := by show T2.vm.findClass _ = _; rw [hS2.1.alike.findClass]; exact hown
  have hZ : Z.Warmed39 (s.setVm T2.vm).vm := State.Warmed39.trans hZ hS2.1
  have X2 : Stand p l e rm_rmNS0 (s.setVm T2.vm) m #[(.ref so), (.ref vc)] below meth c T2 _ _ _ := X2
  obtain ⟨tb_2, kb_2, rfl, Nq2, K2, P2_E, P2_Fv, P2_Fc, P2_V⟩ := hQ2
  have N2 := Fr.app N0 Nq2
  have ne_vc_so : vc ≠ so := Ne.symm (Exa.neArv E_so V_vc (own_w hw 3 rfl))
  have O := O.keep K2 (allS g_so all0)
  have E_so := E_so.keep K2
  have V_vc := V_vc.keep K2 (ninS ne_vc_so nin0)
  have K := K.trans K2 (allS (Or.inl (List.mem_of_getElem? (i := 0) rfl)) all0)
  have E_2 := P2_E
  have Fv_2 := P2_Fv
  have Fc_2 := P2_Fc
  have V_2 := P2_V
  have hk : T2.heap.size ≤ (T2.heap).size := Nat.le_refl _
  refine Go.step (fun t k => st2.trans k) ?_
  show Go p e below _ (T2.setTop (mkF m 9 #[rv so, rv vc] []))
  obtain ⟨fs, hr, hrun, hended, hR⟩ := X2.leaveW hS (by exact hk) (v := none) (fun _ => rfl)
  refine Go.fin (S' := T2.setFrames fs) ?_ hrun hended ⟨_, _, rfl, ?_, hR.1, hR.2.1, hR.2.2.1, hR.2.2.2.mono (by decide) (by decide)⟩
  · exact X2.returnOut hx Bd.returns (hb hby d1_9) hr
  · show Q_rmNS0 Z so vc kc h0 n0 (none) T2.heap _
    exact ⟨tb_2, kb_2, rfl, N2, K, E_so, Fv_2, Fc_2, V_2⟩
abbrev y_5 : MethodName := ⟨"java/lang/Record", "<init>", "()V"⟩
theorem pn_java_lang_Record : plainName "java/lang/Record" = true := by first | (simp [plainName, overriddenIn]; done) | decide +kernel
theorem d8_0 : decode jdk_30_method_1_code 0 = .ok (.aload_n 0, 1) := by decide +kernel
theorem d8_1 : decode jdk_30_method_1_code 1 = .ok (.invokespecial 1, 3) := by decide +kernel
theorem d8_4 : decode jdk_30_method_1_code 4 = .ok (.return_, 1) := by decide +kernel
theorem ef_rmRec (m : MethodId) (a : Addr) : entryFrame m #[(.ref a)] 1 = mkF m 0 #[.val (.ref a)] [] := by first | (simp [entryFrame, mkF, argsToLocals, Value.category]; done) | rfl
abbrev rm_rmRec : Room := ({ frames := 1, cells := 0, slots := 0, locals := 12 } : Room)
def Q_rmRec (Z : State) (a : Addr) (h0 : Heap) (n0 : Nat) (v : Option Value) (h : Heap) (L : List Loc) : Prop := (v = none) ∧ (Fr n0 L) ∧ (h = h0)
set_option maxRecDepth 65536 in
set_option maxHeartbeats 4000000 in
theorem rmRec (l : Launch) (Z : State) (a0 : Array Value) (hw : ∀ d ∈ tables_1, d.before a0 Z = true) (ws : List Jvm.Cond) (a : Addr) (h0 : Heap) (n0 : Nat) (O : Old Z n0 h0) :
    MetFree l y_5 (head1 (Jvm.Cond.code y_5 jdk_30_method_1_code 1 none :: ws) rm_rmRec) (fun A_ U => A_ = #[(.ref a)] ∧ Z.Warmed39 U.vm ∧ U.heap = h0) (fun _ _ _ _ _ => True) (fun _ U o U' => ∃ v L, o = .returned v ∧ Q_rmRec Z a h0 n0 v U'.heap L ∧ FrameEnd U o U' L rm_rmRec.cells rm_rmRec.slots) := by
  refine MetFree.of_bodySF (plainFor_of_name pn_java_lang_Record) hisR ?_
  intro p e s m args below meth c s₁ Bd hml0 hP hK
  obtain ⟨rfl, hZ, hh⟩ := hP
  have hx := Bd.exec
  have hby := Bd.bytes
  have hml : c.maxLocals = 1 := hml0
  have hown : s.vm.findClass "java/lang/Record" = some m.cls := findClass_of_methodNamed Bd.named
  have hnm := (name_of_methodNamed Bd.named Bd.method).1
  have X0 : Stand p l e rm_rmRec s m #[(.ref a)] below meth c s₁ [] 0 0 := Stand.of_body Bd
  have e0 : s₁.heap = h0 := by rw [← hh, Bd.state]; rfl
  have N0 := Fr.nil n0
  refine Go.step (p := p) (e := e) (below := below) (G := fun o U' => ∃ v L, o = .returned v ∧ Q_rmRec Z a h0 n0 v U'.heap L ∧ FrameEnd s o U' L rm_rmRec.cells rm_rmRec.slots) (S' := s₁.setTop (mkF m 0 #[rv a] [])) (fun t k => castTop (ef_rmRec m a) k) ?_
  refine Go.step (S' := s₁.setTop (mkF m 1 #[rv a] [(.ref a)])) (fun t k => ?_) ?_
  · refine XS.aloadN X0.here hx rfl (hb hby d8_0) rfl rfl ?_
    exact k
  obtain ⟨T1, X1, e1, st1⟩ := initO X0 hx hZ hown (own_w hw 42 rfl) (own_w hw 13 rfl) (own_w hw 14 rfl) e0 (g := (mkF m 1 #[rv a] [(.ref a)])) rfl (by rw [hml]; rfl) rfl (hb hby d8_1) (by decide) (W := 0) (by show 2 * 0 + _ ≤ _; exact Nat.le_of_eq rfl) (by decide)
  refine Go.step st1 ?_
  show Go p e below _ (T1.setTop (mkF m 4 #[rv a] []))
  obtain ⟨fs, hr, hrun, hended, hW, hsame⟩ := X1.leave (v := none) (fun _ => rfl)
  refine Go.fin (S' := T1.setFrames fs) ?_ hrun hended ⟨_, _, rfl, ?_, ⟨_, rfl⟩, hW, hsame.mono (by decide) (by decide)⟩
  · exact X1.returnOut hx Bd.returns (hb hby d8_4) hr
  · show Q_rmRec Z a h0 n0 (none) T1.heap _
    rw [e1]
    exact ⟨rfl, N0, rfl⟩
abbrev y_6 : MethodName := ⟨"com/example/ward5/ward5/rule/FieldKey", "<init>", "(Ljava/lang/String;Ljava/util/Set;)V"⟩
theorem pn_com_example_ward5_ward5_rule_FieldKey : plainName "com/example/ward5/ward5/rule/FieldKey" = true := by first | (simp [plainName, overriddenIn]; done) | decide +kernel
theorem d7_0 : decode prog_21_method_1_code 0 = .ok (.aload_n 0, 1) := by decide +kernel
theorem d7_1 : decode prog_21_method_1_code 1 = .ok (.invokespecial 1, 3) := by decide +kernel
theorem pd__28_29V : parseMethodDescriptor "()V" = some ⟨[], none⟩ := by decide +kernel
theorem d7_4 : decode prog_21_method_1_code 4 = .ok (.aload_n 0, 1) := by decide +kernel
theorem d7_5 : decode prog_21_method_1_code 5 = .ok (.aload_n 1, 1) := by decide +kernel
theorem d7_6 : decode prog_21_method_1_code 6 = .ok (.putfield 7, 3) := by decide +kernel
theorem d7_9 : decode prog_21_method_1_code 9 = .ok (.aload_n 0, 1) := by decide +kernel
theorem d7_10 : decode prog_21_method_1_code 10 = .ok (.aload_n 2, 1) := by decide +kernel
theorem d7_11 : decode prog_21_method_1_code 11 = .ok (.putfield 13, 3) := by decide +kernel
theorem d7_14 : decode prog_21_method_1_code 14 = .ok (.return_, 1) := by decide +kernel
theorem ef_rmFK0 (m : MethodId) (a : Addr) : entryFrame m #[(.ref a), .null, .null] 3 = mkF m 0 #[.val (.ref a), .val .null, .val .null] [] := by first | (simp [entryFrame, mkF, argsToLocals, Value.category]; done) | rfl
abbrev rm_rmFK0 : Room := ({ frames := 2, cells := 0, slots := 0, locals := 24 } : Room)
def Q_rmFK0 (Z : State) (a : Addr) (h0 : Heap) (n0 : Nat) (v : Option Value) (h : Heap) (L : List Loc) : Prop := (v = none) ∧ (Fr n0 L) ∧ (Keep h0 h [a]) ∧ (Exa Z h a "com/example/ward5/ward5/rule/FieldKey") ∧ (Fld Z h a "com/example/ward5/ward5/rule/FieldKey" "field" "Ljava/lang/String;" .null)
set_option maxRecDepth 65536 in
set_option maxHeartbeats 4000000 in
theorem rmFK0 (l : Launch) (Z : State) (a0 : Array Value) (hw : ∀ d ∈ tables_1, d.before a0 Z = true) (ws : List Jvm.Cond) (a : Addr) (h0 : Heap) (n0 : Nat) (O : Old Z n0 h0) (E_a : Exa Z h0 a "com/example/ward5/ward5/rule/FieldKey") (F_f : Fld Z h0 a "com/example/ward5/ward5/rule/FieldKey" "field" "Ljava/lang/String;" .null) (F_m : Fld Z h0 a "com/example/ward5/ward5/rule/FieldKey" "modifiers" "Ljava/util/Set;" .null) (g_a : n0 ≤ a) :
    MetFree l y_6 (head1 (Jvm.Cond.code y_6 prog_21_method_1_code 3 none :: ws) rm_rmFK0) (fun A_ U => A_ = #[(.ref a), .null, .null] ∧ Z.Warmed39 U.vm ∧ U.heap = h0) (fun _ _ _ _ _ => True) (fun _ U o U' => ∃ v L, o = .returned v ∧ Q_rmFK0 Z a h0 n0 v U'.heap L ∧ FrameEnd U o U' L rm_rmFK0.cells rm_rmFK0.slots) := by
  refine MetFree.of_bodySF (plainFor_of_name pn_com_example_ward5_ward5_rule_FieldKey) hisR ?_
  intro p e s m args below meth c s₁ Bd hml0 hP hK
  obtain ⟨rfl, hZ, hh⟩ := hP
  have hx := Bd.exec
  have hby := Bd.bytes
  have hml : c.maxLocals = 3 := hml0
  have hown : s.vm.findClass "com/example/ward5/ward5/rule/FieldKey" = some m.cls := findClass_of_methodNamed Bd.named
  have hnm := (name_of_methodNamed Bd.named Bd.method).1
  have X0 : Stand p l e rm_rmFK0 s m #[(.ref a), .null, .null] below meth c s₁ [] 0 0 := Stand.of_body Bd
  have e0 : s₁.heap = h0 := by rw [← hh, Bd.state]; rfl
  have N0 := Fr.nil n0
  have K := Keep.refl h0 [a]
  refine Go.step (p := p) (e := e) (below := below) (G := fun o U' => ∃ v L, o = .returned v ∧ Q_rmFK0 Z a h0 n0 v U'.heap L ∧ FrameEnd s o U' L rm_rmFK0.cells rm_rmFK0.slots) (S' := s₁.setTop (mkF m 0 #[rv a, .val .null, .val .null] [])) (fun t k => castTop (ef_rmFK0 m a) k) ?_
  refine Go.step (S' := s₁.setTop (mkF m 1 #[rv a, .val .null, .val .null] [(.ref a)])) (fun t k => ?_) ?_
  · refine XS.aloadN X0.here hx rfl (hb hby d7_0) rfl rfl ?_
    exact k
  obtain ⟨_, _, ⟨T1, L1, k1, n1⟩, -, X1, ⟨Lc1, hQ1, l1, y1, z1⟩, st1⟩ := X0.specialBack hx (y := y_5) rfl hown (mvT hZ (own_w hw 37 rfl)) (mvT hZ (own_w hw 38 rfl)) (mvT hZ (own_w hw 41 rfl)) (by decide) (backOf (W := 0) (rmRec l Z a0 hw [] a h0 n0 O ) hZ (own_w hw 41 rfl) (own_w hw 40 rfl) (by decide) (by decide)) (g := (mkF m 1 #[rv a, .val .null, .val .null] [(.ref a)])) rfl (by rw [hml]; rfl) (Steps.refl _) (a := a) (argsL := []) (rest := []) (lenOf pd__28_29V rfl) rfl (Nat.le_of_eq rfl) (hb hby d7_1) (fun _ _ => ⟨rfl, e0, (by decide : 0 + 0 ≤ _), (by decide : 0 + 0 ≤ _)⟩)
  dsimp only [Pt.U, Pt.locs, Pt.cells, Pt.slots] at X1 l1 y1 z1 st1 hQ1
  subst l1 y1 z1
  obtain ⟨rfl, Nq1, e1⟩ := hQ1
  have N1 := Fr.app N0 Nq1
  refine Go.step (fun t k => st1.trans k) ?_
  show Go p e below _ (T1.setTop (mkF m 4 #[rv a, .val .null, .val .null] []))
  refine Go.step (S' := T1.setTop (mkF m 6 #[rv a, .val .null, .val .null] [.null, (.ref a)])) (fun t k => ?_) ?_
  · refine XS.aloadN X1.here hx rfl (hb hby d7_4) rfl rfl ?_
    refine XS.aloadN X1.here hx rfl (hb hby d7_5) rfl rfl ?_
    exact k
  obtain ⟨T2, h2, X2, e2, W2, st2⟩ := putF X1 hx hZ hown (host := "") (Or.inl (own_w hw 43 rfl)) Via.refl e1 F_f E_a (Or.inr ⟨(own_w hw 44 rfl), rfl, hnm⟩) (own_w hw 32 rfl) (ty := (.object "java/lang/String")) (by decide) rfl rfl (g := (mkF m 6 #[rv a, .val .null, .val .null] [.null, (.ref a)])) rfl rfl (hb hby d7_6)
  have O := O.wr W2 g_a
  have E_a := E_a.wr W2
  have F_f := F_f.same W2
  have F_m := F_m.other W2 (Or.inr (slot_ne (Or.inr (own_w hw 46 rfl)) (Or.inr (own_w hw 44 rfl)) (by decide) (t := (.object "java/util/Set")) (t' := (.object "java/lang/String")) (by decide) (by decide)))
  have K := K.wr W2 (Or.inl (List.mem_of_getElem? (i := 0) rfl))
  have N2 := Fr.snoc X2 N1 g_a
  refine Go.step st2 ?_
  show Go p e below _ (T2.setTop (mkF m 9 #[rv a, .val .null, .val .null] []))
  refine Go.step (S' := T2.setTop (mkF m 11 #[rv a, .val .null, .val .null] [.null, (.ref a)])) (fun t k => ?_) ?_
  · refine XS.aloadN X2.here hx rfl (hb hby d7_9) rfl rfl ?_
    refine XS.aloadN X2.here hx rfl (hb hby d7_10) rfl rfl ?_
    exact k
  obtain ⟨T3, h3, X3, e3, W3, st3⟩ := putF X2 hx hZ hown (host := "") (Or.inl (own_w hw 45 rfl)) Via.refl e2 F_m E_a (Or.inr ⟨(own_w hw 46 rfl), rfl, hnm⟩) (own_w hw 32 rfl) (ty := (.object "java/util/Set")) (by decide) rfl rfl (g := (mkF m 11 #[rv a, .val .null, .val .null] [.null, (.ref a)])) rfl rfl (hb hby d7_11)
  have O := O.wr W3 g_a
  have E_a := E_a.wr W3
  have F_f := F_f.other W3 (Or.inr (slot_ne (Or.inr (own_w hw 44 rfl)) (Or.inr (own_w hw 46 rfl)) (by decide) (t := (.object "java/lang/String")) (t' := (.object "java/util/Set")) (by decide) (by decide)))
  have F_m := F_m.same W3
  have K := K.wr W3 (Or.inl (List.mem_of_getElem? (i := 0) rfl))
  have N3 := Fr.snoc X3 N2 g_a
  refine Go.step st3 ?_
  show Go p e below _ (T3.setTop (mkF m 14 #[rv a, .val .null, .val .null] []))
  obtain ⟨fs, hr, hrun, hended, hW, hsame⟩ := X3.leave (v := none) (fun _ => rfl)
  refine Go.fin (S' := T3.setFrames fs) ?_ hrun hended ⟨_, _, rfl, ?_, ⟨_, rfl⟩, hW, hsame.mono (by decide) (by decide)⟩
  · exact X3.returnOut hx Bd.returns (hb hby d7_14) hr
  · show Q_rmFK0 Z a h0 n0 (none) T3.heap _
    rw [e3]
    exact ⟨rfl, N3, K, E_a, F_f⟩
abbrev y_7 : MethodName := ⟨"com/example/ward5/ward5/rule/FieldKey", "searchesKeywords", "()Z"⟩
theorem d9_0 : decode prog_21_method_3_code 0 = .ok (.aload_n 0, 1) := by decide +kernel
theorem d9_1 : decode prog_21_method_3_code 1 = .ok (.getfield 7, 3) := by decide +kernel
theorem d9_4 : decode prog_21_method_3_code 4 = .ok (.ifnonnull 7, 3) := by decide +kernel
theorem d9_7 : decode prog_21_method_3_code 7 = .ok (.iconst 1, 1) := by decide +kernel
theorem d9_8 : decode prog_21_method_3_code 8 = .ok (.goto 4, 3) := by decide +kernel
theorem d9_12 : decode prog_21_method_3_code 12 = .ok (.ireturn, 1) := by decide +kernel
theorem ef_rmSK0 (m : MethodId) (a : Addr) : entryFrame m #[(.ref a)] 1 = mkF m 0 #[.val (.ref a)] [] := by first | (simp [entryFrame, mkF, argsToLocals, Value.category]; done) | rfl
abbrev rm_rmSK0 : Room := ({ frames := 0, cells := 0, slots := 0, locals := 0 } : Room)
def Q_rmSK0 (Z : State) (a : Addr) (h0 : Heap) (n0 : Nat) (v : Option Value) (h : Heap) (L : List Loc) : Prop := (v = some (.int (1 : Int32))) ∧ (Fr n0 L) ∧ (h = h0)
set_option maxRecDepth 65536 in
set_option maxHeartbeats 4000000 in
theorem rmSK0 (l : Launch) (Z : State) (a0 : Array Value) (hw : ∀ d ∈ tables_1, d.before a0 Z = true) (ws : List Jvm.Cond) (a : Addr) (h0 : Heap) (n0 : Nat) (O : Old Z n0 h0) (F_f : Fld Z h0 a "com/example/ward5/ward5/rule/FieldKey" "field" "Ljava/lang/String;" .null) :
    MetFree l y_7 (head1 (Jvm.Cond.code y_7 prog_21_method_3_code 1 (some .boolean) :: ws) rm_rmSK0) (fun A_ U => A_ = #[(.ref a)] ∧ Z.Warmed39 U.vm ∧ U.heap = h0) (fun _ _ _ _ _ => True) (fun _ U o U' => ∃ v L, o = .returned v ∧ Q_rmSK0 Z a h0 n0 v U'.heap L ∧ FrameEnd U o U' L rm_rmSK0.cells rm_rmSK0.slots) := by
  refine MetFree.of_bodySF (plainFor_of_name pn_com_example_ward5_ward5_rule_FieldKey) hisR ?_
  intro p e s m args below meth c s₁ Bd hml0 hP hK
  obtain ⟨rfl, hZ, hh⟩ := hP
  have hx := Bd.exec
  have hby := Bd.bytes
  have hml : c.maxLocals = 1 := hml0
  have hown : s.vm.findClass "com/example/ward5/ward5/rule/FieldKey" = some m.cls := findClass_of_methodNamed Bd.named
  have hnm := (name_of_methodNamed Bd.named Bd.method).1
  have X0 : Stand p l e rm_rmSK0 s m #[(.ref a)] below meth c s₁ [] 0 0 := Stand.of_body Bd
  have e0 : s₁.heap = h0 := by rw [← hh, Bd.state]; rfl
  have N0 := Fr.nil n0
  refine Go.step (p := p) (e := e) (below := below) (G := fun o U' => ∃ v L, o = .returned v ∧ Q_rmSK0 Z a h0 n0 v U'.heap L ∧ FrameEnd s o U' L rm_rmSK0.cells rm_rmSK0.slots) (S' := s₁.setTop (mkF m 0 #[rv a] [])) (fun t k => castTop (ef_rmSK0 m a) k) ?_
  refine Go.step (S' := s₁.setTop (mkF m 1 #[rv a] [(.ref a)])) (fun t k => ?_) ?_
  · refine XS.aloadN X0.here hx rfl (hb hby d9_0) rfl rfl ?_
    exact k
  obtain ⟨T1, X1, e1, st1⟩ := getF X0 hx hZ hown (host := "") (Or.inl (own_w hw 43 rfl)) Via.refl e0 F_f (g := (mkF m 1 #[rv a] [(.ref a)])) rfl rfl (hb hby d9_1)
  refine Go.step st1 ?_
  show Go p e below _ (T1.setTop (mkF m 4 #[rv a] [.null]))
  refine Go.step (S' := T1.setTop (mkF m 12 #[rv a] [(.int (1 : Int32))])) (fun t k => ?_) ?_
  · refine XS.ifnonnullNo X1.here hx rfl (hb hby d9_4) rfl ?_
    refine XS.iconst X1.here hx rfl (hb hby d9_7) ?_
    refine XS.goto X1.here hx rfl (pc0 := 8) (pc' := 12) rfl (hb hby d9_8) (by decide) (by decide) ?_
    exact k
  obtain ⟨fs, hr, hrun, hended, hW, hsame⟩ := X1.leave (v := some (.int (1 : Int32))) (fun h => by rw [Bd.returns] at h; cases h)
  refine Go.fin (S' := T1.setFrames fs) ?_ hrun hended ⟨_, _, rfl, ?_, ⟨_, rfl⟩, hW, hsame.mono (by decide) (by decide)⟩
  · exact retOut X1 hx Bd.returns (by decide) (Or.inl ⟨rfl, Or.inr (Or.inl rfl), _, rfl⟩) (hb hby d9_12) hr
  · show Q_rmSK0 Z a h0 n0 (some (.int (1 : Int32))) T1.heap _
    rw [e1]
    exact ⟨rfl, N0, rfl⟩
theorem ef_rmFK1 (m : MethodId) (a : Addr) (b : Addr) : entryFrame m #[(.ref a), (.ref b), .null] 3 = mkF m 0 #[.val (.ref a), .val (.ref b), .val .null] [] := by first | (simp [entryFrame, mkF, argsToLocals, Value.category]; done) | rfl
abbrev rm_rmFK1 : Room := ({ frames := 2, cells := 0, slots := 0, locals := 24 } : Room)
def Q_rmFK1 (Z : State) (a : Addr) (b : Addr) (h0 : Heap) (n0 : Nat) (v : Option Value) (h : Heap) (L : List Loc) : Prop := (v = none) ∧ (Fr n0 L) ∧ (Keep h0 h [a]) ∧ (Exa Z h a "com/example/ward5/ward5/rule/FieldKey") ∧ (Fld Z h a "com/example/ward5/ward5/rule/FieldKey" "field" "Ljava/lang/String;" (.ref b))
set_option maxRecDepth 65536 in
set_option maxHeartbeats 4000000 in
theorem rmFK1 (l : Launch) (Z : State) (a0 : Array Value) (hw : ∀ d ∈ tables_1, d.before a0 Z = true) (ws : List Jvm.Cond) (a : Addr) (b : Addr) (h0 : Heap) (n0 : Nat) (O : Old Z n0 h0) (E_a : Exa Z h0 a "com/example/ward5/ward5/rule/FieldKey") (F_f : Fld Z h0 a "com/example/ward5/ward5/rule/FieldKey" "field" "Ljava/lang/String;" .null) (F_m : Fld Z h0 a "com/example/ward5/ward5/rule/FieldKey" "modifiers" "Ljava/util/Set;" .null) (g_a : n0 ≤ a) :
    MetFree l y_6 (head1 (Jvm.Cond.code y_6 prog_21_method_1_code 3 none :: ws) rm_rmFK1) (fun A_ U => A_ = #[(.ref a), (.ref b), .null] ∧ Z.Warmed39 U.vm ∧ U.heap = h0) (fun _ _ _ _ _ => True) (fun _ U o U' => ∃ v L, o = .returned v ∧ Q_rmFK1 Z a b h0 n0 v U'.heap L ∧ FrameEnd U o U' L rm_rmFK1.cells rm_rmFK1.slots) := by
  refine MetFree.of_bodySF (plainFor_of_name pn_com_example_ward5_ward5_rule_FieldKey) hisR ?_
  intro p e s m args below meth c s₁ Bd hml0 hP hK
  obtain ⟨rfl, hZ, hh⟩ := hP
  have hx := Bd.exec
  have hby := Bd.bytes
  have hml : c.maxLocals = 3 := hml0
  have hown : s.vm.findClass "com/example/ward5/ward5/rule/FieldKey" = some m.cls := findClass_of_methodNamed Bd.named
  have hnm := (name_of_methodNamed Bd.named Bd.method).1
  have X0 : Stand p l e rm_rmFK1 s m #[(.ref a), (.ref b), .null] below meth c s₁ [] 0 0 := Stand.of_body Bd
  have e0 : s₁.heap = h0 := by rw [← hh, Bd.state]; rfl
  have N0 := Fr.nil n0
  have K := Keep.refl h0 [a]
  refine Go.step (p := p) (e := e) (below := below) (G := fun o U' => ∃ v L, o = .returned v ∧ Q_rmFK1 Z a b h0 n0 v U'.heap L ∧ FrameEnd s o U' L rm_rmFK1.cells rm_rmFK1.slots) (S' := s₁.setTop (mkF m 0 #[rv a, rv b, .val .null] [])) (fun t k => castTop (ef_rmFK1 m a b) k) ?_
  refine Go.step (S' := s₁.setTop (mkF m 1 #[rv a, rv b, .val .null] [(.ref a)])) (fun t k => ?_) ?_
  · refine XS.aloadN X0.here hx rfl (hb hby d7_0) rfl rfl ?_
    exact k
  obtain ⟨_, _, ⟨T1, L1, k1, n1⟩, -, X1, ⟨Lc1, hQ1, l1, y1, z1⟩, st1⟩ := X0.specialBack hx (y := y_5) rfl hown (mvT hZ (own_w hw 37 rfl)) (mvT hZ (own_w hw 38 rfl)) (mvT hZ (own_w hw 41 rfl)) (by decide) (backOf (W := 0) (rmRec l Z a0 hw [] a h0 n0 O ) hZ (own_w hw 41 rfl) (own_w hw 40 rfl) (by decide) (by decide)) (g := (mkF m 1 #[rv a, rv b, .val .null] [(.ref a)])) rfl (by rw [hml]; rfl) (Steps.refl _) (a := a) (argsL := []) (rest := []) (lenOf pd__28_29V rfl) rfl (Nat.le_of_eq rfl) (hb hby d7_1) (fun _ _ => ⟨rfl, e0, (by decide : 0 + 0 ≤ _), (by decide : 0 + 0 ≤ _)⟩)
  dsimp only [Pt.U, Pt.locs, Pt.cells, Pt.slots] at X1 l1 y1 z1 st1 hQ1
  subst l1 y1 z1
  obtain ⟨rfl, Nq1, e1⟩ := hQ1
  have N1 := Fr.app N0 Nq1
  refine Go.step (fun t k => st1.trans k) ?_
  show Go p e below _ (T1.setTop (mkF m 4 #[rv a, rv b, .val .null] []))
  refine Go.step (S' := T1.setTop (mkF m 6 #[rv a, rv b, .val .null] [(.ref b), (.ref a)])) (fun t k => ?_) ?_
  · refine XS.aloadN X1.here hx rfl (hb hby d7_4) rfl rfl ?_
    refine XS.aloadN X1.here hx rfl (hb hby d7_5) rfl rfl ?_
    exact k
  obtain ⟨T2, h2, X2, e2, W2, st2⟩ := putF X1 hx hZ hown (host := "") (Or.inl (own_w hw 43 rfl)) Via.refl e1 F_f E_a (Or.inr ⟨(own_w hw 44 rfl), rfl, hnm⟩) (own_w hw 32 rfl) (ty := (.object "java/lang/String")) (by decide) rfl rfl (g := (mkF m 6 #[rv a, rv b, .val .null] [(.ref b), (.ref a)])) rfl rfl (hb hby d7_6)
  have O := O.wr W2 g_a
  have E_a := E_a.wr W2
  have F_f := F_f.same W2
  have F_m := F_m.other W2 (Or.inr (slot_ne (Or.inr (own_w hw 46 rfl)) (Or.inr (own_w hw 44 rfl)) (by decide) (t := (.object "java/util/Set")) (t' := (.object "java/lang/String")) (by decide) (by decide)))
  have K := K.wr W2 (Or.inl (List.mem_of_getElem? (i := 0) rfl))
  have N2 := Fr.snoc X2 N1 g_a
  refine Go.step st2 ?_
  show Go p e below _ (T2.setTop (mkF m 9 #[rv a, rv b, .val .null] []))
  refine Go.step (S' := T2.setTop (mkF m 11 #[rv a, rv b, .val .null] [.null, (.ref a)])) (fun t k => ?_) ?_
  · refine XS.aloadN X2.here hx rfl (hb hby d7_9) rfl rfl ?_
    refine XS.aloadN X2.here hx rfl (hb hby d7_10) rfl rfl ?_
    exact k
  obtain ⟨T3, h3, X3, e3, W3, st3⟩ := putF X2 hx hZ hown (host := "") (Or.inl (own_w hw 45 rfl)) Via.refl e2 F_m E_a (Or.inr ⟨(own_w hw 46 rfl), rfl, hnm⟩) (own_w hw 32 rfl) (ty := (.object "java/util/Set")) (by decide) rfl rfl (g := (mkF m 11 #[rv a, rv b, .val .null] [.null, (.ref a)])) rfl rfl (hb hby d7_11)
  have O := O.wr W3 g_a
  have E_a := E_a.wr W3
  have F_f := F_f.other W3 (Or.inr (slot_ne (Or.inr (own_w hw 44 rfl)) (Or.inr (own_w hw 46 rfl)) (by decide) (t := (.object "java/lang/String")) (t' := (.object "java/util/Set")) (by decide) (by decide)))
  have F_m := F_m.same W3
  have K := K.wr W3 (Or.inl (List.mem_of_getElem? (i := 0) rfl))
  have N3 := Fr.snoc X3 N2 g_a
  refine Go.step st3 ?_
  show Go p e below _ (T3.setTop (mkF m 14 #[rv a, rv b, .val .null] []))
  obtain ⟨fs, hr, hrun, hended, hW, hsame⟩ := X3.leave (v := none) (fun _ => rfl)
  refine Go.fin (S' := T3.setFrames fs) ?_ hrun hended ⟨_, _, rfl, ?_, ⟨_, rfl⟩, hW, hsame.mono (by decide) (by decide)⟩
  · exact X3.returnOut hx Bd.returns (hb hby d7_14) hr
  · show Q_rmFK1 Z a b h0 n0 (none) T3.heap _
    rw [e3]
    exact ⟨rfl, N3, K, E_a, F_f⟩
theorem d9_11 : decode prog_21_method_3_code 11 = .ok (.iconst 0, 1) := by decide +kernel
theorem ef_rmSK1 (m : MethodId) (a : Addr) : entryFrame m #[(.ref a)] 1 = mkF m 0 #[.val (.ref a)] [] := by first | (simp [entryFrame, mkF, argsToLocals, Value.category]; done) | rfl
abbrev rm_rmSK1 : Room := ({ frames := 0, cells := 0, slots := 0, locals := 0 } : Room)
def Q_rmSK1 (Z : State) (a : Addr) (b : Addr) (h0 : Heap) (n0 : Nat) (v : Option Value) (h : Heap) (L : List Loc) : Prop := (v = some (.int (0 : Int32))) ∧ (Fr n0 L) ∧ (h = h0)
set_option maxRecDepth 65536 in
set_option maxHeartbeats 4000000 in
theorem rmSK1 (l : Launch) (Z : State) (a0 : Array Value) (hw : ∀ d ∈ tables_1, d.before a0 Z = true) (ws : List Jvm.Cond) (a : Addr) (b : Addr) (h0 : Heap) (n0 : Nat) (O : Old Z n0 h0) (F_f : Fld Z h0 a "com/example/ward5/ward5/rule/FieldKey" "field" "Ljava/lang/String;" (.ref b)) :
    MetFree l y_7 (head1 (Jvm.Cond.code y_7 prog_21_method_3_code 1 (some .boolean) :: ws) rm_rmSK1) (fun A_ U => A_ = #[(.ref a)] ∧ Z.Warmed39 U.vm ∧ U.heap = h0) (fun _ _ _ _ _ => True) (fun _ U o U' => ∃ v L, o = .returned v ∧ Q_rmSK1 Z a b h0 n0 v U'.heap L ∧ FrameEnd U o U' L rm_rmSK1.cells rm_rmSK1.slots) := by
  refine MetFree.of_bodySF (plainFor_of_name pn_com_example_ward5_ward5_rule_FieldKey) hisR ?_
  intro p e s m args below meth c s₁ Bd hml0 hP hK
  obtain ⟨rfl, hZ, hh⟩ := hP
  have hx := Bd.exec
  have hby := Bd.bytes
  have hml : c.maxLocals = 1 := hml0
  have hown : s.vm.findClass "com/example/ward5/ward5/rule/FieldKey" = some m.cls := findClass_of_methodNamed Bd.named
  have hnm := (name_of_methodNamed Bd.named Bd.method).1
  have X0 : Stand p l e rm_rmSK1 s m #[(.ref a)] below meth c s₁ [] 0 0 := Stand.of_body Bd
  have e0 : s₁.heap = h0 := by rw [← hh, Bd.state]; rfl
  have N0 := Fr.nil n0
  refine Go.step (p := p) (e := e) (below := below) (G := fun o U' => ∃ v L, o = .returned v ∧ Q_rmSK1 Z a b h0 n0 v U'.heap L ∧ FrameEnd s o U' L rm_rmSK1.cells rm_rmSK1.slots) (S' := s₁.setTop (mkF m 0 #[rv a] [])) (fun t k => castTop (ef_rmSK1 m a) k) ?_
  refine Go.step (S' := s₁.setTop (mkF m 1 #[rv a] [(.ref a)])) (fun t k => ?_) ?_
  · refine XS.aloadN X0.here hx rfl (hb hby d9_0) rfl rfl ?_
    exact k
  obtain ⟨T1, X1, e1, st1⟩ := getF X0 hx hZ hown (host := "") (Or.inl (own_w hw 43 rfl)) Via.refl e0 F_f (g := (mkF m 1 #[rv a] [(.ref a)])) rfl rfl (hb hby d9_1)
  refine Go.step st1 ?_
  show Go p e below _ (T1.setTop (mkF m 4 #[rv a] [(.ref b)]))
  refine Go.step (S' := T1.setTop (mkF m 12 #[rv a] [(.int (0 : Int32))])) (fun t k => ?_) ?_
  · refine XS.ifnonnullYes X1.here hx rfl (pc0 := 4) (pc' := 11) rfl (hb hby d9_4) rfl (by decide) (by decide) ?_
    refine XS.iconst X1.here hx rfl (hb hby d9_11) ?_
    exact k
  obtain ⟨fs, hr, hrun, hended, hW, hsame⟩ := X1.leave (v := some (.int (0 : Int32))) (fun h => by rw [Bd.returns] at h; cases h)
  refine Go.fin (S' := T1.setFrames fs) ?_ hrun hended ⟨_, _, rfl, ?_, ⟨_, rfl⟩, hW, hsame.mono (by decide) (by decide)⟩
  · exact retOut X1 hx Bd.returns (by decide) (Or.inl ⟨rfl, Or.inr (Or.inl rfl), _, rfl⟩) (hb hby d9_12) hr
  · show Q_rmSK1 Z a b h0 n0 (some (.int (0 : Int32))) T1.heap _
    rw [e1]
    exact ⟨rfl, N0, rfl⟩
theorem pn_com_example_ward5_ward5_rule_FieldKeySearchesKeywordsPinLaw : plainName "com/example/ward5/ward5/rule/FieldKeySearchesKeywordsPinLaw" = true := by first | (simp [plainName, overriddenIn]; done) | decide +kernel
theorem pd__28_5bC_29V : parseMethodDescriptor "([C)V" = some ⟨[(.array .char)], none⟩ := by decide +kernel
theorem pd__28Ljava_2flang_2fString_3bLjava_2futil_2fSet_3b_29V : parseMethodDescriptor "(Ljava/lang/String;Ljava/util/Set;)V" = some ⟨[(.object "java/lang/String"), (.object "java/util/Set")], none⟩ := by decide +kernel
theorem pd__28_29Z : parseMethodDescriptor "()Z" = some ⟨[], some .boolean⟩ := by decide +kernel
theorem ef_rm0 (m : MethodId) (p0 : Int32) (p1 : Int32) (p2 : Int32) (p3 : Int32) (p4 : Int32) : entryFrame m #[(.int p0), (.int p1), (.int p2), (.int p3), (.int p4)] maxLocals = mkF m 0 #[.val (.int p0), .val (.int p1), .val (.int p2), .val (.int p3), .val (.int p4), .unset, .unset, .unset, .unset, .unset] [] := by first | (simp [entryFrame, mkF, argsToLocals, Value.category, maxLocals]; done) | rfl
def Q_rm0 (Z : State) (p0 : Int32) (p1 : Int32) (p2 : Int32) (p3 : Int32) (p4 : Int32) (cs : Int32) (h0 : Heap) (n0 : Nat) (v : Option Value) (h : Heap) (L : List Loc) : Prop := (v = some (.int (1 : Int32))) ∧ (Fr n0 L) ∧ (Keep h0 h [])
set_option maxRecDepth 65536 in
set_option maxHeartbeats 4000000 in
theorem rm0 (l : Launch) (Z : State) (a0 : Array Value) (hw : ∀ d ∈ tables_1, d.before a0 Z = true) (ws : List Jvm.Cond) (p0 : Int32) (p1 : Int32) (p2 : Int32) (p3 : Int32) (p4 : Int32) (cs : Int32) (h0 : Heap) (n0 : Nat) (O : Old Z n0 h0) (S_CS : Sta Z Z.heap "java/lang/String" "COMPACT_STRINGS" "Z" (.int cs)) (hcs : ¬ (cs = (0 : Int32))) :
    MetFree l x (head1 (Jvm.Cond.code x code maxLocals ret :: ws) room_1) (fun A_ U => A_ = #[(.int p0), (.int p1), (.int p2), (.int p3), (.int p4)] ∧ Z.Warmed39 U.vm ∧ U.heap = h0 ∧ CHv Z EL_ U.vm h0) (fun _ _ _ _ _ => True) (fun _ U o U' => ∃ v L, o = .returned v ∧ Q_rm0 Z p0 p1 p2 p3 p4 cs h0 n0 v U'.heap L ∧ ReturnedEndW U o U' L room_1.cells room_1.slots) := by
  refine MetFree.of_bodySF (plainFor_of_name pn_com_example_ward5_ward5_rule_FieldKeySearchesKeywordsPinLaw) hisR ?_
  intro p e s m args below meth c s₁ Bd hml0 hP hK
  obtain ⟨rfl, hZ, hh, CH⟩ := hP
  have hx := Bd.exec
  have hby := Bd.bytes
  have hml : c.maxLocals = 10 := hml0
  have hown : s.vm.findClass "com/example/ward5/ward5/rule/FieldKeySearchesKeywordsPinLaw" = some m.cls := findClass_of_methodNamed Bd.named
  have hnm := (name_of_methodNamed Bd.named Bd.method).1
  have X0 : Stand p l e room_1 (s.setVm s.vm) m #[(.int p0), (.int p1), (.int p2), (.int p3), (.int p4)] below meth c s₁ [] 0 0 := Stand.of_body Bd
  have e0 : s₁.heap = h0 := by rw [← hh, Bd.state]; rfl
  have N0 := Fr.nil n0
  have K := Keep.refl h0 []
  have hS : s.Since s.vm 0 := (State.WarmedH.refl s).since 0
  have hk : 0 ≤ h0.size := Nat.zero_le _
  have wS := own_wS hw
  refine Go.step (p := p) (e := e) (below := below) (G := fun o U' => ∃ v L, o = .returned v ∧ Q_rm0 Z p0 p1 p2 p3 p4 cs h0 n0 v U'.heap L ∧ ReturnedEndW s o U' L room_1.cells room_1.slots) (S' := s₁.setTop (mkF m 0 #[iv p0, iv p1, iv p2, iv p3, iv p4, u_, u_, u_, u_, u_] [])) (fun t k => castTop (ef_rm0 m p0 p1 p2 p3 p4) k) ?_
  refine Go.step (S' := s₁.setTop (mkF m 8 #[iv p0, iv p1, iv p2, iv p3, iv p4, iv ((p1 &&& (2147483647 : Int32)) % (4 : Int32)), u_, u_, u_, u_] [])) (fun t k => ?_) ?_
  · refine XS.iloadN X0.here hx rfl (hb hby at_0) rfl ?_
    refine X0.ldcInt hx hown (mvT hZ (own_w hw 0 rfl)) (g := (mkF m 1 #[iv p0, iv p1, iv p2, iv p3, iv p4, u_, u_, u_, u_, u_] [(.int p1)])) rfl (hb hby at_1) _ ?_
    refine XS.iand X0.here hx rfl (hb hby at_3) rfl ?_
    show Steps p.tables e below (s₁.setTop (mkF m 4 #[iv p0, iv p1, iv p2, iv p3, iv p4, u_, u_, u_, u_, u_] [(.int (p1 &&& (2147483647 : Int32)))])) _
    refine XS.iconst X0.here hx rfl (hb hby at_4) ?_
    refine iremM X0 hx rfl (hb hby at_5) rfl (by decide) ?_
    refine XS.istore X0.here hx rfl (hb hby at_6) rfl (l' := #[iv p0, iv p1, iv p2, iv p3, iv p4, iv ((p1 &&& (2147483647 : Int32)) % (4 : Int32)), u_, u_, u_, u_]) rfl ?_
    exact k
  rcases own_mod4 p1 with hn4 | hn4 | hn4 | hn4
  · skip
    rw [(hn4 : ((p1 &&& (2147483647 : Int32)) % (4 : Int32)) = (0 : Int32))]
    show Go p e below _ (s₁.setTop (mkF m 8 #[iv p0, iv p1, iv p2, iv p3, iv p4, iv (0 : Int32), u_, u_, u_, u_] []))
    refine Go.step (S' := s₁.setTop (mkF m 10 #[iv p0, iv p1, iv p2, iv p3, iv p4, iv (0 : Int32), u_, u_, u_, u_] [(.int (0 : Int32))])) (fun t k => ?_) ?_
    · refine XS.iload X0.here hx rfl (hb hby at_8) rfl ?_
      exact k
    obtain ⟨T1, h1, k1, X1, e1, E1, A1, st1⟩ := newP X0 hx hZ (own_w hw 1 rfl) e0 (g := (mkF m 10 #[iv p0, iv p1, iv p2, iv p3, iv p4, iv (0 : Int32), u_, u_, u_, u_] [(.int (0 : Int32))])) rfl (hb hby at_10) rfl (by decide) (cap := 0) (by decide) (by decide) (by decide) (by decide)
    obtain ⟨b1, g1⟩ : ∃ z, z = Array.size h0 := ⟨_, rfl⟩
    have g_b1 : n0 ≤ b1 := Nat.le_trans (old_le O) (Nat.le_of_eq g1.symm)
    have sz_b1 : h0.size ≤ b1 := Nat.le_trans K.1 (Nat.le_of_eq g1.symm)
    rw [← g1] at A1 st1
    have O := O.ext E1
    have CH := CHv.ext E1 CH
    have hk := Nat.le_trans hk E1.1
    have K := K.ext E1
    have V_b1 : Arv Z h1 b1 k1 .char (0 : Int32) [] (.int (0 : Int32)) := Arv.new A1 (by decide)
    refine Go.step st1 ?_
    show Go p e below _ (T1.setTop (mkF m 12 #[iv p0, iv p1, iv p2, iv p3, iv p4, iv (0 : Int32), u_, u_, u_, u_] [(.ref b1)]))
    refine Go.step (S' := T1.setTop (mkF m 65 #[iv p0, iv p1, iv p2, iv p3, iv p4, iv (0 : Int32), rv b1, u_, u_, u_] [(.int (p0 &&& (1 : Int32)))])) (fun t k => ?_) ?_
    · refine XS.astore X1.here hx rfl (hb hby at_12) rfl rfl (l' := #[iv p0, iv p1, iv p2, iv p3, iv p4, iv (0 : Int32), rv b1, u_, u_, u_]) rfl ?_
      refine XS.iload X1.here hx rfl (hb hby at_14) rfl ?_
      refine XS.ifYes X1.here hx rfl (pc0 := 16) (pc' := 29) rfl (hb hby at_16) rfl ((if0 _ _).trans (flt ((by decide) : ¬ ((0 : Int32) < (0 : Int32)))).2.2.2) (by decide) (by decide) ?_
      show Steps p.tables e below (T1.setTop (mkF m 29 #[iv p0, iv p1, iv p2, iv p3, iv p4, iv (0 : Int32), rv b1, u_, u_, u_] [])) _
      refine XS.iload X1.here hx rfl (hb hby at_29) rfl ?_
      refine XS.iconst X1.here hx rfl (hb hby at_31) ?_
      refine XS.icmpYes X1.here hx rfl (pc0 := 32) (pc' := 45) rfl (hb hby at_32) rfl (flt ((by decide) : ¬ ((1 : Int32) < (0 : Int32)))).2.2.2 (by decide) (by decide) ?_
      show Steps p.tables e below (T1.setTop (mkF m 45 #[iv p0, iv p1, iv p2, iv p3, iv p4, iv (0 : Int32), rv b1, u_, u_, u_] [])) _
      refine XS.iload X1.here hx rfl (hb hby at_45) rfl ?_
      refine XS.iconst X1.here hx rfl (hb hby at_47) ?_
      refine XS.icmpYes X1.here hx rfl (pc0 := 48) (pc' := 62) rfl (hb hby at_48) rfl (flt ((by decide) : ¬ ((2 : Int32) < (0 : Int32)))).2.2.2 (by decide) (by decide) ?_
      show Steps p.tables e below (T1.setTop (mkF m 62 #[iv p0, iv p1, iv p2, iv p3, iv p4, iv (0 : Int32), rv b1, u_, u_, u_] [])) _
      refine XS.iloadN X1.here hx rfl (hb hby at_62) rfl ?_
      refine XS.iconst X1.here hx rfl (hb hby at_63) ?_
      refine XS.iand X1.here hx rfl (hb hby at_64) rfl ?_
      exact k
    by_cases hc65 : (p0 &&& (1 : Int32)) = (0 : Int32)
    · skip
      refine Go.step (S' := T1.setTop (mkF m 84 #[iv p0, iv p1, iv p2, iv p3, iv p4, iv (0 : Int32), rv b1, iv (0 : Int32), u_, u_] [])) (fun t k => ?_) ?_
      · refine XS.ifYes X1.here hx rfl (pc0 := 65) (pc' := 72) rfl (hb hby at_65) rfl ((if0 _ _).trans (teq (hc65 : (p0 &&& (1 : Int32)) = (0 : Int32))).1) (by decide) (by decide) ?_
        refine XS.iconst X1.here hx rfl (hb hby at_72) ?_
        refine XS.istore X1.here hx rfl (hb hby at_73) rfl (l' := #[iv p0, iv p1, iv p2, iv p3, iv p4, iv (0 : Int32), rv b1, iv (0 : Int32), u_, u_]) rfl ?_
        show Steps p.tables e below (T1.setTop (mkF m 75 #[iv p0, iv p1, iv p2, iv p3, iv p4, iv (0 : Int32), rv b1, iv (0 : Int32), u_, u_] [])) _
        refine XS.iload X1.here hx rfl (hb hby at_75) rfl ?_
        refine XS.ifYes X1.here hx rfl (pc0 := 77) (pc' := 84) rfl (hb hby at_77) rfl ((if0 _ _).trans (teq ((by decide) : (0 : Int32) = (0 : Int32))).1) (by decide) (by decide) ?_
        exact k
      obtain ⟨T2, h2, X2, e2, E2, A2, D2, -, st2⟩ := newO X1 hx hZ hown (own_w hw 2 rfl) (own_w hw 3 rfl) (own_w hw 4 rfl) e1 (g := (mkF m 84 #[iv p0, iv p1, iv p2, iv p3, iv p4, iv (0 : Int32), rv b1, iv (0 : Int32), u_, u_] [])) rfl (hb hby at_84) (by decide) (by decide)
      obtain ⟨b2, g2⟩ : ∃ z, z = Array.size h1 := ⟨_, rfl⟩
      have g_b2 : n0 ≤ b2 := Nat.le_trans (old_le O) (Nat.le_of_eq g2.symm)
      have sz_b2 : h0.size ≤ b2 := Nat.le_trans K.1 (Nat.le_of_eq g2.symm)
      have ne_b1_b2 : b1 ≠ b2 := Nat.ne_of_lt (Nat.lt_of_lt_of_le V_b1.lt (Nat.le_of_eq g2.symm))
      rw [← g2] at A2 D2 st2
      have O := O.ext E2
      have CH := CHv.ext E2 CH
      have hk := Nat.le_trans hk E2.1
      have K := K.ext E2
      have V_b1 := V_b1.ext E2
      have E_b2 := A2
      have F_coder_b2 : Fld Z h2 b2 "java/lang/String" "coder" "B" (.int (0 : Int32)) := D2 (Or.inr (own_w hw 28 rfl)) (ty := .byte) (by decide)
      have F_value_b2 : Fld Z h2 b2 "java/lang/String" "value" "[B" .null := D2 (Or.inr (own_w hw 30 rfl)) (ty := (.array .byte)) (by decide)
      refine Go.step st2 ?_
      show Go p e below _ (T2.setTop (mkF m 87 #[iv p0, iv p1, iv p2, iv p3, iv p4, iv (0 : Int32), rv b1, iv (0 : Int32), u_, u_] [(.ref b2)]))
      refine Go.step (S' := T2.setTop (mkF m 90 #[iv p0, iv p1, iv p2, iv p3, iv p4, iv (0 : Int32), rv b1, iv (0 : Int32), u_, u_] [(.ref b1), (.ref b2), (.ref b2)])) (fun t k => ?_) ?_
      · refine XS.dup X2.here hx rfl (hb hby at_87) rfl rfl ?_
        refine XS.aload X2.here hx rfl (hb hby at_88) rfl rfl ?_
        exact k
      obtain ⟨_, _, ⟨T3, L3, k3, n3⟩, -, X3, hS3, hgr3, ⟨Lc3, hQ3, l3, y3, z3⟩, st3⟩ := X2.specialBackS hx (y := y_4) rfl hown (mvT hZ (own_w hw 5 rfl)) (mvT hZ (own_w hw 6 rfl)) (mvT hZ (own_w hw 7 rfl)) (by decide) (own_backX (W := 1) (rmNS0 l Z a0 hw [] b2 b1 k1 h2 n0 O E_b2 F_value_b2 F_coder_b2 V_b1 (by assumption)) hZ (own_w hw 7 rfl) (own_w hw 4 rfl) (by decide) (by decide) (fun vm' hvm => own_CHw hZ (own_EW hw) hvm CH)) (g := (mkF m 90 #[iv p0, iv p1, iv p2, iv p3, iv p4, iv (0 : Int32), rv b1, iv (0 : Int32), u_, u_] [(.ref b1), (.ref b2), (.ref b2)])) rfl (by rw [hml]; rfl) (Steps.refl _) (a := b2) (argsL := [(.ref b1)]) (rest := [(.ref b2)]) (lenOf pd__28_5bC_29V rfl) rfl (Nat.le_of_eq rfl) (hb hby at_90) (fun _ _ => ⟨rfl, e2, (by decide : 2 + 2 ≤ _), (by decide : 4 + 4 ≤ _)⟩)
      dsimp only [Pt.U, Pt.locs, Pt.cells, Pt.slots] at X3 l3 y3 z3 st3 hQ3 hS3 hgr3
      subst l3 y3 z3
      have hS := foldS hS (by rw [e2]; exact hk) hS3 hgr3
      have hown : (s.setVm T3.vm).vm.findClass "com/example/ward5/ward5/rule/FieldKeySearchesKeywordsPinLaw" = some m.cls := by show T3.vm.findClass _ = _; rw [hS3.1.alike.findClass]; exact hown
      have hZ : Z.Warmed39 (s.setVm T3.vm).vm := State.Warmed39.trans hZ hS3.1
      have X3 : Stand p l e room_1 (s.setVm T3.vm) m #[(.int p0), (.int p1), (.int p2), (.int p3), (.int p4)] below meth c T3 _ _ _ := X3
      obtain ⟨tb_3, kb_3, rfl, Nq3, K3, P3_E, P3_Fv, P3_Fc, P3_V⟩ := hQ3
      have N3 := Fr.app N0 Nq3
      have O := O.keep K3 (allS g_b2 all0)
      have K := K.trans K3 (allS (Or.inr sz_b2) all0)
      have V_b1 := V_b1.keep K3 (ninS ne_b1_b2 nin0)
      have E_b2 := E_b2.keep K3
      have E_3 := P3_E
      have Fv_3 := P3_Fv
      have Fc_3 := P3_Fc
      have V_3 := P3_V
      have hk : T3.heap.size ≤ (T3.heap).size := Nat.le_refl _
      refine Go.step (fun t k => st3.trans k) ?_
      show Go p e below _ (T3.setTop (mkF m 93 #[iv p0, iv p1, iv p2, iv p3, iv p4, iv (0 : Int32), rv b1, iv (0 : Int32), u_, u_] [(.ref b2)]))
      refine Go.step (S' := T3.setTop (mkF m 95 #[iv p0, iv p1, iv p2, iv p3, iv p4, iv (0 : Int32), rv b1, iv (0 : Int32), rv b2, u_] [])) (fun t k => ?_) ?_
      · refine XS.astore X3.here hx rfl (hb hby at_93) rfl rfl (l' := #[iv p0, iv p1, iv p2, iv p3, iv p4, iv (0 : Int32), rv b1, iv (0 : Int32), rv b2, u_]) rfl ?_
        exact k
      obtain ⟨T4, h4, X4, e4, E4, A4, D4, -, st4⟩ := newO X3 hx hZ hown (own_w hw 31 rfl) (own_w hw 32 rfl) (own_w hw 33 rfl) (Eq.refl T3.heap) (g := (mkF m 95 #[iv p0, iv p1, iv p2, iv p3, iv p4, iv (0 : Int32), rv b1, iv (0 : Int32), rv b2, u_] [])) rfl (hb hby at_95) (by decide) (by decide)
      obtain ⟨b4, g4⟩ : ∃ z, z = Array.size T3.heap := ⟨_, rfl⟩
      have g_b4 : n0 ≤ b4 := Nat.le_trans (old_le O) (Nat.le_of_eq g4.symm)
      have sz_b4 : h0.size ≤ b4 := Nat.le_trans K.1 (Nat.le_of_eq g4.symm)
      have ne_b1_b4 : b1 ≠ b4 := Nat.ne_of_lt (Nat.lt_of_lt_of_le V_b1.lt (Nat.le_of_eq g4.symm))
      have ne_b2_b4 : b2 ≠ b4 := Nat.ne_of_lt (Nat.lt_of_lt_of_le E_b2.lt (Nat.le_of_eq g4.symm))
      have ne_tb_3_b4 : tb_3 ≠ b4 := Nat.ne_of_lt (Nat.lt_of_lt_of_le V_3.lt (Nat.le_of_eq g4.symm))
      rw [← g4] at A4 D4 st4
      have O := O.ext E4
      have K := K.ext E4
      have V_b1 := V_b1.ext E4
      have E_b2 := E_b2.ext E4
      have E_3 := E_3.ext E4
      have Fv_3 := Fv_3.ext E4
      have Fc_3 := Fc_3.ext E4
      have V_3 := V_3.ext E4
      have hk := Nat.le_trans hk E4.1
      have E_b4 := A4
      have F_field_b4 : Fld Z h4 b4 "com/example/ward5/ward5/rule/FieldKey" "field" "Ljava/lang/String;" .null := D4 (Or.inr (own_w hw 44 rfl)) (ty := (.object "java/lang/String")) (by decide)
      have F_modifiers_b4 : Fld Z h4 b4 "com/example/ward5/ward5/rule/FieldKey" "modifiers" "Ljava/util/Set;" .null := D4 (Or.inr (own_w hw 46 rfl)) (ty := (.object "java/util/Set")) (by decide)
      refine Go.step st4 ?_
      show Go p e below _ (T4.setTop (mkF m 98 #[iv p0, iv p1, iv p2, iv p3, iv p4, iv (0 : Int32), rv b1, iv (0 : Int32), rv b2, u_] [(.ref b4)]))
      refine Go.step (S' := T4.setTop (mkF m 102 #[iv p0, iv p1, iv p2, iv p3, iv p4, iv (0 : Int32), rv b1, iv (0 : Int32), rv b2, u_] [.null, (.ref b2), (.ref b4), (.ref b4)])) (fun t k => ?_) ?_
      · refine XS.dup X4.here hx rfl (hb hby at_98) rfl rfl ?_
        refine XS.aload X4.here hx rfl (hb hby at_99) rfl rfl ?_
        refine XS.aconstNull X4.here hx rfl (hb hby at_101) ?_
        exact k
      obtain ⟨_, _, ⟨T5, L5, k5, n5⟩, -, X5, ⟨Lc5, hQ5, l5, y5, z5⟩, st5⟩ := X4.specialBack hx (y := y_6) rfl hown (mvT hZ (own_w hw 34 rfl)) (mvT hZ (own_w hw 35 rfl)) (mvT hZ (own_w hw 36 rfl)) (by decide) (backOf (W := 1) (rmFK1 l Z a0 hw [] b4 b2 h4 n0 O E_b4 F_field_b4 F_modifiers_b4 (by assumption)) hZ (own_w hw 36 rfl) (own_w hw 33 rfl) (by decide) (by decide)) (g := (mkF m 102 #[iv p0, iv p1, iv p2, iv p3, iv p4, iv (0 : Int32), rv b1, iv (0 : Int32), rv b2, u_] [.null, (.ref b2), (.ref b4), (.ref b4)])) rfl (by rw [hml]; rfl) (Steps.refl _) (a := b4) (argsL := [(.ref b2), .null]) (rest := [(.ref b4)]) (lenOf pd__28Ljava_2flang_2fString_3bLjava_2futil_2fSet_3b_29V rfl) rfl (Nat.le_of_eq rfl) (hb hby at_102) (fun _ _ => ⟨rfl, e4, (by decide : 5 + 0 ≤ _), (by decide : 10 + 0 ≤ _)⟩)
      dsimp only [Pt.U, Pt.locs, Pt.cells, Pt.slots] at X5 l5 y5 z5 st5 hQ5
      subst l5 y5 z5
      obtain ⟨rfl, Nq5, K5, P5_E, P5_F⟩ := hQ5
      have N5 := Fr.app N3 Nq5
      have O := O.keep K5 (allS g_b4 all0)
      have K := K.trans K5 (allS (Or.inr sz_b4) all0)
      have V_b1 := V_b1.keep K5 (ninS ne_b1_b4 nin0)
      have E_b2 := E_b2.keep K5
      have E_3 := E_3.keep K5
      have Fv_3 := Fv_3.keep K5 (ninS ne_b2_b4 nin0)
      have Fc_3 := Fc_3.keep K5 (ninS ne_b2_b4 nin0)
      have V_3 := V_3.keep K5 (ninS ne_tb_3_b4 nin0)
      have hk := Nat.le_trans hk K5.1
      have E_b4 := E_b4.keep K5
      have E_5 := P5_E
      have F_5 := P5_F
      refine Go.step (fun t k => st5.trans k) ?_
      show Go p e below _ (T5.setTop (mkF m 105 #[iv p0, iv p1, iv p2, iv p3, iv p4, iv (0 : Int32), rv b1, iv (0 : Int32), rv b2, u_] [(.ref b4)]))
      refine Go.step (S' := T5.setTop (mkF m 109 #[iv p0, iv p1, iv p2, iv p3, iv p4, iv (0 : Int32), rv b1, iv (0 : Int32), rv b2, rv b4] [(.ref b4)])) (fun t k => ?_) ?_
      · refine XS.astore X5.here hx rfl (hb hby at_105) rfl rfl (l' := #[iv p0, iv p1, iv p2, iv p3, iv p4, iv (0 : Int32), rv b1, iv (0 : Int32), rv b2, rv b4]) rfl ?_
        refine XS.aload X5.here hx rfl (hb hby at_107) rfl rfl ?_
        exact k
      obtain ⟨cq6, kq6, q6a, q6b, q6c⟩ := isOf hZ (Eq.refl T5.heap) E_b4
      obtain ⟨_, _, ⟨T6, L6, k6, n6⟩, -, X6, ⟨Lc6, hQ6, l6, y6, z6⟩, st6⟩ := X5.virtualBack hx (y := y_7) (z := y_7) hown (mvT hZ (own_w hw 47 rfl)) (mvT hZ (own_w hw 48 rfl)) (notFace_of_selects (args := #[]) (mvT hZ (own_w hw 50 rfl))) (mvT hZ (own_w hw 50 rfl)) (mvT hZ (own_w hw 49 rfl)) (by decide) (backOf (W := 0) (rmSK1 l Z a0 hw [] b4 b2 T5.heap n0 O F_5) hZ (own_w hw 51 rfl) (own_w hw 33 rfl) (by decide) (by decide)) q6a q6c (g := (mkF m 109 #[iv p0, iv p1, iv p2, iv p3, iv p4, iv (0 : Int32), rv b1, iv (0 : Int32), rv b2, rv b4] [(.ref b4)])) rfl (by rw [hml]; rfl) (Steps.refl _) (argsL := []) (rest := []) (lenOf pd__28_29Z rfl) rfl (Nat.le_of_eq rfl) (hb hby at_109) (fun _ _ => ⟨rfl, (Eq.refl T5.heap), (by decide : 5 + 0 ≤ _), (by decide : 10 + 0 ≤ _)⟩)
      dsimp only [Pt.U, Pt.locs, Pt.cells, Pt.slots] at X6 l6 y6 z6 st6 hQ6
      subst l6 y6 z6
      obtain ⟨rfl, Nq6, e6⟩ := hQ6
      have N6 := Fr.app N5 Nq6
      refine Go.step (fun t k => st6.trans k) ?_
      show Go p e below _ (T6.setTop (mkF m 112 #[iv p0, iv p1, iv p2, iv p3, iv p4, iv (0 : Int32), rv b1, iv (0 : Int32), rv b2, rv b4] [(.int (0 : Int32))]))
      refine Go.step (S' := T6.setTop (mkF m 122 #[iv p0, iv p1, iv p2, iv p3, iv p4, iv (0 : Int32), rv b1, iv (0 : Int32), rv b2, rv b4] [(.int (1 : Int32))])) (fun t k => ?_) ?_
      · refine XS.iload X6.here hx rfl (hb hby at_112) rfl ?_
        refine XS.icmpNo X6.here hx rfl (hb hby at_114) rfl (teq ((by decide) : (0 : Int32) = (0 : Int32))).2 ?_
        refine XS.iconst X6.here hx rfl (hb hby at_117) ?_
        show Steps p.tables e below (T6.setTop (mkF m 118 #[iv p0, iv p1, iv p2, iv p3, iv p4, iv (0 : Int32), rv b1, iv (0 : Int32), rv b2, rv b4] [(.int (1 : Int32))])) _
        refine XS.goto X6.here hx rfl (pc0 := 118) (pc' := 122) rfl (hb hby at_118) (by decide) (by decide) ?_
        exact k
      obtain ⟨fs, hr, hrun, hended, hR⟩ := X6.leaveW hS (by rw [e6]; exact hk) (v := some (.int (1 : Int32))) (fun h => by rw [Bd.returns] at h; cases h)
      refine Go.fin (S' := T6.setFrames fs) ?_ hrun hended ⟨_, _, rfl, ?_, hR.1, hR.2.1, hR.2.2.1, hR.2.2.2.mono (by decide) (by decide)⟩
      · exact retOut X6 hx Bd.returns (by decide) (Or.inl ⟨rfl, Or.inr (Or.inl rfl), _, rfl⟩) (hb hby at_122) hr
      · show Q_rm0 Z p0 p1 p2 p3 p4 cs h0 n0 (some (.int (1 : Int32))) T6.heap _
        rw [e6]
        exact ⟨rfl, N6, K⟩
    · skip
      refine Go.step (S' := T1.setTop (mkF m 95 #[iv p0, iv p1, iv p2, iv p3, iv p4, iv (0 : Int32), rv b1, iv (1 : Int32), .val .null, u_] [])) (fun t k => ?_) ?_
      · refine XS.ifNo X1.here hx rfl (hb hby at_65) rfl ((if0 _ _).trans (feq (hc65 : ¬ ((p0 &&& (1 : Int32)) = (0 : Int32)))).1) ?_
        refine XS.iconst X1.here hx rfl (hb hby at_68) ?_
        refine XS.goto X1.here hx rfl (pc0 := 69) (pc' := 73) rfl (hb hby at_69) (by decide) (by decide) ?_
        show Steps p.tables e below (T1.setTop (mkF m 73 #[iv p0, iv p1, iv p2, iv p3, iv p4, iv (0 : Int32), rv b1, u_, u_, u_] [(.int (1 : Int32))])) _
        refine XS.istore X1.here hx rfl (hb hby at_73) rfl (l' := #[iv p0, iv p1, iv p2, iv p3, iv p4, iv (0 : Int32), rv b1, iv (1 : Int32), u_, u_]) rfl ?_
        refine XS.iload X1.here hx rfl (hb hby at_75) rfl ?_
        refine XS.ifNo X1.here hx rfl (hb hby at_77) rfl ((if0 _ _).trans (feq ((by decide) : ¬ ((1 : Int32) = (0 : Int32)))).1) ?_
        show Steps p.tables e below (T1.setTop (mkF m 80 #[iv p0, iv p1, iv p2, iv p3, iv p4, iv (0 : Int32), rv b1, iv (1 : Int32), u_, u_] [])) _
        refine XS.aconstNull X1.here hx rfl (hb hby at_80) ?_
        refine XS.goto X1.here hx rfl (pc0 := 81) (pc' := 93) rfl (hb hby at_81) (by decide) (by decide) ?_
        refine XS.astore X1.here hx rfl (hb hby at_93) rfl rfl (l' := #[iv p0, iv p1, iv p2, iv p3, iv p4, iv (0 : Int32), rv b1, iv (1 : Int32), .val .null, u_]) rfl ?_
        exact k
      obtain ⟨T7, h7, X7, e7, E7, A7, D7, -, st7⟩ := newO X1 hx hZ hown (own_w hw 31 rfl) (own_w hw 32 rfl) (own_w hw 33 rfl) e1 (g := (mkF m 95 #[iv p0, iv p1, iv p2, iv p3, iv p4, iv (0 : Int32), rv b1, iv (1 : Int32), .val .null, u_] [])) rfl (hb hby at_95) (by decide) (by decide)
      obtain ⟨b7, g7⟩ : ∃ z, z = Array.size h1 := ⟨_, rfl⟩
      have g_b7 : n0 ≤ b7 := Nat.le_trans (old_le O) (Nat.le_of_eq g7.symm)
      have sz_b7 : h0.size ≤ b7 := Nat.le_trans K.1 (Nat.le_of_eq g7.symm)
      have ne_b1_b7 : b1 ≠ b7 := Nat.ne_of_lt (Nat.lt_of_lt_of_le V_b1.lt (Nat.le_of_eq g7.symm))
      rw [← g7] at A7 D7 st7
      have O := O.ext E7
      have CH := CHv.ext E7 CH
      have hk := Nat.le_trans hk E7.1
      have K := K.ext E7
      have V_b1 := V_b1.ext E7
      have E_b7 := A7
      have F_field_b7 : Fld Z h7 b7 "com/example/ward5/ward5/rule/FieldKey" "field" "Ljava/lang/String;" .null := D7 (Or.inr (own_w hw 44 rfl)) (ty := (.object "java/lang/String")) (by decide)
      have F_modifiers_b7 : Fld Z h7 b7 "com/example/ward5/ward5/rule/FieldKey" "modifiers" "Ljava/util/Set;" .null := D7 (Or.inr (own_w hw 46 rfl)) (ty := (.object "java/util/Set")) (by decide)
      refine Go.step st7 ?_
      show Go p e below _ (T7.setTop (mkF m 98 #[iv p0, iv p1, iv p2, iv p3, iv p4, iv (0 : Int32), rv b1, iv (1 : Int32), .val .null, u_] [(.ref b7)]))
      refine Go.step (S' := T7.setTop (mkF m 102 #[iv p0, iv p1, iv p2, iv p3, iv p4, iv (0 : Int32), rv b1, iv (1 : Int32), .val .null, u_] [.null, .null, (.ref b7), (.ref b7)])) (fun t k => ?_) ?_
      · refine XS.dup X7.here hx rfl (hb hby at_98) rfl rfl ?_
        refine XS.aload X7.here hx rfl (hb hby at_99) rfl rfl ?_
        refine XS.aconstNull X7.here hx rfl (hb hby at_101) ?_
        exact k
      obtain ⟨_, _, ⟨T8, L8, k8, n8⟩, -, X8, ⟨Lc8, hQ8, l8, y8, z8⟩, st8⟩ := X7.specialBack hx (y := y_6) rfl hown (mvT hZ (own_w hw 34 rfl)) (mvT hZ (own_w hw 35 rfl)) (mvT hZ (own_w hw 36 rfl)) (by decide) (backOf (W := 1) (rmFK0 l Z a0 hw [] b7 h7 n0 O E_b7 F_field_b7 F_modifiers_b7 (by assumption)) hZ (own_w hw 36 rfl) (own_w hw 33 rfl) (by decide) (by decide)) (g := (mkF m 102 #[iv p0, iv p1, iv p2, iv p3, iv p4, iv (0 : Int32), rv b1, iv (1 : Int32), .val .null, u_] [.null, .null, (.ref b7), (.ref b7)])) rfl (by rw [hml]; rfl) (Steps.refl _) (a := b7) (argsL := [.null, .null]) (rest := [(.ref b7)]) (lenOf pd__28Ljava_2flang_2fString_3bLjava_2futil_2fSet_3b_29V rfl) rfl (Nat.le_of_eq rfl) (hb hby at_102) (fun _ _ => ⟨rfl, e7, (by decide : 2 + 0 ≤ _), (by decide : 2 + 0 ≤ _)⟩)
      dsimp only [Pt.U, Pt.locs, Pt.cells, Pt.slots] at X8 l8 y8 z8 st8 hQ8
      subst l8 y8 z8
      obtain ⟨rfl, Nq8, K8, P8_E, P8_F⟩ := hQ8
      have N8 := Fr.app N0 Nq8
      have O := O.keep K8 (allS g_b7 all0)
      have hk := Nat.le_trans hk K8.1
      have K := K.trans K8 (allS (Or.inr sz_b7) all0)
      have V_b1 := V_b1.keep K8 (ninS ne_b1_b7 nin0)
      have E_b7 := E_b7.keep K8
      have E_8 := P8_E
      have F_8 := P8_F
      refine Go.step (fun t k => st8.trans k) ?_
      show Go p e below _ (T8.setTop (mkF m 105 #[iv p0, iv p1, iv p2, iv p3, iv p4, iv (0 : Int32), rv b1, iv (1 : Int32), .val .null, u_] [(.ref b7)]))
      refine Go.step (S' := T8.setTop (mkF m 109 #[iv p0, iv p1, iv p2, iv p3, iv p4, iv (0 : Int32), rv b1, iv (1 : Int32), .val .null, rv b7] [(.ref b7)])) (fun t k => ?_) ?_
      · refine XS.astore X8.here hx rfl (hb hby at_105) rfl rfl (l' := #[iv p0, iv p1, iv p2, iv p3, iv p4, iv (0 : Int32), rv b1, iv (1 : Int32), .val .null, rv b7]) rfl ?_
        refine XS.aload X8.here hx rfl (hb hby at_107) rfl rfl ?_
        exact k
      obtain ⟨cq9, kq9, q9a, q9b, q9c⟩ := isOf hZ (Eq.refl T8.heap) E_b7
      obtain ⟨_, _, ⟨T9, L9, k9, n9⟩, -, X9, ⟨Lc9, hQ9, l9, y9, z9⟩, st9⟩ := X8.virtualBack hx (y := y_7) (z := y_7) hown (mvT hZ (own_w hw 47 rfl)) (mvT hZ (own_w hw 48 rfl)) (notFace_of_selects (args := #[]) (mvT hZ (own_w hw 50 rfl))) (mvT hZ (own_w hw 50 rfl)) (mvT hZ (own_w hw 49 rfl)) (by decide) (backOf (W := 0) (rmSK0 l Z a0 hw [] b7 T8.heap n0 O F_8) hZ (own_w hw 51 rfl) (own_w hw 33 rfl) (by decide) (by decide)) q9a q9c (g := (mkF m 109 #[iv p0, iv p1, iv p2, iv p3, iv p4, iv (0 : Int32), rv b1, iv (1 : Int32), .val .null, rv b7] [(.ref b7)])) rfl (by rw [hml]; rfl) (Steps.refl _) (argsL := []) (rest := []) (lenOf pd__28_29Z rfl) rfl (Nat.le_of_eq rfl) (hb hby at_109) (fun _ _ => ⟨rfl, (Eq.refl T8.heap), (by decide : 2 + 0 ≤ _), (by decide : 2 + 0 ≤ _)⟩)
      dsimp only [Pt.U, Pt.locs, Pt.cells, Pt.slots] at X9 l9 y9 z9 st9 hQ9
      subst l9 y9 z9
      obtain ⟨rfl, Nq9, e9⟩ := hQ9
      have N9 := Fr.app N8 Nq9
      refine Go.step (fun t k => st9.trans k) ?_
      show Go p e below _ (T9.setTop (mkF m 112 #[iv p0, iv p1, iv p2, iv p3, iv p4, iv (0 : Int32), rv b1, iv (1 : Int32), .val .null, rv b7] [(.int (1 : Int32))]))
      refine Go.step (S' := T9.setTop (mkF m 122 #[iv p0, iv p1, iv p2, iv p3, iv p4, iv (0 : Int32), rv b1, iv (1 : Int32), .val .null, rv b7] [(.int (1 : Int32))])) (fun t k => ?_) ?_
      · refine XS.iload X9.here hx rfl (hb hby at_112) rfl ?_
        refine XS.icmpNo X9.here hx rfl (hb hby at_114) rfl (teq ((by decide) : (1 : Int32) = (1 : Int32))).2 ?_
        refine XS.iconst X9.here hx rfl (hb hby at_117) ?_
        show Steps p.tables e below (T9.setTop (mkF m 118 #[iv p0, iv p1, iv p2, iv p3, iv p4, iv (0 : Int32), rv b1, iv (1 : Int32), .val .null, rv b7] [(.int (1 : Int32))])) _
        refine XS.goto X9.here hx rfl (pc0 := 118) (pc' := 122) rfl (hb hby at_118) (by decide) (by decide) ?_
        exact k
      obtain ⟨fs, hr, hrun, hended, hR⟩ := X9.leaveW hS (by rw [e9]; exact hk) (v := some (.int (1 : Int32))) (fun h => by rw [Bd.returns] at h; cases h)
      refine Go.fin (S' := T9.setFrames fs) ?_ hrun hended ⟨_, _, rfl, ?_, hR.1, hR.2.1, hR.2.2.1, hR.2.2.2.mono (by decide) (by decide)⟩
      · exact retOut X9 hx Bd.returns (by decide) (Or.inl ⟨rfl, Or.inr (Or.inl rfl), _, rfl⟩) (hb hby at_122) hr
      · show Q_rm0 Z p0 p1 p2 p3 p4 cs h0 n0 (some (.int (1 : Int32))) T9.heap _
        rw [e9]
        exact ⟨rfl, N9, K⟩
  · skip
    rw [(hn4 : ((p1 &&& (2147483647 : Int32)) % (4 : Int32)) = (1 : Int32))]
    show Go p e below _ (s₁.setTop (mkF m 8 #[iv p0, iv p1, iv p2, iv p3, iv p4, iv (1 : Int32), u_, u_, u_, u_] []))
    refine Go.step (S' := s₁.setTop (mkF m 10 #[iv p0, iv p1, iv p2, iv p3, iv p4, iv (1 : Int32), u_, u_, u_, u_] [(.int (1 : Int32))])) (fun t k => ?_) ?_
    · refine XS.iload X0.here hx rfl (hb hby at_8) rfl ?_
      exact k
    obtain ⟨T10, h10, k10, X10, e10, E10, A10, st10⟩ := newP X0 hx hZ (own_w hw 1 rfl) e0 (g := (mkF m 10 #[iv p0, iv p1, iv p2, iv p3, iv p4, iv (1 : Int32), u_, u_, u_, u_] [(.int (1 : Int32))])) rfl (hb hby at_10) rfl (by decide) (cap := 1) (by decide) (by decide) (by decide) (by decide)
    obtain ⟨b10, g10⟩ : ∃ z, z = Array.size h0 := ⟨_, rfl⟩
    have g_b10 : n0 ≤ b10 := Nat.le_trans (old_le O) (Nat.le_of_eq g10.symm)
    have sz_b10 : h0.size ≤ b10 := Nat.le_trans K.1 (Nat.le_of_eq g10.symm)
    rw [← g10] at A10 st10
    have O := O.ext E10
    have CH := CHv.ext E10 CH
    have hk := Nat.le_trans hk E10.1
    have K := K.ext E10
    have V_b10 : Arv Z h10 b10 k10 .char (1 : Int32) [(.int (0 : Int32))] (.int (0 : Int32)) := (Arv.new A10 (by decide)).pad (pad_rep [] (.int (0 : Int32)) 1)
    refine Go.step st10 ?_
    show Go p e below _ (T10.setTop (mkF m 12 #[iv p0, iv p1, iv p2, iv p3, iv p4, iv (1 : Int32), u_, u_, u_, u_] [(.ref b10)]))
    refine Go.step (S' := T10.setTop (mkF m 28 #[iv p0, iv p1, iv p2, iv p3, iv p4, iv (1 : Int32), rv b10, u_, u_, u_] [(.int ((p2 &&& (255 : Int32)).toUInt32.toUInt16.toUInt32.toInt32)), (.int (0 : Int32)), (.ref b10)])) (fun t k => ?_) ?_
    · refine XS.astore X10.here hx rfl (hb hby at_12) rfl rfl (l' := #[iv p0, iv p1, iv p2, iv p3, iv p4, iv (1 : Int32), rv b10, u_, u_, u_]) rfl ?_
      refine XS.iload X10.here hx rfl (hb hby at_14) rfl ?_
      refine XS.ifNo X10.here hx rfl (hb hby at_16) rfl ((if0 _ _).trans (tlt ((by decide) : (0 : Int32) < (1 : Int32))).2.2.2) ?_
      show Steps p.tables e below (T10.setTop (mkF m 19 #[iv p0, iv p1, iv p2, iv p3, iv p4, iv (1 : Int32), rv b10, u_, u_, u_] [])) _
      refine XS.aload X10.here hx rfl (hb hby at_19) rfl rfl ?_
      refine XS.iconst X10.here hx rfl (hb hby at_21) ?_
      refine XS.iloadN X10.here hx rfl (hb hby at_22) rfl ?_
      show Steps p.tables e below (T10.setTop (mkF m 23 #[iv p0, iv p1, iv p2, iv p3, iv p4, iv (1 : Int32), rv b10, u_, u_, u_] [(.int p2), (.int (0 : Int32)), (.ref b10)])) _
      refine XS.sipush X10.here hx rfl (hb hby at_23) ?_
      refine XS.iand X10.here hx rfl (hb hby at_26) rfl ?_
      refine XS.i2c X10.here hx rfl (hb hby at_27) rfl ?_
      exact k
    obtain ⟨cl11, Ar11, q11, S11, N11_, H11, G11⟩ := V_b10
    have hin11 : ¬ ((0 : Int32) < 0 ∨ cl11.slots.size ≤ ((0 : Int32)).toNatClampNeg) := inb_of S11 ⟨by decide, by decide⟩
    obtain ⟨T11, h11, X11, e11, W11, st11⟩ := stC X10 hx hZ e10 Ar11 (j := (0 : Int32)) hin11 (g := (mkF m 28 #[iv p0, iv p1, iv p2, iv p3, iv p4, iv (1 : Int32), rv b10, u_, u_, u_] [(.int ((p2 &&& (255 : Int32)).toUInt32.toUInt16.toUInt32.toInt32)), (.int (0 : Int32)), (.ref b10)])) rfl rfl (hb hby at_28)
    have O := O.wr W11 g_b10
    have hk := Nat.le_trans hk (Keep.of_wr W11).1
    have K := K.wr W11 (Or.inr sz_b10)
    have V_b10 : Arv Z h11 b10 k10 .char (1 : Int32) [(.int (((p2 &&& (255 : Int32)).toUInt32.toUInt16.toUInt32.toInt32).toUInt32.toUInt16.toUInt32.toInt32))] (.int (0 : Int32)) := Arv.set Ar11 q11 S11 N11_ H11 G11 (fits_nar_char _) W11 0 rfl (Nat.le_of_ble_eq_true rfl)
    rw [(own_cc p2 : (((p2 &&& (255 : Int32)).toUInt32.toUInt16.toUInt32.toInt32).toUInt32.toUInt16.toUInt32.toInt32) = (p2 &&& (255 : Int32)))] at V_b10
    have N11 := Fr.snoc X11 N0 g_b10
    refine Go.step st11 ?_
    show Go p e below _ (T11.setTop (mkF m 29 #[iv p0, iv p1, iv p2, iv p3, iv p4, iv (1 : Int32), rv b10, u_, u_, u_] []))
    refine Go.step (S' := T11.setTop (mkF m 65 #[iv p0, iv p1, iv p2, iv p3, iv p4, iv (1 : Int32), rv b10, u_, u_, u_] [(.int (p0 &&& (1 : Int32)))])) (fun t k => ?_) ?_
    · refine XS.iload X11.here hx rfl (hb hby at_29) rfl ?_
      refine XS.iconst X11.here hx rfl (hb hby at_31) ?_
      refine XS.icmpYes X11.here hx rfl (pc0 := 32) (pc' := 45) rfl (hb hby at_32) rfl (flt ((by decide) : ¬ ((1 : Int32) < (1 : Int32)))).2.2.2 (by decide) (by decide) ?_
      show Steps p.tables e below (T11.setTop (mkF m 45 #[iv p0, iv p1, iv p2, iv p3, iv p4, iv (1 : Int32), rv b10, u_, u_, u_] [])) _
      refine XS.iload X11.here hx rfl (hb hby at_45) rfl ?_
      refine XS.iconst X11.here hx rfl (hb hby at_47) ?_
      refine XS.icmpYes X11.here hx rfl (pc0 := 48) (pc' := 62) rfl (hb hby at_48) rfl (flt ((by decide) : ¬ ((2 : Int32) < (1 : Int32)))).2.2.2 (by decide) (by decide) ?_
      show Steps p.tables e below (T11.setTop (mkF m 62 #[iv p0, iv p1, iv p2, iv p3, iv p4, iv (1 : Int32), rv b10, u_, u_, u_] [])) _
      refine XS.iloadN X11.here hx rfl (hb hby at_62) rfl ?_
      refine XS.iconst X11.here hx rfl (hb hby at_63) ?_
      refine XS.iand X11.here hx rfl (hb hby at_64) rfl ?_
      exact k
    by_cases hc65 : (p0 &&& (1 : Int32)) = (0 : Int32)
    · skip
      refine Go.step (S' := T11.setTop (mkF m 84 #[iv p0, iv p1, iv p2, iv p3, iv p4, iv (1 : Int32), rv b10, iv (0 : Int32), u_, u_] [])) (fun t k => ?_) ?_
      · refine XS.ifYes X11.here hx rfl (pc0 := 65) (pc' := 72) rfl (hb hby at_65) rfl ((if0 _ _).trans (teq (hc65 : (p0 &&& (1 : Int32)) = (0 : Int32))).1) (by decide) (by decide) ?_
        refine XS.iconst X11.here hx rfl (hb hby at_72) ?_
        refine XS.istore X11.here hx rfl (hb hby at_73) rfl (l' := #[iv p0, iv p1, iv p2, iv p3, iv p4, iv (1 : Int32), rv b10, iv (0 : Int32), u_, u_]) rfl ?_
        show Steps p.tables e below (T11.setTop (mkF m 75 #[iv p0, iv p1, iv p2, iv p3, iv p4, iv (1 : Int32), rv b10, iv (0 : Int32), u_, u_] [])) _
        refine XS.iload X11.here hx rfl (hb hby at_75) rfl ?_
        refine XS.ifYes X11.here hx rfl (pc0 := 77) (pc' := 84) rfl (hb hby at_77) rfl ((if0 _ _).trans (teq ((by decide) : (0 : Int32) = (0 : Int32))).1) (by decide) (by decide) ?_
        exact k
      obtain ⟨T12, h12, X12, e12, E12, A12, D12, -, st12⟩ := newO X11 hx hZ hown (own_w hw 2 rfl) (own_w hw 3 rfl) (own_w hw 4 rfl) e11 (g := (mkF m 84 #[iv p0, iv p1, iv p2, iv p3, iv p4, iv (1 : Int32), rv b10, iv (0 : Int32), u_, u_] [])) rfl (hb hby at_84) (by decide) (by decide)
      obtain ⟨b12, g12⟩ : ∃ z, z = Array.size h11 := ⟨_, rfl⟩
      have g_b12 : n0 ≤ b12 := Nat.le_trans (old_le O) (Nat.le_of_eq g12.symm)
      have sz_b12 : h0.size ≤ b12 := Nat.le_trans K.1 (Nat.le_of_eq g12.symm)
      have ne_b10_b12 : b10 ≠ b12 := Nat.ne_of_lt (Nat.lt_of_lt_of_le V_b10.lt (Nat.le_of_eq g12.symm))
      rw [← g12] at A12 D12 st12
      have O := O.ext E12
      have hk := Nat.le_trans hk E12.1
      have K := K.ext E12
      have V_b10 := V_b10.ext E12
      have E_b12 := A12
      have F_coder_b12 : Fld Z h12 b12 "java/lang/String" "coder" "B" (.int (0 : Int32)) := D12 (Or.inr (own_w hw 28 rfl)) (ty := .byte) (by decide)
      have F_value_b12 : Fld Z h12 b12 "java/lang/String" "value" "[B" .null := D12 (Or.inr (own_w hw 30 rfl)) (ty := (.array .byte)) (by decide)
      refine Go.step st12 ?_
      show Go p e below _ (T12.setTop (mkF m 87 #[iv p0, iv p1, iv p2, iv p3, iv p4, iv (1 : Int32), rv b10, iv (0 : Int32), u_, u_] [(.ref b12)]))
      refine Go.step (S' := T12.setTop (mkF m 90 #[iv p0, iv p1, iv p2, iv p3, iv p4, iv (1 : Int32), rv b10, iv (0 : Int32), u_, u_] [(.ref b10), (.ref b12), (.ref b12)])) (fun t k => ?_) ?_
      · refine XS.dup X12.here hx rfl (hb hby at_87) rfl rfl ?_
        refine XS.aload X12.here hx rfl (hb hby at_88) rfl rfl ?_
        exact k
      obtain ⟨_, _, ⟨T13, L13, k13, n13⟩, -, X13, ⟨Lc13, hQ13, l13, y13, z13⟩, st13⟩ := X12.specialBack hx (y := y_4) rfl hown (mvT hZ (own_w hw 5 rfl)) (mvT hZ (own_w hw 6 rfl)) (mvT hZ (own_w hw 7 rfl)) (by decide) (backOf (W := 1) (rmNS1 l Z a0 hw [] b12 b10 k10 cs (p2 &&& (255 : Int32)) h12 n0 O S_CS E_b12 F_value_b12 F_coder_b12 V_b10 (by assumption) hcs (own_m255 p2)) hZ (own_w hw 7 rfl) (own_w hw 4 rfl) (by decide) (by decide)) (g := (mkF m 90 #[iv p0, iv p1, iv p2, iv p3, iv p4, iv (1 : Int32), rv b10, iv (0 : Int32), u_, u_] [(.ref b10), (.ref b12), (.ref b12)])) rfl (by rw [hml]; rfl) (Steps.refl _) (a := b12) (argsL := [(.ref b10)]) (rest := [(.ref b12)]) (lenOf pd__28_5bC_29V rfl) rfl (Nat.le_of_eq rfl) (hb hby at_90) (fun _ _ => ⟨rfl, e12, (by decide : 2 + 1 ≤ _), (by decide : 5 + 1 ≤ _)⟩)
      dsimp only [Pt.U, Pt.locs, Pt.cells, Pt.slots] at X13 l13 y13 z13 st13 hQ13
      subst l13 y13 z13
      obtain ⟨tb_13, kb_13, rfl, Nq13, K13, P13_E, P13_Fv, P13_Fc, P13_V⟩ := hQ13
      have N13 := Fr.app N11 Nq13
      have O := O.keep K13 (allS g_b12 all0)
      have hk := Nat.le_trans hk K13.1
      have K := K.trans K13 (allS (Or.inr sz_b12) all0)
      have V_b10 := V_b10.keep K13 (ninS ne_b10_b12 nin0)
      have E_b12 := E_b12.keep K13
      have E_13 := P13_E
      have Fv_13 := P13_Fv
      have Fc_13 := P13_Fc
      have V_13 := P13_V
      refine Go.step (fun t k => st13.trans k) ?_
      show Go p e below _ (T13.setTop (mkF m 93 #[iv p0, iv p1, iv p2, iv p3, iv p4, iv (1 : Int32), rv b10, iv (0 : Int32), u_, u_] [(.ref b12)]))
      refine Go.step (S' := T13.setTop (mkF m 95 #[iv p0, iv p1, iv p2, iv p3, iv p4, iv (1 : Int32), rv b10, iv (0 : Int32), rv b12, u_] [])) (fun t k => ?_) ?_
      · refine XS.astore X13.here hx rfl (hb hby at_93) rfl rfl (l' := #[iv p0, iv p1, iv p2, iv p3, iv p4, iv (1 : Int32), rv b10, iv (0 : Int32), rv b12, u_]) rfl ?_
        exact k
      obtain ⟨T14, h14, X14, e14, E14, A14, D14, -, st14⟩ := newO X13 hx hZ hown (own_w hw 31 rfl) (own_w hw 32 rfl) (own_w hw 33 rfl) (Eq.refl T13.heap) (g := (mkF m 95 #[iv p0, iv p1, iv p2, iv p3, iv p4, iv (1 : Int32), rv b10, iv (0 : Int32), rv b12, u_] [])) rfl (hb hby at_95) (by decide) (by decide)
      obtain ⟨b14, g14⟩ : ∃ z, z = Array.size T13.heap := ⟨_, rfl⟩
      have g_b14 : n0 ≤ b14 := Nat.le_trans (old_le O) (Nat.le_of_eq g14.symm)
      have sz_b14 : h0.size ≤ b14 := Nat.le_trans K.1 (Nat.le_of_eq g14.symm)
      have ne_b10_b14 : b10 ≠ b14 := Nat.ne_of_lt (Nat.lt_of_lt_of_le V_b10.lt (Nat.le_of_eq g14.symm))
      have ne_b12_b14 : b12 ≠ b14 := Nat.ne_of_lt (Nat.lt_of_lt_of_le E_b12.lt (Nat.le_of_eq g14.symm))
      have ne_tb_13_b14 : tb_13 ≠ b14 := Nat.ne_of_lt (Nat.lt_of_lt_of_le V_13.lt (Nat.le_of_eq g14.symm))
      rw [← g14] at A14 D14 st14
      have O := O.ext E14
      have hk := Nat.le_trans hk E14.1
      have K := K.ext E14
      have V_b10 := V_b10.ext E14
      have E_b12 := E_b12.ext E14
      have E_13 := E_13.ext E14
      have Fv_13 := Fv_13.ext E14
      have Fc_13 := Fc_13.ext E14
      have V_13 := V_13.ext E14
      have E_b14 := A14
      have F_field_b14 : Fld Z h14 b14 "com/example/ward5/ward5/rule/FieldKey" "field" "Ljava/lang/String;" .null := D14 (Or.inr (own_w hw 44 rfl)) (ty := (.object "java/lang/String")) (by decide)
      have F_modifiers_b14 : Fld Z h14 b14 "com/example/ward5/ward5/rule/FieldKey" "modifiers" "Ljava/util/Set;" .null := D14 (Or.inr (own_w hw 46 rfl)) (ty := (.object "java/util/Set")) (by decide)
      refine Go.step st14 ?_
      show Go p e below _ (T14.setTop (mkF m 98 #[iv p0, iv p1, iv p2, iv p3, iv p4, iv (1 : Int32), rv b10, iv (0 : Int32), rv b12, u_] [(.ref b14)]))
      refine Go.step (S' := T14.setTop (mkF m 102 #[iv p0, iv p1, iv p2, iv p3, iv p4, iv (1 : Int32), rv b10, iv (0 : Int32), rv b12, u_] [.null, (.ref b12), (.ref b14), (.ref b14)])) (fun t k => ?_) ?_
      · refine XS.dup X14.here hx rfl (hb hby at_98) rfl rfl ?_
        refine XS.aload X14.here hx rfl (hb hby at_99) rfl rfl ?_
        refine XS.aconstNull X14.here hx rfl (hb hby at_101) ?_
        exact k
      obtain ⟨_, _, ⟨T15, L15, k15, n15⟩, -, X15, ⟨Lc15, hQ15, l15, y15, z15⟩, st15⟩ := X14.specialBack hx (y := y_6) rfl hown (mvT hZ (own_w hw 34 rfl)) (mvT hZ (own_w hw 35 rfl)) (mvT hZ (own_w hw 36 rfl)) (by decide) (backOf (W := 1) (rmFK1 l Z a0 hw [] b14 b12 h14 n0 O E_b14 F_field_b14 F_modifiers_b14 (by assumption)) hZ (own_w hw 36 rfl) (own_w hw 33 rfl) (by decide) (by decide)) (g := (mkF m 102 #[iv p0, iv p1, iv p2, iv p3, iv p4, iv (1 : Int32), rv b10, iv (0 : Int32), rv b12, u_] [.null, (.ref b12), (.ref b14), (.ref b14)])) rfl (by rw [hml]; rfl) (Steps.refl _) (a := b14) (argsL := [(.ref b12), .null]) (rest := [(.ref b14)]) (lenOf pd__28Ljava_2flang_2fString_3bLjava_2futil_2fSet_3b_29V rfl) rfl (Nat.le_of_eq rfl) (hb hby at_102) (fun _ _ => ⟨rfl, e14, (by decide : 4 + 0 ≤ _), (by decide : 8 + 0 ≤ _)⟩)
      dsimp only [Pt.U, Pt.locs, Pt.cells, Pt.slots] at X15 l15 y15 z15 st15 hQ15
      subst l15 y15 z15
      obtain ⟨rfl, Nq15, K15, P15_E, P15_F⟩ := hQ15
      have N15 := Fr.app N13 Nq15
      have O := O.keep K15 (allS g_b14 all0)
      have hk := Nat.le_trans hk K15.1
      have K := K.trans K15 (allS (Or.inr sz_b14) all0)
      have V_b10 := V_b10.keep K15 (ninS ne_b10_b14 nin0)
      have E_b12 := E_b12.keep K15
      have E_13 := E_13.keep K15
      have Fv_13 := Fv_13.keep K15 (ninS ne_b12_b14 nin0)
      have Fc_13 := Fc_13.keep K15 (ninS ne_b12_b14 nin0)
      have V_13 := V_13.keep K15 (ninS ne_tb_13_b14 nin0)
      have E_b14 := E_b14.keep K15
      have E_15 := P15_E
      have F_15 := P15_F
      refine Go.step (fun t k => st15.trans k) ?_
      show Go p e below _ (T15.setTop (mkF m 105 #[iv p0, iv p1, iv p2, iv p3, iv p4, iv (1 : Int32), rv b10, iv (0 : Int32), rv b12, u_] [(.ref b14)]))
      refine Go.step (S' := T15.setTop (mkF m 109 #[iv p0, iv p1, iv p2, iv p3, iv p4, iv (1 : Int32), rv b10, iv (0 : Int32), rv b12, rv b14] [(.ref b14)])) (fun t k => ?_) ?_
      · refine XS.astore X15.here hx rfl (hb hby at_105) rfl rfl (l' := #[iv p0, iv p1, iv p2, iv p3, iv p4, iv (1 : Int32), rv b10, iv (0 : Int32), rv b12, rv b14]) rfl ?_
        refine XS.aload X15.here hx rfl (hb hby at_107) rfl rfl ?_
        exact k
      obtain ⟨cq16, kq16, q16a, q16b, q16c⟩ := isOf hZ (Eq.refl T15.heap) E_b14
      obtain ⟨_, _, ⟨T16, L16, k16, n16⟩, -, X16, ⟨Lc16, hQ16, l16, y16, z16⟩, st16⟩ := X15.virtualBack hx (y := y_7) (z := y_7) hown (mvT hZ (own_w hw 47 rfl)) (mvT hZ (own_w hw 48 rfl)) (notFace_of_selects (args := #[]) (mvT hZ (own_w hw 50 rfl))) (mvT hZ (own_w hw 50 rfl)) (mvT hZ (own_w hw 49 rfl)) (by decide) (backOf (W := 0) (rmSK1 l Z a0 hw [] b14 b12 T15.heap n0 O F_15) hZ (own_w hw 51 rfl) (own_w hw 33 rfl) (by decide) (by decide)) q16a q16c (g := (mkF m 109 #[iv p0, iv p1, iv p2, iv p3, iv p4, iv (1 : Int32), rv b10, iv (0 : Int32), rv b12, rv b14] [(.ref b14)])) rfl (by rw [hml]; rfl) (Steps.refl _) (argsL := []) (rest := []) (lenOf pd__28_29Z rfl) rfl (Nat.le_of_eq rfl) (hb hby at_109) (fun _ _ => ⟨rfl, (Eq.refl T15.heap), (by decide : 4 + 0 ≤ _), (by decide : 8 + 0 ≤ _)⟩)
      dsimp only [Pt.U, Pt.locs, Pt.cells, Pt.slots] at X16 l16 y16 z16 st16 hQ16
      subst l16 y16 z16
      obtain ⟨rfl, Nq16, e16⟩ := hQ16
      have N16 := Fr.app N15 Nq16
      refine Go.step (fun t k => st16.trans k) ?_
      show Go p e below _ (T16.setTop (mkF m 112 #[iv p0, iv p1, iv p2, iv p3, iv p4, iv (1 : Int32), rv b10, iv (0 : Int32), rv b12, rv b14] [(.int (0 : Int32))]))
      refine Go.step (S' := T16.setTop (mkF m 122 #[iv p0, iv p1, iv p2, iv p3, iv p4, iv (1 : Int32), rv b10, iv (0 : Int32), rv b12, rv b14] [(.int (1 : Int32))])) (fun t k => ?_) ?_
      · refine XS.iload X16.here hx rfl (hb hby at_112) rfl ?_
        refine XS.icmpNo X16.here hx rfl (hb hby at_114) rfl (teq ((by decide) : (0 : Int32) = (0 : Int32))).2 ?_
        refine XS.iconst X16.here hx rfl (hb hby at_117) ?_
        show Steps p.tables e below (T16.setTop (mkF m 118 #[iv p0, iv p1, iv p2, iv p3, iv p4, iv (1 : Int32), rv b10, iv (0 : Int32), rv b12, rv b14] [(.int (1 : Int32))])) _
        refine XS.goto X16.here hx rfl (pc0 := 118) (pc' := 122) rfl (hb hby at_118) (by decide) (by decide) ?_
        exact k
      obtain ⟨fs, hr, hrun, hended, hR⟩ := X16.leaveW hS (by rw [e16]; exact hk) (v := some (.int (1 : Int32))) (fun h => by rw [Bd.returns] at h; cases h)
      refine Go.fin (S' := T16.setFrames fs) ?_ hrun hended ⟨_, _, rfl, ?_, hR.1, hR.2.1, hR.2.2.1, hR.2.2.2.mono (by decide) (by decide)⟩
      · exact retOut X16 hx Bd.returns (by decide) (Or.inl ⟨rfl, Or.inr (Or.inl rfl), _, rfl⟩) (hb hby at_122) hr
      · show Q_rm0 Z p0 p1 p2 p3 p4 cs h0 n0 (some (.int (1 : Int32))) T16.heap _
        rw [e16]
        exact ⟨rfl, N16, K⟩
    · skip
      refine Go.step (S' := T11.setTop (mkF m 95 #[iv p0, iv p1, iv p2, iv p3, iv p4, iv (1 : Int32), rv b10, iv (1 : Int32), .val .null, u_] [])) (fun t k => ?_) ?_
      · refine XS.ifNo X11.here hx rfl (hb hby at_65) rfl ((if0 _ _).trans (feq (hc65 : ¬ ((p0 &&& (1 : Int32)) = (0 : Int32)))).1) ?_
        refine XS.iconst X11.here hx rfl (hb hby at_68) ?_
        refine XS.goto X11.here hx rfl (pc0 := 69) (pc' := 73) rfl (hb hby at_69) (by decide) (by decide) ?_
        show Steps p.tables e below (T11.setTop (mkF m 73 #[iv p0, iv p1, iv p2, iv p3, iv p4, iv (1 : Int32), rv b10, u_, u_, u_] [(.int (1 : Int32))])) _
        refine XS.istore X11.here hx rfl (hb hby at_73) rfl (l' := #[iv p0, iv p1, iv p2, iv p3, iv p4, iv (1 : Int32), rv b10, iv (1 : Int32), u_, u_]) rfl ?_
        refine XS.iload X11.here hx rfl (hb hby at_75) rfl ?_
        refine XS.ifNo X11.here hx rfl (hb hby at_77) rfl ((if0 _ _).trans (feq ((by decide) : ¬ ((1 : Int32) = (0 : Int32)))).1) ?_
        show Steps p.tables e below (T11.setTop (mkF m 80 #[iv p0, iv p1, iv p2, iv p3, iv p4, iv (1 : Int32), rv b10, iv (1 : Int32), u_, u_] [])) _
        refine XS.aconstNull X11.here hx rfl (hb hby at_80) ?_
        refine XS.goto X11.here hx rfl (pc0 := 81) (pc' := 93) rfl (hb hby at_81) (by decide) (by decide) ?_
        refine XS.astore X11.here hx rfl (hb hby at_93) rfl rfl (l' := #[iv p0, iv p1, iv p2, iv p3, iv p4, iv (1 : Int32), rv b10, iv (1 : Int32), .val .null, u_]) rfl ?_
        exact k
      obtain ⟨T17, h17, X17, e17, E17, A17, D17, -, st17⟩ := newO X11 hx hZ hown (own_w hw 31 rfl) (own_w hw 32 rfl) (own_w hw 33 rfl) e11 (g := (mkF m 95 #[iv p0, iv p1, iv p2, iv p3, iv p4, iv (1 : Int32), rv b10, iv (1 : Int32), .val .null, u_] [])) rfl (hb hby at_95) (by decide) (by decide)
      obtain ⟨b17, g17⟩ : ∃ z, z = Array.size h11 := ⟨_, rfl⟩
      have g_b17 : n0 ≤ b17 := Nat.le_trans (old_le O) (Nat.le_of_eq g17.symm)
      have sz_b17 : h0.size ≤ b17 := Nat.le_trans K.1 (Nat.le_of_eq g17.symm)
      have ne_b10_b17 : b10 ≠ b17 := Nat.ne_of_lt (Nat.lt_of_lt_of_le V_b10.lt (Nat.le_of_eq g17.symm))
      rw [← g17] at A17 D17 st17
      have O := O.ext E17
      have hk := Nat.le_trans hk E17.1
      have K := K.ext E17
      have V_b10 := V_b10.ext E17
      have E_b17 := A17
      have F_field_b17 : Fld Z h17 b17 "com/example/ward5/ward5/rule/FieldKey" "field" "Ljava/lang/String;" .null := D17 (Or.inr (own_w hw 44 rfl)) (ty := (.object "java/lang/String")) (by decide)
      have F_modifiers_b17 : Fld Z h17 b17 "com/example/ward5/ward5/rule/FieldKey" "modifiers" "Ljava/util/Set;" .null := D17 (Or.inr (own_w hw 46 rfl)) (ty := (.object "java/util/Set")) (by decide)
      refine Go.step st17 ?_
      show Go p e below _ (T17.setTop (mkF m 98 #[iv p0, iv p1, iv p2, iv p3, iv p4, iv (1 : Int32), rv b10, iv (1 : Int32), .val .null, u_] [(.ref b17)]))
      refine Go.step (S' := T17.setTop (mkF m 102 #[iv p0, iv p1, iv p2, iv p3, iv p4, iv (1 : Int32), rv b10, iv (1 : Int32), .val .null, u_] [.null, .null, (.ref b17), (.ref b17)])) (fun t k => ?_) ?_
      · refine XS.dup X17.here hx rfl (hb hby at_98) rfl rfl ?_
        refine XS.aload X17.here hx rfl (hb hby at_99) rfl rfl ?_
        refine XS.aconstNull X17.here hx rfl (hb hby at_101) ?_
        exact k
      obtain ⟨_, _, ⟨T18, L18, k18, n18⟩, -, X18, ⟨Lc18, hQ18, l18, y18, z18⟩, st18⟩ := X17.specialBack hx (y := y_6) rfl hown (mvT hZ (own_w hw 34 rfl)) (mvT hZ (own_w hw 35 rfl)) (mvT hZ (own_w hw 36 rfl)) (by decide) (backOf (W := 1) (rmFK0 l Z a0 hw [] b17 h17 n0 O E_b17 F_field_b17 F_modifiers_b17 (by assumption)) hZ (own_w hw 36 rfl) (own_w hw 33 rfl) (by decide) (by decide)) (g := (mkF m 102 #[iv p0, iv p1, iv p2, iv p3, iv p4, iv (1 : Int32), rv b10, iv (1 : Int32), .val .null, u_] [.null, .null, (.ref b17), (.ref b17)])) rfl (by rw [hml]; rfl) (Steps.refl _) (a := b17) (argsL := [.null, .null]) (rest := [(.ref b17)]) (lenOf pd__28Ljava_2flang_2fString_3bLjava_2futil_2fSet_3b_29V rfl) rfl (Nat.le_of_eq rfl) (hb hby at_102) (fun _ _ => ⟨rfl, e17, (by decide : 2 + 0 ≤ _), (by decide : 3 + 0 ≤ _)⟩)
      dsimp only [Pt.U, Pt.locs, Pt.cells, Pt.slots] at X18 l18 y18 z18 st18 hQ18
      subst l18 y18 z18
      obtain ⟨rfl, Nq18, K18, P18_E, P18_F⟩ := hQ18
      have N18 := Fr.app N11 Nq18
      have O := O.keep K18 (allS g_b17 all0)
      have hk := Nat.le_trans hk K18.1
      have K := K.trans K18 (allS (Or.inr sz_b17) all0)
      have V_b10 := V_b10.keep K18 (ninS ne_b10_b17 nin0)
      have E_b17 := E_b17.keep K18
      have E_18 := P18_E
      have F_18 := P18_F
      refine Go.step (fun t k => st18.trans k) ?_
      show Go p e below _ (T18.setTop (mkF m 105 #[iv p0, iv p1, iv p2, iv p3, iv p4, iv (1 : Int32), rv b10, iv (1 : Int32), .val .null, u_] [(.ref b17)]))
      refine Go.step (S' := T18.setTop (mkF m 109 #[iv p0, iv p1, iv p2, iv p3, iv p4, iv (1 : Int32), rv b10, iv (1 : Int32), .val .null, rv b17] [(.ref b17)])) (fun t k => ?_) ?_
      · refine XS.astore X18.here hx rfl (hb hby at_105) rfl rfl (l' := #[iv p0, iv p1, iv p2, iv p3, iv p4, iv (1 : Int32), rv b10, iv (1 : Int32), .val .null, rv b17]) rfl ?_
        refine XS.aload X18.here hx rfl (hb hby at_107) rfl rfl ?_
        exact k
      obtain ⟨cq19, kq19, q19a, q19b, q19c⟩ := isOf hZ (Eq.refl T18.heap) E_b17
      obtain ⟨_, _, ⟨T19, L19, k19, n19⟩, -, X19, ⟨Lc19, hQ19, l19, y19, z19⟩, st19⟩ := X18.virtualBack hx (y := y_7) (z := y_7) hown (mvT hZ (own_w hw 47 rfl)) (mvT hZ (own_w hw 48 rfl)) (notFace_of_selects (args := #[]) (mvT hZ (own_w hw 50 rfl))) (mvT hZ (own_w hw 50 rfl)) (mvT hZ (own_w hw 49 rfl)) (by decide) (backOf (W := 0) (rmSK0 l Z a0 hw [] b17 T18.heap n0 O F_18) hZ (own_w hw 51 rfl) (own_w hw 33 rfl) (by decide) (by decide)) q19a q19c (g := (mkF m 109 #[iv p0, iv p1, iv p2, iv p3, iv p4, iv (1 : Int32), rv b10, iv (1 : Int32), .val .null, rv b17] [(.ref b17)])) rfl (by rw [hml]; rfl) (Steps.refl _) (argsL := []) (rest := []) (lenOf pd__28_29Z rfl) rfl (Nat.le_of_eq rfl) (hb hby at_109) (fun _ _ => ⟨rfl, (Eq.refl T18.heap), (by decide : 2 + 0 ≤ _), (by decide : 3 + 0 ≤ _)⟩)
      dsimp only [Pt.U, Pt.locs, Pt.cells, Pt.slots] at X19 l19 y19 z19 st19 hQ19
      subst l19 y19 z19
      obtain ⟨rfl, Nq19, e19⟩ := hQ19
      have N19 := Fr.app N18 Nq19
      refine Go.step (fun t k => st19.trans k) ?_
      show Go p e below _ (T19.setTop (mkF m 112 #[iv p0, iv p1, iv p2, iv p3, iv p4, iv (1 : Int32), rv b10, iv (1 : Int32), .val .null, rv b17] [(.int (1 : Int32))]))
      refine Go.step (S' := T19.setTop (mkF m 122 #[iv p0, iv p1, iv p2, iv p3, iv p4, iv (1 : Int32), rv b10, iv (1 : Int32), .val .null, rv b17] [(.int (1 : Int32))])) (fun t k => ?_) ?_
      · refine XS.iload X19.here hx rfl (hb hby at_112) rfl ?_
        refine XS.icmpNo X19.here hx rfl (hb hby at_114) rfl (teq ((by decide) : (1 : Int32) = (1 : Int32))).2 ?_
        refine XS.iconst X19.here hx rfl (hb hby at_117) ?_
        show Steps p.tables e below (T19.setTop (mkF m 118 #[iv p0, iv p1, iv p2, iv p3, iv p4, iv (1 : Int32), rv b10, iv (1 : Int32), .val .null, rv b17] [(.int (1 : Int32))])) _
        refine XS.goto X19.here hx rfl (pc0 := 118) (pc' := 122) rfl (hb hby at_118) (by decide) (by decide) ?_
        exact k
      obtain ⟨fs, hr, hrun, hended, hR⟩ := X19.leaveW hS (by rw [e19]; exact hk) (v := some (.int (1 : Int32))) (fun h => by rw [Bd.returns] at h; cases h)
      refine Go.fin (S' := T19.setFrames fs) ?_ hrun hended ⟨_, _, rfl, ?_, hR.1, hR.2.1, hR.2.2.1, hR.2.2.2.mono (by decide) (by decide)⟩
      · exact retOut X19 hx Bd.returns (by decide) (Or.inl ⟨rfl, Or.inr (Or.inl rfl), _, rfl⟩) (hb hby at_122) hr
      · show Q_rm0 Z p0 p1 p2 p3 p4 cs h0 n0 (some (.int (1 : Int32))) T19.heap _
        rw [e19]
        exact ⟨rfl, N19, K⟩
  · skip
    rw [(hn4 : ((p1 &&& (2147483647 : Int32)) % (4 : Int32)) = (2 : Int32))]
    show Go p e below _ (s₁.setTop (mkF m 8 #[iv p0, iv p1, iv p2, iv p3, iv p4, iv (2 : Int32), u_, u_, u_, u_] []))
    refine Go.step (S' := s₁.setTop (mkF m 10 #[iv p0, iv p1, iv p2, iv p3, iv p4, iv (2 : Int32), u_, u_, u_, u_] [(.int (2 : Int32))])) (fun t k => ?_) ?_
    · refine XS.iload X0.here hx rfl (hb hby at_8) rfl ?_
      exact k
    obtain ⟨T20, h20, k20, X20, e20, E20, A20, st20⟩ := newP X0 hx hZ (own_w hw 1 rfl) e0 (g := (mkF m 10 #[iv p0, iv p1, iv p2, iv p3, iv p4, iv (2 : Int32), u_, u_, u_, u_] [(.int (2 : Int32))])) rfl (hb hby at_10) rfl (by decide) (cap := 2) (by decide) (by decide) (by decide) (by decide)
    obtain ⟨b20, g20⟩ : ∃ z, z = Array.size h0 := ⟨_, rfl⟩
    have g_b20 : n0 ≤ b20 := Nat.le_trans (old_le O) (Nat.le_of_eq g20.symm)
    have sz_b20 : h0.size ≤ b20 := Nat.le_trans K.1 (Nat.le_of_eq g20.symm)
    rw [← g20] at A20 st20
    have O := O.ext E20
    have CH := CHv.ext E20 CH
    have hk := Nat.le_trans hk E20.1
    have K := K.ext E20
    have V_b20 : Arv Z h20 b20 k20 .char (2 : Int32) [(.int (0 : Int32)), (.int (0 : Int32))] (.int (0 : Int32)) := (Arv.new A20 (by decide)).pad (pad_rep [] (.int (0 : Int32)) 2)
    refine Go.step st20 ?_
    show Go p e below _ (T20.setTop (mkF m 12 #[iv p0, iv p1, iv p2, iv p3, iv p4, iv (2 : Int32), u_, u_, u_, u_] [(.ref b20)]))
    refine Go.step (S' := T20.setTop (mkF m 28 #[iv p0, iv p1, iv p2, iv p3, iv p4, iv (2 : Int32), rv b20, u_, u_, u_] [(.int ((p2 &&& (255 : Int32)).toUInt32.toUInt16.toUInt32.toInt32)), (.int (0 : Int32)), (.ref b20)])) (fun t k => ?_) ?_
    · refine XS.astore X20.here hx rfl (hb hby at_12) rfl rfl (l' := #[iv p0, iv p1, iv p2, iv p3, iv p4, iv (2 : Int32), rv b20, u_, u_, u_]) rfl ?_
      refine XS.iload X20.here hx rfl (hb hby at_14) rfl ?_
      refine XS.ifNo X20.here hx rfl (hb hby at_16) rfl ((if0 _ _).trans (tlt ((by decide) : (0 : Int32) < (2 : Int32))).2.2.2) ?_
      show Steps p.tables e below (T20.setTop (mkF m 19 #[iv p0, iv p1, iv p2, iv p3, iv p4, iv (2 : Int32), rv b20, u_, u_, u_] [])) _
      refine XS.aload X20.here hx rfl (hb hby at_19) rfl rfl ?_
      refine XS.iconst X20.here hx rfl (hb hby at_21) ?_
      refine XS.iloadN X20.here hx rfl (hb hby at_22) rfl ?_
      show Steps p.tables e below (T20.setTop (mkF m 23 #[iv p0, iv p1, iv p2, iv p3, iv p4, iv (2 : Int32), rv b20, u_, u_, u_] [(.int p2), (.int (0 : Int32)), (.ref b20)])) _
      refine XS.sipush X20.here hx rfl (hb hby at_23) ?_
      refine XS.iand X20.here hx rfl (hb hby at_26) rfl ?_
      refine XS.i2c X20.here hx rfl (hb hby at_27) rfl ?_
      exact k
    obtain ⟨cl21, Ar21, q21, S21, N21_, H21, G21⟩ := V_b20
    have hin21 : ¬ ((0 : Int32) < 0 ∨ cl21.slots.size ≤ ((0 : Int32)).toNatClampNeg) := inb_of S21 ⟨by decide, by decide⟩
    obtain ⟨T21, h21, X21, e21, W21, st21⟩ := stC X20 hx hZ e20 Ar21 (j := (0 : Int32)) hin21 (g := (mkF m 28 #[iv p0, iv p1, iv p2, iv p3, iv p4, iv (2 : Int32), rv b20, u_, u_, u_] [(.int ((p2 &&& (255 : Int32)).toUInt32.toUInt16.toUInt32.toInt32)), (.int (0 : Int32)), (.ref b20)])) rfl rfl (hb hby at_28)
    have O := O.wr W21 g_b20
    have hk := Nat.le_trans hk (Keep.of_wr W21).1
    have K := K.wr W21 (Or.inr sz_b20)
    have V_b20 : Arv Z h21 b20 k20 .char (2 : Int32) [(.int (((p2 &&& (255 : Int32)).toUInt32.toUInt16.toUInt32.toInt32).toUInt32.toUInt16.toUInt32.toInt32)), (.int (0 : Int32))] (.int (0 : Int32)) := Arv.set Ar21 q21 S21 N21_ H21 G21 (fits_nar_char _) W21 0 rfl (Nat.le_of_ble_eq_true rfl)
    rw [(own_cc p2 : (((p2 &&& (255 : Int32)).toUInt32.toUInt16.toUInt32.toInt32).toUInt32.toUInt16.toUInt32.toInt32) = (p2 &&& (255 : Int32)))] at V_b20
    have N21 := Fr.snoc X21 N0 g_b20
    refine Go.step st21 ?_
    show Go p e below _ (T21.setTop (mkF m 29 #[iv p0, iv p1, iv p2, iv p3, iv p4, iv (2 : Int32), rv b20, u_, u_, u_] []))
    refine Go.step (S' := T21.setTop (mkF m 44 #[iv p0, iv p1, iv p2, iv p3, iv p4, iv (2 : Int32), rv b20, u_, u_, u_] [(.int ((p3 &&& (255 : Int32)).toUInt32.toUInt16.toUInt32.toInt32)), (.int (1 : Int32)), (.ref b20)])) (fun t k => ?_) ?_
    · refine XS.iload X21.here hx rfl (hb hby at_29) rfl ?_
      refine XS.iconst X21.here hx rfl (hb hby at_31) ?_
      refine XS.icmpNo X21.here hx rfl (hb hby at_32) rfl (tlt ((by decide) : (1 : Int32) < (2 : Int32))).2.2.2 ?_
      show Steps p.tables e below (T21.setTop (mkF m 35 #[iv p0, iv p1, iv p2, iv p3, iv p4, iv (2 : Int32), rv b20, u_, u_, u_] [])) _
      refine XS.aload X21.here hx rfl (hb hby at_35) rfl rfl ?_
      refine XS.iconst X21.here hx rfl (hb hby at_37) ?_
      refine XS.iloadN X21.here hx rfl (hb hby at_38) rfl ?_
      show Steps p.tables e below (T21.setTop (mkF m 39 #[iv p0, iv p1, iv p2, iv p3, iv p4, iv (2 : Int32), rv b20, u_, u_, u_] [(.int p3), (.int (1 : Int32)), (.ref b20)])) _
      refine XS.sipush X21.here hx rfl (hb hby at_39) ?_
      refine XS.iand X21.here hx rfl (hb hby at_42) rfl ?_
      refine XS.i2c X21.here hx rfl (hb hby at_43) rfl ?_
      exact k
    obtain ⟨cl22, Ar22, q22, S22, N22_, H22, G22⟩ := V_b20
    have hin22 : ¬ ((1 : Int32) < 0 ∨ cl22.slots.size ≤ ((1 : Int32)).toNatClampNeg) := inb_of S22 ⟨by decide, by decide⟩
    obtain ⟨T22, h22, X22, e22, W22, st22⟩ := stC X21 hx hZ e21 Ar22 (j := (1 : Int32)) hin22 (g := (mkF m 44 #[iv p0, iv p1, iv p2, iv p3, iv p4, iv (2 : Int32), rv b20, u_, u_, u_] [(.int ((p3 &&& (255 : Int32)).toUInt32.toUInt16.toUInt32.toInt32)), (.int (1 : Int32)), (.ref b20)])) rfl rfl (hb hby at_44)
    have O := O.wr W22 g_b20
    have hk := Nat.le_trans hk (Keep.of_wr W22).1
    have K := K.wr W22 (Or.inr sz_b20)
    have V_b20 : Arv Z h22 b20 k20 .char (2 : Int32) [(.int (p2 &&& (255 : Int32))), (.int (((p3 &&& (255 : Int32)).toUInt32.toUInt16.toUInt32.toInt32).toUInt32.toUInt16.toUInt32.toInt32))] (.int (0 : Int32)) := Arv.set Ar22 q22 S22 N22_ H22 G22 (fits_nar_char _) W22 1 rfl (Nat.le_of_ble_eq_true rfl)
    rw [(own_cc p3 : (((p3 &&& (255 : Int32)).toUInt32.toUInt16.toUInt32.toInt32).toUInt32.toUInt16.toUInt32.toInt32) = (p3 &&& (255 : Int32)))] at V_b20
    have N22 := Fr.snoc X22 N21 g_b20
    refine Go.step st22 ?_
    show Go p e below _ (T22.setTop (mkF m 45 #[iv p0, iv p1, iv p2, iv p3, iv p4, iv (2 : Int32), rv b20, u_, u_, u_] []))
    refine Go.step (S' := T22.setTop (mkF m 65 #[iv p0, iv p1, iv p2, iv p3, iv p4, iv (2 : Int32), rv b20, u_, u_, u_] [(.int (p0 &&& (1 : Int32)))])) (fun t k => ?_) ?_
    · refine XS.iload X22.here hx rfl (hb hby at_45) rfl ?_
      refine XS.iconst X22.here hx rfl (hb hby at_47) ?_
      refine XS.icmpYes X22.here hx rfl (pc0 := 48) (pc' := 62) rfl (hb hby at_48) rfl (flt ((by decide) : ¬ ((2 : Int32) < (2 : Int32)))).2.2.2 (by decide) (by decide) ?_
      show Steps p.tables e below (T22.setTop (mkF m 62 #[iv p0, iv p1, iv p2, iv p3, iv p4, iv (2 : Int32), rv b20, u_, u_, u_] [])) _
      refine XS.iloadN X22.here hx rfl (hb hby at_62) rfl ?_
      refine XS.iconst X22.here hx rfl (hb hby at_63) ?_
      refine XS.iand X22.here hx rfl (hb hby at_64) rfl ?_
      exact k
    by_cases hc65 : (p0 &&& (1 : Int32)) = (0 : Int32)
    · skip
      refine Go.step (S' := T22.setTop (mkF m 84 #[iv p0, iv p1, iv p2, iv p3, iv p4, iv (2 : Int32), rv b20, iv (0 : Int32), u_, u_] [])) (fun t k => ?_) ?_
      · refine XS.ifYes X22.here hx rfl (pc0 := 65) (pc' := 72) rfl (hb hby at_65) rfl ((if0 _ _).trans (teq (hc65 : (p0 &&& (1 : Int32)) = (0 : Int32))).1) (by decide) (by decide) ?_
        refine XS.iconst X22.here hx rfl (hb hby at_72) ?_
        refine XS.istore X22.here hx rfl (hb hby at_73) rfl (l' := #[iv p0, iv p1, iv p2, iv p3, iv p4, iv (2 : Int32), rv b20, iv (0 : Int32), u_, u_]) rfl ?_
        show Steps p.tables e below (T22.setTop (mkF m 75 #[iv p0, iv p1, iv p2, iv p3, iv p4, iv (2 : Int32), rv b20, iv (0 : Int32), u_, u_] [])) _
        refine XS.iload X22.here hx rfl (hb hby at_75) rfl ?_
        refine XS.ifYes X22.here hx rfl (pc0 := 77) (pc' := 84) rfl (hb hby at_77) rfl ((if0 _ _).trans (teq ((by decide) : (0 : Int32) = (0 : Int32))).1) (by decide) (by decide) ?_
        exact k
      obtain ⟨T23, h23, X23, e23, E23, A23, D23, -, st23⟩ := newO X22 hx hZ hown (own_w hw 2 rfl) (own_w hw 3 rfl) (own_w hw 4 rfl) e22 (g := (mkF m 84 #[iv p0, iv p1, iv p2, iv p3, iv p4, iv (2 : Int32), rv b20, iv (0 : Int32), u_, u_] [])) rfl (hb hby at_84) (by decide) (by decide)
      obtain ⟨b23, g23⟩ : ∃ z, z = Array.size h22 := ⟨_, rfl⟩
      have g_b23 : n0 ≤ b23 := Nat.le_trans (old_le O) (Nat.le_of_eq g23.symm)
      have sz_b23 : h0.size ≤ b23 := Nat.le_trans K.1 (Nat.le_of_eq g23.symm)
      have ne_b20_b23 : b20 ≠ b23 := Nat.ne_of_lt (Nat.lt_of_lt_of_le V_b20.lt (Nat.le_of_eq g23.symm))
      rw [← g23] at A23 D23 st23
      have O := O.ext E23
      have hk := Nat.le_trans hk E23.1
      have K := K.ext E23
      have V_b20 := V_b20.ext E23
      have E_b23 := A23
      have F_coder_b23 : Fld Z h23 b23 "java/lang/String" "coder" "B" (.int (0 : Int32)) := D23 (Or.inr (own_w hw 28 rfl)) (ty := .byte) (by decide)
      have F_value_b23 : Fld Z h23 b23 "java/lang/String" "value" "[B" .null := D23 (Or.inr (own_w hw 30 rfl)) (ty := (.array .byte)) (by decide)
      refine Go.step st23 ?_
      show Go p e below _ (T23.setTop (mkF m 87 #[iv p0, iv p1, iv p2, iv p3, iv p4, iv (2 : Int32), rv b20, iv (0 : Int32), u_, u_] [(.ref b23)]))
      refine Go.step (S' := T23.setTop (mkF m 90 #[iv p0, iv p1, iv p2, iv p3, iv p4, iv (2 : Int32), rv b20, iv (0 : Int32), u_, u_] [(.ref b20), (.ref b23), (.ref b23)])) (fun t k => ?_) ?_
      · refine XS.dup X23.here hx rfl (hb hby at_87) rfl rfl ?_
        refine XS.aload X23.here hx rfl (hb hby at_88) rfl rfl ?_
        exact k
      obtain ⟨_, _, ⟨T24, L24, k24, n24⟩, -, X24, ⟨Lc24, hQ24, l24, y24, z24⟩, st24⟩ := X23.specialBack hx (y := y_4) rfl hown (mvT hZ (own_w hw 5 rfl)) (mvT hZ (own_w hw 6 rfl)) (mvT hZ (own_w hw 7 rfl)) (by decide) (backOf (W := 1) (rmNS2 l Z a0 hw [] b23 b20 k20 cs (p2 &&& (255 : Int32)) (p3 &&& (255 : Int32)) h23 n0 O S_CS E_b23 F_value_b23 F_coder_b23 V_b20 (by assumption) hcs (own_m255 p2) (own_m255 p3)) hZ (own_w hw 7 rfl) (own_w hw 4 rfl) (by decide) (by decide)) (g := (mkF m 90 #[iv p0, iv p1, iv p2, iv p3, iv p4, iv (2 : Int32), rv b20, iv (0 : Int32), u_, u_] [(.ref b20), (.ref b23), (.ref b23)])) rfl (by rw [hml]; rfl) (Steps.refl _) (a := b23) (argsL := [(.ref b20)]) (rest := [(.ref b23)]) (lenOf pd__28_5bC_29V rfl) rfl (Nat.le_of_eq rfl) (hb hby at_90) (fun _ _ => ⟨rfl, e23, (by decide : 2 + 1 ≤ _), (by decide : 6 + 2 ≤ _)⟩)
      dsimp only [Pt.U, Pt.locs, Pt.cells, Pt.slots] at X24 l24 y24 z24 st24 hQ24
      subst l24 y24 z24
      obtain ⟨tb_24, kb_24, rfl, Nq24, K24, P24_E, P24_Fv, P24_Fc, P24_V⟩ := hQ24
      have N24 := Fr.app N22 Nq24
      have O := O.keep K24 (allS g_b23 all0)
      have hk := Nat.le_trans hk K24.1
      have K := K.trans K24 (allS (Or.inr sz_b23) all0)
      have V_b20 := V_b20.keep K24 (ninS ne_b20_b23 nin0)
      have E_b23 := E_b23.keep K24
      have E_24 := P24_E
      have Fv_24 := P24_Fv
      have Fc_24 := P24_Fc
      have V_24 := P24_V
      refine Go.step (fun t k => st24.trans k) ?_
      show Go p e below _ (T24.setTop (mkF m 93 #[iv p0, iv p1, iv p2, iv p3, iv p4, iv (2 : Int32), rv b20, iv (0 : Int32), u_, u_] [(.ref b23)]))
      refine Go.step (S' := T24.setTop (mkF m 95 #[iv p0, iv p1, iv p2, iv p3, iv p4, iv (2 : Int32), rv b20, iv (0 : Int32), rv b23, u_] [])) (fun t k => ?_) ?_
      · refine XS.astore X24.here hx rfl (hb hby at_93) rfl rfl (l' := #[iv p0, iv p1, iv p2, iv p3, iv p4, iv (2 : Int32), rv b20, iv (0 : Int32), rv b23, u_]) rfl ?_
        exact k
      obtain ⟨T25, h25, X25, e25, E25, A25, D25, -, st25⟩ := newO X24 hx hZ hown (own_w hw 31 rfl) (own_w hw 32 rfl) (own_w hw 33 rfl) (Eq.refl T24.heap) (g := (mkF m 95 #[iv p0, iv p1, iv p2, iv p3, iv p4, iv (2 : Int32), rv b20, iv (0 : Int32), rv b23, u_] [])) rfl (hb hby at_95) (by decide) (by decide)
      obtain ⟨b25, g25⟩ : ∃ z, z = Array.size T24.heap := ⟨_, rfl⟩
      have g_b25 : n0 ≤ b25 := Nat.le_trans (old_le O) (Nat.le_of_eq g25.symm)
      have sz_b25 : h0.size ≤ b25 := Nat.le_trans K.1 (Nat.le_of_eq g25.symm)
      have ne_b20_b25 : b20 ≠ b25 := Nat.ne_of_lt (Nat.lt_of_lt_of_le V_b20.lt (Nat.le_of_eq g25.symm))
      have ne_b23_b25 : b23 ≠ b25 := Nat.ne_of_lt (Nat.lt_of_lt_of_le E_b23.lt (Nat.le_of_eq g25.symm))
      have ne_tb_24_b25 : tb_24 ≠ b25 := Nat.ne_of_lt (Nat.lt_of_lt_of_le V_24.lt (Nat.le_of_eq g25.symm))
      rw [← g25] at A25 D25 st25
      have O := O.ext E25
      have hk := Nat.le_trans hk E25.1
      have K := K.ext E25
      have V_b20 := V_b20.ext E25
      have E_b23 := E_b23.ext E25
      have E_24 := E_24.ext E25
      have Fv_24 := Fv_24.ext E25
      have Fc_24 := Fc_24.ext E25
      have V_24 := V_24.ext E25
      have E_b25 := A25
      have F_field_b25 : Fld Z h25 b25 "com/example/ward5/ward5/rule/FieldKey" "field" "Ljava/lang/String;" .null := D25 (Or.inr (own_w hw 44 rfl)) (ty := (.object "java/lang/String")) (by decide)
      have F_modifiers_b25 : Fld Z h25 b25 "com/example/ward5/ward5/rule/FieldKey" "modifiers" "Ljava/util/Set;" .null := D25 (Or.inr (own_w hw 46 rfl)) (ty := (.object "java/util/Set")) (by decide)
      refine Go.step st25 ?_
      show Go p e below _ (T25.setTop (mkF m 98 #[iv p0, iv p1, iv p2, iv p3, iv p4, iv (2 : Int32), rv b20, iv (0 : Int32), rv b23, u_] [(.ref b25)]))
      refine Go.step (S' := T25.setTop (mkF m 102 #[iv p0, iv p1, iv p2, iv p3, iv p4, iv (2 : Int32), rv b20, iv (0 : Int32), rv b23, u_] [.null, (.ref b23), (.ref b25), (.ref b25)])) (fun t k => ?_) ?_
      · refine XS.dup X25.here hx rfl (hb hby at_98) rfl rfl ?_
        refine XS.aload X25.here hx rfl (hb hby at_99) rfl rfl ?_
        refine XS.aconstNull X25.here hx rfl (hb hby at_101) ?_
        exact k
      obtain ⟨_, _, ⟨T26, L26, k26, n26⟩, -, X26, ⟨Lc26, hQ26, l26, y26, z26⟩, st26⟩ := X25.specialBack hx (y := y_6) rfl hown (mvT hZ (own_w hw 34 rfl)) (mvT hZ (own_w hw 35 rfl)) (mvT hZ (own_w hw 36 rfl)) (by decide) (backOf (W := 1) (rmFK1 l Z a0 hw [] b25 b23 h25 n0 O E_b25 F_field_b25 F_modifiers_b25 (by assumption)) hZ (own_w hw 36 rfl) (own_w hw 33 rfl) (by decide) (by decide)) (g := (mkF m 102 #[iv p0, iv p1, iv p2, iv p3, iv p4, iv (2 : Int32), rv b20, iv (0 : Int32), rv b23, u_] [.null, (.ref b23), (.ref b25), (.ref b25)])) rfl (by rw [hml]; rfl) (Steps.refl _) (a := b25) (argsL := [(.ref b23), .null]) (rest := [(.ref b25)]) (lenOf pd__28Ljava_2flang_2fString_3bLjava_2futil_2fSet_3b_29V rfl) rfl (Nat.le_of_eq rfl) (hb hby at_102) (fun _ _ => ⟨rfl, e25, (by decide : 4 + 0 ≤ _), (by decide : 10 + 0 ≤ _)⟩)
      dsimp only [Pt.U, Pt.locs, Pt.cells, Pt.slots] at X26 l26 y26 z26 st26 hQ26
      subst l26 y26 z26
      obtain ⟨rfl, Nq26, K26, P26_E, P26_F⟩ := hQ26
      have N26 := Fr.app N24 Nq26
      have O := O.keep K26 (allS g_b25 all0)
      have hk := Nat.le_trans hk K26.1
      have K := K.trans K26 (allS (Or.inr sz_b25) all0)
      have V_b20 := V_b20.keep K26 (ninS ne_b20_b25 nin0)
      have E_b23 := E_b23.keep K26
      have E_24 := E_24.keep K26
      have Fv_24 := Fv_24.keep K26 (ninS ne_b23_b25 nin0)
      have Fc_24 := Fc_24.keep K26 (ninS ne_b23_b25 nin0)
      have V_24 := V_24.keep K26 (ninS ne_tb_24_b25 nin0)
      have E_b25 := E_b25.keep K26
      have E_26 := P26_E
      have F_26 := P26_F
      refine Go.step (fun t k => st26.trans k) ?_
      show Go p e below _ (T26.setTop (mkF m 105 #[iv p0, iv p1, iv p2, iv p3, iv p4, iv (2 : Int32), rv b20, iv (0 : Int32), rv b23, u_] [(.ref b25)]))
      refine Go.step (S' := T26.setTop (mkF m 109 #[iv p0, iv p1, iv p2, iv p3, iv p4, iv (2 : Int32), rv b20, iv (0 : Int32), rv b23, rv b25] [(.ref b25)])) (fun t k => ?_) ?_
      · refine XS.astore X26.here hx rfl (hb hby at_105) rfl rfl (l' := #[iv p0, iv p1, iv p2, iv p3, iv p4, iv (2 : Int32), rv b20, iv (0 : Int32), rv b23, rv b25]) rfl ?_
        refine XS.aload X26.here hx rfl (hb hby at_107) rfl rfl ?_
        exact k
      obtain ⟨cq27, kq27, q27a, q27b, q27c⟩ := isOf hZ (Eq.refl T26.heap) E_b25
      obtain ⟨_, _, ⟨T27, L27, k27, n27⟩, -, X27, ⟨Lc27, hQ27, l27, y27, z27⟩, st27⟩ := X26.virtualBack hx (y := y_7) (z := y_7) hown (mvT hZ (own_w hw 47 rfl)) (mvT hZ (own_w hw 48 rfl)) (notFace_of_selects (args := #[]) (mvT hZ (own_w hw 50 rfl))) (mvT hZ (own_w hw 50 rfl)) (mvT hZ (own_w hw 49 rfl)) (by decide) (backOf (W := 0) (rmSK1 l Z a0 hw [] b25 b23 T26.heap n0 O F_26) hZ (own_w hw 51 rfl) (own_w hw 33 rfl) (by decide) (by decide)) q27a q27c (g := (mkF m 109 #[iv p0, iv p1, iv p2, iv p3, iv p4, iv (2 : Int32), rv b20, iv (0 : Int32), rv b23, rv b25] [(.ref b25)])) rfl (by rw [hml]; rfl) (Steps.refl _) (argsL := []) (rest := []) (lenOf pd__28_29Z rfl) rfl (Nat.le_of_eq rfl) (hb hby at_109) (fun _ _ => ⟨rfl, (Eq.refl T26.heap), (by decide : 4 + 0 ≤ _), (by decide : 10 + 0 ≤ _)⟩)
      dsimp only [Pt.U, Pt.locs, Pt.cells, Pt.slots] at X27 l27 y27 z27 st27 hQ27
      subst l27 y27 z27
      obtain ⟨rfl, Nq27, e27⟩ := hQ27
      have N27 := Fr.app N26 Nq27
      refine Go.step (fun t k => st27.trans k) ?_
      show Go p e below _ (T27.setTop (mkF m 112 #[iv p0, iv p1, iv p2, iv p3, iv p4, iv (2 : Int32), rv b20, iv (0 : Int32), rv b23, rv b25] [(.int (0 : Int32))]))
      refine Go.step (S' := T27.setTop (mkF m 122 #[iv p0, iv p1, iv p2, iv p3, iv p4, iv (2 : Int32), rv b20, iv (0 : Int32), rv b23, rv b25] [(.int (1 : Int32))])) (fun t k => ?_) ?_
      · refine XS.iload X27.here hx rfl (hb hby at_112) rfl ?_
        refine XS.icmpNo X27.here hx rfl (hb hby at_114) rfl (teq ((by decide) : (0 : Int32) = (0 : Int32))).2 ?_
        refine XS.iconst X27.here hx rfl (hb hby at_117) ?_
        show Steps p.tables e below (T27.setTop (mkF m 118 #[iv p0, iv p1, iv p2, iv p3, iv p4, iv (2 : Int32), rv b20, iv (0 : Int32), rv b23, rv b25] [(.int (1 : Int32))])) _
        refine XS.goto X27.here hx rfl (pc0 := 118) (pc' := 122) rfl (hb hby at_118) (by decide) (by decide) ?_
        exact k
      obtain ⟨fs, hr, hrun, hended, hR⟩ := X27.leaveW hS (by rw [e27]; exact hk) (v := some (.int (1 : Int32))) (fun h => by rw [Bd.returns] at h; cases h)
      refine Go.fin (S' := T27.setFrames fs) ?_ hrun hended ⟨_, _, rfl, ?_, hR.1, hR.2.1, hR.2.2.1, hR.2.2.2.mono (by decide) (by decide)⟩
      · exact retOut X27 hx Bd.returns (by decide) (Or.inl ⟨rfl, Or.inr (Or.inl rfl), _, rfl⟩) (hb hby at_122) hr
      · show Q_rm0 Z p0 p1 p2 p3 p4 cs h0 n0 (some (.int (1 : Int32))) T27.heap _
        rw [e27]
        exact ⟨rfl, N27, K⟩
    · skip
      refine Go.step (S' := T22.setTop (mkF m 95 #[iv p0, iv p1, iv p2, iv p3, iv p4, iv (2 : Int32), rv b20, iv (1 : Int32), .val .null, u_] [])) (fun t k => ?_) ?_
      · refine XS.ifNo X22.here hx rfl (hb hby at_65) rfl ((if0 _ _).trans (feq (hc65 : ¬ ((p0 &&& (1 : Int32)) = (0 : Int32)))).1) ?_
        refine XS.iconst X22.here hx rfl (hb hby at_68) ?_
        refine XS.goto X22.here hx rfl (pc0 := 69) (pc' := 73) rfl (hb hby at_69) (by decide) (by decide) ?_
        show Steps p.tables e below (T22.setTop (mkF m 73 #[iv p0, iv p1, iv p2, iv p3, iv p4, iv (2 : Int32), rv b20, u_, u_, u_] [(.int (1 : Int32))])) _
        refine XS.istore X22.here hx rfl (hb hby at_73) rfl (l' := #[iv p0, iv p1, iv p2, iv p3, iv p4, iv (2 : Int32), rv b20, iv (1 : Int32), u_, u_]) rfl ?_
        refine XS.iload X22.here hx rfl (hb hby at_75) rfl ?_
        refine XS.ifNo X22.here hx rfl (hb hby at_77) rfl ((if0 _ _).trans (feq ((by decide) : ¬ ((1 : Int32) = (0 : Int32)))).1) ?_
        show Steps p.tables e below (T22.setTop (mkF m 80 #[iv p0, iv p1, iv p2, iv p3, iv p4, iv (2 : Int32), rv b20, iv (1 : Int32), u_, u_] [])) _
        refine XS.aconstNull X22.here hx rfl (hb hby at_80) ?_
        refine XS.goto X22.here hx rfl (pc0 := 81) (pc' := 93) rfl (hb hby at_81) (by decide) (by decide) ?_
        refine XS.astore X22.here hx rfl (hb hby at_93) rfl rfl (l' := #[iv p0, iv p1, iv p2, iv p3, iv p4, iv (2 : Int32), rv b20, iv (1 : Int32), .val .null, u_]) rfl ?_
        exact k
      obtain ⟨T28, h28, X28, e28, E28, A28, D28, -, st28⟩ := newO X22 hx hZ hown (own_w hw 31 rfl) (own_w hw 32 rfl) (own_w hw 33 rfl) e22 (g := (mkF m 95 #[iv p0, iv p1, iv p2, iv p3, iv p4, iv (2 : Int32), rv b20, iv (1 : Int32), .val .null, u_] [])) rfl (hb hby at_95) (by decide) (by decide)
      obtain ⟨b28, g28⟩ : ∃ z, z = Array.size h22 := ⟨_, rfl⟩
      have g_b28 : n0 ≤ b28 := Nat.le_trans (old_le O) (Nat.le_of_eq g28.symm)
      have sz_b28 : h0.size ≤ b28 := Nat.le_trans K.1 (Nat.le_of_eq g28.symm)
      have ne_b20_b28 : b20 ≠ b28 := Nat.ne_of_lt (Nat.lt_of_lt_of_le V_b20.lt (Nat.le_of_eq g28.symm))
      rw [← g28] at A28 D28 st28
      have O := O.ext E28
      have hk := Nat.le_trans hk E28.1
      have K := K.ext E28
      have V_b20 := V_b20.ext E28
      have E_b28 := A28
      have F_field_b28 : Fld Z h28 b28 "com/example/ward5/ward5/rule/FieldKey" "field" "Ljava/lang/String;" .null := D28 (Or.inr (own_w hw 44 rfl)) (ty := (.object "java/lang/String")) (by decide)
      have F_modifiers_b28 : Fld Z h28 b28 "com/example/ward5/ward5/rule/FieldKey" "modifiers" "Ljava/util/Set;" .null := D28 (Or.inr (own_w hw 46 rfl)) (ty := (.object "java/util/Set")) (by decide)
      refine Go.step st28 ?_
      show Go p e below _ (T28.setTop (mkF m 98 #[iv p0, iv p1, iv p2, iv p3, iv p4, iv (2 : Int32), rv b20, iv (1 : Int32), .val .null, u_] [(.ref b28)]))
      refine Go.step (S' := T28.setTop (mkF m 102 #[iv p0, iv p1, iv p2, iv p3, iv p4, iv (2 : Int32), rv b20, iv (1 : Int32), .val .null, u_] [.null, .null, (.ref b28), (.ref b28)])) (fun t k => ?_) ?_
      · refine XS.dup X28.here hx rfl (hb hby at_98) rfl rfl ?_
        refine XS.aload X28.here hx rfl (hb hby at_99) rfl rfl ?_
        refine XS.aconstNull X28.here hx rfl (hb hby at_101) ?_
        exact k
      obtain ⟨_, _, ⟨T29, L29, k29, n29⟩, -, X29, ⟨Lc29, hQ29, l29, y29, z29⟩, st29⟩ := X28.specialBack hx (y := y_6) rfl hown (mvT hZ (own_w hw 34 rfl)) (mvT hZ (own_w hw 35 rfl)) (mvT hZ (own_w hw 36 rfl)) (by decide) (backOf (W := 1) (rmFK0 l Z a0 hw [] b28 h28 n0 O E_b28 F_field_b28 F_modifiers_b28 (by assumption)) hZ (own_w hw 36 rfl) (own_w hw 33 rfl) (by decide) (by decide)) (g := (mkF m 102 #[iv p0, iv p1, iv p2, iv p3, iv p4, iv (2 : Int32), rv b20, iv (1 : Int32), .val .null, u_] [.null, .null, (.ref b28), (.ref b28)])) rfl (by rw [hml]; rfl) (Steps.refl _) (a := b28) (argsL := [.null, .null]) (rest := [(.ref b28)]) (lenOf pd__28Ljava_2flang_2fString_3bLjava_2futil_2fSet_3b_29V rfl) rfl (Nat.le_of_eq rfl) (hb hby at_102) (fun _ _ => ⟨rfl, e28, (by decide : 2 + 0 ≤ _), (by decide : 4 + 0 ≤ _)⟩)
      dsimp only [Pt.U, Pt.locs, Pt.cells, Pt.slots] at X29 l29 y29 z29 st29 hQ29
      subst l29 y29 z29
      obtain ⟨rfl, Nq29, K29, P29_E, P29_F⟩ := hQ29
      have N29 := Fr.app N22 Nq29
      have O := O.keep K29 (allS g_b28 all0)
      have hk := Nat.le_trans hk K29.1
      have K := K.trans K29 (allS (Or.inr sz_b28) all0)
      have V_b20 := V_b20.keep K29 (ninS ne_b20_b28 nin0)
      have E_b28 := E_b28.keep K29
      have E_29 := P29_E
      have F_29 := P29_F
      refine Go.step (fun t k => st29.trans k) ?_
      show Go p e below _ (T29.setTop (mkF m 105 #[iv p0, iv p1, iv p2, iv p3, iv p4, iv (2 : Int32), rv b20, iv (1 : Int32), .val .null, u_] [(.ref b28)]))
      refine Go.step (S' := T29.setTop (mkF m 109 #[iv p0, iv p1, iv p2, iv p3, iv p4, iv (2 : Int32), rv b20, iv (1 : Int32), .val .null, rv b28] [(.ref b28)])) (fun t k => ?_) ?_
      · refine XS.astore X29.here hx rfl (hb hby at_105) rfl rfl (l' := #[iv p0, iv p1, iv p2, iv p3, iv p4, iv (2 : Int32), rv b20, iv (1 : Int32), .val .null, rv b28]) rfl ?_
        refine XS.aload X29.here hx rfl (hb hby at_107) rfl rfl ?_
        exact k
      obtain ⟨cq30, kq30, q30a, q30b, q30c⟩ := isOf hZ (Eq.refl T29.heap) E_b28
      obtain ⟨_, _, ⟨T30, L30, k30, n30⟩, -, X30, ⟨Lc30, hQ30, l30, y30, z30⟩, st30⟩ := X29.virtualBack hx (y := y_7) (z := y_7) hown (mvT hZ (own_w hw 47 rfl)) (mvT hZ (own_w hw 48 rfl)) (notFace_of_selects (args := #[]) (mvT hZ (own_w hw 50 rfl))) (mvT hZ (own_w hw 50 rfl)) (mvT hZ (own_w hw 49 rfl)) (by decide) (backOf (W := 0) (rmSK0 l Z a0 hw [] b28 T29.heap n0 O F_29) hZ (own_w hw 51 rfl) (own_w hw 33 rfl) (by decide) (by decide)) q30a q30c (g := (mkF m 109 #[iv p0, iv p1, iv p2, iv p3, iv p4, iv (2 : Int32), rv b20, iv (1 : Int32), .val .null, rv b28] [(.ref b28)])) rfl (by rw [hml]; rfl) (Steps.refl _) (argsL := []) (rest := []) (lenOf pd__28_29Z rfl) rfl (Nat.le_of_eq rfl) (hb hby at_109) (fun _ _ => ⟨rfl, (Eq.refl T29.heap), (by decide : 2 + 0 ≤ _), (by decide : 4 + 0 ≤ _)⟩)
      dsimp only [Pt.U, Pt.locs, Pt.cells, Pt.slots] at X30 l30 y30 z30 st30 hQ30
      subst l30 y30 z30
      obtain ⟨rfl, Nq30, e30⟩ := hQ30
      have N30 := Fr.app N29 Nq30
      refine Go.step (fun t k => st30.trans k) ?_
      show Go p e below _ (T30.setTop (mkF m 112 #[iv p0, iv p1, iv p2, iv p3, iv p4, iv (2 : Int32), rv b20, iv (1 : Int32), .val .null, rv b28] [(.int (1 : Int32))]))
      refine Go.step (S' := T30.setTop (mkF m 122 #[iv p0, iv p1, iv p2, iv p3, iv p4, iv (2 : Int32), rv b20, iv (1 : Int32), .val .null, rv b28] [(.int (1 : Int32))])) (fun t k => ?_) ?_
      · refine XS.iload X30.here hx rfl (hb hby at_112) rfl ?_
        refine XS.icmpNo X30.here hx rfl (hb hby at_114) rfl (teq ((by decide) : (1 : Int32) = (1 : Int32))).2 ?_
        refine XS.iconst X30.here hx rfl (hb hby at_117) ?_
        show Steps p.tables e below (T30.setTop (mkF m 118 #[iv p0, iv p1, iv p2, iv p3, iv p4, iv (2 : Int32), rv b20, iv (1 : Int32), .val .null, rv b28] [(.int (1 : Int32))])) _
        refine XS.goto X30.here hx rfl (pc0 := 118) (pc' := 122) rfl (hb hby at_118) (by decide) (by decide) ?_
        exact k
      obtain ⟨fs, hr, hrun, hended, hR⟩ := X30.leaveW hS (by rw [e30]; exact hk) (v := some (.int (1 : Int32))) (fun h => by rw [Bd.returns] at h; cases h)
      refine Go.fin (S' := T30.setFrames fs) ?_ hrun hended ⟨_, _, rfl, ?_, hR.1, hR.2.1, hR.2.2.1, hR.2.2.2.mono (by decide) (by decide)⟩
      · exact retOut X30 hx Bd.returns (by decide) (Or.inl ⟨rfl, Or.inr (Or.inl rfl), _, rfl⟩) (hb hby at_122) hr
      · show Q_rm0 Z p0 p1 p2 p3 p4 cs h0 n0 (some (.int (1 : Int32))) T30.heap _
        rw [e30]
        exact ⟨rfl, N30, K⟩
  · skip
    rw [(hn4 : ((p1 &&& (2147483647 : Int32)) % (4 : Int32)) = (3 : Int32))]
    show Go p e below _ (s₁.setTop (mkF m 8 #[iv p0, iv p1, iv p2, iv p3, iv p4, iv (3 : Int32), u_, u_, u_, u_] []))
    refine Go.step (S' := s₁.setTop (mkF m 10 #[iv p0, iv p1, iv p2, iv p3, iv p4, iv (3 : Int32), u_, u_, u_, u_] [(.int (3 : Int32))])) (fun t k => ?_) ?_
    · refine XS.iload X0.here hx rfl (hb hby at_8) rfl ?_
      exact k
    obtain ⟨T31, h31, k31, X31, e31, E31, A31, st31⟩ := newP X0 hx hZ (own_w hw 1 rfl) e0 (g := (mkF m 10 #[iv p0, iv p1, iv p2, iv p3, iv p4, iv (3 : Int32), u_, u_, u_, u_] [(.int (3 : Int32))])) rfl (hb hby at_10) rfl (by decide) (cap := 3) (by decide) (by decide) (by decide) (by decide)
    obtain ⟨b31, g31⟩ : ∃ z, z = Array.size h0 := ⟨_, rfl⟩
    have g_b31 : n0 ≤ b31 := Nat.le_trans (old_le O) (Nat.le_of_eq g31.symm)
    have sz_b31 : h0.size ≤ b31 := Nat.le_trans K.1 (Nat.le_of_eq g31.symm)
    rw [← g31] at A31 st31
    have O := O.ext E31
    have CH := CHv.ext E31 CH
    have hk := Nat.le_trans hk E31.1
    have K := K.ext E31
    have V_b31 : Arv Z h31 b31 k31 .char (3 : Int32) [(.int (0 : Int32)), (.int (0 : Int32)), (.int (0 : Int32))] (.int (0 : Int32)) := (Arv.new A31 (by decide)).pad (pad_rep [] (.int (0 : Int32)) 3)
    refine Go.step st31 ?_
    show Go p e below _ (T31.setTop (mkF m 12 #[iv p0, iv p1, iv p2, iv p3, iv p4, iv (3 : Int32), u_, u_, u_, u_] [(.ref b31)]))
    refine Go.step (S' := T31.setTop (mkF m 28 #[iv p0, iv p1, iv p2, iv p3, iv p4, iv (3 : Int32), rv b31, u_, u_, u_] [(.int ((p2 &&& (255 : Int32)).toUInt32.toUInt16.toUInt32.toInt32)), (.int (0 : Int32)), (.ref b31)])) (fun t k => ?_) ?_
    · refine XS.astore X31.here hx rfl (hb hby at_12) rfl rfl (l' := #[iv p0, iv p1, iv p2, iv p3, iv p4, iv (3 : Int32), rv b31, u_, u_, u_]) rfl ?_
      refine XS.iload X31.here hx rfl (hb hby at_14) rfl ?_
      refine XS.ifNo X31.here hx rfl (hb hby at_16) rfl ((if0 _ _).trans (tlt ((by decide) : (0 : Int32) < (3 : Int32))).2.2.2) ?_
      show Steps p.tables e below (T31.setTop (mkF m 19 #[iv p0, iv p1, iv p2, iv p3, iv p4, iv (3 : Int32), rv b31, u_, u_, u_] [])) _
      refine XS.aload X31.here hx rfl (hb hby at_19) rfl rfl ?_
      refine XS.iconst X31.here hx rfl (hb hby at_21) ?_
      refine XS.iloadN X31.here hx rfl (hb hby at_22) rfl ?_
      show Steps p.tables e below (T31.setTop (mkF m 23 #[iv p0, iv p1, iv p2, iv p3, iv p4, iv (3 : Int32), rv b31, u_, u_, u_] [(.int p2), (.int (0 : Int32)), (.ref b31)])) _
      refine XS.sipush X31.here hx rfl (hb hby at_23) ?_
      refine XS.iand X31.here hx rfl (hb hby at_26) rfl ?_
      refine XS.i2c X31.here hx rfl (hb hby at_27) rfl ?_
      exact k
    obtain ⟨cl32, Ar32, q32, S32, N32_, H32, G32⟩ := V_b31
    have hin32 : ¬ ((0 : Int32) < 0 ∨ cl32.slots.size ≤ ((0 : Int32)).toNatClampNeg) := inb_of S32 ⟨by decide, by decide⟩
    obtain ⟨T32, h32, X32, e32, W32, st32⟩ := stC X31 hx hZ e31 Ar32 (j := (0 : Int32)) hin32 (g := (mkF m 28 #[iv p0, iv p1, iv p2, iv p3, iv p4, iv (3 : Int32), rv b31, u_, u_, u_] [(.int ((p2 &&& (255 : Int32)).toUInt32.toUInt16.toUInt32.toInt32)), (.int (0 : Int32)), (.ref b31)])) rfl rfl (hb hby at_28)
    have O := O.wr W32 g_b31
    have hk := Nat.le_trans hk (Keep.of_wr W32).1
    have K := K.wr W32 (Or.inr sz_b31)
    have V_b31 : Arv Z h32 b31 k31 .char (3 : Int32) [(.int (((p2 &&& (255 : Int32)).toUInt32.toUInt16.toUInt32.toInt32).toUInt32.toUInt16.toUInt32.toInt32)), (.int (0 : Int32)), (.int (0 : Int32))] (.int (0 : Int32)) := Arv.set Ar32 q32 S32 N32_ H32 G32 (fits_nar_char _) W32 0 rfl (Nat.le_of_ble_eq_true rfl)
    rw [(own_cc p2 : (((p2 &&& (255 : Int32)).toUInt32.toUInt16.toUInt32.toInt32).toUInt32.toUInt16.toUInt32.toInt32) = (p2 &&& (255 : Int32)))] at V_b31
    have N32 := Fr.snoc X32 N0 g_b31
    refine Go.step st32 ?_
    show Go p e below _ (T32.setTop (mkF m 29 #[iv p0, iv p1, iv p2, iv p3, iv p4, iv (3 : Int32), rv b31, u_, u_, u_] []))
    refine Go.step (S' := T32.setTop (mkF m 44 #[iv p0, iv p1, iv p2, iv p3, iv p4, iv (3 : Int32), rv b31, u_, u_, u_] [(.int ((p3 &&& (255 : Int32)).toUInt32.toUInt16.toUInt32.toInt32)), (.int (1 : Int32)), (.ref b31)])) (fun t k => ?_) ?_
    · refine XS.iload X32.here hx rfl (hb hby at_29) rfl ?_
      refine XS.iconst X32.here hx rfl (hb hby at_31) ?_
      refine XS.icmpNo X32.here hx rfl (hb hby at_32) rfl (tlt ((by decide) : (1 : Int32) < (3 : Int32))).2.2.2 ?_
      show Steps p.tables e below (T32.setTop (mkF m 35 #[iv p0, iv p1, iv p2, iv p3, iv p4, iv (3 : Int32), rv b31, u_, u_, u_] [])) _
      refine XS.aload X32.here hx rfl (hb hby at_35) rfl rfl ?_
      refine XS.iconst X32.here hx rfl (hb hby at_37) ?_
      refine XS.iloadN X32.here hx rfl (hb hby at_38) rfl ?_
      show Steps p.tables e below (T32.setTop (mkF m 39 #[iv p0, iv p1, iv p2, iv p3, iv p4, iv (3 : Int32), rv b31, u_, u_, u_] [(.int p3), (.int (1 : Int32)), (.ref b31)])) _
      refine XS.sipush X32.here hx rfl (hb hby at_39) ?_
      refine XS.iand X32.here hx rfl (hb hby at_42) rfl ?_
      refine XS.i2c X32.here hx rfl (hb hby at_43) rfl ?_
      exact k
    obtain ⟨cl33, Ar33, q33, S33, N33_, H33, G33⟩ := V_b31
    have hin33 : ¬ ((1 : Int32) < 0 ∨ cl33.slots.size ≤ ((1 : Int32)).toNatClampNeg) := inb_of S33 ⟨by decide, by decide⟩
    obtain ⟨T33, h33, X33, e33, W33, st33⟩ := stC X32 hx hZ e32 Ar33 (j := (1 : Int32)) hin33 (g := (mkF m 44 #[iv p0, iv p1, iv p2, iv p3, iv p4, iv (3 : Int32), rv b31, u_, u_, u_] [(.int ((p3 &&& (255 : Int32)).toUInt32.toUInt16.toUInt32.toInt32)), (.int (1 : Int32)), (.ref b31)])) rfl rfl (hb hby at_44)
    have O := O.wr W33 g_b31
    have hk := Nat.le_trans hk (Keep.of_wr W33).1
    have K := K.wr W33 (Or.inr sz_b31)
    have V_b31 : Arv Z h33 b31 k31 .char (3 : Int32) [(.int (p2 &&& (255 : Int32))), (.int (((p3 &&& (255 : Int32)).toUInt32.toUInt16.toUInt32.toInt32).toUInt32.toUInt16.toUInt32.toInt32)), (.int (0 : Int32))] (.int (0 : Int32)) := Arv.set Ar33 q33 S33 N33_ H33 G33 (fits_nar_char _) W33 1 rfl (Nat.le_of_ble_eq_true rfl)
    rw [(own_cc p3 : (((p3 &&& (255 : Int32)).toUInt32.toUInt16.toUInt32.toInt32).toUInt32.toUInt16.toUInt32.toInt32) = (p3 &&& (255 : Int32)))] at V_b31
    have N33 := Fr.snoc X33 N32 g_b31
    refine Go.step st33 ?_
    show Go p e below _ (T33.setTop (mkF m 45 #[iv p0, iv p1, iv p2, iv p3, iv p4, iv (3 : Int32), rv b31, u_, u_, u_] []))
    refine Go.step (S' := T33.setTop (mkF m 61 #[iv p0, iv p1, iv p2, iv p3, iv p4, iv (3 : Int32), rv b31, u_, u_, u_] [(.int ((p4 &&& (255 : Int32)).toUInt32.toUInt16.toUInt32.toInt32)), (.int (2 : Int32)), (.ref b31)])) (fun t k => ?_) ?_
    · refine XS.iload X33.here hx rfl (hb hby at_45) rfl ?_
      refine XS.iconst X33.here hx rfl (hb hby at_47) ?_
      refine XS.icmpNo X33.here hx rfl (hb hby at_48) rfl (tlt ((by decide) : (2 : Int32) < (3 : Int32))).2.2.2 ?_
      show Steps p.tables e below (T33.setTop (mkF m 51 #[iv p0, iv p1, iv p2, iv p3, iv p4, iv (3 : Int32), rv b31, u_, u_, u_] [])) _
      refine XS.aload X33.here hx rfl (hb hby at_51) rfl rfl ?_
      refine XS.iconst X33.here hx rfl (hb hby at_53) ?_
      refine XS.iload X33.here hx rfl (hb hby at_54) rfl ?_
      show Steps p.tables e below (T33.setTop (mkF m 56 #[iv p0, iv p1, iv p2, iv p3, iv p4, iv (3 : Int32), rv b31, u_, u_, u_] [(.int p4), (.int (2 : Int32)), (.ref b31)])) _
      refine XS.sipush X33.here hx rfl (hb hby at_56) ?_
      refine XS.iand X33.here hx rfl (hb hby at_59) rfl ?_
      refine XS.i2c X33.here hx rfl (hb hby at_60) rfl ?_
      exact k
    obtain ⟨cl34, Ar34, q34, S34, N34_, H34, G34⟩ := V_b31
    have hin34 : ¬ ((2 : Int32) < 0 ∨ cl34.slots.size ≤ ((2 : Int32)).toNatClampNeg) := inb_of S34 ⟨by decide, by decide⟩
    obtain ⟨T34, h34, X34, e34, W34, st34⟩ := stC X33 hx hZ e33 Ar34 (j := (2 : Int32)) hin34 (g := (mkF m 61 #[iv p0, iv p1, iv p2, iv p3, iv p4, iv (3 : Int32), rv b31, u_, u_, u_] [(.int ((p4 &&& (255 : Int32)).toUInt32.toUInt16.toUInt32.toInt32)), (.int (2 : Int32)), (.ref b31)])) rfl rfl (hb hby at_61)
    have O := O.wr W34 g_b31
    have hk := Nat.le_trans hk (Keep.of_wr W34).1
    have K := K.wr W34 (Or.inr sz_b31)
    have V_b31 : Arv Z h34 b31 k31 .char (3 : Int32) [(.int (p2 &&& (255 : Int32))), (.int (p3 &&& (255 : Int32))), (.int (((p4 &&& (255 : Int32)).toUInt32.toUInt16.toUInt32.toInt32).toUInt32.toUInt16.toUInt32.toInt32))] (.int (0 : Int32)) := Arv.set Ar34 q34 S34 N34_ H34 G34 (fits_nar_char _) W34 2 rfl (Nat.le_of_ble_eq_true rfl)
    rw [(own_cc p4 : (((p4 &&& (255 : Int32)).toUInt32.toUInt16.toUInt32.toInt32).toUInt32.toUInt16.toUInt32.toInt32) = (p4 &&& (255 : Int32)))] at V_b31
    have N34 := Fr.snoc X34 N33 g_b31
    refine Go.step st34 ?_
    show Go p e below _ (T34.setTop (mkF m 62 #[iv p0, iv p1, iv p2, iv p3, iv p4, iv (3 : Int32), rv b31, u_, u_, u_] []))
    refine Go.step (S' := T34.setTop (mkF m 65 #[iv p0, iv p1, iv p2, iv p3, iv p4, iv (3 : Int32), rv b31, u_, u_, u_] [(.int (p0 &&& (1 : Int32)))])) (fun t k => ?_) ?_
    · refine XS.iloadN X34.here hx rfl (hb hby at_62) rfl ?_
      refine XS.iconst X34.here hx rfl (hb hby at_63) ?_
      refine XS.iand X34.here hx rfl (hb hby at_64) rfl ?_
      exact k
    by_cases hc65 : (p0 &&& (1 : Int32)) = (0 : Int32)
    · skip
      refine Go.step (S' := T34.setTop (mkF m 84 #[iv p0, iv p1, iv p2, iv p3, iv p4, iv (3 : Int32), rv b31, iv (0 : Int32), u_, u_] [])) (fun t k => ?_) ?_
      · refine XS.ifYes X34.here hx rfl (pc0 := 65) (pc' := 72) rfl (hb hby at_65) rfl ((if0 _ _).trans (teq (hc65 : (p0 &&& (1 : Int32)) = (0 : Int32))).1) (by decide) (by decide) ?_
        refine XS.iconst X34.here hx rfl (hb hby at_72) ?_
        refine XS.istore X34.here hx rfl (hb hby at_73) rfl (l' := #[iv p0, iv p1, iv p2, iv p3, iv p4, iv (3 : Int32), rv b31, iv (0 : Int32), u_, u_]) rfl ?_
        show Steps p.tables e below (T34.setTop (mkF m 75 #[iv p0, iv p1, iv p2, iv p3, iv p4, iv (3 : Int32), rv b31, iv (0 : Int32), u_, u_] [])) _
        refine XS.iload X34.here hx rfl (hb hby at_75) rfl ?_
        refine XS.ifYes X34.here hx rfl (pc0 := 77) (pc' := 84) rfl (hb hby at_77) rfl ((if0 _ _).trans (teq ((by decide) : (0 : Int32) = (0 : Int32))).1) (by decide) (by decide) ?_
        exact k
      obtain ⟨T35, h35, X35, e35, E35, A35, D35, -, st35⟩ := newO X34 hx hZ hown (own_w hw 2 rfl) (own_w hw 3 rfl) (own_w hw 4 rfl) e34 (g := (mkF m 84 #[iv p0, iv p1, iv p2, iv p3, iv p4, iv (3 : Int32), rv b31, iv (0 : Int32), u_, u_] [])) rfl (hb hby at_84) (by decide) (by decide)
      obtain ⟨b35, g35⟩ : ∃ z, z = Array.size h34 := ⟨_, rfl⟩
      have g_b35 : n0 ≤ b35 := Nat.le_trans (old_le O) (Nat.le_of_eq g35.symm)
      have sz_b35 : h0.size ≤ b35 := Nat.le_trans K.1 (Nat.le_of_eq g35.symm)
      have ne_b31_b35 : b31 ≠ b35 := Nat.ne_of_lt (Nat.lt_of_lt_of_le V_b31.lt (Nat.le_of_eq g35.symm))
      rw [← g35] at A35 D35 st35
      have O := O.ext E35
      have hk := Nat.le_trans hk E35.1
      have K := K.ext E35
      have V_b31 := V_b31.ext E35
      have E_b35 := A35
      have F_coder_b35 : Fld Z h35 b35 "java/lang/String" "coder" "B" (.int (0 : Int32)) := D35 (Or.inr (own_w hw 28 rfl)) (ty := .byte) (by decide)
      have F_value_b35 : Fld Z h35 b35 "java/lang/String" "value" "[B" .null := D35 (Or.inr (own_w hw 30 rfl)) (ty := (.array .byte)) (by decide)
      refine Go.step st35 ?_
      show Go p e below _ (T35.setTop (mkF m 87 #[iv p0, iv p1, iv p2, iv p3, iv p4, iv (3 : Int32), rv b31, iv (0 : Int32), u_, u_] [(.ref b35)]))
      refine Go.step (S' := T35.setTop (mkF m 90 #[iv p0, iv p1, iv p2, iv p3, iv p4, iv (3 : Int32), rv b31, iv (0 : Int32), u_, u_] [(.ref b31), (.ref b35), (.ref b35)])) (fun t k => ?_) ?_
      · refine XS.dup X35.here hx rfl (hb hby at_87) rfl rfl ?_
        refine XS.aload X35.here hx rfl (hb hby at_88) rfl rfl ?_
        exact k
      obtain ⟨_, _, ⟨T36, L36, k36, n36⟩, -, X36, ⟨Lc36, hQ36, l36, y36, z36⟩, st36⟩ := X35.specialBack hx (y := y_4) rfl hown (mvT hZ (own_w hw 5 rfl)) (mvT hZ (own_w hw 6 rfl)) (mvT hZ (own_w hw 7 rfl)) (by decide) (backOf (W := 1) (rmNS3 l Z a0 hw [] b35 b31 k31 cs (p2 &&& (255 : Int32)) (p3 &&& (255 : Int32)) (p4 &&& (255 : Int32)) h35 n0 O S_CS E_b35 F_value_b35 F_coder_b35 V_b31 (by assumption) hcs (own_m255 p2) (own_m255 p3) (own_m255 p4)) hZ (own_w hw 7 rfl) (own_w hw 4 rfl) (by decide) (by decide)) (g := (mkF m 90 #[iv p0, iv p1, iv p2, iv p3, iv p4, iv (3 : Int32), rv b31, iv (0 : Int32), u_, u_] [(.ref b31), (.ref b35), (.ref b35)])) rfl (by rw [hml]; rfl) (Steps.refl _) (a := b35) (argsL := [(.ref b31)]) (rest := [(.ref b35)]) (lenOf pd__28_5bC_29V rfl) rfl (Nat.le_of_eq rfl) (hb hby at_90) (fun _ _ => ⟨rfl, e35, (by decide : 2 + 1 ≤ _), (by decide : 7 + 3 ≤ _)⟩)
      dsimp only [Pt.U, Pt.locs, Pt.cells, Pt.slots] at X36 l36 y36 z36 st36 hQ36
      subst l36 y36 z36
      obtain ⟨tb_36, kb_36, rfl, Nq36, K36, P36_E, P36_Fv, P36_Fc, P36_V⟩ := hQ36
      have N36 := Fr.app N34 Nq36
      have O := O.keep K36 (allS g_b35 all0)
      have hk := Nat.le_trans hk K36.1
      have K := K.trans K36 (allS (Or.inr sz_b35) all0)
      have V_b31 := V_b31.keep K36 (ninS ne_b31_b35 nin0)
      have E_b35 := E_b35.keep K36
      have E_36 := P36_E
      have Fv_36 := P36_Fv
      have Fc_36 := P36_Fc
      have V_36 := P36_V
      refine Go.step (fun t k => st36.trans k) ?_
      show Go p e below _ (T36.setTop (mkF m 93 #[iv p0, iv p1, iv p2, iv p3, iv p4, iv (3 : Int32), rv b31, iv (0 : Int32), u_, u_] [(.ref b35)]))
      refine Go.step (S' := T36.setTop (mkF m 95 #[iv p0, iv p1, iv p2, iv p3, iv p4, iv (3 : Int32), rv b31, iv (0 : Int32), rv b35, u_] [])) (fun t k => ?_) ?_
      · refine XS.astore X36.here hx rfl (hb hby at_93) rfl rfl (l' := #[iv p0, iv p1, iv p2, iv p3, iv p4, iv (3 : Int32), rv b31, iv (0 : Int32), rv b35, u_]) rfl ?_
        exact k
      obtain ⟨T37, h37, X37, e37, E37, A37, D37, -, st37⟩ := newO X36 hx hZ hown (own_w hw 31 rfl) (own_w hw 32 rfl) (own_w hw 33 rfl) (Eq.refl T36.heap) (g := (mkF m 95 #[iv p0, iv p1, iv p2, iv p3, iv p4, iv (3 : Int32), rv b31, iv (0 : Int32), rv b35, u_] [])) rfl (hb hby at_95) (by decide) (by decide)
      obtain ⟨b37, g37⟩ : ∃ z, z = Array.size T36.heap := ⟨_, rfl⟩
      have g_b37 : n0 ≤ b37 := Nat.le_trans (old_le O) (Nat.le_of_eq g37.symm)
      have sz_b37 : h0.size ≤ b37 := Nat.le_trans K.1 (Nat.le_of_eq g37.symm)
      have ne_b31_b37 : b31 ≠ b37 := Nat.ne_of_lt (Nat.lt_of_lt_of_le V_b31.lt (Nat.le_of_eq g37.symm))
      have ne_b35_b37 : b35 ≠ b37 := Nat.ne_of_lt (Nat.lt_of_lt_of_le E_b35.lt (Nat.le_of_eq g37.symm))
      have ne_tb_36_b37 : tb_36 ≠ b37 := Nat.ne_of_lt (Nat.lt_of_lt_of_le V_36.lt (Nat.le_of_eq g37.symm))
      rw [← g37] at A37 D37 st37
      have O := O.ext E37
      have hk := Nat.le_trans hk E37.1
      have K := K.ext E37
      have V_b31 := V_b31.ext E37
      have E_b35 := E_b35.ext E37
      have E_36 := E_36.ext E37
      have Fv_36 := Fv_36.ext E37
      have Fc_36 := Fc_36.ext E37
      have V_36 := V_36.ext E37
      have E_b37 := A37
      have F_field_b37 : Fld Z h37 b37 "com/example/ward5/ward5/rule/FieldKey" "field" "Ljava/lang/String;" .null := D37 (Or.inr (own_w hw 44 rfl)) (ty := (.object "java/lang/String")) (by decide)
      have F_modifiers_b37 : Fld Z h37 b37 "com/example/ward5/ward5/rule/FieldKey" "modifiers" "Ljava/util/Set;" .null := D37 (Or.inr (own_w hw 46 rfl)) (ty := (.object "java/util/Set")) (by decide)
      refine Go.step st37 ?_
      show Go p e below _ (T37.setTop (mkF m 98 #[iv p0, iv p1, iv p2, iv p3, iv p4, iv (3 : Int32), rv b31, iv (0 : Int32), rv b35, u_] [(.ref b37)]))
      refine Go.step (S' := T37.setTop (mkF m 102 #[iv p0, iv p1, iv p2, iv p3, iv p4, iv (3 : Int32), rv b31, iv (0 : Int32), rv b35, u_] [.null, (.ref b35), (.ref b37), (.ref b37)])) (fun t k => ?_) ?_
      · refine XS.dup X37.here hx rfl (hb hby at_98) rfl rfl ?_
        refine XS.aload X37.here hx rfl (hb hby at_99) rfl rfl ?_
        refine XS.aconstNull X37.here hx rfl (hb hby at_101) ?_
        exact k
      obtain ⟨_, _, ⟨T38, L38, k38, n38⟩, -, X38, ⟨Lc38, hQ38, l38, y38, z38⟩, st38⟩ := X37.specialBack hx (y := y_6) rfl hown (mvT hZ (own_w hw 34 rfl)) (mvT hZ (own_w hw 35 rfl)) (mvT hZ (own_w hw 36 rfl)) (by decide) (backOf (W := 1) (rmFK1 l Z a0 hw [] b37 b35 h37 n0 O E_b37 F_field_b37 F_modifiers_b37 (by assumption)) hZ (own_w hw 36 rfl) (own_w hw 33 rfl) (by decide) (by decide)) (g := (mkF m 102 #[iv p0, iv p1, iv p2, iv p3, iv p4, iv (3 : Int32), rv b31, iv (0 : Int32), rv b35, u_] [.null, (.ref b35), (.ref b37), (.ref b37)])) rfl (by rw [hml]; rfl) (Steps.refl _) (a := b37) (argsL := [(.ref b35), .null]) (rest := [(.ref b37)]) (lenOf pd__28Ljava_2flang_2fString_3bLjava_2futil_2fSet_3b_29V rfl) rfl (Nat.le_of_eq rfl) (hb hby at_102) (fun _ _ => ⟨rfl, e37, (by decide : 4 + 0 ≤ _), (by decide : 12 + 0 ≤ _)⟩)
      dsimp only [Pt.U, Pt.locs, Pt.cells, Pt.slots] at X38 l38 y38 z38 st38 hQ38
      subst l38 y38 z38
      obtain ⟨rfl, Nq38, K38, P38_E, P38_F⟩ := hQ38
      have N38 := Fr.app N36 Nq38
      have O := O.keep K38 (allS g_b37 all0)
      have hk := Nat.le_trans hk K38.1
      have K := K.trans K38 (allS (Or.inr sz_b37) all0)
      have V_b31 := V_b31.keep K38 (ninS ne_b31_b37 nin0)
      have E_b35 := E_b35.keep K38
      have E_36 := E_36.keep K38
      have Fv_36 := Fv_36.keep K38 (ninS ne_b35_b37 nin0)
      have Fc_36 := Fc_36.keep K38 (ninS ne_b35_b37 nin0)
      have V_36 := V_36.keep K38 (ninS ne_tb_36_b37 nin0)
      have E_b37 := E_b37.keep K38
      have E_38 := P38_E
      have F_38 := P38_F
      refine Go.step (fun t k => st38.trans k) ?_
      show Go p e below _ (T38.setTop (mkF m 105 #[iv p0, iv p1, iv p2, iv p3, iv p4, iv (3 : Int32), rv b31, iv (0 : Int32), rv b35, u_] [(.ref b37)]))
      refine Go.step (S' := T38.setTop (mkF m 109 #[iv p0, iv p1, iv p2, iv p3, iv p4, iv (3 : Int32), rv b31, iv (0 : Int32), rv b35, rv b37] [(.ref b37)])) (fun t k => ?_) ?_
      · refine XS.astore X38.here hx rfl (hb hby at_105) rfl rfl (l' := #[iv p0, iv p1, iv p2, iv p3, iv p4, iv (3 : Int32), rv b31, iv (0 : Int32), rv b35, rv b37]) rfl ?_
        refine XS.aload X38.here hx rfl (hb hby at_107) rfl rfl ?_
        exact k
      obtain ⟨cq39, kq39, q39a, q39b, q39c⟩ := isOf hZ (Eq.refl T38.heap) E_b37
      obtain ⟨_, _, ⟨T39, L39, k39, n39⟩, -, X39, ⟨Lc39, hQ39, l39, y39, z39⟩, st39⟩ := X38.virtualBack hx (y := y_7) (z := y_7) hown (mvT hZ (own_w hw 47 rfl)) (mvT hZ (own_w hw 48 rfl)) (notFace_of_selects (args := #[]) (mvT hZ (own_w hw 50 rfl))) (mvT hZ (own_w hw 50 rfl)) (mvT hZ (own_w hw 49 rfl)) (by decide) (backOf (W := 0) (rmSK1 l Z a0 hw [] b37 b35 T38.heap n0 O F_38) hZ (own_w hw 51 rfl) (own_w hw 33 rfl) (by decide) (by decide)) q39a q39c (g := (mkF m 109 #[iv p0, iv p1, iv p2, iv p3, iv p4, iv (3 : Int32), rv b31, iv (0 : Int32), rv b35, rv b37] [(.ref b37)])) rfl (by rw [hml]; rfl) (Steps.refl _) (argsL := []) (rest := []) (lenOf pd__28_29Z rfl) rfl (Nat.le_of_eq rfl) (hb hby at_109) (fun _ _ => ⟨rfl, (Eq.refl T38.heap), (by decide : 4 + 0 ≤ _), (by decide : 12 + 0 ≤ _)⟩)
      dsimp only [Pt.U, Pt.locs, Pt.cells, Pt.slots] at X39 l39 y39 z39 st39 hQ39
      subst l39 y39 z39
      obtain ⟨rfl, Nq39, e39⟩ := hQ39
      have N39 := Fr.app N38 Nq39
      refine Go.step (fun t k => st39.trans k) ?_
      show Go p e below _ (T39.setTop (mkF m 112 #[iv p0, iv p1, iv p2, iv p3, iv p4, iv (3 : Int32), rv b31, iv (0 : Int32), rv b35, rv b37] [(.int (0 : Int32))]))
      refine Go.step (S' := T39.setTop (mkF m 122 #[iv p0, iv p1, iv p2, iv p3, iv p4, iv (3 : Int32), rv b31, iv (0 : Int32), rv b35, rv b37] [(.int (1 : Int32))])) (fun t k => ?_) ?_
      · refine XS.iload X39.here hx rfl (hb hby at_112) rfl ?_
        refine XS.icmpNo X39.here hx rfl (hb hby at_114) rfl (teq ((by decide) : (0 : Int32) = (0 : Int32))).2 ?_
        refine XS.iconst X39.here hx rfl (hb hby at_117) ?_
        show Steps p.tables e below (T39.setTop (mkF m 118 #[iv p0, iv p1, iv p2, iv p3, iv p4, iv (3 : Int32), rv b31, iv (0 : Int32), rv b35, rv b37] [(.int (1 : Int32))])) _
        refine XS.goto X39.here hx rfl (pc0 := 118) (pc' := 122) rfl (hb hby at_118) (by decide) (by decide) ?_
        exact k
      obtain ⟨fs, hr, hrun, hended, hR⟩ := X39.leaveW hS (by rw [e39]; exact hk) (v := some (.int (1 : Int32))) (fun h => by rw [Bd.returns] at h; cases h)
      refine Go.fin (S' := T39.setFrames fs) ?_ hrun hended ⟨_, _, rfl, ?_, hR.1, hR.2.1, hR.2.2.1, hR.2.2.2.mono (by decide) (by decide)⟩
      · exact retOut X39 hx Bd.returns (by decide) (Or.inl ⟨rfl, Or.inr (Or.inl rfl), _, rfl⟩) (hb hby at_122) hr
      · show Q_rm0 Z p0 p1 p2 p3 p4 cs h0 n0 (some (.int (1 : Int32))) T39.heap _
        rw [e39]
        exact ⟨rfl, N39, K⟩
    · skip
      refine Go.step (S' := T34.setTop (mkF m 95 #[iv p0, iv p1, iv p2, iv p3, iv p4, iv (3 : Int32), rv b31, iv (1 : Int32), .val .null, u_] [])) (fun t k => ?_) ?_
      · refine XS.ifNo X34.here hx rfl (hb hby at_65) rfl ((if0 _ _).trans (feq (hc65 : ¬ ((p0 &&& (1 : Int32)) = (0 : Int32)))).1) ?_
        refine XS.iconst X34.here hx rfl (hb hby at_68) ?_
        refine XS.goto X34.here hx rfl (pc0 := 69) (pc' := 73) rfl (hb hby at_69) (by decide) (by decide) ?_
        show Steps p.tables e below (T34.setTop (mkF m 73 #[iv p0, iv p1, iv p2, iv p3, iv p4, iv (3 : Int32), rv b31, u_, u_, u_] [(.int (1 : Int32))])) _
        refine XS.istore X34.here hx rfl (hb hby at_73) rfl (l' := #[iv p0, iv p1, iv p2, iv p3, iv p4, iv (3 : Int32), rv b31, iv (1 : Int32), u_, u_]) rfl ?_
        refine XS.iload X34.here hx rfl (hb hby at_75) rfl ?_
        refine XS.ifNo X34.here hx rfl (hb hby at_77) rfl ((if0 _ _).trans (feq ((by decide) : ¬ ((1 : Int32) = (0 : Int32)))).1) ?_
        show Steps p.tables e below (T34.setTop (mkF m 80 #[iv p0, iv p1, iv p2, iv p3, iv p4, iv (3 : Int32), rv b31, iv (1 : Int32), u_, u_] [])) _
        refine XS.aconstNull X34.here hx rfl (hb hby at_80) ?_
        refine XS.goto X34.here hx rfl (pc0 := 81) (pc' := 93) rfl (hb hby at_81) (by decide) (by decide) ?_
        refine XS.astore X34.here hx rfl (hb hby at_93) rfl rfl (l' := #[iv p0, iv p1, iv p2, iv p3, iv p4, iv (3 : Int32), rv b31, iv (1 : Int32), .val .null, u_]) rfl ?_
        exact k
      obtain ⟨T40, h40, X40, e40, E40, A40, D40, -, st40⟩ := newO X34 hx hZ hown (own_w hw 31 rfl) (own_w hw 32 rfl) (own_w hw 33 rfl) e34 (g := (mkF m 95 #[iv p0, iv p1, iv p2, iv p3, iv p4, iv (3 : Int32), rv b31, iv (1 : Int32), .val .null, u_] [])) rfl (hb hby at_95) (by decide) (by decide)
      obtain ⟨b40, g40⟩ : ∃ z, z = Array.size h34 := ⟨_, rfl⟩
      have g_b40 : n0 ≤ b40 := Nat.le_trans (old_le O) (Nat.le_of_eq g40.symm)
      have sz_b40 : h0.size ≤ b40 := Nat.le_trans K.1 (Nat.le_of_eq g40.symm)
      have ne_b31_b40 : b31 ≠ b40 := Nat.ne_of_lt (Nat.lt_of_lt_of_le V_b31.lt (Nat.le_of_eq g40.symm))
      rw [← g40] at A40 D40 st40
      have O := O.ext E40
      have hk := Nat.le_trans hk E40.1
      have K := K.ext E40
      have V_b31 := V_b31.ext E40
      have E_b40 := A40
      have F_field_b40 : Fld Z h40 b40 "com/example/ward5/ward5/rule/FieldKey" "field" "Ljava/lang/String;" .null := D40 (Or.inr (own_w hw 44 rfl)) (ty := (.object "java/lang/String")) (by decide)
      have F_modifiers_b40 : Fld Z h40 b40 "com/example/ward5/ward5/rule/FieldKey" "modifiers" "Ljava/util/Set;" .null := D40 (Or.inr (own_w hw 46 rfl)) (ty := (.object "java/util/Set")) (by decide)
      refine Go.step st40 ?_
      show Go p e below _ (T40.setTop (mkF m 98 #[iv p0, iv p1, iv p2, iv p3, iv p4, iv (3 : Int32), rv b31, iv (1 : Int32), .val .null, u_] [(.ref b40)]))
      refine Go.step (S' := T40.setTop (mkF m 102 #[iv p0, iv p1, iv p2, iv p3, iv p4, iv (3 : Int32), rv b31, iv (1 : Int32), .val .null, u_] [.null, .null, (.ref b40), (.ref b40)])) (fun t k => ?_) ?_
      · refine XS.dup X40.here hx rfl (hb hby at_98) rfl rfl ?_
        refine XS.aload X40.here hx rfl (hb hby at_99) rfl rfl ?_
        refine XS.aconstNull X40.here hx rfl (hb hby at_101) ?_
        exact k
      obtain ⟨_, _, ⟨T41, L41, k41, n41⟩, -, X41, ⟨Lc41, hQ41, l41, y41, z41⟩, st41⟩ := X40.specialBack hx (y := y_6) rfl hown (mvT hZ (own_w hw 34 rfl)) (mvT hZ (own_w hw 35 rfl)) (mvT hZ (own_w hw 36 rfl)) (by decide) (backOf (W := 1) (rmFK0 l Z a0 hw [] b40 h40 n0 O E_b40 F_field_b40 F_modifiers_b40 (by assumption)) hZ (own_w hw 36 rfl) (own_w hw 33 rfl) (by decide) (by decide)) (g := (mkF m 102 #[iv p0, iv p1, iv p2, iv p3, iv p4, iv (3 : Int32), rv b31, iv (1 : Int32), .val .null, u_] [.null, .null, (.ref b40), (.ref b40)])) rfl (by rw [hml]; rfl) (Steps.refl _) (a := b40) (argsL := [.null, .null]) (rest := [(.ref b40)]) (lenOf pd__28Ljava_2flang_2fString_3bLjava_2futil_2fSet_3b_29V rfl) rfl (Nat.le_of_eq rfl) (hb hby at_102) (fun _ _ => ⟨rfl, e40, (by decide : 2 + 0 ≤ _), (by decide : 5 + 0 ≤ _)⟩)
      dsimp only [Pt.U, Pt.locs, Pt.cells, Pt.slots] at X41 l41 y41 z41 st41 hQ41
      subst l41 y41 z41
      obtain ⟨rfl, Nq41, K41, P41_E, P41_F⟩ := hQ41
      have N41 := Fr.app N34 Nq41
      have O := O.keep K41 (allS g_b40 all0)
      have hk := Nat.le_trans hk K41.1
      have K := K.trans K41 (allS (Or.inr sz_b40) all0)
      have V_b31 := V_b31.keep K41 (ninS ne_b31_b40 nin0)
      have E_b40 := E_b40.keep K41
      have E_41 := P41_E
      have F_41 := P41_F
      refine Go.step (fun t k => st41.trans k) ?_
      show Go p e below _ (T41.setTop (mkF m 105 #[iv p0, iv p1, iv p2, iv p3, iv p4, iv (3 : Int32), rv b31, iv (1 : Int32), .val .null, u_] [(.ref b40)]))
      refine Go.step (S' := T41.setTop (mkF m 109 #[iv p0, iv p1, iv p2, iv p3, iv p4, iv (3 : Int32), rv b31, iv (1 : Int32), .val .null, rv b40] [(.ref b40)])) (fun t k => ?_) ?_
      · refine XS.astore X41.here hx rfl (hb hby at_105) rfl rfl (l' := #[iv p0, iv p1, iv p2, iv p3, iv p4, iv (3 : Int32), rv b31, iv (1 : Int32), .val .null, rv b40]) rfl ?_
        refine XS.aload X41.here hx rfl (hb hby at_107) rfl rfl ?_
        exact k
      obtain ⟨cq42, kq42, q42a, q42b, q42c⟩ := isOf hZ (Eq.refl T41.heap) E_b40
      obtain ⟨_, _, ⟨T42, L42, k42, n42⟩, -, X42, ⟨Lc42, hQ42, l42, y42, z42⟩, st42⟩ := X41.virtualBack hx (y := y_7) (z := y_7) hown (mvT hZ (own_w hw 47 rfl)) (mvT hZ (own_w hw 48 rfl)) (notFace_of_selects (args := #[]) (mvT hZ (own_w hw 50 rfl))) (mvT hZ (own_w hw 50 rfl)) (mvT hZ (own_w hw 49 rfl)) (by decide) (backOf (W := 0) (rmSK0 l Z a0 hw [] b40 T41.heap n0 O F_41) hZ (own_w hw 51 rfl) (own_w hw 33 rfl) (by decide) (by decide)) q42a q42c (g := (mkF m 109 #[iv p0, iv p1, iv p2, iv p3, iv p4, iv (3 : Int32), rv b31, iv (1 : Int32), .val .null, rv b40] [(.ref b40)])) rfl (by rw [hml]; rfl) (Steps.refl _) (argsL := []) (rest := []) (lenOf pd__28_29Z rfl) rfl (Nat.le_of_eq rfl) (hb hby at_109) (fun _ _ => ⟨rfl, (Eq.refl T41.heap), (by decide : 2 + 0 ≤ _), (by decide : 5 + 0 ≤ _)⟩)
      dsimp only [Pt.U, Pt.locs, Pt.cells, Pt.slots] at X42 l42 y42 z42 st42 hQ42
      subst l42 y42 z42
      obtain ⟨rfl, Nq42, e42⟩ := hQ42
      have N42 := Fr.app N41 Nq42
      refine Go.step (fun t k => st42.trans k) ?_
      show Go p e below _ (T42.setTop (mkF m 112 #[iv p0, iv p1, iv p2, iv p3, iv p4, iv (3 : Int32), rv b31, iv (1 : Int32), .val .null, rv b40] [(.int (1 : Int32))]))
      refine Go.step (S' := T42.setTop (mkF m 122 #[iv p0, iv p1, iv p2, iv p3, iv p4, iv (3 : Int32), rv b31, iv (1 : Int32), .val .null, rv b40] [(.int (1 : Int32))])) (fun t k => ?_) ?_
      · refine XS.iload X42.here hx rfl (hb hby at_112) rfl ?_
        refine XS.icmpNo X42.here hx rfl (hb hby at_114) rfl (teq ((by decide) : (1 : Int32) = (1 : Int32))).2 ?_
        refine XS.iconst X42.here hx rfl (hb hby at_117) ?_
        show Steps p.tables e below (T42.setTop (mkF m 118 #[iv p0, iv p1, iv p2, iv p3, iv p4, iv (3 : Int32), rv b31, iv (1 : Int32), .val .null, rv b40] [(.int (1 : Int32))])) _
        refine XS.goto X42.here hx rfl (pc0 := 118) (pc' := 122) rfl (hb hby at_118) (by decide) (by decide) ?_
        exact k
      obtain ⟨fs, hr, hrun, hended, hR⟩ := X42.leaveW hS (by rw [e42]; exact hk) (v := some (.int (1 : Int32))) (fun h => by rw [Bd.returns] at h; cases h)
      refine Go.fin (S' := T42.setFrames fs) ?_ hrun hended ⟨_, _, rfl, ?_, hR.1, hR.2.1, hR.2.2.1, hR.2.2.2.mono (by decide) (by decide)⟩
      · exact retOut X42 hx Bd.returns (by decide) (Or.inl ⟨rfl, Or.inr (Or.inl rfl), _, rfl⟩) (hb hby at_122) hr
      · show Q_rm0 Z p0 p1 p2 p3 p4 cs h0 n0 (some (.int (1 : Int32))) T42.heap _
        rw [e42]
        exact ⟨rfl, N42, K⟩
set_option maxRecDepth 65536 in
set_option maxHeartbeats 4000000 in
theorem comes_1 {Post : Tables → Env → Array Value → State → Outcome → State → Prop} (hpost : ∀ tb e args s v u, (limb_1_1.after args s (.returned v) u = true ∧ limb_1_2.after args s (.returned v) u = true ∧ True) → ReturnedEndW s (.returned v) u (Jvm.fieldLocs frame_1_writes args s ++ Jvm.arrayLocs frame_1_arrays args s ++ Jvm.staticLocs frame_1_statics s) 24 1152 → Post tb e args s (.returned v) u) :
    ArmFor flags0 classFile x code maxLocals ret World_1 tables_1 room_1 Calls_1 rest_1 Pre_1 Post := by
  intro l hfl _ _ p e ha hc hk s m args below hf hA hF happ hP
  obtain ⟨hcalls, hrest, hpre⟩ := hP
  obtain ⟨-, -, -, hnamed, -, -, -, hat⟩ := (Spec.applies_iff hf).mp happ
  obtain ⟨hg, hn⟩ := and_e (Cond.before_iff.mp (show (Jvm.Cond.and given_1 narrow_1).before args s = true from hpre))
  obtain ⟨hgl, hgr⟩ := and_e hg
  obtain ⟨hgrl, hgrr⟩ := and_e hgr
  obtain ⟨hgrrl, hgrrr⟩ := and_e hgrr
  obtain ⟨hgrrrl, hgrrrr⟩ := and_e hgrrr
  obtain ⟨hgrrrrl, hgrrrrr⟩ := and_e hgrrrr
  obtain ⟨w0, w1, w2, w3, w4, rfl⟩ : ∃ w0 w1 w2 w3 w4 : Value, args = #[w0, w1, w2, w3, w4] := by
    have hs : args.size = 5 := by simpa [Cond.value, given_1] using hgl
    obtain ⟨L⟩ := args
    match L, hs with
    | [w0, w1, w2, w3, w4], _ => exact ⟨w0, w1, w2, w3, w4, rfl⟩
  have hw := fun d (hd : d ∈ tables_1) => atoms_spec (ws := Jvm.Cond.code x code maxLocals ret :: tables_1) hat d (List.mem_cons_of_mem _ hd)
  have hfit : Fit s := fun {y c} hc i hi => by
    obtain ⟨ha, rfl⟩ := Array.getElem?_eq_some_iff.mp hc
    have q := List.all_eq_true.mp ((Array.all_eq_true_iff_forall_mem.mp hF) _ (Array.getElem_mem ha)) i (List.mem_range.mpr hi)
    simpa [Array.getElem?_eq_getElem hi] using q
  obtain ⟨hsets, hown0⟩ := atoms_of _ (rest_1_c_eq ▸ (show rest_1_c.before _ s = true from hrest))
  obtain ⟨i0, ei0⟩ := is_v hgrl
  obtain rfl : w0 = (.int i0) := Option.some.inj ei0
  obtain ⟨i1, ei1⟩ := is_v hgrrl
  obtain rfl : w1 = (.int i1) := Option.some.inj ei1
  obtain ⟨i2, ei2⟩ := is_v hgrrrl
  obtain rfl : w2 = (.int i2) := Option.some.inj ei2
  obtain ⟨i3, ei3⟩ := is_v hgrrrrl
  obtain rfl : w3 = (.int i3) := Option.some.inj ei3
  obtain ⟨i4, ei4⟩ := is_v hgrrrrr
  obtain rfl : w4 = (.int i4) := Option.some.inj ei4
  obtain ⟨cs, evCS⟩ := is_v (Cond.before_iff.mp (hsets _ (List.mem_of_getElem? (i := 1) rfl)))
  have S_CS := Sta.start evCS (Or.inl (hsets _ (List.mem_of_getElem? (i := 0) rfl)))
  have hcs : ¬ (cs = (0 : Int32)) := fun q => by have := not_v (Cond.before_iff.mp (hsets _ (List.mem_of_getElem? (i := 2) rfl))); rw [eq_i evCS (Term.int_eval 0) (by rw [q])] at this; cases this
  obtain ⟨sf, evFM, hsf⟩ := isR_v (Cond.before_iff.mp (hsets _ (List.mem_of_getElem? (i := 8) rfl)))
  have S_FM := Sta.start evFM (Or.inl (hsets _ (List.mem_of_getElem? (i := 7) rfl)))
  have CH0 : CHv s EL_ s.vm s.heap := CHv.start (own_EW hw) (fun p hp => hcalls.1 p hp) (hsets _ (List.mem_of_getElem? (i := 2) rfl)) (own_w hw 20 rfl) (own_w hw 3 rfl)
  obtain ⟨n, o, h1, h2, h3, _, L, rfl, ⟨rfl, N, -⟩, hq⟩ := rm0 l s _ hw tables_1 i0 i1 i2 i3 i4 cs s.heap s.heap.size (Old.start s) S_CS hcs p e ha hc hk s m _ below hf ((Spec.applies_iff_loose hf).mp happ).1 ⟨rfl, State.Warmed39.refl s, rfl, CH0⟩ trivial
  refine ⟨n, _, h1, h2, h3, hpost _ _ _ _ _ _ ⟨Cond.after_iff.mpr rfl, Cond.after_iff.mpr (eq_i res_at (Term.int_eval (1)) rfl), trivial⟩ ⟨hq.1, hq.2.1, hq.2.2.1, (hq.2.2.2.sift fun y hy => Or.inr (N y hy)).mono (by decide) (by decide)⟩⟩
theorem main_1_1 : Claimed_1_1 := comes_1 fun _ _ _ _ _ _ h hF => ⟨h.1, hF⟩
theorem main_1_2 : Claimed_1_2 := comes_1 fun _ _ _ _ _ _ h hF => ⟨h.2.1, hF⟩
end Jvm.Pilot.@@N@@
namespace Jvm.Pilot.@@N@@
open Jvm Jvm.ClassFile Sem Op Lib Jvm.Free Jvm.Stand Jvm.Pilot.@@N@@.Jvm.D
/-! MADE BY PROGRAM (witnessworld.py) out of the Statement's table words and the real class files: 21 classes; the members and pool entries that the words name. The judged class is class 1, her method 1. -/
namespace start1
open Jvm.ClassFile
def u (s : String) : CpInfo := .utf8 (stringToUtf16 s)
/-- a pool by its gaps: so many unusable entries, then the entry; so many at the end -/
def gap : Nat → List CpInfo → List CpInfo
  | 0, r => r
  | n + 1, r => .unusable :: gap n r
def poolList (es : List (Nat × CpInfo)) (last : Nat) : List CpInfo := es.foldr (fun e r => gap e.1 (e.2 :: r)) (gap last [])
def pool (es : List (Nat × CpInfo)) (last : Nat) : Array CpInfo := ⟨poolList es last⟩
def fileOf (pool : Array CpInfo) (this : Nat) (attrs : Array Attribute := #[]) (ms : Array MethodInfo := #[]) (fl : Nat := 33) (sup : Nat := 0) (ifs : Array Nat := #[]) (fds : Array FieldInfo := #[]) : ClassFile where
  minorVersion := 0
  majorVersion := 65
  constantPool := pool
  accessFlags := fl
  thisClass := this
  superClass := sup
  interfaces := ifs
  fields := fds
  methods := ms
  attributes := attrs
def plain (name : String) (sup : Option ClassId) : Class where
  name := name
  kind := .ordinary
  loader := none
  accessFlags := 33
  super := sup
  interfaces := #[]
  cf := none
  fields := #[]
  methods := #[]
  instanceTypes := #[]
  staticTypes := #[]
  resolved := #[]
  callSites := []
  init := .initialized
  statics := none
  mirror := none

def pool0 : Array CpInfo := pool [(5, u "<init>"), (0, u "()V"), (1, .class_ 10), (1, u "java/lang/Object")] 113

def k0c0 : Code := { maxStack := 0, maxLocals := 1, code := object_method_1_code, exceptionTable := #[], attributes := #[] }
def k0m0 : Method := { name := "<init>", desc := "()V", sig := { parameters := [], returnType := none }, accessFlags := 1, code := some k0c0 }
/-- java/lang/Object -/
def k0 : Class := { plain "java/lang/Object" none with
  accessFlags := 33
  interfaces := #[]
  cf := some (fileOf pool0 8 #[] #[{ accessFlags := 1, nameIndex := 5, descriptorIndex := 6, attributes := #[] }] 33 0 #[] #[])
  fields := #[]
  methods := #[k0m0]
  instanceTypes := #[]
  staticTypes := #[]
  resolved := Array.replicate 124 none
  statics := none }

def pool1 : Array CpInfo := pool [(2, .class_ 4), (1, u "java/lang/Object"), (0, u "<init>"), (0, u "()V"), (0, .integer 2147483647), (0, .class_ 9), (0, u "java/lang/String"), (0, .methodref 8 11), (0, .nameAndType 5 12), (0, u "([C)V"), (0, .class_ 14), (0, u "com/example/ward5/ward5/rule/FieldKey"), (0, .methodref 13 16), (0, .nameAndType 5 17), (0, u "(Ljava/lang/String;Ljava/util/Set;)V"), (0, .methodref 13 19), (0, .nameAndType 20 21), (0, u "searchesKeywords"), (0, u "()Z"), (0, .class_ 23), (0, u "com/example/ward5/ward5/rule/FieldKeySearchesKeywordsPinLaw"), (2, u "law"), (0, u "(IIIII)Z")] 5

def k1m0 : Method := { name := "<init>", desc := "()V", sig := { parameters := [], returnType := none }, accessFlags := 1, code := none }
def k1c1 : Code := { maxStack := 4, maxLocals := 10, code := code, exceptionTable := #[], attributes := #[] }
def k1m1 : Method := { name := "law", desc := "(IIIII)Z", sig := { parameters := [.int, .int, .int, .int, .int], returnType := some .boolean }, accessFlags := 9, code := some k1c1 }
/-- com/example/ward5/ward5/rule/FieldKeySearchesKeywordsPinLaw -/
def k1 : Class := { plain "com/example/ward5/ward5/rule/FieldKeySearchesKeywordsPinLaw" (some 0) with
  accessFlags := 49
  interfaces := #[]
  cf := some (fileOf pool1 22 #[] #[{ accessFlags := 1, nameIndex := 5, descriptorIndex := 6, attributes := #[] }, { accessFlags := 9, nameIndex := 26, descriptorIndex := 27, attributes := #[] }] 49 2 #[] #[])
  fields := #[]
  methods := #[k1m0, k1m1]
  instanceTypes := #[]
  staticTypes := #[]
  resolved := Array.replicate 33 none
  statics := none }

def pool2 : Array CpInfo := pool [(1, .class_ 2), (0, u "java/io/Serializable"), (0, .class_ 4), (0, u "java/lang/Object")] 2

/-- java/io/Serializable -/
def k2 : Class := { plain "java/io/Serializable" (some 0) with
  accessFlags := 1537
  interfaces := #[]
  cf := some (fileOf pool2 1 #[] #[] 1537 3 #[] #[])
  fields := #[]
  methods := #[]
  instanceTypes := #[]
  staticTypes := #[]
  resolved := Array.replicate 7 none
  statics := none }

def pool3 : Array CpInfo := pool [(1, .class_ 2), (0, u "java/lang/Comparable"), (0, .class_ 4), (0, u "java/lang/Object")] 7

/-- java/lang/Comparable -/
def k3 : Class := { plain "java/lang/Comparable" (some 0) with
  accessFlags := 1537
  interfaces := #[]
  cf := some (fileOf pool3 1 #[] #[] 1537 3 #[] #[])
  fields := #[]
  methods := #[]
  instanceTypes := #[]
  staticTypes := #[]
  resolved := Array.replicate 12 none
  statics := none }

def pool4 : Array CpInfo := pool [(2, .class_ 4), (1, u "java/lang/CharSequence"), (42, .class_ 48), (0, u "java/lang/CharSequence$1CodePointIterator"), (10, .class_ 60), (0, u "java/lang/CharSequence$1CharIterator"), (5, .class_ 67), (0, u "java/lang/Object")] 63

/-- java/lang/CharSequence -/
def k4 : Class := { plain "java/lang/CharSequence" (some 0) with
  accessFlags := 1537
  interfaces := #[]
  cf := some (fileOf pool4 2 #[.nestMembers #[47, 59]] #[] 1537 66 #[] #[])
  fields := #[]
  methods := #[]
  instanceTypes := #[]
  staticTypes := #[]
  resolved := Array.replicate 131 none
  statics := none }

def pool5 : Array CpInfo := pool [(1, .class_ 2), (0, u "java/lang/constant/Constable"), (0, .class_ 4), (0, u "java/lang/Object")] 6

/-- java/lang/constant/Constable -/
def k5 : Class := { plain "java/lang/constant/Constable" (some 0) with
  accessFlags := 1537
  interfaces := #[]
  cf := some (fileOf pool5 1 #[] #[] 1537 3 #[] #[])
  fields := #[]
  methods := #[]
  instanceTypes := #[]
  staticTypes := #[]
  resolved := Array.replicate 11 none
  statics := none }

def pool6 : Array CpInfo := pool [(1, .class_ 2), (0, u "java/lang/constant/ConstantDesc"), (0, .class_ 4), (0, u "java/lang/Object")] 32

/-- java/lang/constant/ConstantDesc -/
def k6 : Class := { plain "java/lang/constant/ConstantDesc" (some 0) with
  accessFlags := 1537
  interfaces := #[]
  cf := some (fileOf pool6 1 #[] #[] 1537 3 #[] #[])
  fields := #[]
  methods := #[]
  instanceTypes := #[]
  staticTypes := #[]
  resolved := Array.replicate 37 none
  statics := none }

def pool7 : Array CpInfo := pool [(1, .methodref 2 3), (0, .class_ 4), (0, .nameAndType 5 6), (0, u "java/lang/Object"), (0, u "<init>"), (0, u "()V"), (0, .string 8), (0, u ""), (0, .fieldref 10 11), (0, .class_ 12), (0, .nameAndType 13 14), (0, u "java/lang/String"), (0, u "value"), (0, u "[B"), (0, .fieldref 10 16), (0, .nameAndType 17 18), (0, u "coder"), (0, u "B"), (2, u "hash"), (0, u "I"), (2, u "hashIsZero"), (0, u "Z"), (0, .methodref 10 28), (0, .nameAndType 5 29), (0, u "([CIILjava/lang/Void;)V"), (8, .fieldref 10 39), (0, .nameAndType 40 26), (0, u "COMPACT_STRINGS"), (1, .class_ 44), (1, u "java/lang/StringUTF16"), (0, u "compress"), (1, .methodref 42 48), (0, .nameAndType 49 50), (0, u "coderFromArrayLen"), (0, u "([BI)B"), (126, .methodref 42 178), (0, .nameAndType 45 179), (0, u "([CII)[B"), (395, .class_ 576), (0, u "java/lang/CharSequence"), (22, u "CASE_INSENSITIVE_ORDER"), (0, u "Ljava/util/Comparator;"), (409, u "([C)V"), (90, u "serialPersistentFields"), (0, u "[Ljava/io/ObjectStreamField;"), (0, .class_ 1104), (0, u "java/lang/String$CaseInsensitiveComparator"), (1, .class_ 1107), (0, u "java/io/Serializable"), (0, .class_ 1109), (0, u "java/lang/Comparable"), (0, .class_ 1111), (0, u "java/lang/constant/Constable"), (0, .class_ 1113), (0, u "java/lang/constant/ConstantDesc"), (2, u "serialVersionUID"), (0, u "J"), (3, u "REPL"), (0, u "C"), (2, u "LATIN1"), (1, u "UTF16")] 323

def k7m0 : Method := { name := "<init>", desc := "()V", sig := { parameters := [], returnType := none }, accessFlags := 1, code := none }
def k7c1 : Code := { maxStack := 5, maxLocals := 2, code := jdk_42_method_3_code, exceptionTable := #[], attributes := #[] }
def k7m1 : Method := { name := "<init>", desc := "([C)V", sig := { parameters := [(.array .char)], returnType := none }, accessFlags := 1, code := some k7c1 }
def k7c2 : Code := { maxStack := 4, maxLocals := 6, code := jdk_42_method_149_code, exceptionTable := #[], attributes := #[] }
def k7m2 : Method := { name := "<init>", desc := "([CIILjava/lang/Void;)V", sig := { parameters := [(.array .char), .int, .int, (.object "java/lang/Void")], returnType := none }, accessFlags := 2, code := some k7c2 }
/-- java/lang/String -/
def k7 : Class := { plain "java/lang/String" (some 0) with
  accessFlags := 49
  interfaces := #[2, 3, 4, 5, 6]
  cf := some (fileOf pool7 10 #[.nestMembers #[1103]] #[{ accessFlags := 1, nameIndex := 5, descriptorIndex := 6, attributes := #[] }, { accessFlags := 1, nameIndex := 5, descriptorIndex := 1010, attributes := #[] }, { accessFlags := 2, nameIndex := 5, descriptorIndex := 29, attributes := #[] }] 49 2 #[1106, 1108, 575, 1110, 1112] #[{ accessFlags := 18, nameIndex := 13, descriptorIndex := 14, attributes := #[] }, { accessFlags := 18, nameIndex := 17, descriptorIndex := 18, attributes := #[] }, { accessFlags := 2, nameIndex := 21, descriptorIndex := 22, attributes := #[] }, { accessFlags := 2, nameIndex := 25, descriptorIndex := 26, attributes := #[] }, { accessFlags := 26, nameIndex := 1116, descriptorIndex := 1117, attributes := #[] }, { accessFlags := 24, nameIndex := 40, descriptorIndex := 26, attributes := #[] }, { accessFlags := 26, nameIndex := 1101, descriptorIndex := 1102, attributes := #[] }, { accessFlags := 26, nameIndex := 1121, descriptorIndex := 1122, attributes := #[] }, { accessFlags := 25, nameIndex := 599, descriptorIndex := 600, attributes := #[] }, { accessFlags := 24, nameIndex := 1125, descriptorIndex := 18, attributes := #[] }, { accessFlags := 24, nameIndex := 1127, descriptorIndex := 18, attributes := #[] }])
  fields := #[{ name := "value", type := (.array .byte), accessFlags := 18, slot := 0, constantValue := 0 }, { name := "coder", type := .byte, accessFlags := 18, slot := 1, constantValue := 0 }, { name := "hash", type := .int, accessFlags := 2, slot := 2, constantValue := 0 }, { name := "hashIsZero", type := .boolean, accessFlags := 2, slot := 3, constantValue := 0 }, { name := "serialVersionUID", type := .long, accessFlags := 26, slot := 0, constantValue := 0 }, { name := "COMPACT_STRINGS", type := .boolean, accessFlags := 24, slot := 1, constantValue := 0 }, { name := "serialPersistentFields", type := (.array (.object "java/io/ObjectStreamField")), accessFlags := 26, slot := 2, constantValue := 0 }, { name := "REPL", type := .char, accessFlags := 26, slot := 3, constantValue := 0 }, { name := "CASE_INSENSITIVE_ORDER", type := (.object "java/util/Comparator"), accessFlags := 25, slot := 4, constantValue := 0 }, { name := "LATIN1", type := .byte, accessFlags := 24, slot := 5, constantValue := 0 }, { name := "UTF16", type := .byte, accessFlags := 24, slot := 6, constantValue := 0 }]
  methods := #[k7m0, k7m1, k7m2]
  instanceTypes := #[(.array .byte), .byte, .int, .boolean]
  staticTypes := #[.long, .boolean, (.array (.object "java/io/ObjectStreamField")), .char, (.object "java/util/Comparator"), .byte, .byte]
  resolved := Array.replicate 1451 none
  statics := some 0 }

def pool8 : Array CpInfo := pool [(6, .class_ 8), (1, u "java/lang/Object"), (0, u "<init>"), (0, u "()V"), (1, .class_ 14), (1, u "java/lang/StringUTF16"), (31, u "$assertionsDisabled"), (0, u "Z"), (13, u "HI_BYTE_SHIFT"), (0, u "I"), (2, u "LO_BYTE_SHIFT"), (49, .methodref 12 116), (0, .nameAndType 117 118), (0, u "compress"), (0, u "([CI[BII)I"), (3, u "([CII)[B"), (138, u "coderFromArrayLen"), (0, u "([BI)B"), (106, .class_ 371), (1, u "java/lang/StringUTF16$LinesSpliterator"), (58, u "MAX_LENGTH"), (196, .class_ 628), (0, u "java/lang/StringUTF16$CodePointsSpliterator"), (0, .class_ 630), (0, u "java/lang/StringUTF16$CharsSpliterator")] 4

def k8m0 : Method := { name := "<init>", desc := "()V", sig := { parameters := [], returnType := none }, accessFlags := 0, code := none }
def k8c1 : Code := { maxStack := 2, maxLocals := 2, code := jdk_52_method_15_code, exceptionTable := #[], attributes := #[] }
def k8m1 : Method := { name := "coderFromArrayLen", desc := "([BI)B", sig := { parameters := [(.array .byte), .int], returnType := some .byte }, accessFlags := 8, code := some k8c1 }
def k8c2 : Code := { maxStack := 5, maxLocals := 6, code := jdk_52_method_16_code, exceptionTable := #[], attributes := #[] }
def k8m2 : Method := { name := "compress", desc := "([CII)[B", sig := { parameters := [(.array .char), .int, .int], returnType := some (.array .byte) }, accessFlags := 9, code := some k8c2 }
def k8c3 : Code := { maxStack := 3, maxLocals := 7, code := jdk_52_method_21_code, exceptionTable := #[], attributes := #[] }
def k8m3 : Method := { name := "compress", desc := "([CI[BII)I", sig := { parameters := [(.array .char), .int, (.array .byte), .int, .int], returnType := some .int }, accessFlags := 9, code := some k8c3 }
/-- java/lang/StringUTF16 -/
def k8 : Class := { plain "java/lang/StringUTF16" (some 0) with
  accessFlags := 48
  interfaces := #[]
  cf := some (fileOf pool8 12 #[.nestMembers #[627, 629, 369]] #[{ accessFlags := 0, nameIndex := 9, descriptorIndex := 10, attributes := #[] }, { accessFlags := 8, nameIndex := 261, descriptorIndex := 262, attributes := #[] }, { accessFlags := 9, nameIndex := 117, descriptorIndex := 122, attributes := #[] }, { accessFlags := 9, nameIndex := 117, descriptorIndex := 118, attributes := #[] }] 48 6 #[] #[{ accessFlags := 26, nameIndex := 61, descriptorIndex := 62, attributes := #[] }, { accessFlags := 26, nameIndex := 65, descriptorIndex := 62, attributes := #[] }, { accessFlags := 24, nameIndex := 430, descriptorIndex := 62, attributes := #[] }, { accessFlags := 4120, nameIndex := 46, descriptorIndex := 47, attributes := #[] }])
  fields := #[{ name := "HI_BYTE_SHIFT", type := .int, accessFlags := 26, slot := 0, constantValue := 0 }, { name := "LO_BYTE_SHIFT", type := .int, accessFlags := 26, slot := 1, constantValue := 0 }, { name := "MAX_LENGTH", type := .int, accessFlags := 24, slot := 2, constantValue := 0 }, { name := "$assertionsDisabled", type := .boolean, accessFlags := 4120, slot := 3, constantValue := 0 }]
  methods := #[k8m0, k8m1, k8m2, k8m3]
  instanceTypes := #[]
  staticTypes := #[.int, .int, .int, .boolean]
  resolved := Array.replicate 635 none
  statics := none }

def pool9 : Array CpInfo := pool [(1, .methodref 2 3), (0, .class_ 4), (0, .nameAndType 5 6), (0, u "java/lang/Object"), (0, u "<init>"), (0, u "()V"), (0, .class_ 8), (0, u "java/lang/Record")] 13

def k9c0 : Code := { maxStack := 1, maxLocals := 1, code := jdk_30_method_1_code, exceptionTable := #[], attributes := #[] }
def k9m0 : Method := { name := "<init>", desc := "()V", sig := { parameters := [], returnType := none }, accessFlags := 4, code := some k9c0 }
/-- java/lang/Record -/
def k9 : Class := { plain "java/lang/Record" (some 0) with
  accessFlags := 1057
  interfaces := #[]
  cf := some (fileOf pool9 7 #[] #[{ accessFlags := 4, nameIndex := 5, descriptorIndex := 6, attributes := #[] }] 1057 2 #[] #[])
  fields := #[]
  methods := #[k9m0]
  instanceTypes := #[]
  staticTypes := #[]
  resolved := Array.replicate 22 none
  statics := none }

def pool10 : Array CpInfo := pool [(1, .methodref 2 3), (0, .class_ 4), (0, .nameAndType 5 6), (0, u "java/lang/Record"), (0, u "<init>"), (0, u "()V"), (0, .fieldref 8 9), (0, .class_ 10), (0, .nameAndType 11 12), (0, u "com/example/ward5/ward5/rule/FieldKey"), (0, u "field"), (0, u "Ljava/lang/String;"), (0, .fieldref 8 14), (0, .nameAndType 15 16), (0, u "modifiers"), (0, u "Ljava/util/Set;"), (38, u "REGEX_OPTIONS"), (14, u "()Z"), (24, u "KEYWORD_MODIFIERS"), (14, u "(Ljava/lang/String;Ljava/util/Set;)V"), (6, u "COMPARISONS"), (2, u "CLASHES"), (0, u "Ljava/util/Map;"), (91, u "searchesKeywords")] 44

def k10c0 : Code := { maxStack := 2, maxLocals := 3, code := prog_21_method_1_code, exceptionTable := #[], attributes := #[] }
def k10m0 : Method := { name := "<init>", desc := "(Ljava/lang/String;Ljava/util/Set;)V", sig := { parameters := [(.object "java/lang/String"), (.object "java/util/Set")], returnType := none }, accessFlags := 0, code := some k10c0 }
def k10c1 : Code := { maxStack := 1, maxLocals := 1, code := prog_21_method_3_code, exceptionTable := #[], attributes := #[] }
def k10m1 : Method := { name := "searchesKeywords", desc := "()Z", sig := { parameters := [], returnType := some .boolean }, accessFlags := 0, code := some k10c1 }
/-- com/example/ward5/ward5/rule/FieldKey -/
def k10 : Class := { plain "com/example/ward5/ward5/rule/FieldKey" (some 9) with
  accessFlags := 48
  interfaces := #[]
  cf := some (fileOf pool10 8 #[] #[{ accessFlags := 0, nameIndex := 5, descriptorIndex := 110, attributes := #[] }, { accessFlags := 0, nameIndex := 213, descriptorIndex := 70, attributes := #[] }] 48 2 #[] #[{ accessFlags := 18, nameIndex := 11, descriptorIndex := 12, attributes := #[] }, { accessFlags := 18, nameIndex := 15, descriptorIndex := 16, attributes := #[] }, { accessFlags := 26, nameIndex := 117, descriptorIndex := 16, attributes := #[] }, { accessFlags := 26, nameIndex := 55, descriptorIndex := 16, attributes := #[] }, { accessFlags := 26, nameIndex := 95, descriptorIndex := 16, attributes := #[] }, { accessFlags := 26, nameIndex := 120, descriptorIndex := 121, attributes := #[] }])
  fields := #[{ name := "field", type := (.object "java/lang/String"), accessFlags := 18, slot := 0, constantValue := 0 }, { name := "modifiers", type := (.object "java/util/Set"), accessFlags := 18, slot := 1, constantValue := 0 }, { name := "COMPARISONS", type := (.object "java/util/Set"), accessFlags := 26, slot := 0, constantValue := 0 }, { name := "REGEX_OPTIONS", type := (.object "java/util/Set"), accessFlags := 26, slot := 1, constantValue := 0 }, { name := "KEYWORD_MODIFIERS", type := (.object "java/util/Set"), accessFlags := 26, slot := 2, constantValue := 0 }, { name := "CLASHES", type := (.object "java/util/Map"), accessFlags := 26, slot := 3, constantValue := 0 }]
  methods := #[k10m0, k10m1]
  instanceTypes := #[(.object "java/lang/String"), (.object "java/util/Set")]
  staticTypes := #[(.object "java/util/Set"), (.object "java/util/Set"), (.object "java/util/Set"), (.object "java/util/Map")]
  resolved := Array.replicate 258 none
  statics := none }

def pool11 : Array CpInfo := pool [(4, .class_ 6), (1, u "java/lang/Object"), (0, u "<init>"), (0, u "()V"), (5, .class_ 16), (1, u "java/lang/StringLatin1"), (104, u "$assertionsDisabled"), (0, u "Z"), (98, .class_ 223), (1, u "java/lang/StringLatin1$LinesSpliterator"), (166, .class_ 391), (0, u "java/lang/StringLatin1$CharsSpliterator")] 3

def k11m0 : Method := { name := "<init>", desc := "()V", sig := { parameters := [], returnType := none }, accessFlags := 0, code := none }
/-- java/lang/StringLatin1 -/
def k11 : Class := { plain "java/lang/StringLatin1" (some 0) with
  accessFlags := 48
  interfaces := #[]
  cf := some (fileOf pool11 14 #[.nestMembers #[390, 221]] #[{ accessFlags := 0, nameIndex := 7, descriptorIndex := 8, attributes := #[] }] 48 4 #[] #[{ accessFlags := 4120, nameIndex := 121, descriptorIndex := 122, attributes := #[] }])
  fields := #[{ name := "$assertionsDisabled", type := .boolean, accessFlags := 4120, slot := 0, constantValue := 0 }]
  methods := #[k11m0]
  instanceTypes := #[]
  staticTypes := #[.boolean]
  resolved := Array.replicate 395 none
  statics := none }

def pool12 : Array CpInfo := pool [(2, .class_ 4), (1, u "java/lang/Object"), (0, u "<init>"), (0, u "()V"), (17, .class_ 26), (1, u "jdk/internal/util/Preconditions"), (28, .class_ 56), (0, u "jdk/internal/util/Preconditions$4"), (57, .class_ 115), (0, u "jdk/internal/util/Preconditions$1"), (7, u "SIOOBE_FORMATTER"), (0, u "Ljava/util/function/BiFunction;"), (0, .class_ 126), (0, u "jdk/internal/util/Preconditions$2"), (3, u "AIOOBE_FORMATTER"), (0, .class_ 132), (0, u "jdk/internal/util/Preconditions$3"), (3, u "IOOBE_FORMATTER")] 57

def k12m0 : Method := { name := "<init>", desc := "()V", sig := { parameters := [], returnType := none }, accessFlags := 1, code := none }
/-- jdk/internal/util/Preconditions -/
def k12 : Class := { plain "jdk/internal/util/Preconditions" (some 0) with
  accessFlags := 33
  interfaces := #[]
  cf := some (fileOf pool12 24 #[.nestMembers #[55, 131, 125, 114]] #[{ accessFlags := 1, nameIndex := 5, descriptorIndex := 6, attributes := #[] }] 33 2 #[] #[{ accessFlags := 25, nameIndex := 123, descriptorIndex := 124, attributes := #[] }, { accessFlags := 25, nameIndex := 130, descriptorIndex := 124, attributes := #[] }, { accessFlags := 25, nameIndex := 136, descriptorIndex := 124, attributes := #[] }])
  fields := #[{ name := "SIOOBE_FORMATTER", type := (.object "java/util/function/BiFunction"), accessFlags := 25, slot := 0, constantValue := 0 }, { name := "AIOOBE_FORMATTER", type := (.object "java/util/function/BiFunction"), accessFlags := 25, slot := 1, constantValue := 0 }, { name := "IOOBE_FORMATTER", type := (.object "java/util/function/BiFunction"), accessFlags := 25, slot := 2, constantValue := 0 }]
  methods := #[k12m0]
  instanceTypes := #[]
  staticTypes := #[(.object "java/util/function/BiFunction"), (.object "java/util/function/BiFunction"), (.object "java/util/function/BiFunction")]
  resolved := Array.replicate 194 none
  statics := some 1 }

def pool13 : Array CpInfo := pool [(9, u "<init>"), (6, .class_ 18), (1, u "java/lang/Object"), (0, u "()V"), (1, .class_ 23), (1, u "jdk/internal/util/ArraysSupport"), (0, u "LOG2_ARRAY_LONG_INDEX_SCALE"), (0, u "I"), (2, u "U"), (0, u "Ljdk/internal/misc/Unsafe;"), (8, u "BIG_ENDIAN"), (0, u "Z"), (8, u "LOG2_BYTE_BIT_SIZE"), (4, u "LOG2_ARRAY_INT_INDEX_SCALE"), (54, u "JLA"), (0, u "Ljdk/internal/access/JavaLangAccess;"), (11, u "LOG2_ARRAY_BOOLEAN_INDEX_SCALE"), (9, u "LOG2_ARRAY_BYTE_INDEX_SCALE"), (5, u "LOG2_ARRAY_CHAR_INDEX_SCALE"), (5, u "LOG2_ARRAY_SHORT_INDEX_SCALE"), (18, u "LOG2_ARRAY_FLOAT_INDEX_SCALE"), (24, u "LOG2_ARRAY_DOUBLE_INDEX_SCALE"), (89, u "T_BOOLEAN"), (2, u "T_CHAR"), (1, u "T_FLOAT"), (1, u "T_DOUBLE"), (1, u "T_BYTE"), (1, u "T_SHORT"), (1, u "T_INT"), (1, u "T_LONG"), (1, u "SOFT_MAX_ARRAY_LENGTH")] 83

def k13m0 : Method := { name := "<init>", desc := "()V", sig := { parameters := [], returnType := none }, accessFlags := 2, code := none }
/-- jdk/internal/util/ArraysSupport -/
def k13 : Class := { plain "jdk/internal/util/ArraysSupport" (some 0) with
  accessFlags := 33
  interfaces := #[]
  cf := some (fileOf pool13 21 #[] #[{ accessFlags := 2, nameIndex := 9, descriptorIndex := 19, attributes := #[] }] 33 16 #[] #[{ accessFlags := 24, nameIndex := 28, descriptorIndex := 29, attributes := #[] }, { accessFlags := 26, nameIndex := 38, descriptorIndex := 39, attributes := #[] }, { accessFlags := 25, nameIndex := 121, descriptorIndex := 25, attributes := #[] }, { accessFlags := 25, nameIndex := 131, descriptorIndex := 25, attributes := #[] }, { accessFlags := 25, nameIndex := 137, descriptorIndex := 25, attributes := #[] }, { accessFlags := 25, nameIndex := 143, descriptorIndex := 25, attributes := #[] }, { accessFlags := 25, nameIndex := 53, descriptorIndex := 25, attributes := #[] }, { accessFlags := 25, nameIndex := 24, descriptorIndex := 25, attributes := #[] }, { accessFlags := 25, nameIndex := 162, descriptorIndex := 25, attributes := #[] }, { accessFlags := 25, nameIndex := 187, descriptorIndex := 25, attributes := #[] }, { accessFlags := 26, nameIndex := 48, descriptorIndex := 25, attributes := #[] }, { accessFlags := 25, nameIndex := 277, descriptorIndex := 25, attributes := #[] }, { accessFlags := 25, nameIndex := 280, descriptorIndex := 25, attributes := #[] }, { accessFlags := 25, nameIndex := 282, descriptorIndex := 25, attributes := #[] }, { accessFlags := 25, nameIndex := 284, descriptorIndex := 25, attributes := #[] }, { accessFlags := 25, nameIndex := 286, descriptorIndex := 25, attributes := #[] }, { accessFlags := 25, nameIndex := 288, descriptorIndex := 25, attributes := #[] }, { accessFlags := 25, nameIndex := 290, descriptorIndex := 25, attributes := #[] }, { accessFlags := 25, nameIndex := 292, descriptorIndex := 25, attributes := #[] }, { accessFlags := 26, nameIndex := 108, descriptorIndex := 109, attributes := #[] }, { accessFlags := 25, nameIndex := 294, descriptorIndex := 25, attributes := #[] }])
  fields := #[{ name := "U", type := (.object "jdk/internal/misc/Unsafe"), accessFlags := 24, slot := 0, constantValue := 0 }, { name := "BIG_ENDIAN", type := .boolean, accessFlags := 26, slot := 1, constantValue := 0 }, { name := "LOG2_ARRAY_BOOLEAN_INDEX_SCALE", type := .int, accessFlags := 25, slot := 2, constantValue := 0 }, { name := "LOG2_ARRAY_BYTE_INDEX_SCALE", type := .int, accessFlags := 25, slot := 3, constantValue := 0 }, { name := "LOG2_ARRAY_CHAR_INDEX_SCALE", type := .int, accessFlags := 25, slot := 4, constantValue := 0 }, { name := "LOG2_ARRAY_SHORT_INDEX_SCALE", type := .int, accessFlags := 25, slot := 5, constantValue := 0 }, { name := "LOG2_ARRAY_INT_INDEX_SCALE", type := .int, accessFlags := 25, slot := 6, constantValue := 0 }, { name := "LOG2_ARRAY_LONG_INDEX_SCALE", type := .int, accessFlags := 25, slot := 7, constantValue := 0 }, { name := "LOG2_ARRAY_FLOAT_INDEX_SCALE", type := .int, accessFlags := 25, slot := 8, constantValue := 0 }, { name := "LOG2_ARRAY_DOUBLE_INDEX_SCALE", type := .int, accessFlags := 25, slot := 9, constantValue := 0 }, { name := "LOG2_BYTE_BIT_SIZE", type := .int, accessFlags := 26, slot := 10, constantValue := 0 }, { name := "T_BOOLEAN", type := .int, accessFlags := 25, slot := 11, constantValue := 0 }, { name := "T_CHAR", type := .int, accessFlags := 25, slot := 12, constantValue := 0 }, { name := "T_FLOAT", type := .int, accessFlags := 25, slot := 13, constantValue := 0 }, { name := "T_DOUBLE", type := .int, accessFlags := 25, slot := 14, constantValue := 0 }, { name := "T_BYTE", type := .int, accessFlags := 25, slot := 15, constantValue := 0 }, { name := "T_SHORT", type := .int, accessFlags := 25, slot := 16, constantValue := 0 }, { name := "T_INT", type := .int, accessFlags := 25, slot := 17, constantValue := 0 }, { name := "T_LONG", type := .int, accessFlags := 25, slot := 18, constantValue := 0 }, { name := "JLA", type := (.object "jdk/internal/access/JavaLangAccess"), accessFlags := 26, slot := 19, constantValue := 0 }, { name := "SOFT_MAX_ARRAY_LENGTH", type := .int, accessFlags := 25, slot := 20, constantValue := 0 }]
  methods := #[k13m0]
  instanceTypes := #[]
  staticTypes := #[(.object "jdk/internal/misc/Unsafe"), .boolean, .int, .int, .int, .int, .int, .int, .int, .int, .int, .int, .int, .int, .int, .int, .int, .int, .int, (.object "jdk/internal/access/JavaLangAccess"), .int]
  resolved := Array.replicate 378 none
  statics := none }

def pool14 : Array CpInfo := pool [(1, u "java/lang/Cloneable"), (0, .class_ 1), (0, u "java/lang/Object"), (0, .class_ 3)] 3

/-- java/lang/Cloneable -/
def k14 : Class := { plain "java/lang/Cloneable" (some 0) with
  accessFlags := 1537
  interfaces := #[]
  cf := some (fileOf pool14 2 #[] #[] 1537 4 #[] #[])
  fields := #[]
  methods := #[]
  instanceTypes := #[]
  staticTypes := #[]
  resolved := Array.replicate 8 none
  statics := none }

/-- the primitive byte -/
def k15 : Class := { plain "byte" none with kind := .primitive 'B', accessFlags := 0x411 }
/-- [B -/
def k16 : Class := { plain "[B" (some 0) with kind := .array 15 .byte, interfaces := #[14, 2], accessFlags := 1041 }

/-- the primitive char -/
def k17 : Class := { plain "char" none with kind := .primitive 'C', accessFlags := 0x411 }
/-- [C -/
def k18 : Class := { plain "[C" (some 0) with kind := .array 17 .char, interfaces := #[14, 2], accessFlags := 1041 }

/-- the primitive int -/
def k19 : Class := { plain "int" none with kind := .primitive 'I', accessFlags := 0x411 }
/-- [I -/
def k20 : Class := { plain "[I" (some 0) with kind := .array 19 .int, interfaces := #[14, 2], accessFlags := 1041 }

def heap : Heap := #[{ cls := 7, slots := #[.long 0, .int 1, .null, .int 0, .null, .int 0, .int 0], vm := .statics 7 },
  { cls := 12, slots := #[.null, .null, .null], vm := .statics 12 }]
def classes : Array Class := #[k0, k1, k2, k3, k4, k5, k6, k7, k8, k9, k10, k11, k12, k13, k14, k15, k16, k17, k18, k19, k20]
def interned : List (Array UInt16 × Addr) := []
def slotsUsed : Nat := 10
def theMethod : MethodId := ⟨1, 1⟩
def args0 : Array Value := #[.int 0, .int 1, .int 65, .int 66, .int 67]
def aboutOver (below : List Frame) : State where
  vm := { classes := classes, interned := interned.toArray }
  heap := heap
  slotsUsed := slotsUsed
  threads := #[{ frames := .invoking theMethod args0 :: below }]
def below0 : List Frame := [.native { method := ⟨0, 0⟩, args := #[] }]
def about1 : State := aboutOver below0
def p0 : Program := .bare "" "" ""
def e0 : Env := launch0.env 0 0 0
theorem w_frames : about1.frames = Frame.invoking theMethod args0 :: below0 := rfl
set_option maxRecDepth 65536 in
theorem w_args : argsFit about1.vm theMethod args0 = true := by decide +kernel
set_option maxRecDepth 65536 in
theorem w_heap : heapFits about1 = true := by decide +kernel
set_option maxRecDepth 65536 in
theorem w_runnable : about1.curStatus? = some .runnable := by decide +kernel
set_option maxRecDepth 65536 in
theorem w_alone : about1.alone = true := by decide +kernel
set_option maxRecDepth 65536 in
theorem w_named : about1.methodNamed? x = some theMethod := by decide +kernel
set_option maxRecDepth 65536 in
theorem w_hears : about1.hears theMethod below0 = true := by decide +kernel
set_option maxRecDepth 65536 in
theorem w_ripe : about1.ripe theMethod args0 below0 = true := by decide +kernel
theorem w_running : about1.status = .running := rfl
set_option maxRecDepth 65536 in
theorem w_room : about1.hasRoom e0.platform room_1 = true :=
  launch0.hasRoom_least _ room_1 (by decide +kernel) (by decide +kernel) (by decide +kernel) (by decide +kernel) (by decide +kernel) (by decide +kernel)
theorem allAtoms_all (ts : List Jvm.Cond) (a : Array Jvm.Value) (st : Jvm.State) : (allAtoms ts).before a st = ts.all (fun c => c.before a st) := by
  induction ts with
  | nil => rfl
  | cons c t ih =>
    show (Jvm.Cond.and c (allAtoms t)).before a st = _
    rw [Jvm.Cond.before_and, ih, List.all_cons]
def words1 : List Jvm.Cond := Jvm.Cond.code x code maxLocals ret :: tables_1
/-- a 'code' word, met by the world's own term for the bytes: nothing is compared byte by byte -/
theorem code_word {y : MethodName} {bytes : ByteArray} {mx : Nat} {rt : Option FieldType} {a : Array Value} {s : State} {m : MethodId} {meth : Method} {c : Code} (h1 : s.methodNamed? y = some m) (h2 : s.vm.method? m = some meth) (h3 : meth.code = some c) (h4 : c.code = bytes)
    (h5 : (c.maxLocals == mx && c.exceptionTable.isEmpty && decide (c.maxStack ≤ mostOperands) && decide (meth.sig.returnType = rt) && !meth.locks && decide (parseMethodDescriptor y.desc = some meth.sig)) = true) : (Jvm.Cond.code y bytes mx rt).before a s = true := by
  simp only [Bool.and_eq_true, beq_iff_eq, Bool.not_eq_true', decide_eq_true_eq] at h5
  obtain ⟨⟨⟨⟨⟨g1, g2⟩, g3⟩, g4⟩, g5⟩, g6⟩ := h5
  simp [Cond.before, Cond.holds, Cond.value, h1, h2, h3, h4, g1, g2, g3, g4, g5, g6]
def isCode : Jvm.Cond → Bool
  | .code _ _ _ _ => true
  | _ => false
theorem all_split {L : List Jvm.Cond} {P : Jvm.Cond → Bool} (h1 : L.all (fun c => isCode c || P c) = true) (h2 : ∀ c ∈ L.filter isCode, P c = true) : L.all P = true := by
  refine List.all_eq_true.mpr fun c hc => ?_
  have h := List.all_eq_true.mp h1 c hc
  rcases Bool.eq_false_or_eq_true (isCode c) with hi | hi
  · exact h2 c (List.mem_filter.mpr ⟨hc, hi⟩)
  · simpa [hi] using h
set_option maxRecDepth 65536 in
theorem w_c0 : (Jvm.Cond.code x code maxLocals ret).before args0 about1 = true := code_word (m := ⟨1, 1⟩) (meth := k1m1) (c := k1c1) (by decide +kernel) rfl rfl rfl (by decide +kernel)
set_option maxRecDepth 65536 in
theorem w_c1 : (Jvm.Cond.code ({ cls := "java/lang/String", name := "<init>", desc := "([C)V" } : Jvm.MethodName) jdk_42_method_3_code (2 : Nat) (Option.none : Option Jvm.ClassFile.FieldType)).before args0 about1 = true := code_word (m := ⟨7, 1⟩) (meth := k7m1) (c := k7c1) (by decide +kernel) rfl rfl rfl (by decide +kernel)
set_option maxRecDepth 65536 in
theorem w_c2 : (Jvm.Cond.code ({ cls := "java/lang/String", name := "<init>", desc := "([CIILjava/lang/Void;)V" } : Jvm.MethodName) jdk_42_method_149_code (6 : Nat) (Option.none : Option Jvm.ClassFile.FieldType)).before args0 about1 = true := code_word (m := ⟨7, 2⟩) (meth := k7m2) (c := k7c2) (by decide +kernel) rfl rfl rfl (by decide +kernel)
set_option maxRecDepth 65536 in
theorem w_c3 : (Jvm.Cond.code ({ cls := "java/lang/Object", name := "<init>", desc := "()V" } : Jvm.MethodName) object_method_1_code (1 : Nat) (Option.none : Option Jvm.ClassFile.FieldType)).before args0 about1 = true := code_word (m := ⟨0, 0⟩) (meth := k0m0) (c := k0c0) (by decide +kernel) rfl rfl rfl (by decide +kernel)
set_option maxRecDepth 65536 in
theorem w_c4 : (Jvm.Cond.code ({ cls := "java/lang/StringUTF16", name := "compress", desc := "([CII)[B" } : Jvm.MethodName) jdk_52_method_16_code (6 : Nat) (Option.some (Jvm.ClassFile.FieldType.array Jvm.ClassFile.FieldType.byte))).before args0 about1 = true := code_word (m := ⟨8, 2⟩) (meth := k8m2) (c := k8c2) (by decide +kernel) rfl rfl rfl (by decide +kernel)
set_option maxRecDepth 65536 in
theorem w_c5 : (Jvm.Cond.code ({ cls := "java/lang/StringUTF16", name := "compress", desc := "([CI[BII)I" } : Jvm.MethodName) jdk_52_method_21_code (7 : Nat) (Option.some Jvm.ClassFile.FieldType.int)).before args0 about1 = true := code_word (m := ⟨8, 3⟩) (meth := k8m3) (c := k8c3) (by decide +kernel) rfl rfl rfl (by decide +kernel)
set_option maxRecDepth 65536 in
theorem w_c6 : (Jvm.Cond.code ({ cls := "java/lang/StringUTF16", name := "coderFromArrayLen", desc := "([BI)B" } : Jvm.MethodName) jdk_52_method_15_code (2 : Nat) (Option.some Jvm.ClassFile.FieldType.byte)).before args0 about1 = true := code_word (m := ⟨8, 1⟩) (meth := k8m1) (c := k8c1) (by decide +kernel) rfl rfl rfl (by decide +kernel)
set_option maxRecDepth 65536 in
theorem w_c7 : (Jvm.Cond.code ({ cls := "com/example/ward5/ward5/rule/FieldKey", name := "<init>", desc := "(Ljava/lang/String;Ljava/util/Set;)V" } : Jvm.MethodName) prog_21_method_1_code (3 : Nat) (Option.none : Option Jvm.ClassFile.FieldType)).before args0 about1 = true := code_word (m := ⟨10, 0⟩) (meth := k10m0) (c := k10c0) (by decide +kernel) rfl rfl rfl (by decide +kernel)
set_option maxRecDepth 65536 in
theorem w_c8 : (Jvm.Cond.code ({ cls := "java/lang/Record", name := "<init>", desc := "()V" } : Jvm.MethodName) jdk_30_method_1_code (1 : Nat) (Option.none : Option Jvm.ClassFile.FieldType)).before args0 about1 = true := code_word (m := ⟨9, 0⟩) (meth := k9m0) (c := k9c0) (by decide +kernel) rfl rfl rfl (by decide +kernel)
set_option maxRecDepth 65536 in
theorem w_c9 : (Jvm.Cond.code ({ cls := "com/example/ward5/ward5/rule/FieldKey", name := "searchesKeywords", desc := "()Z" } : Jvm.MethodName) prog_21_method_3_code (1 : Nat) (Option.some Jvm.ClassFile.FieldType.boolean)).before args0 about1 = true := code_word (m := ⟨10, 1⟩) (meth := k10m1) (c := k10c1) (by decide +kernel) rfl rfl rfl (by decide +kernel)
def codes1 : List Jvm.Cond := [Jvm.Cond.code x code maxLocals ret, Jvm.Cond.code ({ cls := "java/lang/String", name := "<init>", desc := "([C)V" } : Jvm.MethodName) jdk_42_method_3_code (2 : Nat) (Option.none : Option Jvm.ClassFile.FieldType), Jvm.Cond.code ({ cls := "java/lang/String", name := "<init>", desc := "([CIILjava/lang/Void;)V" } : Jvm.MethodName) jdk_42_method_149_code (6 : Nat) (Option.none : Option Jvm.ClassFile.FieldType), Jvm.Cond.code ({ cls := "java/lang/Object", name := "<init>", desc := "()V" } : Jvm.MethodName) object_method_1_code (1 : Nat) (Option.none : Option Jvm.ClassFile.FieldType), Jvm.Cond.code ({ cls := "java/lang/StringUTF16", name := "compress", desc := "([CII)[B" } : Jvm.MethodName) jdk_52_method_16_code (6 : Nat) (Option.some (Jvm.ClassFile.FieldType.array Jvm.ClassFile.FieldType.byte)), Jvm.Cond.code ({ cls := "java/lang/StringUTF16", name := "compress", desc := "([CI[BII)I" } : Jvm.MethodName) jdk_52_method_21_code (7 : Nat) (Option.some Jvm.ClassFile.FieldType.int), Jvm.Cond.code ({ cls := "java/lang/StringUTF16", name := "coderFromArrayLen", desc := "([BI)B" } : Jvm.MethodName) jdk_52_method_15_code (2 : Nat) (Option.some Jvm.ClassFile.FieldType.byte), Jvm.Cond.code ({ cls := "com/example/ward5/ward5/rule/FieldKey", name := "<init>", desc := "(Ljava/lang/String;Ljava/util/Set;)V" } : Jvm.MethodName) prog_21_method_1_code (3 : Nat) (Option.none : Option Jvm.ClassFile.FieldType), Jvm.Cond.code ({ cls := "java/lang/Record", name := "<init>", desc := "()V" } : Jvm.MethodName) jdk_30_method_1_code (1 : Nat) (Option.none : Option Jvm.ClassFile.FieldType), Jvm.Cond.code ({ cls := "com/example/ward5/ward5/rule/FieldKey", name := "searchesKeywords", desc := "()Z" } : Jvm.MethodName) prog_21_method_3_code (1 : Nat) (Option.some Jvm.ClassFile.FieldType.boolean)]
set_option maxRecDepth 65536 in
theorem codes_eq : words1.filter isCode = codes1 := rfl
theorem w_codes : ∀ c ∈ words1.filter isCode, c.before args0 about1 = true := by
  rw [codes_eq]
  intro c hc
  simp only [codes1, List.mem_cons, List.not_mem_nil, or_false] at hc
  rcases hc with rfl | rfl | rfl | rfl | rfl | rfl | rfl | rfl | rfl | rfl
  · exact w_c0
  · exact w_c1
  · exact w_c2
  · exact w_c3
  · exact w_c4
  · exact w_c5
  · exact w_c6
  · exact w_c7
  · exact w_c8
  · exact w_c9
set_option maxRecDepth 65536 in
theorem w_t1 : (words1.take 24).all (fun c => isCode c || c.before args0 about1) = true := by decide +kernel
set_option maxRecDepth 65536 in
theorem w_t2 : ((words1.drop 24).take 24).all (fun c => isCode c || c.before args0 about1) = true := by decide +kernel
set_option maxRecDepth 65536 in
theorem w_t3 : ((words1.drop 24).drop 24).all (fun c => isCode c || c.before args0 about1) = true := by decide +kernel
theorem w_tables : (allAtoms (Jvm.Cond.code x code maxLocals ret :: tables_1)).before args0 about1 = true := by
  rw [allAtoms_all]
  show words1.all (fun c => c.before args0 about1) = true
  refine all_split ?_ w_codes
  rw [← List.take_append_drop 24 words1, List.all_append, w_t1, ← List.take_append_drop 24 (words1.drop 24), List.all_append, w_t2, w_t3]
  rfl
set_option maxRecDepth 65536 in
theorem w_rest : rest_1_c.before args0 about1 = true := by decide +kernel
set_option maxRecDepth 65536 in
theorem w_case : (Jvm.Cond.and given_1 narrow_1).before args0 about1 = true := by decide +kernel
set_option maxRecDepth 65536 in
theorem w_consts : constsHeld consts_1 about1 := Jvm.Lit.constsHeldB_iff.mp (by decide +kernel)
theorem w_applies : (headSpec (Jvm.Cond.code x code maxLocals ret :: tables_1) room_1).applies x e0.platform about1 = true :=
  (Spec.applies_iff w_frames).mpr ⟨w_running, w_runnable, w_alone, w_named, w_hears, w_ripe, w_room, w_tables⟩
theorem atStart : AtStart classFile x code maxLocals ret World_1 tables_1 room_1 Calls_1 rest_1 Pre_1 launch0 p0 e0 about1 theMethod args0 below0 :=
  ⟨lists_1, trivial, launch0.admits_env _ _ _, launch0.least_env, fairChoices_fair.cas, fairChoices_fair.clock, w_frames, w_args, w_heap, w_applies, ⟨w_consts, trivial⟩, w_rest, w_case⟩
end start1
theorem witness_1 : WitnessClaimed_1 := ⟨start1.p0, start1.e0, start1.about1, start1.theMethod, start1.args0, start1.below0, start1.atStart⟩
end Jvm.Pilot.@@N@@
