import JvmDerived
import JvmDerived.Pilot.@@N@@Statement
import JvmDerived.Pilot.@@N@@Code
set_option linter.unusedVariables false
set_option linter.unusedSimpArgs false
namespace Jvm.Pilot.@@N@@
open Jvm Jvm.ClassFile Sem Op Lib Jvm.Free Jvm.Stand Jvm.LawKit Jvm.RoadKit Bundle Jvm.Pilot.@@N@@.Jvm.D
/-- from the state S the body comes to its end, and there G holds -/
def Go (p : Program) (e : Env) (below : List Frame) (G : Outcome → State → Prop) (S : State) : Prop := ∃ s₂ o, Steps p.tables e below S s₂ ∧ s₂.status = .running ∧ Ended s₂ below o ∧ G o s₂
theorem Go.step {p : Program} {e : Env} {below : List Frame} {G : Outcome → State → Prop} {S S' : State} (k : ∀ t, Steps p.tables e below S' t → Steps p.tables e below S t) (g : Go p e below G S') : Go p e below G S := by
  obtain ⟨s₂, o, h, r⟩ := g
  exact ⟨s₂, o, k _ h, r⟩
theorem Go.fin {p : Program} {e : Env} {below : List Frame} {G : Outcome → State → Prop} {S S' : State} {o : Outcome} (h : Steps p.tables e below S S') (h1 : S'.status = .running) (h2 : Ended S' below o) (h3 : G o S') : Go p e below G S := ⟨_, _, h, h1, h2, h3⟩
abbrev lv (x : Int64) : Slot := .val (.long x)
abbrev u_ : Slot := .unset
theorem own_w {Z : State} {a0 : Array Value} (hw : ∀ d ∈ tables_1, d.before a0 Z = true) (k : Nat) {d : Jvm.Cond} (h : tables_1[k]? = some d) : d.before a0 Z = true := hw d (List.mem_of_getElem? h)
theorem old_le {Z : State} {n0 : Nat} {h : Heap} (O : Old Z n0 h) : n0 ≤ h.size := O.1 ▸ O.2.1
theorem own_getR {p : Program} {l : Launch} {e : Env} {R : Room} {s : State} {m : MethodId} {args : Array Value} {below : List Frame} {meth : Method} {c : Code} {T : State} {locs : List Loc} {cells slots : Nat} {Z : State} {a0 : Array Value} {h : Heap}
    (X : Stand p l e R s m args below meth c T locs cells slots) (hx : p.tables.exec = Jvm.exec) (hZ : Z.Warmed39 s.vm) {own R0 n d : String} {index : Nat} (hown : s.vm.findClass own = some m.cls) (w : (Jvm.Cond.fieldRef own index R0 n d).before a0 Z = true)
    (eT : T.heap = h) {a : Addr} {v : Value} (F : Fld Z h a R0 n d v) {g : JFrame} (hg : g.method = m) {rest : List Value} (hs : g.stack = .ref a :: rest) (hd : decode c.code g.pc = .ok (.getfield index, 3)) : ∀ target, Steps p.tables e below (T.setTop { g with pc := g.pc + 3, stack := v :: rest }) target → Steps p.tables e below (T.setTop g) target := by
  obtain ⟨cell, cf, k, i, f, h1, h2, h3, h4, -, -, h7⟩ := F
  have hT : Z.Warmed39 T.vm := wtrans hZ X.warmed
  have w' := Cond.fieldRef_warmed39 hT w
  have ho : (Z.setVm T.vm).vm.findClass own = some m.cls := by show T.vm.findClass own = _; rw [X.warmed.alike.findClass]; exact hown
  obtain ⟨c1, k1, i1, f1, e1, hr⟩ := Cond.fieldRef_spec ho w'
  obtain ⟨k', hi, -⟩ := State.fieldFound?_setVm (s := Z) hT.alike h2
  cases e1.symm.trans hi
  intro target kk
  exact (X.getfieldR hx hg hr h3 hs (by rw [eT]; exact h1) h4 h7 hd (Steps.refl _)).trans kk
theorem own_selP {Z s : State} {a0 args : Array Value} {y : MethodName} {n : Nat} (hZ : Z.Warmed39 s.vm) (wi : (Jvm.Cond.instantiable y.cls n).before a0 Z = true) (wn : (Jvm.Cond.instanceMethod y).before a0 Z = true) (wp : (Jvm.Cond.privateMethod y).before a0 Z = true)
    (hy : y.cls ≠ "java/lang/invoke/MethodHandle" ∧ y.cls ≠ "java/lang/invoke/VarHandle") : (Jvm.Cond.selects y.cls y y).before args s = true := by
  have wi' : (Jvm.Cond.instantiable y.cls n).before args s = true := mv hZ wi
  obtain ⟨c, k, h1, h2, -, h4, -⟩ := Cond.instantiable_spec wi'
  exact Stand.selects_self_of_private h1 h2 (by simp only [Bool.or_eq_false_iff] at h4; exact h4.1) (Cond.privateMethod_at (args := args) (mvP hZ wp)) (mvT hZ wn) hy
theorem own_eqI {t : Term} {n : Int32} {args : Array Value} {s : State} (h : (Jvm.Cond.eq t (.int n)).value args s none s [] = some true) : t.eval args s none [] s = some (.int n) := by
  have hn : (Term.int n).eval args s none [] s = some (.int n) := rfl
  cases ht : t.eval args s none [] s with
  | none => simp [Cond.value, ht] at h
  | some v => cases v <;> simp [Cond.value, ht, hn] at h ⊢; exact h
theorem own_eqJ {t : Term} {n : Int64} {args : Array Value} {s : State} (h : (Jvm.Cond.eq t (.long n)).value args s none s [] = some true) : t.eval args s none [] s = some (.long n) := by
  have hn : (Term.long n).eval args s none [] s = some (.long n) := rfl
  cases ht : t.eval args s none [] s with
  | none => simp [Cond.value, ht] at h
  | some v => cases v <;> simp [Cond.value, ht, hn] at h ⊢; exact h
def own_sh (z : Int64) (k : Int32) : Int64 := (z.toUInt64 >>> (k &&& 0x3f).toInt64.toUInt64).toInt64
def own_mixA (z : Int64) : Int64 := (z ^^^ own_sh z 30) * (-4658895280553007687 : Int64)
def own_mixB (a : Int64) : Int64 := (a ^^^ own_sh a 27) * (-7723592293110705685 : Int64)
def own_mixC (b : Int64) : Int64 := b ^^^ own_sh b 31
def own_mix (z : Int64) : Int64 := own_mixC (own_mixB (own_mixA z))
theorem own_mix0 : own_mix 0 = 0 := by decide +kernel
def own_dr (z : Int64) : Int64 := (z.toUInt64 >>> ((1 : Int32) &&& 0x3f).toInt64.toUInt64).toInt64
theorem own_dr0 : own_dr 0 = 0 := by decide +kernel
def own_lf (b : Int32) : Int64 := ((9223372036854775807 : Int64) - ((((9223372036854775807 : Int64) - ((9223372036854775807 : Int64) / (b.toInt64)) * (b.toInt64)) + (1 : Int64)) - ((((9223372036854775807 : Int64) - ((9223372036854775807 : Int64) / (b.toInt64)) * (b.toInt64)) + (1 : Int64)) / (b.toInt64)) * (b.toInt64)))
theorem own_nz {b : Int32} (h : (0 : Int32) < b) : b.toInt64 ≠ 0 := fun q => by
  have h1 := c_i2l b
  rw [q] at h1
  simp only [Int32.lt_iff_toInt_lt, show (0 : Int32).toInt = 0 from rfl, show (0 : Int64).toInt = 0 from rfl] at h h1
  omega
theorem own_lfv {b : Int32} (h : (0 : Int32) < b) : (own_lf b).toInt = 9223372036854775807 - 9223372036854775808 % b.toInt := by
  have hb := c_i2l b
  have r0 := rng32 b
  simp only [Int32.lt_iff_toInt_lt, show (0 : Int32).toInt = 0 from rfl] at h
  have h1 := (c_lrem (9223372036854775807 : Int64) b.toInt64 b.toInt hb).1 (by decide)
  rw [show ((9223372036854775807 : Int64)).toInt = 9223372036854775807 from by decide] at h1
  have m1 := Int.emod_nonneg 9223372036854775807 (show b.toInt ≠ 0 by omega)
  have m2 := Int.emod_lt_of_pos 9223372036854775807 h
  unfold own_lf
  generalize ((9223372036854775807 : Int64) - ((9223372036854775807 : Int64) / (b.toInt64)) * (b.toInt64)) = u at *
  have h2 := c_ladd u 1
  rw [show (1 : Int64).toInt = 1 from by decide] at h2
  have r2 := rng64 (u + 1)
  have e2 : (u + 1).toInt = 9223372036854775807 % b.toInt + 1 := by omega
  have h3 := (c_lrem (u + 1) b.toInt64 b.toInt hb).1 (by omega)
  rw [e2, Int.emod_add_emod, show (9223372036854775807 : Int) + 1 = 9223372036854775808 from rfl] at h3
  have m3 := Int.emod_nonneg 9223372036854775808 (show b.toInt ≠ 0 by omega)
  have m4 := Int.emod_lt_of_pos 9223372036854775808 h
  generalize ((u + 1) - ((u + 1) / (b.toInt64)) * (b.toInt64)) = v at *
  have h4 := c_lsub (9223372036854775807 : Int64) v
  rw [show ((9223372036854775807 : Int64)).toInt = 9223372036854775807 from by decide] at h4
  have r4 := rng64 ((9223372036854775807 : Int64) - v)
  omega
theorem own_em (b : Int) : 4611686018427387904 % b * 2 % b = 9223372036854775808 % b := by
  rw [show (9223372036854775808 : Int) = 4611686018427387904 * 2 from rfl, Int.mul_emod, Int.emod_emod_of_dvd _ (Int.dvd_refl b), ← Int.mul_emod]
theorem own_A1 {b : Int32} {u : Int64} (h : (0 : Int32) < b) (hu : u.toInt = 4611686018427387904 % b.toInt) : (u * 2).toInt = 4611686018427387904 % b.toInt * 2 ∧ 0 ≤ (u * 2).toInt := by
  have r0 := rng32 b
  simp only [Int32.lt_iff_toInt_lt, show (0 : Int32).toInt = 0 from rfl] at h
  have m1 := Int.emod_nonneg 4611686018427387904 (show b.toInt ≠ 0 by omega)
  have m2 := Int.emod_lt_of_pos 4611686018427387904 h
  have h2 := c_lmul u 2
  rw [show (2 : Int64).toInt = 2 from by decide] at h2
  have r2 := rng64 (u * 2)
  generalize 4611686018427387904 % b.toInt = z at *
  omega
theorem own_A2 {b : Int32} {v r : Int64} (e2 : v.toInt = 4611686018427387904 % b.toInt * 2) (h0 : 0 ≤ v.toInt) (hr : (v - (v / (b.toInt64)) * (b.toInt64)) = r) : r.toInt = 9223372036854775808 % b.toInt := by
  have h3 := (c_lrem v b.toInt64 b.toInt (c_i2l b)).1 h0
  rw [hr, e2] at h3
  exact h3.trans (own_em _)
theorem own_A3 {x : Int} {r l : Int64} (h3 : r.toInt = x) (m3 : 0 ≤ x) (m4 : x < 2147483648) (hv : l.toInt = 9223372036854775807 - x) : ((9223372036854775807 : Int64) - r) = l := by
  have h4 := c_lsub (9223372036854775807 : Int64) r
  rw [show ((9223372036854775807 : Int64)).toInt = 9223372036854775807 from by decide] at h4
  have r4 := rng64 ((9223372036854775807 : Int64) - r)
  rw [← Int64.toInt_inj, hv]
  omega
theorem own_last {b : Int32} {r : Int64} (h : (0 : Int32) < b) (hr : ((((4611686018427387904 : Int64) - ((4611686018427387904 : Int64) / (b.toInt64)) * (b.toInt64)) * (2 : Int64)) - ((((4611686018427387904 : Int64) - ((4611686018427387904 : Int64) / (b.toInt64)) * (b.toInt64)) * (2 : Int64)) / (b.toInt64)) * (b.toInt64)) = r) : ((9223372036854775807 : Int64) - r) = own_lf b := by
  have h1 := (c_lrem (4611686018427387904 : Int64) b.toInt64 b.toInt (c_i2l b)).1 (by decide)
  rw [show (4611686018427387904 : Int64).toInt = 4611686018427387904 from by decide] at h1
  have a1 := own_A1 h h1
  have a2 := own_A2 a1.1 a1.2 hr
  have hv := own_lfv h
  have r0 := rng32 b
  simp only [Int32.lt_iff_toInt_lt, show (0 : Int32).toInt = 0 from rfl] at h
  exact own_A3 a2 (Int.emod_nonneg _ (by omega)) (Int.lt_trans (Int.emod_lt_of_pos _ h) (by omega)) hv
theorem own_lf0 {b : Int32} (h : (0 : Int32) < b) : ¬ (own_lf b < 0) := by
  have hv := own_lfv h
  have r0 := rng32 b
  simp only [Int32.lt_iff_toInt_lt, show (0 : Int32).toInt = 0 from rfl] at h
  have m4 := Int.emod_lt_of_pos (9223372036854775808) h
  rw [Int64.lt_iff_toInt_lt, show (0 : Int64).toInt = 0 from rfl]
  omega
def own_meas (q : Int64) : Nat := ((-q) * (-1018231460777725123 : Int64) - 1).toBitVec.toNat
theorem own_meas0 {q : Int64} (h : own_meas q = 0) : q + (-7046029254386353131 : Int64) = 0 := by
  have e : (-q) * (-1018231460777725123 : Int64) - 1 = 0 := Int64.toBitVec_inj.mp (BitVec.eq_of_toNat_eq h)
  have e1 : (-q) * (-1018231460777725123 : Int64) = 1 := by rw [← Int64.sub_add_cancel ((-q) * (-1018231460777725123 : Int64)) 1, e]; rfl
  have e2 : (-q) * (-1018231460777725123 : Int64) * (-7046029254386353131 : Int64) = (-7046029254386353131 : Int64) := by rw [e1, Int64.one_mul]
  rw [Int64.mul_assoc, show ((-1018231460777725123 : Int64) * (-7046029254386353131 : Int64) : Int64) = 1 from by decide +kernel, Int64.mul_one] at e2
  rw [← e2]; exact Int64.add_right_neg q
theorem own_meas1 {q : Int64} {n : Nat} (h : own_meas q = n + 1) : own_meas (q + (-7046029254386353131 : Int64)) = n := by
  unfold own_meas at *
  have e : (-(q + (-7046029254386353131 : Int64))) * (-1018231460777725123 : Int64) - 1 = ((-q) * (-1018231460777725123 : Int64) - 1) - 1 := by
    rw [Int64.neg_add, Int64.sub_mul, show ((-7046029254386353131 : Int64) * (-1018231460777725123 : Int64) : Int64) = 1 from by decide +kernel]
  rw [e]
  generalize ((-q) * (-1018231460777725123 : Int64) - 1) = w at *
  rw [show (w - 1).toBitVec = w.toBitVec - 1#64 from rfl, BitVec.toNat_sub, h, show (1#64).toNat = 1 from rfl]
  have := w.toBitVec.isLt
  omega
theorem own_stop {b : Int32} {q : Int64} (hb : (0 : Int32) < b) (h : own_meas q = 0) : ¬ (own_lf b < own_dr (own_mix (q + (-7046029254386353131 : Int64)))) := by
  rw [own_meas0 h, own_mix0, own_dr0]; exact own_lf0 hb
theorem pn_org_ninefold_service_SeededRandom : plainName "org/ninefold/service/SeededRandom" = true := by first | (simp [plainName, overriddenIn]; done) | decide +kernel
theorem d3_0 : decode prog_27_method_4_code 0 = .ok (.lload_n 0, 1) := by decide +kernel
theorem d3_1 : decode prog_27_method_4_code 1 = .ok (.lload_n 0, 1) := by decide +kernel
theorem d3_2 : decode prog_27_method_4_code 2 = .ok (.bipush 30, 2) := by decide +kernel
theorem d3_4 : decode prog_27_method_4_code 4 = .ok (.lushr, 1) := by decide +kernel
theorem d3_5 : decode prog_27_method_4_code 5 = .ok (.lxor, 1) := by decide +kernel
theorem d3_6 : decode prog_27_method_4_code 6 = .ok (.ldc2_w 32, 3) := by decide +kernel
theorem d3_9 : decode prog_27_method_4_code 9 = .ok (.lmul, 1) := by decide +kernel
theorem d3_10 : decode prog_27_method_4_code 10 = .ok (.lstore_n 0, 1) := by decide +kernel
theorem d3_11 : decode prog_27_method_4_code 11 = .ok (.lload_n 0, 1) := by decide +kernel
theorem d3_12 : decode prog_27_method_4_code 12 = .ok (.lload_n 0, 1) := by decide +kernel
theorem d3_13 : decode prog_27_method_4_code 13 = .ok (.bipush 27, 2) := by decide +kernel
theorem d3_15 : decode prog_27_method_4_code 15 = .ok (.lushr, 1) := by decide +kernel
theorem d3_16 : decode prog_27_method_4_code 16 = .ok (.lxor, 1) := by decide +kernel
theorem d3_17 : decode prog_27_method_4_code 17 = .ok (.ldc2_w 34, 3) := by decide +kernel
theorem d3_20 : decode prog_27_method_4_code 20 = .ok (.lmul, 1) := by decide +kernel
theorem d3_21 : decode prog_27_method_4_code 21 = .ok (.lstore_n 0, 1) := by decide +kernel
theorem d3_22 : decode prog_27_method_4_code 22 = .ok (.lload_n 0, 1) := by decide +kernel
theorem d3_23 : decode prog_27_method_4_code 23 = .ok (.lload_n 0, 1) := by decide +kernel
theorem d3_24 : decode prog_27_method_4_code 24 = .ok (.bipush 31, 2) := by decide +kernel
theorem d3_26 : decode prog_27_method_4_code 26 = .ok (.lushr, 1) := by decide +kernel
theorem d3_27 : decode prog_27_method_4_code 27 = .ok (.lxor, 1) := by decide +kernel
theorem d3_28 : decode prog_27_method_4_code 28 = .ok (.lreturn, 1) := by decide +kernel
theorem ef_rmMx (m : MethodId) (z : Int64) : entryFrame m #[(.long z)] 2 = mkF m 0 #[.val (.long z), .second] [] := by first | (simp [entryFrame, mkF, argsToLocals, Value.category]; done) | rfl
abbrev rm_rmMx : Room := ({ frames := 0, cells := 0, slots := 0, locals := 0 } : Room)
def Q_rmMx (Z : State) (z : Int64) (h0 : Heap) (n0 : Nat) (v : Option Value) (h : Heap) (L : List Loc) : Prop := (v = some (.long (own_mix z))) ∧ (Fr n0 L) ∧ (h = h0)
set_option maxRecDepth 65536 in
set_option maxHeartbeats 4000000 in
theorem rmMx (l : Launch) (Z : State) (a0 : Array Value) (hw : ∀ d ∈ tables_1, d.before a0 Z = true) (ws : List Jvm.Cond) (z : Int64) (h0 : Heap) (n0 : Nat) (O : Old Z n0 h0) :
    MetFree l (⟨"org/ninefold/service/SeededRandom", "mix", "(J)J"⟩ : MethodName) (head1 (Jvm.Cond.code (⟨"org/ninefold/service/SeededRandom", "mix", "(J)J"⟩ : MethodName) prog_27_method_4_code 2 (some .long) :: ws) rm_rmMx) (fun A_ U => A_ = #[(.long z)] ∧ Z.Warmed39 U.vm ∧ U.heap = h0) (fun _ _ _ _ _ => True) (fun _ U o U' => ∃ v L, o = .returned v ∧ Q_rmMx Z z h0 n0 v U'.heap L ∧ FrameEnd U o U' L rm_rmMx.cells rm_rmMx.slots) := by
  refine MetFree.of_bodySF (plainFor_of_name pn_org_ninefold_service_SeededRandom) hisR ?_
  intro p e s m args below meth c s₁ Bd hml0 hP hK
  obtain ⟨rfl, hZ, hh⟩ := hP
  have hx := Bd.exec
  have hby := Bd.bytes
  have hml : c.maxLocals = 2 := hml0
  have hown : s.vm.findClass "org/ninefold/service/SeededRandom" = some m.cls := findClass_of_methodNamed Bd.named
  have hnm := (name_of_methodNamed Bd.named Bd.method).1
  have X0 : Stand p l e rm_rmMx s m #[(.long z)] below meth c s₁ [] 0 0 := Stand.of_body Bd
  have e0 : s₁.heap = h0 := by rw [← hh, Bd.state]; rfl
  have N0 := Fr.nil n0
  refine Go.step (p := p) (e := e) (below := below) (G := fun o U' => ∃ v L, o = .returned v ∧ Q_rmMx Z z h0 n0 v U'.heap L ∧ FrameEnd s o U' L rm_rmMx.cells rm_rmMx.slots) (S' := s₁.setTop (mkF m 0 #[lv z, .second] [])) (fun t k => castTop (ef_rmMx m z) k) ?_
  refine Go.step (S' := s₁.setTop (mkF m 28 #[lv ((((z ^^^ ((z.toUInt64 >>> ((30 : Int32) &&& 0x3f).toInt64.toUInt64).toInt64)) * (-4658895280553007687 : Int64)) ^^^ ((((z ^^^ ((z.toUInt64 >>> ((30 : Int32) &&& 0x3f).toInt64.toUInt64).toInt64)) * (-4658895280553007687 : Int64)).toUInt64 >>> ((27 : Int32) &&& 0x3f).toInt64.toUInt64).toInt64)) * (-7723592293110705685 : Int64)), .second] [(.long (((((z ^^^ ((z.toUInt64 >>> ((30 : Int32) &&& 0x3f).toInt64.toUInt64).toInt64)) * (-4658895280553007687 : Int64)) ^^^ ((((z ^^^ ((z.toUInt64 >>> ((30 : Int32) &&& 0x3f).toInt64.toUInt64).toInt64)) * (-4658895280553007687 : Int64)).toUInt64 >>> ((27 : Int32) &&& 0x3f).toInt64.toUInt64).toInt64)) * (-7723592293110705685 : Int64)) ^^^ ((((((z ^^^ ((z.toUInt64 >>> ((30 : Int32) &&& 0x3f).toInt64.toUInt64).toInt64)) * (-4658895280553007687 : Int64)) ^^^ ((((z ^^^ ((z.toUInt64 >>> ((30 : Int32) &&& 0x3f).toInt64.toUInt64).toInt64)) * (-4658895280553007687 : Int64)).toUInt64 >>> ((27 : Int32) &&& 0x3f).toInt64.toUInt64).toInt64)) * (-7723592293110705685 : Int64)).toUInt64 >>> ((31 : Int32) &&& 0x3f).toInt64.toUInt64).toInt64)))])) (fun t k => ?_) ?_
  · show Steps p.tables e below (s₁.setTop (mkF m 0 #[lv z, .second] [])) _
    refine XS.lloadN X0.here hx rfl (hb hby d3_0) rfl ?_
    show Steps p.tables e below (s₁.setTop (mkF m 1 #[lv z, .second] [(.long z)])) _
    refine XS.lloadN X0.here hx rfl (hb hby d3_1) rfl ?_
    show Steps p.tables e below (s₁.setTop (mkF m 2 #[lv z, .second] [(.long z), (.long z)])) _
    refine XS.bipush X0.here hx rfl (hb hby d3_2) ?_
    show Steps p.tables e below (s₁.setTop (mkF m 4 #[lv z, .second] [(.int (30 : Int32)), (.long z), (.long z)])) _
    refine XS.lushr X0.here hx rfl (hb hby d3_4) rfl ?_
    show Steps p.tables e below (s₁.setTop (mkF m 5 #[lv z, .second] [(.long ((z.toUInt64 >>> ((30 : Int32) &&& 0x3f).toInt64.toUInt64).toInt64)), (.long z)])) _
    refine XS.lxor X0.here hx rfl (hb hby d3_5) rfl ?_
    show Steps p.tables e below (s₁.setTop (mkF m 6 #[lv z, .second] [(.long (z ^^^ ((z.toUInt64 >>> ((30 : Int32) &&& 0x3f).toInt64.toUInt64).toInt64)))])) _
    refine X0.ldc2Long hx hown (mvT hZ (own_w hw 16 rfl)) (g := (mkF m 6 #[lv z, .second] [(.long (z ^^^ ((z.toUInt64 >>> ((30 : Int32) &&& 0x3f).toInt64.toUInt64).toInt64)))])) rfl (hb hby d3_6) _ ?_
    show Steps p.tables e below (s₁.setTop (mkF m 9 #[lv z, .second] [(.long (-4658895280553007687 : Int64)), (.long (z ^^^ ((z.toUInt64 >>> ((30 : Int32) &&& 0x3f).toInt64.toUInt64).toInt64)))])) _
    refine XS.lmul X0.here hx rfl (hb hby d3_9) rfl ?_
    show Steps p.tables e below (s₁.setTop (mkF m 10 #[lv z, .second] [(.long ((z ^^^ ((z.toUInt64 >>> ((30 : Int32) &&& 0x3f).toInt64.toUInt64).toInt64)) * (-4658895280553007687 : Int64)))])) _
    refine XS.lstoreN X0.here hx rfl (hb hby d3_10) rfl (l' := #[lv ((z ^^^ ((z.toUInt64 >>> ((30 : Int32) &&& 0x3f).toInt64.toUInt64).toInt64)) * (-4658895280553007687 : Int64)), .second]) rfl ?_
    show Steps p.tables e below (s₁.setTop (mkF m 11 #[lv ((z ^^^ ((z.toUInt64 >>> ((30 : Int32) &&& 0x3f).toInt64.toUInt64).toInt64)) * (-4658895280553007687 : Int64)), .second] [])) _
    refine XS.lloadN X0.here hx rfl (hb hby d3_11) rfl ?_
    show Steps p.tables e below (s₁.setTop (mkF m 12 #[lv ((z ^^^ ((z.toUInt64 >>> ((30 : Int32) &&& 0x3f).toInt64.toUInt64).toInt64)) * (-4658895280553007687 : Int64)), .second] [(.long ((z ^^^ ((z.toUInt64 >>> ((30 : Int32) &&& 0x3f).toInt64.toUInt64).toInt64)) * (-4658895280553007687 : Int64)))])) _
    refine XS.lloadN X0.here hx rfl (hb hby d3_12) rfl ?_
    show Steps p.tables e below (s₁.setTop (mkF m 13 #[lv ((z ^^^ ((z.toUInt64 >>> ((30 : Int32) &&& 0x3f).toInt64.toUInt64).toInt64)) * (-4658895280553007687 : Int64)), .second] [(.long ((z ^^^ ((z.toUInt64 >>> ((30 : Int32) &&& 0x3f).toInt64.toUInt64).toInt64)) * (-4658895280553007687 : Int64))), (.long ((z ^^^ ((z.toUInt64 >>> ((30 : Int32) &&& 0x3f).toInt64.toUInt64).toInt64)) * (-4658895280553007687 : Int64)))])) _
    refine XS.bipush X0.here hx rfl (hb hby d3_13) ?_
    show Steps p.tables e below (s₁.setTop (mkF m 15 #[lv ((z ^^^ ((z.toUInt64 >>> ((30 : Int32) &&& 0x3f).toInt64.toUInt64).toInt64)) * (-4658895280553007687 : Int64)), .second] [(.int (27 : Int32)), (.long ((z ^^^ ((z.toUInt64 >>> ((30 : Int32) &&& 0x3f).toInt64.toUInt64).toInt64)) * (-4658895280553007687 : Int64))), (.long ((z ^^^ ((z.toUInt64 >>> ((30 : Int32) &&& 0x3f).toInt64.toUInt64).toInt64)) * (-4658895280553007687 : Int64)))])) _
    refine XS.lushr X0.here hx rfl (hb hby d3_15) rfl ?_
    show Steps p.tables e below (s₁.setTop (mkF m 16 #[lv ((z ^^^ ((z.toUInt64 >>> ((30 : Int32) &&& 0x3f).toInt64.toUInt64).toInt64)) * (-4658895280553007687 : Int64)), .second] [(.long ((((z ^^^ ((z.toUInt64 >>> ((30 : Int32) &&& 0x3f).toInt64.toUInt64).toInt64)) * (-4658895280553007687 : Int64)).toUInt64 >>> ((27 : Int32) &&& 0x3f).toInt64.toUInt64).toInt64)), (.long ((z ^^^ ((z.toUInt64 >>> ((30 : Int32) &&& 0x3f).toInt64.toUInt64).toInt64)) * (-4658895280553007687 : Int64)))])) _
    refine XS.lxor X0.here hx rfl (hb hby d3_16) rfl ?_
    show Steps p.tables e below (s₁.setTop (mkF m 17 #[lv ((z ^^^ ((z.toUInt64 >>> ((30 : Int32) &&& 0x3f).toInt64.toUInt64).toInt64)) * (-4658895280553007687 : Int64)), .second] [(.long (((z ^^^ ((z.toUInt64 >>> ((30 : Int32) &&& 0x3f).toInt64.toUInt64).toInt64)) * (-4658895280553007687 : Int64)) ^^^ ((((z ^^^ ((z.toUInt64 >>> ((30 : Int32) &&& 0x3f).toInt64.toUInt64).toInt64)) * (-4658895280553007687 : Int64)).toUInt64 >>> ((27 : Int32) &&& 0x3f).toInt64.toUInt64).toInt64)))])) _
    refine X0.ldc2Long hx hown (mvT hZ (own_w hw 17 rfl)) (g := (mkF m 17 #[lv ((z ^^^ ((z.toUInt64 >>> ((30 : Int32) &&& 0x3f).toInt64.toUInt64).toInt64)) * (-4658895280553007687 : Int64)), .second] [(.long (((z ^^^ ((z.toUInt64 >>> ((30 : Int32) &&& 0x3f).toInt64.toUInt64).toInt64)) * (-4658895280553007687 : Int64)) ^^^ ((((z ^^^ ((z.toUInt64 >>> ((30 : Int32) &&& 0x3f).toInt64.toUInt64).toInt64)) * (-4658895280553007687 : Int64)).toUInt64 >>> ((27 : Int32) &&& 0x3f).toInt64.toUInt64).toInt64)))])) rfl (hb hby d3_17) _ ?_
    show Steps p.tables e below (s₁.setTop (mkF m 20 #[lv ((z ^^^ ((z.toUInt64 >>> ((30 : Int32) &&& 0x3f).toInt64.toUInt64).toInt64)) * (-4658895280553007687 : Int64)), .second] [(.long (-7723592293110705685 : Int64)), (.long (((z ^^^ ((z.toUInt64 >>> ((30 : Int32) &&& 0x3f).toInt64.toUInt64).toInt64)) * (-4658895280553007687 : Int64)) ^^^ ((((z ^^^ ((z.toUInt64 >>> ((30 : Int32) &&& 0x3f).toInt64.toUInt64).toInt64)) * (-4658895280553007687 : Int64)).toUInt64 >>> ((27 : Int32) &&& 0x3f).toInt64.toUInt64).toInt64)))])) _
    refine XS.lmul X0.here hx rfl (hb hby d3_20) rfl ?_
    show Steps p.tables e below (s₁.setTop (mkF m 21 #[lv ((z ^^^ ((z.toUInt64 >>> ((30 : Int32) &&& 0x3f).toInt64.toUInt64).toInt64)) * (-4658895280553007687 : Int64)), .second] [(.long ((((z ^^^ ((z.toUInt64 >>> ((30 : Int32) &&& 0x3f).toInt64.toUInt64).toInt64)) * (-4658895280553007687 : Int64)) ^^^ ((((z ^^^ ((z.toUInt64 >>> ((30 : Int32) &&& 0x3f).toInt64.toUInt64).toInt64)) * (-4658895280553007687 : Int64)).toUInt64 >>> ((27 : Int32) &&& 0x3f).toInt64.toUInt64).toInt64)) * (-7723592293110705685 : Int64)))])) _
    refine XS.lstoreN X0.here hx rfl (hb hby d3_21) rfl (l' := #[lv ((((z ^^^ ((z.toUInt64 >>> ((30 : Int32) &&& 0x3f).toInt64.toUInt64).toInt64)) * (-4658895280553007687 : Int64)) ^^^ ((((z ^^^ ((z.toUInt64 >>> ((30 : Int32) &&& 0x3f).toInt64.toUInt64).toInt64)) * (-4658895280553007687 : Int64)).toUInt64 >>> ((27 : Int32) &&& 0x3f).toInt64.toUInt64).toInt64)) * (-7723592293110705685 : Int64)), .second]) rfl ?_
    show Steps p.tables e below (s₁.setTop (mkF m 22 #[lv ((((z ^^^ ((z.toUInt64 >>> ((30 : Int32) &&& 0x3f).toInt64.toUInt64).toInt64)) * (-4658895280553007687 : Int64)) ^^^ ((((z ^^^ ((z.toUInt64 >>> ((30 : Int32) &&& 0x3f).toInt64.toUInt64).toInt64)) * (-4658895280553007687 : Int64)).toUInt64 >>> ((27 : Int32) &&& 0x3f).toInt64.toUInt64).toInt64)) * (-7723592293110705685 : Int64)), .second] [])) _
    refine XS.lloadN X0.here hx rfl (hb hby d3_22) rfl ?_
    show Steps p.tables e below (s₁.setTop (mkF m 23 #[lv ((((z ^^^ ((z.toUInt64 >>> ((30 : Int32) &&& 0x3f).toInt64.toUInt64).toInt64)) * (-4658895280553007687 : Int64)) ^^^ ((((z ^^^ ((z.toUInt64 >>> ((30 : Int32) &&& 0x3f).toInt64.toUInt64).toInt64)) * (-4658895280553007687 : Int64)).toUInt64 >>> ((27 : Int32) &&& 0x3f).toInt64.toUInt64).toInt64)) * (-7723592293110705685 : Int64)), .second] [(.long ((((z ^^^ ((z.toUInt64 >>> ((30 : Int32) &&& 0x3f).toInt64.toUInt64).toInt64)) * (-4658895280553007687 : Int64)) ^^^ ((((z ^^^ ((z.toUInt64 >>> ((30 : Int32) &&& 0x3f).toInt64.toUInt64).toInt64)) * (-4658895280553007687 : Int64)).toUInt64 >>> ((27 : Int32) &&& 0x3f).toInt64.toUInt64).toInt64)) * (-7723592293110705685 : Int64)))])) _
    refine XS.lloadN X0.here hx rfl (hb hby d3_23) rfl ?_
    show Steps p.tables e below (s₁.setTop (mkF m 24 #[lv ((((z ^^^ ((z.toUInt64 >>> ((30 : Int32) &&& 0x3f).toInt64.toUInt64).toInt64)) * (-4658895280553007687 : Int64)) ^^^ ((((z ^^^ ((z.toUInt64 >>> ((30 : Int32) &&& 0x3f).toInt64.toUInt64).toInt64)) * (-4658895280553007687 : Int64)).toUInt64 >>> ((27 : Int32) &&& 0x3f).toInt64.toUInt64).toInt64)) * (-7723592293110705685 : Int64)), .second] [(.long ((((z ^^^ ((z.toUInt64 >>> ((30 : Int32) &&& 0x3f).toInt64.toUInt64).toInt64)) * (-4658895280553007687 : Int64)) ^^^ ((((z ^^^ ((z.toUInt64 >>> ((30 : Int32) &&& 0x3f).toInt64.toUInt64).toInt64)) * (-4658895280553007687 : Int64)).toUInt64 >>> ((27 : Int32) &&& 0x3f).toInt64.toUInt64).toInt64)) * (-7723592293110705685 : Int64))), (.long ((((z ^^^ ((z.toUInt64 >>> ((30 : Int32) &&& 0x3f).toInt64.toUInt64).toInt64)) * (-4658895280553007687 : Int64)) ^^^ ((((z ^^^ ((z.toUInt64 >>> ((30 : Int32) &&& 0x3f).toInt64.toUInt64).toInt64)) * (-4658895280553007687 : Int64)).toUInt64 >>> ((27 : Int32) &&& 0x3f).toInt64.toUInt64).toInt64)) * (-7723592293110705685 : Int64)))])) _
    refine XS.bipush X0.here hx rfl (hb hby d3_24) ?_
    show Steps p.tables e below (s₁.setTop (mkF m 26 #[lv ((((z ^^^ ((z.toUInt64 >>> ((30 : Int32) &&& 0x3f).toInt64.toUInt64).toInt64)) * (-4658895280553007687 : Int64)) ^^^ ((((z ^^^ ((z.toUInt64 >>> ((30 : Int32) &&& 0x3f).toInt64.toUInt64).toInt64)) * (-4658895280553007687 : Int64)).toUInt64 >>> ((27 : Int32) &&& 0x3f).toInt64.toUInt64).toInt64)) * (-7723592293110705685 : Int64)), .second] [(.int (31 : Int32)), (.long ((((z ^^^ ((z.toUInt64 >>> ((30 : Int32) &&& 0x3f).toInt64.toUInt64).toInt64)) * (-4658895280553007687 : Int64)) ^^^ ((((z ^^^ ((z.toUInt64 >>> ((30 : Int32) &&& 0x3f).toInt64.toUInt64).toInt64)) * (-4658895280553007687 : Int64)).toUInt64 >>> ((27 : Int32) &&& 0x3f).toInt64.toUInt64).toInt64)) * (-7723592293110705685 : Int64))), (.long ((((z ^^^ ((z.toUInt64 >>> ((30 : Int32) &&& 0x3f).toInt64.toUInt64).toInt64)) * (-4658895280553007687 : Int64)) ^^^ ((((z ^^^ ((z.toUInt64 >>> ((30 : Int32) &&& 0x3f).toInt64.toUInt64).toInt64)) * (-4658895280553007687 : Int64)).toUInt64 >>> ((27 : Int32) &&& 0x3f).toInt64.toUInt64).toInt64)) * (-7723592293110705685 : Int64)))])) _
    refine XS.lushr X0.here hx rfl (hb hby d3_26) rfl ?_
    show Steps p.tables e below (s₁.setTop (mkF m 27 #[lv ((((z ^^^ ((z.toUInt64 >>> ((30 : Int32) &&& 0x3f).toInt64.toUInt64).toInt64)) * (-4658895280553007687 : Int64)) ^^^ ((((z ^^^ ((z.toUInt64 >>> ((30 : Int32) &&& 0x3f).toInt64.toUInt64).toInt64)) * (-4658895280553007687 : Int64)).toUInt64 >>> ((27 : Int32) &&& 0x3f).toInt64.toUInt64).toInt64)) * (-7723592293110705685 : Int64)), .second] [(.long ((((((z ^^^ ((z.toUInt64 >>> ((30 : Int32) &&& 0x3f).toInt64.toUInt64).toInt64)) * (-4658895280553007687 : Int64)) ^^^ ((((z ^^^ ((z.toUInt64 >>> ((30 : Int32) &&& 0x3f).toInt64.toUInt64).toInt64)) * (-4658895280553007687 : Int64)).toUInt64 >>> ((27 : Int32) &&& 0x3f).toInt64.toUInt64).toInt64)) * (-7723592293110705685 : Int64)).toUInt64 >>> ((31 : Int32) &&& 0x3f).toInt64.toUInt64).toInt64)), (.long ((((z ^^^ ((z.toUInt64 >>> ((30 : Int32) &&& 0x3f).toInt64.toUInt64).toInt64)) * (-4658895280553007687 : Int64)) ^^^ ((((z ^^^ ((z.toUInt64 >>> ((30 : Int32) &&& 0x3f).toInt64.toUInt64).toInt64)) * (-4658895280553007687 : Int64)).toUInt64 >>> ((27 : Int32) &&& 0x3f).toInt64.toUInt64).toInt64)) * (-7723592293110705685 : Int64)))])) _
    refine XS.lxor X0.here hx rfl (hb hby d3_27) rfl ?_
    exact k
  obtain ⟨fs, hr, hrun, hended, hW, hsame⟩ := X0.leave (v := some (.long (((((z ^^^ ((z.toUInt64 >>> ((30 : Int32) &&& 0x3f).toInt64.toUInt64).toInt64)) * (-4658895280553007687 : Int64)) ^^^ ((((z ^^^ ((z.toUInt64 >>> ((30 : Int32) &&& 0x3f).toInt64.toUInt64).toInt64)) * (-4658895280553007687 : Int64)).toUInt64 >>> ((27 : Int32) &&& 0x3f).toInt64.toUInt64).toInt64)) * (-7723592293110705685 : Int64)) ^^^ ((((((z ^^^ ((z.toUInt64 >>> ((30 : Int32) &&& 0x3f).toInt64.toUInt64).toInt64)) * (-4658895280553007687 : Int64)) ^^^ ((((z ^^^ ((z.toUInt64 >>> ((30 : Int32) &&& 0x3f).toInt64.toUInt64).toInt64)) * (-4658895280553007687 : Int64)).toUInt64 >>> ((27 : Int32) &&& 0x3f).toInt64.toUInt64).toInt64)) * (-7723592293110705685 : Int64)).toUInt64 >>> ((31 : Int32) &&& 0x3f).toInt64.toUInt64).toInt64)))) (fun h => by rw [Bd.returns] at h; cases h)
  refine Go.fin (S' := s₁.setFrames fs) ?_ hrun hended ⟨_, _, rfl, ?_, ⟨_, rfl⟩, hW, hsame.mono (by decide) (by decide)⟩
  · exact retOut X0 hx Bd.returns rfl (Or.inr (Or.inl ⟨rfl, rfl, _, rfl⟩)) (hb hby d3_28) hr
  · show Q_rmMx Z z h0 n0 (some (.long (((((z ^^^ ((z.toUInt64 >>> ((30 : Int32) &&& 0x3f).toInt64.toUInt64).toInt64)) * (-4658895280553007687 : Int64)) ^^^ ((((z ^^^ ((z.toUInt64 >>> ((30 : Int32) &&& 0x3f).toInt64.toUInt64).toInt64)) * (-4658895280553007687 : Int64)).toUInt64 >>> ((27 : Int32) &&& 0x3f).toInt64.toUInt64).toInt64)) * (-7723592293110705685 : Int64)) ^^^ ((((((z ^^^ ((z.toUInt64 >>> ((30 : Int32) &&& 0x3f).toInt64.toUInt64).toInt64)) * (-4658895280553007687 : Int64)) ^^^ ((((z ^^^ ((z.toUInt64 >>> ((30 : Int32) &&& 0x3f).toInt64.toUInt64).toInt64)) * (-4658895280553007687 : Int64)).toUInt64 >>> ((27 : Int32) &&& 0x3f).toInt64.toUInt64).toInt64)) * (-7723592293110705685 : Int64)).toUInt64 >>> ((31 : Int32) &&& 0x3f).toInt64.toUInt64).toInt64)))) s₁.heap _
    rw [e0]
    exact ⟨rfl, N0, rfl⟩
theorem d1_0 : decode prog_27_method_1_code 0 = .ok (.aload_n 0, 1) := by decide +kernel
theorem d1_1 : decode prog_27_method_1_code 1 = .ok (.invokespecial 1, 3) := by decide +kernel
theorem d1_4 : decode prog_27_method_1_code 4 = .ok (.aload_n 0, 1) := by decide +kernel
theorem d1_5 : decode prog_27_method_1_code 5 = .ok (.lload_n 1, 1) := by decide +kernel
theorem d1_6 : decode prog_27_method_1_code 6 = .ok (.invokestatic 7, 3) := by decide +kernel
theorem pd__28J_29J : parseMethodDescriptor "(J)J" = some ⟨[.long], some .long⟩ := by decide +kernel
theorem d1_9 : decode prog_27_method_1_code 9 = .ok (.aload 5, 2) := by decide +kernel
theorem d1_11 : decode prog_27_method_1_code 11 = .ok (.getfield 13, 3) := by decide +kernel
theorem d1_14 : decode prog_27_method_1_code 14 = .ok (.lxor, 1) := by decide +kernel
theorem d1_15 : decode prog_27_method_1_code 15 = .ok (.ldc2_w 19, 3) := by decide +kernel
theorem d1_18 : decode prog_27_method_1_code 18 = .ok (.lload_n 3, 1) := by decide +kernel
theorem d1_19 : decode prog_27_method_1_code 19 = .ok (.lmul, 1) := by decide +kernel
theorem d1_20 : decode prog_27_method_1_code 20 = .ok (.ladd, 1) := by decide +kernel
theorem d1_21 : decode prog_27_method_1_code 21 = .ok (.invokestatic 7, 3) := by decide +kernel
theorem d1_24 : decode prog_27_method_1_code 24 = .ok (.putfield 21, 3) := by decide +kernel
theorem d1_27 : decode prog_27_method_1_code 27 = .ok (.return_, 1) := by decide +kernel
theorem ef_rmInit (m : MethodId) (a : Addr) (sd : Int64) (ix : Int64) (w : Addr) : entryFrame m #[(.ref a), (.long sd), (.long ix), (.ref w)] 6 = mkF m 0 #[.val (.ref a), .val (.long sd), .second, .val (.long ix), .second, .val (.ref w)] [] := by first | (simp [entryFrame, mkF, argsToLocals, Value.category]; done) | rfl
abbrev rm_rmInit : Room := ({ frames := 1, cells := 0, slots := 0, locals := 14 } : Room)
def Q_rmInit (Z : State) (a : Addr) (sd : Int64) (ix : Int64) (w : Addr) (kv : Int64) (h0 : Heap) (n0 : Nat) (v : Option Value) (h : Heap) (L : List Loc) : Prop := (v = none) ∧ (Fr n0 L) ∧ (Keep h0 h [a]) ∧ (Exa Z h a "org/ninefold/service/SeededRandom") ∧ (Fld Z h a "org/ninefold/service/SeededRandom" "state" "J" (.long (own_mix (((own_mix sd) ^^^ kv) + ((-7046029254386353131 : Int64) * ix)))))
set_option maxRecDepth 65536 in
set_option maxHeartbeats 4000000 in
theorem rmInit (l : Launch) (Z : State) (a0 : Array Value) (hw : ∀ d ∈ tables_1, d.before a0 Z = true) (ws : List Jvm.Cond) (a : Addr) (sd : Int64) (ix : Int64) (w : Addr) (kv : Int64) (h0 : Heap) (n0 : Nat) (O : Old Z n0 h0) (E_a : Exa Z h0 a "org/ninefold/service/SeededRandom") (F_state_a : Fld Z h0 a "org/ninefold/service/SeededRandom" "state" "J" (.long (0 : Int64))) (F_key_w : Fld Z Z.heap w "org/ninefold/service/SeededRandom$Purpose" "key" "J" (.long kv)) (g_a : n0 ≤ a) :
    MetFree l (⟨"org/ninefold/service/SeededRandom", "<init>", "(JJLorg/ninefold/service/SeededRandom$Purpose;)V"⟩ : MethodName) (head1 (Jvm.Cond.code (⟨"org/ninefold/service/SeededRandom", "<init>", "(JJLorg/ninefold/service/SeededRandom$Purpose;)V"⟩ : MethodName) prog_27_method_1_code 6 none :: ws) rm_rmInit) (fun A_ U => A_ = #[(.ref a), (.long sd), (.long ix), (.ref w)] ∧ Z.Warmed39 U.vm ∧ U.heap = h0) (fun _ _ _ _ _ => True) (fun _ U o U' => ∃ v L, o = .returned v ∧ Q_rmInit Z a sd ix w kv h0 n0 v U'.heap L ∧ FrameEnd U o U' L rm_rmInit.cells rm_rmInit.slots) := by
  refine MetFree.of_bodySF (plainFor_of_name pn_org_ninefold_service_SeededRandom) hisR ?_
  intro p e s m args below meth c s₁ Bd hml0 hP hK
  obtain ⟨rfl, hZ, hh⟩ := hP
  have hx := Bd.exec
  have hby := Bd.bytes
  have hml : c.maxLocals = 6 := hml0
  have hown : s.vm.findClass "org/ninefold/service/SeededRandom" = some m.cls := findClass_of_methodNamed Bd.named
  have hnm := (name_of_methodNamed Bd.named Bd.method).1
  have X0 : Stand p l e rm_rmInit s m #[(.ref a), (.long sd), (.long ix), (.ref w)] below meth c s₁ [] 0 0 := Stand.of_body Bd
  have e0 : s₁.heap = h0 := by rw [← hh, Bd.state]; rfl
  have N0 := Fr.nil n0
  have K := Keep.refl h0 [a]
  refine Go.step (p := p) (e := e) (below := below) (G := fun o U' => ∃ v L, o = .returned v ∧ Q_rmInit Z a sd ix w kv h0 n0 v U'.heap L ∧ FrameEnd s o U' L rm_rmInit.cells rm_rmInit.slots) (S' := s₁.setTop (mkF m 0 #[rv a, lv sd, .second, lv ix, .second, rv w] [])) (fun t k => castTop (ef_rmInit m a sd ix w) k) ?_
  refine Go.step (S' := s₁.setTop (mkF m 1 #[rv a, lv sd, .second, lv ix, .second, rv w] [(.ref a)])) (fun t k => ?_) ?_
  · show Steps p.tables e below (s₁.setTop (mkF m 0 #[rv a, lv sd, .second, lv ix, .second, rv w] [])) _
    refine XS.aloadN X0.here hx rfl (hb hby d1_0) rfl rfl ?_
    exact k
  obtain ⟨T1, X1, e1, st1⟩ := initO X0 hx hZ hown (own_w hw 10 rfl) (own_w hw 11 rfl) (own_w hw 12 rfl) e0 (g := (mkF m 1 #[rv a, lv sd, .second, lv ix, .second, rv w] [(.ref a)])) rfl (by rw [hml]; rfl) rfl (hb hby d1_1) (by decide) (W := 0) (by show 2 * 0 + _ ≤ _; exact Nat.le_of_eq rfl) (by decide)
  refine Go.step st1 ?_
  show Go p e below _ (T1.setTop (mkF m 4 #[rv a, lv sd, .second, lv ix, .second, rv w] []))
  refine Go.step (S' := T1.setTop (mkF m 6 #[rv a, lv sd, .second, lv ix, .second, rv w] [(.long sd), (.ref a)])) (fun t k => ?_) ?_
  · show Steps p.tables e below (T1.setTop (mkF m 4 #[rv a, lv sd, .second, lv ix, .second, rv w] [])) _
    refine XS.aloadN X1.here hx rfl (hb hby d1_4) rfl rfl ?_
    show Steps p.tables e below (T1.setTop (mkF m 5 #[rv a, lv sd, .second, lv ix, .second, rv w] [(.ref a)])) _
    refine XS.lloadN X1.here hx rfl (hb hby d1_5) rfl ?_
    exact k
  obtain ⟨_, _, ⟨T2, L2, k2, n2⟩, -, X2, ⟨Lc2, hQ2, l2, y2, z2⟩, st2⟩ := Jvm.LawKit.callS X1 hx (y := (⟨"org/ninefold/service/SeededRandom", "mix", "(J)J"⟩ : MethodName)) hown (mvT hZ (own_w hw 13 rfl)) (mvT hZ (own_w hw 14 rfl)) (mvT hZ (own_w hw 6 rfl)) (mvT hZ (own_w hw 15 rfl)) (by decide) (backOf (W := 1) (rmMx l Z a0 hw [] sd h0 n0 O ) hZ (own_w hw 15 rfl) (own_w hw 6 rfl) (by decide) (by decide)) (g := (mkF m 6 #[rv a, lv sd, .second, lv ix, .second, rv w] [(.long sd), (.ref a)])) rfl (by rw [hml]; rfl) (argsL := [(.long sd)]) (rest := [(.ref a)]) (lenOf pd__28J_29J rfl) rfl (by show 2 * 0 + _ ≤ _; exact Nat.le_of_eq rfl) (hb hby d1_6) (fun _ _ => ⟨rfl, e1, (by decide : 0 + 0 ≤ _), (by decide : 0 + 0 ≤ _)⟩)
  dsimp only [Pt.U, Pt.locs, Pt.cells, Pt.slots] at X2 l2 y2 z2 st2 hQ2
  subst l2 y2 z2
  obtain ⟨rfl, Nq2, e2⟩ := hQ2
  have N2 := Fr.app N0 Nq2
  refine Go.step st2 ?_
  show Go p e below _ (T2.setTop (mkF m 9 #[rv a, lv sd, .second, lv ix, .second, rv w] [(.long (own_mix sd)), (.ref a)]))
  refine Go.step (S' := T2.setTop (mkF m 11 #[rv a, lv sd, .second, lv ix, .second, rv w] [(.ref w), (.long (own_mix sd)), (.ref a)])) (fun t k => ?_) ?_
  · show Steps p.tables e below (T2.setTop (mkF m 9 #[rv a, lv sd, .second, lv ix, .second, rv w] [(.long (own_mix sd)), (.ref a)])) _
    refine XS.aload X2.here hx rfl (hb hby d1_9) rfl rfl ?_
    exact k
  refine Go.step (own_getR X2 hx hZ hown (own_w hw 18 rfl) e2 (F_key_w.ext O.2) (g := (mkF m 11 #[rv a, lv sd, .second, lv ix, .second, rv w] [(.ref w), (.long (own_mix sd)), (.ref a)])) rfl rfl (hb hby d1_11)) ?_
  show Go p e below _ (T2.setTop (mkF m 14 #[rv a, lv sd, .second, lv ix, .second, rv w] [(.long kv), (.long (own_mix sd)), (.ref a)]))
  refine Go.step (S' := T2.setTop (mkF m 21 #[rv a, lv sd, .second, lv ix, .second, rv w] [(.long (((own_mix sd) ^^^ kv) + ((-7046029254386353131 : Int64) * ix))), (.ref a)])) (fun t k => ?_) ?_
  · show Steps p.tables e below (T2.setTop (mkF m 14 #[rv a, lv sd, .second, lv ix, .second, rv w] [(.long kv), (.long (own_mix sd)), (.ref a)])) _
    refine XS.lxor X2.here hx rfl (hb hby d1_14) rfl ?_
    show Steps p.tables e below (T2.setTop (mkF m 15 #[rv a, lv sd, .second, lv ix, .second, rv w] [(.long ((own_mix sd) ^^^ kv)), (.ref a)])) _
    refine X2.ldc2Long hx hown (mvT hZ (own_w hw 20 rfl)) (g := (mkF m 15 #[rv a, lv sd, .second, lv ix, .second, rv w] [(.long ((own_mix sd) ^^^ kv)), (.ref a)])) rfl (hb hby d1_15) _ ?_
    show Steps p.tables e below (T2.setTop (mkF m 18 #[rv a, lv sd, .second, lv ix, .second, rv w] [(.long (-7046029254386353131 : Int64)), (.long ((own_mix sd) ^^^ kv)), (.ref a)])) _
    refine XS.lloadN X2.here hx rfl (hb hby d1_18) rfl ?_
    show Steps p.tables e below (T2.setTop (mkF m 19 #[rv a, lv sd, .second, lv ix, .second, rv w] [(.long ix), (.long (-7046029254386353131 : Int64)), (.long ((own_mix sd) ^^^ kv)), (.ref a)])) _
    refine XS.lmul X2.here hx rfl (hb hby d1_19) rfl ?_
    show Steps p.tables e below (T2.setTop (mkF m 20 #[rv a, lv sd, .second, lv ix, .second, rv w] [(.long ((-7046029254386353131 : Int64) * ix)), (.long ((own_mix sd) ^^^ kv)), (.ref a)])) _
    refine XS.ladd X2.here hx rfl (hb hby d1_20) rfl ?_
    exact k
  obtain ⟨_, _, ⟨T3, L3, k3, n3⟩, -, X3, ⟨Lc3, hQ3, l3, y3, z3⟩, st3⟩ := Jvm.LawKit.callS X2 hx (y := (⟨"org/ninefold/service/SeededRandom", "mix", "(J)J"⟩ : MethodName)) hown (mvT hZ (own_w hw 13 rfl)) (mvT hZ (own_w hw 14 rfl)) (mvT hZ (own_w hw 6 rfl)) (mvT hZ (own_w hw 15 rfl)) (by decide) (backOf (W := 1) (rmMx l Z a0 hw [] (((own_mix sd) ^^^ kv) + ((-7046029254386353131 : Int64) * ix)) h0 n0 O ) hZ (own_w hw 15 rfl) (own_w hw 6 rfl) (by decide) (by decide)) (g := (mkF m 21 #[rv a, lv sd, .second, lv ix, .second, rv w] [(.long (((own_mix sd) ^^^ kv) + ((-7046029254386353131 : Int64) * ix))), (.ref a)])) rfl (by rw [hml]; rfl) (argsL := [(.long (((own_mix sd) ^^^ kv) + ((-7046029254386353131 : Int64) * ix)))]) (rest := [(.ref a)]) (lenOf pd__28J_29J rfl) rfl (by show 2 * 0 + _ ≤ _; exact Nat.le_of_eq rfl) (hb hby d1_21) (fun _ _ => ⟨rfl, e2, (by decide : 0 + 0 ≤ _), (by decide : 0 + 0 ≤ _)⟩)
  dsimp only [Pt.U, Pt.locs, Pt.cells, Pt.slots] at X3 l3 y3 z3 st3 hQ3
  subst l3 y3 z3
  obtain ⟨rfl, Nq3, e3⟩ := hQ3
  have N3 := Fr.app N2 Nq3
  refine Go.step st3 ?_
  show Go p e below _ (T3.setTop (mkF m 24 #[rv a, lv sd, .second, lv ix, .second, rv w] [(.long (own_mix (((own_mix sd) ^^^ kv) + ((-7046029254386353131 : Int64) * ix)))), (.ref a)]))
  obtain ⟨T4, h4, X4, e4, W4, st4⟩ := putF X3 hx hZ hown (host := "") (Or.inl (own_w hw 21 rfl)) Via.refl e3 F_state_a E_a (Or.inl (own_w hw 22 rfl)) (own_w hw 5 rfl) (ty := .long) (by decide) rfl rfl (g := (mkF m 24 #[rv a, lv sd, .second, lv ix, .second, rv w] [(.long (own_mix (((own_mix sd) ^^^ kv) + ((-7046029254386353131 : Int64) * ix)))), (.ref a)])) rfl rfl (hb hby d1_24)
  have O := O.wr W4 g_a
  have E_a := E_a.wr W4
  have F_state_a := F_state_a.same W4
  have K := K.wr W4 (Or.inl (List.mem_of_getElem? (i := 0) rfl))
  have N4 := Fr.snoc X4 N3 g_a
  refine Go.step st4 ?_
  show Go p e below _ (T4.setTop (mkF m 27 #[rv a, lv sd, .second, lv ix, .second, rv w] []))
  obtain ⟨fs, hr, hrun, hended, hW, hsame⟩ := X4.leave (v := none) (fun _ => rfl)
  refine Go.fin (S' := T4.setFrames fs) ?_ hrun hended ⟨_, _, rfl, ?_, ⟨_, rfl⟩, hW, hsame.mono (by decide) (by decide)⟩
  · exact X4.returnOut hx Bd.returns (hb hby d1_27) hr
  · show Q_rmInit Z a sd ix w kv h0 n0 (none) T4.heap _
    rw [e4]
    exact ⟨rfl, N4, K, E_a, F_state_a⟩
theorem d4_0 : decode prog_27_method_2_code 0 = .ok (.aload_n 0, 1) := by decide +kernel
theorem d4_1 : decode prog_27_method_2_code 1 = .ok (.dup, 1) := by decide +kernel
theorem d4_2 : decode prog_27_method_2_code 2 = .ok (.getfield 21, 3) := by decide +kernel
theorem d4_5 : decode prog_27_method_2_code 5 = .ok (.ldc2_w 19, 3) := by decide +kernel
theorem d4_8 : decode prog_27_method_2_code 8 = .ok (.ladd, 1) := by decide +kernel
theorem d4_9 : decode prog_27_method_2_code 9 = .ok (.putfield 21, 3) := by decide +kernel
theorem d4_12 : decode prog_27_method_2_code 12 = .ok (.aload_n 0, 1) := by decide +kernel
theorem d4_13 : decode prog_27_method_2_code 13 = .ok (.getfield 21, 3) := by decide +kernel
theorem d4_16 : decode prog_27_method_2_code 16 = .ok (.invokestatic 7, 3) := by decide +kernel
theorem d4_19 : decode prog_27_method_2_code 19 = .ok (.lreturn, 1) := by decide +kernel
theorem ef_rmNL (m : MethodId) (a : Addr) : entryFrame m #[(.ref a)] 1 = mkF m 0 #[.val (.ref a)] [] := by first | (simp [entryFrame, mkF, argsToLocals, Value.category]; done) | rfl
abbrev rm_rmNL : Room := ({ frames := 1, cells := 0, slots := 0, locals := 13 } : Room)
def Q_rmNL (Z : State) (a : Addr) (q : Int64) (h0 : Heap) (n0 : Nat) (v : Option Value) (h : Heap) (L : List Loc) : Prop := (v = some (.long (own_mix (q + (-7046029254386353131 : Int64))))) ∧ (Fr n0 L) ∧ (Keep h0 h [a]) ∧ (Exa Z h a "org/ninefold/service/SeededRandom") ∧ (Fld Z h a "org/ninefold/service/SeededRandom" "state" "J" (.long (q + (-7046029254386353131 : Int64))))
set_option maxRecDepth 65536 in
set_option maxHeartbeats 4000000 in
theorem rmNL (l : Launch) (Z : State) (a0 : Array Value) (hw : ∀ d ∈ tables_1, d.before a0 Z = true) (ws : List Jvm.Cond) (a : Addr) (q : Int64) (h0 : Heap) (n0 : Nat) (O : Old Z n0 h0) (E_a : Exa Z h0 a "org/ninefold/service/SeededRandom") (F_state_a : Fld Z h0 a "org/ninefold/service/SeededRandom" "state" "J" (.long q)) (g_a : n0 ≤ a) :
    MetFree l (⟨"org/ninefold/service/SeededRandom", "nextLong", "()J"⟩ : MethodName) (head1 (Jvm.Cond.code (⟨"org/ninefold/service/SeededRandom", "nextLong", "()J"⟩ : MethodName) prog_27_method_2_code 1 (some .long) :: ws) rm_rmNL) (fun A_ U => A_ = #[(.ref a)] ∧ Z.Warmed39 U.vm ∧ U.heap = h0) (fun _ _ _ _ _ => True) (fun _ U o U' => ∃ v L, o = .returned v ∧ Q_rmNL Z a q h0 n0 v U'.heap L ∧ FrameEnd U o U' L rm_rmNL.cells rm_rmNL.slots) := by
  refine MetFree.of_bodySF (plainFor_of_name pn_org_ninefold_service_SeededRandom) hisR ?_
  intro p e s m args below meth c s₁ Bd hml0 hP hK
  obtain ⟨rfl, hZ, hh⟩ := hP
  have hx := Bd.exec
  have hby := Bd.bytes
  have hml : c.maxLocals = 1 := hml0
  have hown : s.vm.findClass "org/ninefold/service/SeededRandom" = some m.cls := findClass_of_methodNamed Bd.named
  have hnm := (name_of_methodNamed Bd.named Bd.method).1
  have X0 : Stand p l e rm_rmNL s m #[(.ref a)] below meth c s₁ [] 0 0 := Stand.of_body Bd
  have e0 : s₁.heap = h0 := by rw [← hh, Bd.state]; rfl
  have N0 := Fr.nil n0
  have K := Keep.refl h0 [a]
  refine Go.step (p := p) (e := e) (below := below) (G := fun o U' => ∃ v L, o = .returned v ∧ Q_rmNL Z a q h0 n0 v U'.heap L ∧ FrameEnd s o U' L rm_rmNL.cells rm_rmNL.slots) (S' := s₁.setTop (mkF m 0 #[rv a] [])) (fun t k => castTop (ef_rmNL m a) k) ?_
  refine Go.step (S' := s₁.setTop (mkF m 2 #[rv a] [(.ref a), (.ref a)])) (fun t k => ?_) ?_
  · show Steps p.tables e below (s₁.setTop (mkF m 0 #[rv a] [])) _
    refine XS.aloadN X0.here hx rfl (hb hby d4_0) rfl rfl ?_
    show Steps p.tables e below (s₁.setTop (mkF m 1 #[rv a] [(.ref a)])) _
    refine XS.dup X0.here hx rfl (hb hby d4_1) rfl rfl ?_
    exact k
  obtain ⟨T1, X1, e1, st1⟩ := getF X0 hx hZ hown (host := "") (Or.inl (own_w hw 21 rfl)) Via.refl e0 F_state_a (g := (mkF m 2 #[rv a] [(.ref a), (.ref a)])) rfl rfl (hb hby d4_2)
  refine Go.step st1 ?_
  show Go p e below _ (T1.setTop (mkF m 5 #[rv a] [(.long q), (.ref a)]))
  refine Go.step (S' := T1.setTop (mkF m 9 #[rv a] [(.long (q + (-7046029254386353131 : Int64))), (.ref a)])) (fun t k => ?_) ?_
  · show Steps p.tables e below (T1.setTop (mkF m 5 #[rv a] [(.long q), (.ref a)])) _
    refine X1.ldc2Long hx hown (mvT hZ (own_w hw 20 rfl)) (g := (mkF m 5 #[rv a] [(.long q), (.ref a)])) rfl (hb hby d4_5) _ ?_
    show Steps p.tables e below (T1.setTop (mkF m 8 #[rv a] [(.long (-7046029254386353131 : Int64)), (.long q), (.ref a)])) _
    refine XS.ladd X1.here hx rfl (hb hby d4_8) rfl ?_
    exact k
  obtain ⟨T2, h2, X2, e2, W2, st2⟩ := putF X1 hx hZ hown (host := "") (Or.inl (own_w hw 21 rfl)) Via.refl e1 F_state_a E_a (Or.inl (own_w hw 22 rfl)) (own_w hw 5 rfl) (ty := .long) (by decide) rfl rfl (g := (mkF m 9 #[rv a] [(.long (q + (-7046029254386353131 : Int64))), (.ref a)])) rfl rfl (hb hby d4_9)
  have O := O.wr W2 g_a
  have E_a := E_a.wr W2
  have F_state_a := F_state_a.same W2
  have K := K.wr W2 (Or.inl (List.mem_of_getElem? (i := 0) rfl))
  have N2 := Fr.snoc X2 N0 g_a
  refine Go.step st2 ?_
  show Go p e below _ (T2.setTop (mkF m 12 #[rv a] []))
  refine Go.step (S' := T2.setTop (mkF m 13 #[rv a] [(.ref a)])) (fun t k => ?_) ?_
  · show Steps p.tables e below (T2.setTop (mkF m 12 #[rv a] [])) _
    refine XS.aloadN X2.here hx rfl (hb hby d4_12) rfl rfl ?_
    exact k
  obtain ⟨T3, X3, e3, st3⟩ := getF X2 hx hZ hown (host := "") (Or.inl (own_w hw 21 rfl)) Via.refl e2 F_state_a (g := (mkF m 13 #[rv a] [(.ref a)])) rfl rfl (hb hby d4_13)
  refine Go.step st3 ?_
  show Go p e below _ (T3.setTop (mkF m 16 #[rv a] [(.long (q + (-7046029254386353131 : Int64)))]))
  obtain ⟨_, _, ⟨T4, L4, k4, n4⟩, -, X4, ⟨Lc4, hQ4, l4, y4, z4⟩, st4⟩ := Jvm.LawKit.callS X3 hx (y := (⟨"org/ninefold/service/SeededRandom", "mix", "(J)J"⟩ : MethodName)) hown (mvT hZ (own_w hw 13 rfl)) (mvT hZ (own_w hw 14 rfl)) (mvT hZ (own_w hw 6 rfl)) (mvT hZ (own_w hw 15 rfl)) (by decide) (backOf (W := 0) (rmMx l Z a0 hw [] (q + (-7046029254386353131 : Int64)) h2 n0 O ) hZ (own_w hw 15 rfl) (own_w hw 6 rfl) (by decide) (by decide)) (g := (mkF m 16 #[rv a] [(.long (q + (-7046029254386353131 : Int64)))])) rfl (by rw [hml]; rfl) (argsL := [(.long (q + (-7046029254386353131 : Int64)))]) (rest := []) (lenOf pd__28J_29J rfl) rfl (by show 2 * 0 + _ ≤ _; exact Nat.le_of_eq rfl) (hb hby d4_16) (fun _ _ => ⟨rfl, e3, (by decide : 0 + 0 ≤ _), (by decide : 0 + 0 ≤ _)⟩)
  dsimp only [Pt.U, Pt.locs, Pt.cells, Pt.slots] at X4 l4 y4 z4 st4 hQ4
  subst l4 y4 z4
  obtain ⟨rfl, Nq4, e4⟩ := hQ4
  have N4 := Fr.app N2 Nq4
  refine Go.step st4 ?_
  show Go p e below _ (T4.setTop (mkF m 19 #[rv a] [(.long (own_mix (q + (-7046029254386353131 : Int64))))]))
  obtain ⟨fs, hr, hrun, hended, hW, hsame⟩ := X4.leave (v := some (.long (own_mix (q + (-7046029254386353131 : Int64))))) (fun h => by rw [Bd.returns] at h; cases h)
  refine Go.fin (S' := T4.setFrames fs) ?_ hrun hended ⟨_, _, rfl, ?_, ⟨_, rfl⟩, hW, hsame.mono (by decide) (by decide)⟩
  · exact retOut X4 hx Bd.returns rfl (Or.inr (Or.inl ⟨rfl, rfl, _, rfl⟩)) (hb hby d4_19) hr
  · show Q_rmNL Z a q h0 n0 (some (.long (own_mix (q + (-7046029254386353131 : Int64))))) T4.heap _
    rw [e4]
    exact ⟨rfl, N4, K, E_a, F_state_a⟩
theorem d5_0 : decode prog_27_method_3_code 0 = .ok (.ldc2_w 26, 3) := by decide +kernel
theorem d5_3 : decode prog_27_method_3_code 3 = .ok (.ldc2_w 26, 3) := by decide +kernel
theorem d5_6 : decode prog_27_method_3_code 6 = .ok (.iload_n 1, 1) := by decide +kernel
theorem d5_7 : decode prog_27_method_3_code 7 = .ok (.i2l, 1) := by decide +kernel
theorem d5_8 : decode prog_27_method_3_code 8 = .ok (.lrem, 1) := by decide +kernel
theorem d5_9 : decode prog_27_method_3_code 9 = .ok (.lconst 1, 1) := by decide +kernel
theorem d5_10 : decode prog_27_method_3_code 10 = .ok (.ladd, 1) := by decide +kernel
theorem d5_11 : decode prog_27_method_3_code 11 = .ok (.iload_n 1, 1) := by decide +kernel
theorem d5_12 : decode prog_27_method_3_code 12 = .ok (.i2l, 1) := by decide +kernel
theorem d5_13 : decode prog_27_method_3_code 13 = .ok (.lrem, 1) := by decide +kernel
theorem d5_14 : decode prog_27_method_3_code 14 = .ok (.lsub, 1) := by decide +kernel
theorem d5_15 : decode prog_27_method_3_code 15 = .ok (.lstore_n 2, 1) := by decide +kernel
theorem d5_16 : decode prog_27_method_3_code 16 = .ok (.aload_n 0, 1) := by decide +kernel
theorem d5_17 : decode prog_27_method_3_code 17 = .ok (.invokevirtual 28, 3) := by decide +kernel
theorem pd__28_29J : parseMethodDescriptor "()J" = some ⟨[], some .long⟩ := by decide +kernel
theorem d5_20 : decode prog_27_method_3_code 20 = .ok (.iconst 1, 1) := by decide +kernel
theorem d5_21 : decode prog_27_method_3_code 21 = .ok (.lushr, 1) := by decide +kernel
theorem d5_22 : decode prog_27_method_3_code 22 = .ok (.lstore 4, 2) := by decide +kernel
theorem d5_24 : decode prog_27_method_3_code 24 = .ok (.lload 4, 2) := by decide +kernel
theorem d5_26 : decode prog_27_method_3_code 26 = .ok (.lload_n 2, 1) := by decide +kernel
theorem d5_27 : decode prog_27_method_3_code 27 = .ok (.lcmp, 1) := by decide +kernel
theorem d5_28 : decode prog_27_method_3_code 28 = .ok (.ifCond .gt (-12), 3) := by decide +kernel
theorem d5_31 : decode prog_27_method_3_code 31 = .ok (.lload 4, 2) := by decide +kernel
theorem d5_33 : decode prog_27_method_3_code 33 = .ok (.iload_n 1, 1) := by decide +kernel
theorem d5_34 : decode prog_27_method_3_code 34 = .ok (.i2l, 1) := by decide +kernel
theorem d5_35 : decode prog_27_method_3_code 35 = .ok (.lrem, 1) := by decide +kernel
theorem d5_36 : decode prog_27_method_3_code 36 = .ok (.l2i, 1) := by decide +kernel
theorem d5_37 : decode prog_27_method_3_code 37 = .ok (.ireturn, 1) := by decide +kernel
theorem ef_rmNI1 (m : MethodId) (a : Addr) (b : Int32) : entryFrame m #[(.ref a), (.int b)] 6 = mkF m 0 #[.val (.ref a), .val (.int b), .unset, .unset, .unset, .unset] [] := by first | (simp [entryFrame, mkF, argsToLocals, Value.category]; done) | rfl
abbrev rm_rmNI1 : Room := ({ frames := 2, cells := 0, slots := 0, locals := 25 } : Room)
def Q_rmNI1 (Z : State) (a : Addr) (b : Int32) (q : Int64) (h0 : Heap) (n0 : Nat) (v : Option Value) (h : Heap) (L : List Loc) : Prop := (v = some (.int (((own_dr (own_mix (q + (-7046029254386353131 : Int64)))) - ((own_dr (own_mix (q + (-7046029254386353131 : Int64)))) / (b.toInt64)) * (b.toInt64)).toInt32))) ∧ (Fr n0 L) ∧ (Keep h0 h [a]) ∧ (Exa Z h a "org/ninefold/service/SeededRandom") ∧ (Fld Z h a "org/ninefold/service/SeededRandom" "state" "J" (.long (q + (-7046029254386353131 : Int64))))
set_option maxRecDepth 65536 in
set_option maxHeartbeats 4000000 in
theorem rmNI1 (l : Launch) (Z : State) (a0 : Array Value) (hw : ∀ d ∈ tables_1, d.before a0 Z = true) (ws : List Jvm.Cond) (a : Addr) (b : Int32) (q : Int64) (h0 : Heap) (n0 : Nat) (O : Old Z n0 h0) (E_a : Exa Z h0 a "org/ninefold/service/SeededRandom") (F_state_a : Fld Z h0 a "org/ninefold/service/SeededRandom" "state" "J" (.long q)) (g_a : n0 ≤ a) (hbp : (0 : Int32) < b) (hd1 : ¬ ((own_lf b) < (own_dr (own_mix (q + (-7046029254386353131 : Int64)))))) :
    MetFree l (⟨"org/ninefold/service/SeededRandom", "nextInt", "(I)I"⟩ : MethodName) (head1 (Jvm.Cond.code (⟨"org/ninefold/service/SeededRandom", "nextInt", "(I)I"⟩ : MethodName) prog_27_method_3_code 6 (some .int) :: ws) rm_rmNI1) (fun A_ U => A_ = #[(.ref a), (.int b)] ∧ Z.Warmed39 U.vm ∧ U.heap = h0) (fun _ _ _ _ _ => True) (fun _ U o U' => ∃ v L, o = .returned v ∧ Q_rmNI1 Z a b q h0 n0 v U'.heap L ∧ FrameEnd U o U' L rm_rmNI1.cells rm_rmNI1.slots) := by
  refine MetFree.of_bodySF (plainFor_of_name pn_org_ninefold_service_SeededRandom) hisR ?_
  intro p e s m args below meth c s₁ Bd hml0 hP hK
  obtain ⟨rfl, hZ, hh⟩ := hP
  have hx := Bd.exec
  have hby := Bd.bytes
  have hml : c.maxLocals = 6 := hml0
  have hown : s.vm.findClass "org/ninefold/service/SeededRandom" = some m.cls := findClass_of_methodNamed Bd.named
  have hnm := (name_of_methodNamed Bd.named Bd.method).1
  have X0 : Stand p l e rm_rmNI1 s m #[(.ref a), (.int b)] below meth c s₁ [] 0 0 := Stand.of_body Bd
  have e0 : s₁.heap = h0 := by rw [← hh, Bd.state]; rfl
  have N0 := Fr.nil n0
  have K := Keep.refl h0 [a]
  refine Go.step (p := p) (e := e) (below := below) (G := fun o U' => ∃ v L, o = .returned v ∧ Q_rmNI1 Z a b q h0 n0 v U'.heap L ∧ FrameEnd s o U' L rm_rmNI1.cells rm_rmNI1.slots) (S' := s₁.setTop (mkF m 0 #[rv a, iv b, u_, u_, u_, u_] [])) (fun t k => castTop (ef_rmNI1 m a b) k) ?_
  refine Go.step (S' := s₁.setTop (mkF m 16 #[rv a, iv b, lv ((9223372036854775807 : Int64) - ((((9223372036854775807 : Int64) - ((9223372036854775807 : Int64) / (b.toInt64)) * (b.toInt64)) + (1 : Int64)) - ((((9223372036854775807 : Int64) - ((9223372036854775807 : Int64) / (b.toInt64)) * (b.toInt64)) + (1 : Int64)) / (b.toInt64)) * (b.toInt64))), .second, u_, u_] [])) (fun t k => ?_) ?_
  · show Steps p.tables e below (s₁.setTop (mkF m 0 #[rv a, iv b, u_, u_, u_, u_] [])) _
    refine X0.ldc2Long hx hown (mvT hZ (own_w hw 36 rfl)) (g := (mkF m 0 #[rv a, iv b, u_, u_, u_, u_] [])) rfl (hb hby d5_0) _ ?_
    show Steps p.tables e below (s₁.setTop (mkF m 3 #[rv a, iv b, u_, u_, u_, u_] [(.long (9223372036854775807 : Int64))])) _
    refine X0.ldc2Long hx hown (mvT hZ (own_w hw 36 rfl)) (g := (mkF m 3 #[rv a, iv b, u_, u_, u_, u_] [(.long (9223372036854775807 : Int64))])) rfl (hb hby d5_3) _ ?_
    show Steps p.tables e below (s₁.setTop (mkF m 6 #[rv a, iv b, u_, u_, u_, u_] [(.long (9223372036854775807 : Int64)), (.long (9223372036854775807 : Int64))])) _
    refine XS.iloadN X0.here hx rfl (hb hby d5_6) rfl ?_
    show Steps p.tables e below (s₁.setTop (mkF m 7 #[rv a, iv b, u_, u_, u_, u_] [(.int b), (.long (9223372036854775807 : Int64)), (.long (9223372036854775807 : Int64))])) _
    refine XS.i2l X0.here hx rfl (hb hby d5_7) rfl ?_
    show Steps p.tables e below (s₁.setTop (mkF m 8 #[rv a, iv b, u_, u_, u_, u_] [(.long (b.toInt64)), (.long (9223372036854775807 : Int64)), (.long (9223372036854775807 : Int64))])) _
    refine XS.lrem X0.here hx rfl (hb hby d5_8) rfl (own_nz hbp) ?_
    show Steps p.tables e below (s₁.setTop (mkF m 9 #[rv a, iv b, u_, u_, u_, u_] [(.long ((9223372036854775807 : Int64) - ((9223372036854775807 : Int64) / (b.toInt64)) * (b.toInt64))), (.long (9223372036854775807 : Int64))])) _
    refine XS.lconst X0.here hx rfl (hb hby d5_9) ?_
    show Steps p.tables e below (s₁.setTop (mkF m 10 #[rv a, iv b, u_, u_, u_, u_] [(.long (1 : Int64)), (.long ((9223372036854775807 : Int64) - ((9223372036854775807 : Int64) / (b.toInt64)) * (b.toInt64))), (.long (9223372036854775807 : Int64))])) _
    refine XS.ladd X0.here hx rfl (hb hby d5_10) rfl ?_
    show Steps p.tables e below (s₁.setTop (mkF m 11 #[rv a, iv b, u_, u_, u_, u_] [(.long (((9223372036854775807 : Int64) - ((9223372036854775807 : Int64) / (b.toInt64)) * (b.toInt64)) + (1 : Int64))), (.long (9223372036854775807 : Int64))])) _
    refine XS.iloadN X0.here hx rfl (hb hby d5_11) rfl ?_
    show Steps p.tables e below (s₁.setTop (mkF m 12 #[rv a, iv b, u_, u_, u_, u_] [(.int b), (.long (((9223372036854775807 : Int64) - ((9223372036854775807 : Int64) / (b.toInt64)) * (b.toInt64)) + (1 : Int64))), (.long (9223372036854775807 : Int64))])) _
    refine XS.i2l X0.here hx rfl (hb hby d5_12) rfl ?_
    show Steps p.tables e below (s₁.setTop (mkF m 13 #[rv a, iv b, u_, u_, u_, u_] [(.long (b.toInt64)), (.long (((9223372036854775807 : Int64) - ((9223372036854775807 : Int64) / (b.toInt64)) * (b.toInt64)) + (1 : Int64))), (.long (9223372036854775807 : Int64))])) _
    refine XS.lrem X0.here hx rfl (hb hby d5_13) rfl (own_nz hbp) ?_
    show Steps p.tables e below (s₁.setTop (mkF m 14 #[rv a, iv b, u_, u_, u_, u_] [(.long ((((9223372036854775807 : Int64) - ((9223372036854775807 : Int64) / (b.toInt64)) * (b.toInt64)) + (1 : Int64)) - ((((9223372036854775807 : Int64) - ((9223372036854775807 : Int64) / (b.toInt64)) * (b.toInt64)) + (1 : Int64)) / (b.toInt64)) * (b.toInt64))), (.long (9223372036854775807 : Int64))])) _
    refine XS.lsub X0.here hx rfl (hb hby d5_14) rfl ?_
    show Steps p.tables e below (s₁.setTop (mkF m 15 #[rv a, iv b, u_, u_, u_, u_] [(.long ((9223372036854775807 : Int64) - ((((9223372036854775807 : Int64) - ((9223372036854775807 : Int64) / (b.toInt64)) * (b.toInt64)) + (1 : Int64)) - ((((9223372036854775807 : Int64) - ((9223372036854775807 : Int64) / (b.toInt64)) * (b.toInt64)) + (1 : Int64)) / (b.toInt64)) * (b.toInt64))))])) _
    refine XS.lstoreN X0.here hx rfl (hb hby d5_15) rfl (l' := #[rv a, iv b, lv ((9223372036854775807 : Int64) - ((((9223372036854775807 : Int64) - ((9223372036854775807 : Int64) / (b.toInt64)) * (b.toInt64)) + (1 : Int64)) - ((((9223372036854775807 : Int64) - ((9223372036854775807 : Int64) / (b.toInt64)) * (b.toInt64)) + (1 : Int64)) / (b.toInt64)) * (b.toInt64))), .second, u_, u_]) rfl ?_
    exact k
  rw [(rfl : ((9223372036854775807 : Int64) - ((((9223372036854775807 : Int64) - ((9223372036854775807 : Int64) / (b.toInt64)) * (b.toInt64)) + (1 : Int64)) - ((((9223372036854775807 : Int64) - ((9223372036854775807 : Int64) / (b.toInt64)) * (b.toInt64)) + (1 : Int64)) / (b.toInt64)) * (b.toInt64))) = (own_lf b))]
  show Go p e below _ (s₁.setTop (mkF m 16 #[rv a, iv b, lv (own_lf b), .second, u_, u_] []))
  refine Go.step (S' := s₁.setTop (mkF m 17 #[rv a, iv b, lv (own_lf b), .second, u_, u_] [(.ref a)])) (fun t k => ?_) ?_
  · show Steps p.tables e below (s₁.setTop (mkF m 16 #[rv a, iv b, lv (own_lf b), .second, u_, u_] [])) _
    refine XS.aloadN X0.here hx rfl (hb hby d5_16) rfl rfl ?_
    exact k
  obtain ⟨cq1, kq1, q1a, q1b, q1c⟩ := isOf hZ e0 E_a
  obtain ⟨_, _, ⟨T1, L1, k1, n1⟩, -, X1, ⟨Lc1, hQ1, l1, y1, z1⟩, st1⟩ := X0.virtualBack hx (y := (⟨"org/ninefold/service/SeededRandom", "nextLong", "()J"⟩ : MethodName)) (z := (⟨"org/ninefold/service/SeededRandom", "nextLong", "()J"⟩ : MethodName)) hown (mvT hZ (own_w hw 37 rfl)) (mvT hZ (own_w hw 24 rfl)) (notFace_of_selects (args := #[]) (mvT hZ (own_w hw 26 rfl))) (mvT hZ (own_w hw 26 rfl)) (mvT hZ (own_w hw 25 rfl)) (by decide) (backOf (W := 0) (rmNL l Z a0 hw [] a q h0 n0 O E_a F_state_a (by assumption)) hZ (own_w hw 27 rfl) (own_w hw 6 rfl) (by decide) (by decide)) q1a q1c (g := (mkF m 17 #[rv a, iv b, lv (own_lf b), .second, u_, u_] [(.ref a)])) rfl (by rw [hml]; rfl) (Steps.refl _) (argsL := []) (rest := []) (lenOf pd__28_29J rfl) rfl (by show 2 * 0 + _ ≤ _; exact Nat.le_of_eq rfl) (hb hby d5_17) (fun _ _ => ⟨rfl, e0, (by decide : 0 + 0 ≤ _), (by decide : 0 + 0 ≤ _)⟩)
  dsimp only [Pt.U, Pt.locs, Pt.cells, Pt.slots] at X1 l1 y1 z1 st1 hQ1
  subst l1 y1 z1
  obtain ⟨rfl, Nq1, K1, P1_E, P1_F⟩ := hQ1
  have N1 := Fr.app N0 Nq1
  have O := O.keep K1 (allS g_a all0)
  have E_a := E_a.keep K1
  have K := K.trans K1 (allS (Or.inl (List.mem_of_getElem? (i := 0) rfl)) all0)
  have E_1 := P1_E
  have F_1 := P1_F
  refine Go.step (fun t k => st1.trans k) ?_
  show Go p e below _ (T1.setTop (mkF m 20 #[rv a, iv b, lv (own_lf b), .second, u_, u_] [(.long (own_mix (q + (-7046029254386353131 : Int64))))]))
  refine Go.step (S' := T1.setTop (mkF m 24 #[rv a, iv b, lv (own_lf b), .second, lv (((own_mix (q + (-7046029254386353131 : Int64))).toUInt64 >>> ((1 : Int32) &&& 0x3f).toInt64.toUInt64).toInt64), .second] [])) (fun t k => ?_) ?_
  · show Steps p.tables e below (T1.setTop (mkF m 20 #[rv a, iv b, lv (own_lf b), .second, u_, u_] [(.long (own_mix (q + (-7046029254386353131 : Int64))))])) _
    refine XS.iconst X1.here hx rfl (hb hby d5_20) ?_
    show Steps p.tables e below (T1.setTop (mkF m 21 #[rv a, iv b, lv (own_lf b), .second, u_, u_] [(.int (1 : Int32)), (.long (own_mix (q + (-7046029254386353131 : Int64))))])) _
    refine XS.lushr X1.here hx rfl (hb hby d5_21) rfl ?_
    show Steps p.tables e below (T1.setTop (mkF m 22 #[rv a, iv b, lv (own_lf b), .second, u_, u_] [(.long (((own_mix (q + (-7046029254386353131 : Int64))).toUInt64 >>> ((1 : Int32) &&& 0x3f).toInt64.toUInt64).toInt64))])) _
    refine XS.lstore X1.here hx rfl (hb hby d5_22) rfl (l' := #[rv a, iv b, lv (own_lf b), .second, lv (((own_mix (q + (-7046029254386353131 : Int64))).toUInt64 >>> ((1 : Int32) &&& 0x3f).toInt64.toUInt64).toInt64), .second]) rfl ?_
    exact k
  rw [(rfl : (((own_mix (q + (-7046029254386353131 : Int64))).toUInt64 >>> ((1 : Int32) &&& 0x3f).toInt64.toUInt64).toInt64) = (own_dr (own_mix (q + (-7046029254386353131 : Int64)))))]
  show Go p e below _ (T1.setTop (mkF m 24 #[rv a, iv b, lv (own_lf b), .second, lv (own_dr (own_mix (q + (-7046029254386353131 : Int64)))), .second] []))
  refine Go.step (S' := T1.setTop (mkF m 37 #[rv a, iv b, lv (own_lf b), .second, lv (own_dr (own_mix (q + (-7046029254386353131 : Int64)))), .second] [(.int (((own_dr (own_mix (q + (-7046029254386353131 : Int64)))) - ((own_dr (own_mix (q + (-7046029254386353131 : Int64)))) / (b.toInt64)) * (b.toInt64)).toInt32))])) (fun t k => ?_) ?_
  · show Steps p.tables e below (T1.setTop (mkF m 24 #[rv a, iv b, lv (own_lf b), .second, lv (own_dr (own_mix (q + (-7046029254386353131 : Int64)))), .second] [])) _
    refine XS.lload X1.here hx rfl (hb hby d5_24) rfl ?_
    show Steps p.tables e below (T1.setTop (mkF m 26 #[rv a, iv b, lv (own_lf b), .second, lv (own_dr (own_mix (q + (-7046029254386353131 : Int64)))), .second] [(.long (own_dr (own_mix (q + (-7046029254386353131 : Int64)))))])) _
    refine XS.lloadN X1.here hx rfl (hb hby d5_26) rfl ?_
    show Steps p.tables e below (T1.setTop (mkF m 27 #[rv a, iv b, lv (own_lf b), .second, lv (own_dr (own_mix (q + (-7046029254386353131 : Int64)))), .second] [(.long (own_lf b)), (.long (own_dr (own_mix (q + (-7046029254386353131 : Int64)))))])) _
    refine XS.lcmp X1.here hx rfl (hb hby d5_27) rfl ?_
    show Steps p.tables e below (T1.setTop (mkF m 28 #[rv a, iv b, lv (own_lf b), .second, lv (own_dr (own_mix (q + (-7046029254386353131 : Int64)))), .second] [(.int (lcmpW (own_dr (own_mix (q + (-7046029254386353131 : Int64)))) (own_lf b)))])) _
    refine XS.ifNo X1.here hx rfl (hb hby d5_28) rfl ((if0 _ _).trans (flt (fun zq => absurd ((lw_gt (own_dr (own_mix (q + (-7046029254386353131 : Int64)))) (own_lf b)).mp zq) hd1)).2.2.1) ?_
    show Steps p.tables e below (T1.setTop (mkF m 31 #[rv a, iv b, lv (own_lf b), .second, lv (own_dr (own_mix (q + (-7046029254386353131 : Int64)))), .second] [])) _
    refine XS.lload X1.here hx rfl (hb hby d5_31) rfl ?_
    show Steps p.tables e below (T1.setTop (mkF m 33 #[rv a, iv b, lv (own_lf b), .second, lv (own_dr (own_mix (q + (-7046029254386353131 : Int64)))), .second] [(.long (own_dr (own_mix (q + (-7046029254386353131 : Int64)))))])) _
    refine XS.iloadN X1.here hx rfl (hb hby d5_33) rfl ?_
    show Steps p.tables e below (T1.setTop (mkF m 34 #[rv a, iv b, lv (own_lf b), .second, lv (own_dr (own_mix (q + (-7046029254386353131 : Int64)))), .second] [(.int b), (.long (own_dr (own_mix (q + (-7046029254386353131 : Int64)))))])) _
    refine XS.i2l X1.here hx rfl (hb hby d5_34) rfl ?_
    show Steps p.tables e below (T1.setTop (mkF m 35 #[rv a, iv b, lv (own_lf b), .second, lv (own_dr (own_mix (q + (-7046029254386353131 : Int64)))), .second] [(.long (b.toInt64)), (.long (own_dr (own_mix (q + (-7046029254386353131 : Int64)))))])) _
    refine XS.lrem X1.here hx rfl (hb hby d5_35) rfl (own_nz hbp) ?_
    show Steps p.tables e below (T1.setTop (mkF m 36 #[rv a, iv b, lv (own_lf b), .second, lv (own_dr (own_mix (q + (-7046029254386353131 : Int64)))), .second] [(.long ((own_dr (own_mix (q + (-7046029254386353131 : Int64)))) - ((own_dr (own_mix (q + (-7046029254386353131 : Int64)))) / (b.toInt64)) * (b.toInt64)))])) _
    refine XS.l2i X1.here hx rfl (hb hby d5_36) rfl ?_
    exact k
  obtain ⟨fs, hr, hrun, hended, hW, hsame⟩ := X1.leave (v := some (.int (((own_dr (own_mix (q + (-7046029254386353131 : Int64)))) - ((own_dr (own_mix (q + (-7046029254386353131 : Int64)))) / (b.toInt64)) * (b.toInt64)).toInt32))) (fun h => by rw [Bd.returns] at h; cases h)
  refine Go.fin (S' := T1.setFrames fs) ?_ hrun hended ⟨_, _, rfl, ?_, ⟨_, rfl⟩, hW, hsame.mono (by decide) (by decide)⟩
  · exact retOut X1 hx Bd.returns rfl (Or.inl ⟨rfl, Or.inl rfl, _, rfl⟩) (hb hby d5_37) hr
  · show Q_rmNI1 Z a b q h0 n0 (some (.int (((own_dr (own_mix (q + (-7046029254386353131 : Int64)))) - ((own_dr (own_mix (q + (-7046029254386353131 : Int64)))) / (b.toInt64)) * (b.toInt64)).toInt32))) T1.heap _
    exact ⟨rfl, N1, K, E_a, F_1⟩
theorem ef_rmNI2 (m : MethodId) (a : Addr) (b : Int32) : entryFrame m #[(.ref a), (.int b)] 6 = mkF m 0 #[.val (.ref a), .val (.int b), .unset, .unset, .unset, .unset] [] := by first | (simp [entryFrame, mkF, argsToLocals, Value.category]; done) | rfl
abbrev rm_rmNI2 : Room := ({ frames := 2, cells := 0, slots := 0, locals := 25 } : Room)
def Q_rmNI2 (Z : State) (a : Addr) (b : Int32) (q : Int64) (h0 : Heap) (n0 : Nat) (v : Option Value) (h : Heap) (L : List Loc) : Prop := (v = some (.int (((own_dr (own_mix ((q + (-7046029254386353131 : Int64)) + (-7046029254386353131 : Int64)))) - ((own_dr (own_mix ((q + (-7046029254386353131 : Int64)) + (-7046029254386353131 : Int64)))) / (b.toInt64)) * (b.toInt64)).toInt32))) ∧ (Fr n0 L) ∧ (Keep h0 h [a]) ∧ (Exa Z h a "org/ninefold/service/SeededRandom") ∧ (Fld Z h a "org/ninefold/service/SeededRandom" "state" "J" (.long ((q + (-7046029254386353131 : Int64)) + (-7046029254386353131 : Int64))))
set_option maxRecDepth 65536 in
set_option maxHeartbeats 4000000 in
theorem rmNI2 (l : Launch) (Z : State) (a0 : Array Value) (hw : ∀ d ∈ tables_1, d.before a0 Z = true) (ws : List Jvm.Cond) (a : Addr) (b : Int32) (q : Int64) (h0 : Heap) (n0 : Nat) (O : Old Z n0 h0) (E_a : Exa Z h0 a "org/ninefold/service/SeededRandom") (F_state_a : Fld Z h0 a "org/ninefold/service/SeededRandom" "state" "J" (.long q)) (g_a : n0 ≤ a) (hbp : (0 : Int32) < b) (hd1 : (own_lf b) < (own_dr (own_mix (q + (-7046029254386353131 : Int64))))) (hd2 : ¬ ((own_lf b) < (own_dr (own_mix ((q + (-7046029254386353131 : Int64)) + (-7046029254386353131 : Int64)))))) :
    MetFree l (⟨"org/ninefold/service/SeededRandom", "nextInt", "(I)I"⟩ : MethodName) (head1 (Jvm.Cond.code (⟨"org/ninefold/service/SeededRandom", "nextInt", "(I)I"⟩ : MethodName) prog_27_method_3_code 6 (some .int) :: ws) rm_rmNI2) (fun A_ U => A_ = #[(.ref a), (.int b)] ∧ Z.Warmed39 U.vm ∧ U.heap = h0) (fun _ _ _ _ _ => True) (fun _ U o U' => ∃ v L, o = .returned v ∧ Q_rmNI2 Z a b q h0 n0 v U'.heap L ∧ FrameEnd U o U' L rm_rmNI2.cells rm_rmNI2.slots) := by
  refine MetFree.of_bodySF (plainFor_of_name pn_org_ninefold_service_SeededRandom) hisR ?_
  intro p e s m args below meth c s₁ Bd hml0 hP hK
  obtain ⟨rfl, hZ, hh⟩ := hP
  have hx := Bd.exec
  have hby := Bd.bytes
  have hml : c.maxLocals = 6 := hml0
  have hown : s.vm.findClass "org/ninefold/service/SeededRandom" = some m.cls := findClass_of_methodNamed Bd.named
  have hnm := (name_of_methodNamed Bd.named Bd.method).1
  have X0 : Stand p l e rm_rmNI2 s m #[(.ref a), (.int b)] below meth c s₁ [] 0 0 := Stand.of_body Bd
  have e0 : s₁.heap = h0 := by rw [← hh, Bd.state]; rfl
  have N0 := Fr.nil n0
  have K := Keep.refl h0 [a]
  refine Go.step (p := p) (e := e) (below := below) (G := fun o U' => ∃ v L, o = .returned v ∧ Q_rmNI2 Z a b q h0 n0 v U'.heap L ∧ FrameEnd s o U' L rm_rmNI2.cells rm_rmNI2.slots) (S' := s₁.setTop (mkF m 0 #[rv a, iv b, u_, u_, u_, u_] [])) (fun t k => castTop (ef_rmNI2 m a b) k) ?_
  refine Go.step (S' := s₁.setTop (mkF m 16 #[rv a, iv b, lv ((9223372036854775807 : Int64) - ((((9223372036854775807 : Int64) - ((9223372036854775807 : Int64) / (b.toInt64)) * (b.toInt64)) + (1 : Int64)) - ((((9223372036854775807 : Int64) - ((9223372036854775807 : Int64) / (b.toInt64)) * (b.toInt64)) + (1 : Int64)) / (b.toInt64)) * (b.toInt64))), .second, u_, u_] [])) (fun t k => ?_) ?_
  · show Steps p.tables e below (s₁.setTop (mkF m 0 #[rv a, iv b, u_, u_, u_, u_] [])) _
    refine X0.ldc2Long hx hown (mvT hZ (own_w hw 36 rfl)) (g := (mkF m 0 #[rv a, iv b, u_, u_, u_, u_] [])) rfl (hb hby d5_0) _ ?_
    show Steps p.tables e below (s₁.setTop (mkF m 3 #[rv a, iv b, u_, u_, u_, u_] [(.long (9223372036854775807 : Int64))])) _
    refine X0.ldc2Long hx hown (mvT hZ (own_w hw 36 rfl)) (g := (mkF m 3 #[rv a, iv b, u_, u_, u_, u_] [(.long (9223372036854775807 : Int64))])) rfl (hb hby d5_3) _ ?_
    show Steps p.tables e below (s₁.setTop (mkF m 6 #[rv a, iv b, u_, u_, u_, u_] [(.long (9223372036854775807 : Int64)), (.long (9223372036854775807 : Int64))])) _
    refine XS.iloadN X0.here hx rfl (hb hby d5_6) rfl ?_
    show Steps p.tables e below (s₁.setTop (mkF m 7 #[rv a, iv b, u_, u_, u_, u_] [(.int b), (.long (9223372036854775807 : Int64)), (.long (9223372036854775807 : Int64))])) _
    refine XS.i2l X0.here hx rfl (hb hby d5_7) rfl ?_
    show Steps p.tables e below (s₁.setTop (mkF m 8 #[rv a, iv b, u_, u_, u_, u_] [(.long (b.toInt64)), (.long (9223372036854775807 : Int64)), (.long (9223372036854775807 : Int64))])) _
    refine XS.lrem X0.here hx rfl (hb hby d5_8) rfl (own_nz hbp) ?_
    show Steps p.tables e below (s₁.setTop (mkF m 9 #[rv a, iv b, u_, u_, u_, u_] [(.long ((9223372036854775807 : Int64) - ((9223372036854775807 : Int64) / (b.toInt64)) * (b.toInt64))), (.long (9223372036854775807 : Int64))])) _
    refine XS.lconst X0.here hx rfl (hb hby d5_9) ?_
    show Steps p.tables e below (s₁.setTop (mkF m 10 #[rv a, iv b, u_, u_, u_, u_] [(.long (1 : Int64)), (.long ((9223372036854775807 : Int64) - ((9223372036854775807 : Int64) / (b.toInt64)) * (b.toInt64))), (.long (9223372036854775807 : Int64))])) _
    refine XS.ladd X0.here hx rfl (hb hby d5_10) rfl ?_
    show Steps p.tables e below (s₁.setTop (mkF m 11 #[rv a, iv b, u_, u_, u_, u_] [(.long (((9223372036854775807 : Int64) - ((9223372036854775807 : Int64) / (b.toInt64)) * (b.toInt64)) + (1 : Int64))), (.long (9223372036854775807 : Int64))])) _
    refine XS.iloadN X0.here hx rfl (hb hby d5_11) rfl ?_
    show Steps p.tables e below (s₁.setTop (mkF m 12 #[rv a, iv b, u_, u_, u_, u_] [(.int b), (.long (((9223372036854775807 : Int64) - ((9223372036854775807 : Int64) / (b.toInt64)) * (b.toInt64)) + (1 : Int64))), (.long (9223372036854775807 : Int64))])) _
    refine XS.i2l X0.here hx rfl (hb hby d5_12) rfl ?_
    show Steps p.tables e below (s₁.setTop (mkF m 13 #[rv a, iv b, u_, u_, u_, u_] [(.long (b.toInt64)), (.long (((9223372036854775807 : Int64) - ((9223372036854775807 : Int64) / (b.toInt64)) * (b.toInt64)) + (1 : Int64))), (.long (9223372036854775807 : Int64))])) _
    refine XS.lrem X0.here hx rfl (hb hby d5_13) rfl (own_nz hbp) ?_
    show Steps p.tables e below (s₁.setTop (mkF m 14 #[rv a, iv b, u_, u_, u_, u_] [(.long ((((9223372036854775807 : Int64) - ((9223372036854775807 : Int64) / (b.toInt64)) * (b.toInt64)) + (1 : Int64)) - ((((9223372036854775807 : Int64) - ((9223372036854775807 : Int64) / (b.toInt64)) * (b.toInt64)) + (1 : Int64)) / (b.toInt64)) * (b.toInt64))), (.long (9223372036854775807 : Int64))])) _
    refine XS.lsub X0.here hx rfl (hb hby d5_14) rfl ?_
    show Steps p.tables e below (s₁.setTop (mkF m 15 #[rv a, iv b, u_, u_, u_, u_] [(.long ((9223372036854775807 : Int64) - ((((9223372036854775807 : Int64) - ((9223372036854775807 : Int64) / (b.toInt64)) * (b.toInt64)) + (1 : Int64)) - ((((9223372036854775807 : Int64) - ((9223372036854775807 : Int64) / (b.toInt64)) * (b.toInt64)) + (1 : Int64)) / (b.toInt64)) * (b.toInt64))))])) _
    refine XS.lstoreN X0.here hx rfl (hb hby d5_15) rfl (l' := #[rv a, iv b, lv ((9223372036854775807 : Int64) - ((((9223372036854775807 : Int64) - ((9223372036854775807 : Int64) / (b.toInt64)) * (b.toInt64)) + (1 : Int64)) - ((((9223372036854775807 : Int64) - ((9223372036854775807 : Int64) / (b.toInt64)) * (b.toInt64)) + (1 : Int64)) / (b.toInt64)) * (b.toInt64))), .second, u_, u_]) rfl ?_
    exact k
  rw [(rfl : ((9223372036854775807 : Int64) - ((((9223372036854775807 : Int64) - ((9223372036854775807 : Int64) / (b.toInt64)) * (b.toInt64)) + (1 : Int64)) - ((((9223372036854775807 : Int64) - ((9223372036854775807 : Int64) / (b.toInt64)) * (b.toInt64)) + (1 : Int64)) / (b.toInt64)) * (b.toInt64))) = (own_lf b))]
  show Go p e below _ (s₁.setTop (mkF m 16 #[rv a, iv b, lv (own_lf b), .second, u_, u_] []))
  refine Go.step (S' := s₁.setTop (mkF m 17 #[rv a, iv b, lv (own_lf b), .second, u_, u_] [(.ref a)])) (fun t k => ?_) ?_
  · show Steps p.tables e below (s₁.setTop (mkF m 16 #[rv a, iv b, lv (own_lf b), .second, u_, u_] [])) _
    refine XS.aloadN X0.here hx rfl (hb hby d5_16) rfl rfl ?_
    exact k
  obtain ⟨cq1, kq1, q1a, q1b, q1c⟩ := isOf hZ e0 E_a
  obtain ⟨_, _, ⟨T1, L1, k1, n1⟩, -, X1, ⟨Lc1, hQ1, l1, y1, z1⟩, st1⟩ := X0.virtualBack hx (y := (⟨"org/ninefold/service/SeededRandom", "nextLong", "()J"⟩ : MethodName)) (z := (⟨"org/ninefold/service/SeededRandom", "nextLong", "()J"⟩ : MethodName)) hown (mvT hZ (own_w hw 37 rfl)) (mvT hZ (own_w hw 24 rfl)) (notFace_of_selects (args := #[]) (mvT hZ (own_w hw 26 rfl))) (mvT hZ (own_w hw 26 rfl)) (mvT hZ (own_w hw 25 rfl)) (by decide) (backOf (W := 0) (rmNL l Z a0 hw [] a q h0 n0 O E_a F_state_a (by assumption)) hZ (own_w hw 27 rfl) (own_w hw 6 rfl) (by decide) (by decide)) q1a q1c (g := (mkF m 17 #[rv a, iv b, lv (own_lf b), .second, u_, u_] [(.ref a)])) rfl (by rw [hml]; rfl) (Steps.refl _) (argsL := []) (rest := []) (lenOf pd__28_29J rfl) rfl (by show 2 * 0 + _ ≤ _; exact Nat.le_of_eq rfl) (hb hby d5_17) (fun _ _ => ⟨rfl, e0, (by decide : 0 + 0 ≤ _), (by decide : 0 + 0 ≤ _)⟩)
  dsimp only [Pt.U, Pt.locs, Pt.cells, Pt.slots] at X1 l1 y1 z1 st1 hQ1
  subst l1 y1 z1
  obtain ⟨rfl, Nq1, K1, P1_E, P1_F⟩ := hQ1
  have N1 := Fr.app N0 Nq1
  have O := O.keep K1 (allS g_a all0)
  have E_a := E_a.keep K1
  have K := K.trans K1 (allS (Or.inl (List.mem_of_getElem? (i := 0) rfl)) all0)
  have E_1 := P1_E
  have F_1 := P1_F
  refine Go.step (fun t k => st1.trans k) ?_
  show Go p e below _ (T1.setTop (mkF m 20 #[rv a, iv b, lv (own_lf b), .second, u_, u_] [(.long (own_mix (q + (-7046029254386353131 : Int64))))]))
  refine Go.step (S' := T1.setTop (mkF m 24 #[rv a, iv b, lv (own_lf b), .second, lv (((own_mix (q + (-7046029254386353131 : Int64))).toUInt64 >>> ((1 : Int32) &&& 0x3f).toInt64.toUInt64).toInt64), .second] [])) (fun t k => ?_) ?_
  · show Steps p.tables e below (T1.setTop (mkF m 20 #[rv a, iv b, lv (own_lf b), .second, u_, u_] [(.long (own_mix (q + (-7046029254386353131 : Int64))))])) _
    refine XS.iconst X1.here hx rfl (hb hby d5_20) ?_
    show Steps p.tables e below (T1.setTop (mkF m 21 #[rv a, iv b, lv (own_lf b), .second, u_, u_] [(.int (1 : Int32)), (.long (own_mix (q + (-7046029254386353131 : Int64))))])) _
    refine XS.lushr X1.here hx rfl (hb hby d5_21) rfl ?_
    show Steps p.tables e below (T1.setTop (mkF m 22 #[rv a, iv b, lv (own_lf b), .second, u_, u_] [(.long (((own_mix (q + (-7046029254386353131 : Int64))).toUInt64 >>> ((1 : Int32) &&& 0x3f).toInt64.toUInt64).toInt64))])) _
    refine XS.lstore X1.here hx rfl (hb hby d5_22) rfl (l' := #[rv a, iv b, lv (own_lf b), .second, lv (((own_mix (q + (-7046029254386353131 : Int64))).toUInt64 >>> ((1 : Int32) &&& 0x3f).toInt64.toUInt64).toInt64), .second]) rfl ?_
    exact k
  rw [(rfl : (((own_mix (q + (-7046029254386353131 : Int64))).toUInt64 >>> ((1 : Int32) &&& 0x3f).toInt64.toUInt64).toInt64) = (own_dr (own_mix (q + (-7046029254386353131 : Int64)))))]
  show Go p e below _ (T1.setTop (mkF m 24 #[rv a, iv b, lv (own_lf b), .second, lv (own_dr (own_mix (q + (-7046029254386353131 : Int64)))), .second] []))
  refine Go.step (S' := T1.setTop (mkF m 17 #[rv a, iv b, lv (own_lf b), .second, lv (own_dr (own_mix (q + (-7046029254386353131 : Int64)))), .second] [(.ref a)])) (fun t k => ?_) ?_
  · show Steps p.tables e below (T1.setTop (mkF m 24 #[rv a, iv b, lv (own_lf b), .second, lv (own_dr (own_mix (q + (-7046029254386353131 : Int64)))), .second] [])) _
    refine XS.lload X1.here hx rfl (hb hby d5_24) rfl ?_
    show Steps p.tables e below (T1.setTop (mkF m 26 #[rv a, iv b, lv (own_lf b), .second, lv (own_dr (own_mix (q + (-7046029254386353131 : Int64)))), .second] [(.long (own_dr (own_mix (q + (-7046029254386353131 : Int64)))))])) _
    refine XS.lloadN X1.here hx rfl (hb hby d5_26) rfl ?_
    show Steps p.tables e below (T1.setTop (mkF m 27 #[rv a, iv b, lv (own_lf b), .second, lv (own_dr (own_mix (q + (-7046029254386353131 : Int64)))), .second] [(.long (own_lf b)), (.long (own_dr (own_mix (q + (-7046029254386353131 : Int64)))))])) _
    refine XS.lcmp X1.here hx rfl (hb hby d5_27) rfl ?_
    show Steps p.tables e below (T1.setTop (mkF m 28 #[rv a, iv b, lv (own_lf b), .second, lv (own_dr (own_mix (q + (-7046029254386353131 : Int64)))), .second] [(.int (lcmpW (own_dr (own_mix (q + (-7046029254386353131 : Int64)))) (own_lf b)))])) _
    refine XS.ifYes X1.here hx rfl (pc0 := 28) (pc' := 16) rfl (hb hby d5_28) rfl ((if0 _ _).trans (tlt ((lw_gt (own_dr (own_mix (q + (-7046029254386353131 : Int64)))) (own_lf b)).mpr hd1)).2.2.1) (by decide) (by decide) ?_
    show Steps p.tables e below (T1.setTop (mkF m 16 #[rv a, iv b, lv (own_lf b), .second, lv (own_dr (own_mix (q + (-7046029254386353131 : Int64)))), .second] [])) _
    refine XS.aloadN X1.here hx rfl (hb hby d5_16) rfl rfl ?_
    exact k
  obtain ⟨cq2, kq2, q2a, q2b, q2c⟩ := isOf hZ (Eq.refl T1.heap) E_a
  obtain ⟨_, _, ⟨T2, L2, k2, n2⟩, -, X2, ⟨Lc2, hQ2, l2, y2, z2⟩, st2⟩ := X1.virtualBack hx (y := (⟨"org/ninefold/service/SeededRandom", "nextLong", "()J"⟩ : MethodName)) (z := (⟨"org/ninefold/service/SeededRandom", "nextLong", "()J"⟩ : MethodName)) hown (mvT hZ (own_w hw 37 rfl)) (mvT hZ (own_w hw 24 rfl)) (notFace_of_selects (args := #[]) (mvT hZ (own_w hw 26 rfl))) (mvT hZ (own_w hw 26 rfl)) (mvT hZ (own_w hw 25 rfl)) (by decide) (backOf (W := 0) (rmNL l Z a0 hw [] a (q + (-7046029254386353131 : Int64)) T1.heap n0 O E_a F_1 (by assumption)) hZ (own_w hw 27 rfl) (own_w hw 6 rfl) (by decide) (by decide)) q2a q2c (g := (mkF m 17 #[rv a, iv b, lv (own_lf b), .second, lv (own_dr (own_mix (q + (-7046029254386353131 : Int64)))), .second] [(.ref a)])) rfl (by rw [hml]; rfl) (Steps.refl _) (argsL := []) (rest := []) (lenOf pd__28_29J rfl) rfl (by show 2 * 0 + _ ≤ _; exact Nat.le_of_eq rfl) (hb hby d5_17) (fun _ _ => ⟨rfl, (Eq.refl T1.heap), (by decide : 0 + 0 ≤ _), (by decide : 0 + 0 ≤ _)⟩)
  dsimp only [Pt.U, Pt.locs, Pt.cells, Pt.slots] at X2 l2 y2 z2 st2 hQ2
  subst l2 y2 z2
  obtain ⟨rfl, Nq2, K2, P2_E, P2_F⟩ := hQ2
  have N2 := Fr.app N1 Nq2
  have O := O.keep K2 (allS g_a all0)
  have E_a := E_a.keep K2
  have K := K.trans K2 (allS (Or.inl (List.mem_of_getElem? (i := 0) rfl)) all0)
  have E_1 := E_1.keep K2
  have E_2 := P2_E
  have F_2 := P2_F
  refine Go.step (fun t k => st2.trans k) ?_
  show Go p e below _ (T2.setTop (mkF m 20 #[rv a, iv b, lv (own_lf b), .second, lv (own_dr (own_mix (q + (-7046029254386353131 : Int64)))), .second] [(.long (own_mix ((q + (-7046029254386353131 : Int64)) + (-7046029254386353131 : Int64))))]))
  refine Go.step (S' := T2.setTop (mkF m 24 #[rv a, iv b, lv (own_lf b), .second, lv (((own_mix ((q + (-7046029254386353131 : Int64)) + (-7046029254386353131 : Int64))).toUInt64 >>> ((1 : Int32) &&& 0x3f).toInt64.toUInt64).toInt64), .second] [])) (fun t k => ?_) ?_
  · show Steps p.tables e below (T2.setTop (mkF m 20 #[rv a, iv b, lv (own_lf b), .second, lv (own_dr (own_mix (q + (-7046029254386353131 : Int64)))), .second] [(.long (own_mix ((q + (-7046029254386353131 : Int64)) + (-7046029254386353131 : Int64))))])) _
    refine XS.iconst X2.here hx rfl (hb hby d5_20) ?_
    show Steps p.tables e below (T2.setTop (mkF m 21 #[rv a, iv b, lv (own_lf b), .second, lv (own_dr (own_mix (q + (-7046029254386353131 : Int64)))), .second] [(.int (1 : Int32)), (.long (own_mix ((q + (-7046029254386353131 : Int64)) + (-7046029254386353131 : Int64))))])) _
    refine XS.lushr X2.here hx rfl (hb hby d5_21) rfl ?_
    show Steps p.tables e below (T2.setTop (mkF m 22 #[rv a, iv b, lv (own_lf b), .second, lv (own_dr (own_mix (q + (-7046029254386353131 : Int64)))), .second] [(.long (((own_mix ((q + (-7046029254386353131 : Int64)) + (-7046029254386353131 : Int64))).toUInt64 >>> ((1 : Int32) &&& 0x3f).toInt64.toUInt64).toInt64))])) _
    refine XS.lstore X2.here hx rfl (hb hby d5_22) rfl (l' := #[rv a, iv b, lv (own_lf b), .second, lv (((own_mix ((q + (-7046029254386353131 : Int64)) + (-7046029254386353131 : Int64))).toUInt64 >>> ((1 : Int32) &&& 0x3f).toInt64.toUInt64).toInt64), .second]) rfl ?_
    exact k
  rw [(rfl : (((own_mix ((q + (-7046029254386353131 : Int64)) + (-7046029254386353131 : Int64))).toUInt64 >>> ((1 : Int32) &&& 0x3f).toInt64.toUInt64).toInt64) = (own_dr (own_mix ((q + (-7046029254386353131 : Int64)) + (-7046029254386353131 : Int64)))))]
  show Go p e below _ (T2.setTop (mkF m 24 #[rv a, iv b, lv (own_lf b), .second, lv (own_dr (own_mix ((q + (-7046029254386353131 : Int64)) + (-7046029254386353131 : Int64)))), .second] []))
  refine Go.step (S' := T2.setTop (mkF m 37 #[rv a, iv b, lv (own_lf b), .second, lv (own_dr (own_mix ((q + (-7046029254386353131 : Int64)) + (-7046029254386353131 : Int64)))), .second] [(.int (((own_dr (own_mix ((q + (-7046029254386353131 : Int64)) + (-7046029254386353131 : Int64)))) - ((own_dr (own_mix ((q + (-7046029254386353131 : Int64)) + (-7046029254386353131 : Int64)))) / (b.toInt64)) * (b.toInt64)).toInt32))])) (fun t k => ?_) ?_
  · show Steps p.tables e below (T2.setTop (mkF m 24 #[rv a, iv b, lv (own_lf b), .second, lv (own_dr (own_mix ((q + (-7046029254386353131 : Int64)) + (-7046029254386353131 : Int64)))), .second] [])) _
    refine XS.lload X2.here hx rfl (hb hby d5_24) rfl ?_
    show Steps p.tables e below (T2.setTop (mkF m 26 #[rv a, iv b, lv (own_lf b), .second, lv (own_dr (own_mix ((q + (-7046029254386353131 : Int64)) + (-7046029254386353131 : Int64)))), .second] [(.long (own_dr (own_mix ((q + (-7046029254386353131 : Int64)) + (-7046029254386353131 : Int64)))))])) _
    refine XS.lloadN X2.here hx rfl (hb hby d5_26) rfl ?_
    show Steps p.tables e below (T2.setTop (mkF m 27 #[rv a, iv b, lv (own_lf b), .second, lv (own_dr (own_mix ((q + (-7046029254386353131 : Int64)) + (-7046029254386353131 : Int64)))), .second] [(.long (own_lf b)), (.long (own_dr (own_mix ((q + (-7046029254386353131 : Int64)) + (-7046029254386353131 : Int64)))))])) _
    refine XS.lcmp X2.here hx rfl (hb hby d5_27) rfl ?_
    show Steps p.tables e below (T2.setTop (mkF m 28 #[rv a, iv b, lv (own_lf b), .second, lv (own_dr (own_mix ((q + (-7046029254386353131 : Int64)) + (-7046029254386353131 : Int64)))), .second] [(.int (lcmpW (own_dr (own_mix ((q + (-7046029254386353131 : Int64)) + (-7046029254386353131 : Int64)))) (own_lf b)))])) _
    refine XS.ifNo X2.here hx rfl (hb hby d5_28) rfl ((if0 _ _).trans (flt (fun zq => absurd ((lw_gt (own_dr (own_mix ((q + (-7046029254386353131 : Int64)) + (-7046029254386353131 : Int64)))) (own_lf b)).mp zq) hd2)).2.2.1) ?_
    show Steps p.tables e below (T2.setTop (mkF m 31 #[rv a, iv b, lv (own_lf b), .second, lv (own_dr (own_mix ((q + (-7046029254386353131 : Int64)) + (-7046029254386353131 : Int64)))), .second] [])) _
    refine XS.lload X2.here hx rfl (hb hby d5_31) rfl ?_
    show Steps p.tables e below (T2.setTop (mkF m 33 #[rv a, iv b, lv (own_lf b), .second, lv (own_dr (own_mix ((q + (-7046029254386353131 : Int64)) + (-7046029254386353131 : Int64)))), .second] [(.long (own_dr (own_mix ((q + (-7046029254386353131 : Int64)) + (-7046029254386353131 : Int64)))))])) _
    refine XS.iloadN X2.here hx rfl (hb hby d5_33) rfl ?_
    show Steps p.tables e below (T2.setTop (mkF m 34 #[rv a, iv b, lv (own_lf b), .second, lv (own_dr (own_mix ((q + (-7046029254386353131 : Int64)) + (-7046029254386353131 : Int64)))), .second] [(.int b), (.long (own_dr (own_mix ((q + (-7046029254386353131 : Int64)) + (-7046029254386353131 : Int64)))))])) _
    refine XS.i2l X2.here hx rfl (hb hby d5_34) rfl ?_
    show Steps p.tables e below (T2.setTop (mkF m 35 #[rv a, iv b, lv (own_lf b), .second, lv (own_dr (own_mix ((q + (-7046029254386353131 : Int64)) + (-7046029254386353131 : Int64)))), .second] [(.long (b.toInt64)), (.long (own_dr (own_mix ((q + (-7046029254386353131 : Int64)) + (-7046029254386353131 : Int64)))))])) _
    refine XS.lrem X2.here hx rfl (hb hby d5_35) rfl (own_nz hbp) ?_
    show Steps p.tables e below (T2.setTop (mkF m 36 #[rv a, iv b, lv (own_lf b), .second, lv (own_dr (own_mix ((q + (-7046029254386353131 : Int64)) + (-7046029254386353131 : Int64)))), .second] [(.long ((own_dr (own_mix ((q + (-7046029254386353131 : Int64)) + (-7046029254386353131 : Int64)))) - ((own_dr (own_mix ((q + (-7046029254386353131 : Int64)) + (-7046029254386353131 : Int64)))) / (b.toInt64)) * (b.toInt64)))])) _
    refine XS.l2i X2.here hx rfl (hb hby d5_36) rfl ?_
    exact k
  obtain ⟨fs, hr, hrun, hended, hW, hsame⟩ := X2.leave (v := some (.int (((own_dr (own_mix ((q + (-7046029254386353131 : Int64)) + (-7046029254386353131 : Int64)))) - ((own_dr (own_mix ((q + (-7046029254386353131 : Int64)) + (-7046029254386353131 : Int64)))) / (b.toInt64)) * (b.toInt64)).toInt32))) (fun h => by rw [Bd.returns] at h; cases h)
  refine Go.fin (S' := T2.setFrames fs) ?_ hrun hended ⟨_, _, rfl, ?_, ⟨_, rfl⟩, hW, hsame.mono (by decide) (by decide)⟩
  · exact retOut X2 hx Bd.returns rfl (Or.inl ⟨rfl, Or.inl rfl, _, rfl⟩) (hb hby d5_37) hr
  · show Q_rmNI2 Z a b q h0 n0 (some (.int (((own_dr (own_mix ((q + (-7046029254386353131 : Int64)) + (-7046029254386353131 : Int64)))) - ((own_dr (own_mix ((q + (-7046029254386353131 : Int64)) + (-7046029254386353131 : Int64)))) / (b.toInt64)) * (b.toInt64)).toInt32))) T2.heap _
    exact ⟨rfl, N2, K, E_a, F_2⟩
theorem ef_rmNI (m : MethodId) (a : Addr) (b : Int32) : entryFrame m #[(.ref a), (.int b)] 6 = mkF m 0 #[.val (.ref a), .val (.int b), .unset, .unset, .unset, .unset] [] := by first | (simp [entryFrame, mkF, argsToLocals, Value.category]; done) | rfl
abbrev rm_rmNI : Room := ({ frames := 2, cells := 0, slots := 0, locals := 25 } : Room)
def Q_rmNI (Z : State) (a : Addr) (b : Int32) (q : Int64) (h0 : Heap) (n0 : Nat) (v : Option Value) (h : Heap) (L : List Loc) : Prop := ∃ r : Int32, ∃ qq : Int64, (v = some (.int r)) ∧ (Fr n0 L) ∧ (Keep h0 h [a]) ∧ (Exa Z h a "org/ninefold/service/SeededRandom") ∧ (Fld Z h a "org/ninefold/service/SeededRandom" "state" "J" (.long qq))
set_option maxRecDepth 65536 in
set_option maxHeartbeats 4000000 in
theorem rmNI (l : Launch) (Z : State) (a0 : Array Value) (hw : ∀ d ∈ tables_1, d.before a0 Z = true) (ws : List Jvm.Cond) (a : Addr) (b : Int32) (q : Int64) (h0 : Heap) (n0 : Nat) (O : Old Z n0 h0) (E_a : Exa Z h0 a "org/ninefold/service/SeededRandom") (F_state_a : Fld Z h0 a "org/ninefold/service/SeededRandom" "state" "J" (.long q)) (g_a : n0 ≤ a) (hbp : (0 : Int32) < b) :
    MetFree l (⟨"org/ninefold/service/SeededRandom", "nextInt", "(I)I"⟩ : MethodName) (head1 (Jvm.Cond.code (⟨"org/ninefold/service/SeededRandom", "nextInt", "(I)I"⟩ : MethodName) prog_27_method_3_code 6 (some .int) :: ws) rm_rmNI) (fun A_ U => A_ = #[(.ref a), (.int b)] ∧ Z.Warmed39 U.vm ∧ U.heap = h0) (fun _ _ _ _ _ => True) (fun _ U o U' => ∃ v L, o = .returned v ∧ Q_rmNI Z a b q h0 n0 v U'.heap L ∧ FrameEnd U o U' L rm_rmNI.cells rm_rmNI.slots) := by
  refine MetFree.of_bodySF (plainFor_of_name pn_org_ninefold_service_SeededRandom) hisR ?_
  intro p e s m args below meth c s₁ Bd hml0 hP hK
  obtain ⟨rfl, hZ, hh⟩ := hP
  have hx := Bd.exec
  have hby := Bd.bytes
  have hml : c.maxLocals = 6 := hml0
  have hown : s.vm.findClass "org/ninefold/service/SeededRandom" = some m.cls := findClass_of_methodNamed Bd.named
  have hnm := (name_of_methodNamed Bd.named Bd.method).1
  have X0 : Stand p l e rm_rmNI s m #[(.ref a), (.int b)] below meth c s₁ [] 0 0 := Stand.of_body Bd
  have e0 : s₁.heap = h0 := by rw [← hh, Bd.state]; rfl
  have N0 := Fr.nil n0
  have K := Keep.refl h0 [a]
  refine Go.step (p := p) (e := e) (below := below) (G := fun o U' => ∃ v L, o = .returned v ∧ Q_rmNI Z a b q h0 n0 v U'.heap L ∧ FrameEnd s o U' L rm_rmNI.cells rm_rmNI.slots) (S' := s₁.setTop (mkF m 0 #[rv a, iv b, u_, u_, u_, u_] [])) (fun t k => castTop (ef_rmNI m a b) k) ?_
  refine Go.step (S' := s₁.setTop (mkF m 16 #[rv a, iv b, lv ((9223372036854775807 : Int64) - ((((9223372036854775807 : Int64) - ((9223372036854775807 : Int64) / (b.toInt64)) * (b.toInt64)) + (1 : Int64)) - ((((9223372036854775807 : Int64) - ((9223372036854775807 : Int64) / (b.toInt64)) * (b.toInt64)) + (1 : Int64)) / (b.toInt64)) * (b.toInt64))), .second, u_, u_] [])) (fun t k => ?_) ?_
  · show Steps p.tables e below (s₁.setTop (mkF m 0 #[rv a, iv b, u_, u_, u_, u_] [])) _
    refine X0.ldc2Long hx hown (mvT hZ (own_w hw 36 rfl)) (g := (mkF m 0 #[rv a, iv b, u_, u_, u_, u_] [])) rfl (hb hby d5_0) _ ?_
    show Steps p.tables e below (s₁.setTop (mkF m 3 #[rv a, iv b, u_, u_, u_, u_] [(.long (9223372036854775807 : Int64))])) _
    refine X0.ldc2Long hx hown (mvT hZ (own_w hw 36 rfl)) (g := (mkF m 3 #[rv a, iv b, u_, u_, u_, u_] [(.long (9223372036854775807 : Int64))])) rfl (hb hby d5_3) _ ?_
    show Steps p.tables e below (s₁.setTop (mkF m 6 #[rv a, iv b, u_, u_, u_, u_] [(.long (9223372036854775807 : Int64)), (.long (9223372036854775807 : Int64))])) _
    refine XS.iloadN X0.here hx rfl (hb hby d5_6) rfl ?_
    show Steps p.tables e below (s₁.setTop (mkF m 7 #[rv a, iv b, u_, u_, u_, u_] [(.int b), (.long (9223372036854775807 : Int64)), (.long (9223372036854775807 : Int64))])) _
    refine XS.i2l X0.here hx rfl (hb hby d5_7) rfl ?_
    show Steps p.tables e below (s₁.setTop (mkF m 8 #[rv a, iv b, u_, u_, u_, u_] [(.long (b.toInt64)), (.long (9223372036854775807 : Int64)), (.long (9223372036854775807 : Int64))])) _
    refine XS.lrem X0.here hx rfl (hb hby d5_8) rfl (own_nz hbp) ?_
    show Steps p.tables e below (s₁.setTop (mkF m 9 #[rv a, iv b, u_, u_, u_, u_] [(.long ((9223372036854775807 : Int64) - ((9223372036854775807 : Int64) / (b.toInt64)) * (b.toInt64))), (.long (9223372036854775807 : Int64))])) _
    refine XS.lconst X0.here hx rfl (hb hby d5_9) ?_
    show Steps p.tables e below (s₁.setTop (mkF m 10 #[rv a, iv b, u_, u_, u_, u_] [(.long (1 : Int64)), (.long ((9223372036854775807 : Int64) - ((9223372036854775807 : Int64) / (b.toInt64)) * (b.toInt64))), (.long (9223372036854775807 : Int64))])) _
    refine XS.ladd X0.here hx rfl (hb hby d5_10) rfl ?_
    show Steps p.tables e below (s₁.setTop (mkF m 11 #[rv a, iv b, u_, u_, u_, u_] [(.long (((9223372036854775807 : Int64) - ((9223372036854775807 : Int64) / (b.toInt64)) * (b.toInt64)) + (1 : Int64))), (.long (9223372036854775807 : Int64))])) _
    refine XS.iloadN X0.here hx rfl (hb hby d5_11) rfl ?_
    show Steps p.tables e below (s₁.setTop (mkF m 12 #[rv a, iv b, u_, u_, u_, u_] [(.int b), (.long (((9223372036854775807 : Int64) - ((9223372036854775807 : Int64) / (b.toInt64)) * (b.toInt64)) + (1 : Int64))), (.long (9223372036854775807 : Int64))])) _
    refine XS.i2l X0.here hx rfl (hb hby d5_12) rfl ?_
    show Steps p.tables e below (s₁.setTop (mkF m 13 #[rv a, iv b, u_, u_, u_, u_] [(.long (b.toInt64)), (.long (((9223372036854775807 : Int64) - ((9223372036854775807 : Int64) / (b.toInt64)) * (b.toInt64)) + (1 : Int64))), (.long (9223372036854775807 : Int64))])) _
    refine XS.lrem X0.here hx rfl (hb hby d5_13) rfl (own_nz hbp) ?_
    show Steps p.tables e below (s₁.setTop (mkF m 14 #[rv a, iv b, u_, u_, u_, u_] [(.long ((((9223372036854775807 : Int64) - ((9223372036854775807 : Int64) / (b.toInt64)) * (b.toInt64)) + (1 : Int64)) - ((((9223372036854775807 : Int64) - ((9223372036854775807 : Int64) / (b.toInt64)) * (b.toInt64)) + (1 : Int64)) / (b.toInt64)) * (b.toInt64))), (.long (9223372036854775807 : Int64))])) _
    refine XS.lsub X0.here hx rfl (hb hby d5_14) rfl ?_
    show Steps p.tables e below (s₁.setTop (mkF m 15 #[rv a, iv b, u_, u_, u_, u_] [(.long ((9223372036854775807 : Int64) - ((((9223372036854775807 : Int64) - ((9223372036854775807 : Int64) / (b.toInt64)) * (b.toInt64)) + (1 : Int64)) - ((((9223372036854775807 : Int64) - ((9223372036854775807 : Int64) / (b.toInt64)) * (b.toInt64)) + (1 : Int64)) / (b.toInt64)) * (b.toInt64))))])) _
    refine XS.lstoreN X0.here hx rfl (hb hby d5_15) rfl (l' := #[rv a, iv b, lv ((9223372036854775807 : Int64) - ((((9223372036854775807 : Int64) - ((9223372036854775807 : Int64) / (b.toInt64)) * (b.toInt64)) + (1 : Int64)) - ((((9223372036854775807 : Int64) - ((9223372036854775807 : Int64) / (b.toInt64)) * (b.toInt64)) + (1 : Int64)) / (b.toInt64)) * (b.toInt64))), .second, u_, u_]) rfl ?_
    exact k
  rw [(rfl : ((9223372036854775807 : Int64) - ((((9223372036854775807 : Int64) - ((9223372036854775807 : Int64) / (b.toInt64)) * (b.toInt64)) + (1 : Int64)) - ((((9223372036854775807 : Int64) - ((9223372036854775807 : Int64) / (b.toInt64)) * (b.toInt64)) + (1 : Int64)) / (b.toInt64)) * (b.toInt64))) = (own_lf b))]
  show Go p e below _ (s₁.setTop (mkF m 16 #[rv a, iv b, lv (own_lf b), .second, u_, u_] []))
  refine Go.step (S' := s₁.setTop (mkF m 17 #[rv a, iv b, lv (own_lf b), .second, u_, u_] [(.ref a)])) (fun t k => ?_) ?_
  · show Steps p.tables e below (s₁.setTop (mkF m 16 #[rv a, iv b, lv (own_lf b), .second, u_, u_] [])) _
    refine XS.aloadN X0.here hx rfl (hb hby d5_16) rfl rfl ?_
    exact k
  obtain ⟨cq1, kq1, q1a, q1b, q1c⟩ := isOf hZ e0 E_a
  obtain ⟨_, _, ⟨T1, L1, k1, n1⟩, -, X1, ⟨Lc1, hQ1, l1, y1, z1⟩, st1⟩ := X0.virtualBack hx (y := (⟨"org/ninefold/service/SeededRandom", "nextLong", "()J"⟩ : MethodName)) (z := (⟨"org/ninefold/service/SeededRandom", "nextLong", "()J"⟩ : MethodName)) hown (mvT hZ (own_w hw 37 rfl)) (mvT hZ (own_w hw 24 rfl)) (notFace_of_selects (args := #[]) (mvT hZ (own_w hw 26 rfl))) (mvT hZ (own_w hw 26 rfl)) (mvT hZ (own_w hw 25 rfl)) (by decide) (backOf (W := 0) (rmNL l Z a0 hw [] a q h0 n0 O E_a F_state_a (by assumption)) hZ (own_w hw 27 rfl) (own_w hw 6 rfl) (by decide) (by decide)) q1a q1c (g := (mkF m 17 #[rv a, iv b, lv (own_lf b), .second, u_, u_] [(.ref a)])) rfl (by rw [hml]; rfl) (Steps.refl _) (argsL := []) (rest := []) (lenOf pd__28_29J rfl) rfl (by show 2 * 0 + _ ≤ _; exact Nat.le_of_eq rfl) (hb hby d5_17) (fun _ _ => ⟨rfl, e0, (by decide : 0 + 0 ≤ _), (by decide : 0 + 0 ≤ _)⟩)
  dsimp only [Pt.U, Pt.locs, Pt.cells, Pt.slots] at X1 l1 y1 z1 st1 hQ1
  subst l1 y1 z1
  obtain ⟨rfl, Nq1, K1, P1_E, P1_F⟩ := hQ1
  have N1 := Fr.app N0 Nq1
  have O := O.keep K1 (allS g_a all0)
  have E_a := E_a.keep K1
  have K := K.trans K1 (allS (Or.inl (List.mem_of_getElem? (i := 0) rfl)) all0)
  have E_1 := P1_E
  have F_1 := P1_F
  refine Go.step (fun t k => st1.trans k) ?_
  show Go p e below _ (T1.setTop (mkF m 20 #[rv a, iv b, lv (own_lf b), .second, u_, u_] [(.long (own_mix (q + (-7046029254386353131 : Int64))))]))
  refine Go.step (S' := T1.setTop (mkF m 24 #[rv a, iv b, lv (own_lf b), .second, lv (((own_mix (q + (-7046029254386353131 : Int64))).toUInt64 >>> ((1 : Int32) &&& 0x3f).toInt64.toUInt64).toInt64), .second] [])) (fun t k => ?_) ?_
  · show Steps p.tables e below (T1.setTop (mkF m 20 #[rv a, iv b, lv (own_lf b), .second, u_, u_] [(.long (own_mix (q + (-7046029254386353131 : Int64))))])) _
    refine XS.iconst X1.here hx rfl (hb hby d5_20) ?_
    show Steps p.tables e below (T1.setTop (mkF m 21 #[rv a, iv b, lv (own_lf b), .second, u_, u_] [(.int (1 : Int32)), (.long (own_mix (q + (-7046029254386353131 : Int64))))])) _
    refine XS.lushr X1.here hx rfl (hb hby d5_21) rfl ?_
    show Steps p.tables e below (T1.setTop (mkF m 22 #[rv a, iv b, lv (own_lf b), .second, u_, u_] [(.long (((own_mix (q + (-7046029254386353131 : Int64))).toUInt64 >>> ((1 : Int32) &&& 0x3f).toInt64.toUInt64).toInt64))])) _
    refine XS.lstore X1.here hx rfl (hb hby d5_22) rfl (l' := #[rv a, iv b, lv (own_lf b), .second, lv (((own_mix (q + (-7046029254386353131 : Int64))).toUInt64 >>> ((1 : Int32) &&& 0x3f).toInt64.toUInt64).toInt64), .second]) rfl ?_
    exact k
  rw [(rfl : (((own_mix (q + (-7046029254386353131 : Int64))).toUInt64 >>> ((1 : Int32) &&& 0x3f).toInt64.toUInt64).toInt64) = (own_dr (own_mix (q + (-7046029254386353131 : Int64)))))]
  show Go p e below _ (T1.setTop (mkF m 24 #[rv a, iv b, lv (own_lf b), .second, lv (own_dr (own_mix (q + (-7046029254386353131 : Int64)))), .second] []))
  refine Go.step (S' := T1.setTop (mkF m 28 #[rv a, iv b, lv (own_lf b), .second, lv (own_dr (own_mix (q + (-7046029254386353131 : Int64)))), .second] [(.int (lcmpW (own_dr (own_mix (q + (-7046029254386353131 : Int64)))) (own_lf b)))])) (fun t k => ?_) ?_
  · show Steps p.tables e below (T1.setTop (mkF m 24 #[rv a, iv b, lv (own_lf b), .second, lv (own_dr (own_mix (q + (-7046029254386353131 : Int64)))), .second] [])) _
    refine XS.lload X1.here hx rfl (hb hby d5_24) rfl ?_
    show Steps p.tables e below (T1.setTop (mkF m 26 #[rv a, iv b, lv (own_lf b), .second, lv (own_dr (own_mix (q + (-7046029254386353131 : Int64)))), .second] [(.long (own_dr (own_mix (q + (-7046029254386353131 : Int64)))))])) _
    refine XS.lloadN X1.here hx rfl (hb hby d5_26) rfl ?_
    show Steps p.tables e below (T1.setTop (mkF m 27 #[rv a, iv b, lv (own_lf b), .second, lv (own_dr (own_mix (q + (-7046029254386353131 : Int64)))), .second] [(.long (own_lf b)), (.long (own_dr (own_mix (q + (-7046029254386353131 : Int64)))))])) _
    refine XS.lcmp X1.here hx rfl (hb hby d5_27) rfl ?_
    exact k
  by_cases hc28 : (own_lf b) < (own_dr (own_mix (q + (-7046029254386353131 : Int64))))
  · skip
    refine Go.step (S' := T1.setTop (mkF m 16 #[rv a, iv b, lv (own_lf b), .second, lv (own_dr (own_mix (q + (-7046029254386353131 : Int64)))), .second] [])) (fun t k => ?_) ?_
    · show Steps p.tables e below (T1.setTop (mkF m 28 #[rv a, iv b, lv (own_lf b), .second, lv (own_dr (own_mix (q + (-7046029254386353131 : Int64)))), .second] [(.int (lcmpW (own_dr (own_mix (q + (-7046029254386353131 : Int64)))) (own_lf b)))])) _
      refine XS.ifYes X1.here hx rfl (pc0 := 28) (pc' := 16) rfl (hb hby d5_28) rfl ((if0 _ _).trans (tlt ((lw_gt (own_dr (own_mix (q + (-7046029254386353131 : Int64)))) (own_lf b)).mpr hc28)).2.2.1) (by decide) (by decide) ?_
      exact k
    have loop : ∀ (n : Nat) (ql dl : Int64) (TL : State) (HL : Heap) (LL : List Loc) (XL : Stand p l e rm_rmNI s m #[(.ref a), (.int b)] below meth c TL LL 0 0) (eL : TL.heap = HL) (O : Old Z n0 HL) (K : Keep h0 HL [a]) (E_a : Exa Z HL a "org/ninefold/service/SeededRandom") (F_state_a : Fld Z HL a "org/ninefold/service/SeededRandom" "state" "J" (.long ql)) (NL : Fr n0 LL), own_meas ql = n → Go p e below (fun o U' => ∃ v L, o = .returned v ∧ Q_rmNI Z a b q h0 n0 v U'.heap L ∧ FrameEnd s o U' L rm_rmNI.cells rm_rmNI.slots) (TL.setTop (mkF m 16 #[rv a, iv b, lv (own_lf b), .second, lv dl, .second] [])) := by
      intro n
      induction n with
      | zero =>
        intro ql dl TL HL LL XL eL O K E_a F_state_a NL hm
        refine Go.step (S' := TL.setTop (mkF m 17 #[rv a, iv b, lv (own_lf b), .second, lv dl, .second] [(.ref a)])) (fun t k => ?_) ?_
        · show Steps p.tables e below (TL.setTop (mkF m 16 #[rv a, iv b, lv (own_lf b), .second, lv dl, .second] [])) _
          refine XS.aloadN XL.here hx rfl (hb hby d5_16) rfl rfl ?_
          exact k
        obtain ⟨cq2, kq2, q2a, q2b, q2c⟩ := isOf hZ eL E_a
        obtain ⟨_, _, ⟨T2, L2, k2, n2⟩, -, X2, ⟨Lc2, hQ2, l2, y2, z2⟩, st2⟩ := XL.virtualBack hx (y := (⟨"org/ninefold/service/SeededRandom", "nextLong", "()J"⟩ : MethodName)) (z := (⟨"org/ninefold/service/SeededRandom", "nextLong", "()J"⟩ : MethodName)) hown (mvT hZ (own_w hw 37 rfl)) (mvT hZ (own_w hw 24 rfl)) (notFace_of_selects (args := #[]) (mvT hZ (own_w hw 26 rfl))) (mvT hZ (own_w hw 26 rfl)) (mvT hZ (own_w hw 25 rfl)) (by decide) (backOf (W := 0) (rmNL l Z a0 hw [] a ql HL n0 O E_a F_state_a (by assumption)) hZ (own_w hw 27 rfl) (own_w hw 6 rfl) (by decide) (by decide)) q2a q2c (g := (mkF m 17 #[rv a, iv b, lv (own_lf b), .second, lv dl, .second] [(.ref a)])) rfl (by rw [hml]; rfl) (Steps.refl _) (argsL := []) (rest := []) (lenOf pd__28_29J rfl) rfl (by show 2 * 0 + _ ≤ _; exact Nat.le_of_eq rfl) (hb hby d5_17) (fun _ _ => ⟨rfl, eL, (by decide : 0 + 0 ≤ _), (by decide : 0 + 0 ≤ _)⟩)
        dsimp only [Pt.U, Pt.locs, Pt.cells, Pt.slots] at X2 l2 y2 z2 st2 hQ2
        subst l2 y2 z2
        obtain ⟨rfl, Nq2, K2, P2_E, P2_F⟩ := hQ2
        have N2 := Fr.app NL Nq2
        have O := O.keep K2 (allS g_a all0)
        have K := K.trans K2 (allS (Or.inl (List.mem_of_getElem? (i := 0) rfl)) all0)
        have E_a := E_a.keep K2
        have E_2 := P2_E
        have F_2 := P2_F
        refine Go.step (fun t k => st2.trans k) ?_
        show Go p e below _ (T2.setTop (mkF m 20 #[rv a, iv b, lv (own_lf b), .second, lv dl, .second] [(.long (own_mix (ql + (-7046029254386353131 : Int64))))]))
        refine Go.step (S' := T2.setTop (mkF m 24 #[rv a, iv b, lv (own_lf b), .second, lv (((own_mix (ql + (-7046029254386353131 : Int64))).toUInt64 >>> ((1 : Int32) &&& 0x3f).toInt64.toUInt64).toInt64), .second] [])) (fun t k => ?_) ?_
        · show Steps p.tables e below (T2.setTop (mkF m 20 #[rv a, iv b, lv (own_lf b), .second, lv dl, .second] [(.long (own_mix (ql + (-7046029254386353131 : Int64))))])) _
          refine XS.iconst X2.here hx rfl (hb hby d5_20) ?_
          show Steps p.tables e below (T2.setTop (mkF m 21 #[rv a, iv b, lv (own_lf b), .second, lv dl, .second] [(.int (1 : Int32)), (.long (own_mix (ql + (-7046029254386353131 : Int64))))])) _
          refine XS.lushr X2.here hx rfl (hb hby d5_21) rfl ?_
          show Steps p.tables e below (T2.setTop (mkF m 22 #[rv a, iv b, lv (own_lf b), .second, lv dl, .second] [(.long (((own_mix (ql + (-7046029254386353131 : Int64))).toUInt64 >>> ((1 : Int32) &&& 0x3f).toInt64.toUInt64).toInt64))])) _
          refine XS.lstore X2.here hx rfl (hb hby d5_22) rfl (l' := #[rv a, iv b, lv (own_lf b), .second, lv (((own_mix (ql + (-7046029254386353131 : Int64))).toUInt64 >>> ((1 : Int32) &&& 0x3f).toInt64.toUInt64).toInt64), .second]) rfl ?_
          exact k
        rw [(rfl : (((own_mix (ql + (-7046029254386353131 : Int64))).toUInt64 >>> ((1 : Int32) &&& 0x3f).toInt64.toUInt64).toInt64) = (own_dr (own_mix (ql + (-7046029254386353131 : Int64)))))]
        show Go p e below _ (T2.setTop (mkF m 24 #[rv a, iv b, lv (own_lf b), .second, lv (own_dr (own_mix (ql + (-7046029254386353131 : Int64)))), .second] []))
        refine Go.step (S' := T2.setTop (mkF m 28 #[rv a, iv b, lv (own_lf b), .second, lv (own_dr (own_mix (ql + (-7046029254386353131 : Int64)))), .second] [(.int (lcmpW (own_dr (own_mix (ql + (-7046029254386353131 : Int64)))) (own_lf b)))])) (fun t k => ?_) ?_
        · show Steps p.tables e below (T2.setTop (mkF m 24 #[rv a, iv b, lv (own_lf b), .second, lv (own_dr (own_mix (ql + (-7046029254386353131 : Int64)))), .second] [])) _
          refine XS.lload X2.here hx rfl (hb hby d5_24) rfl ?_
          show Steps p.tables e below (T2.setTop (mkF m 26 #[rv a, iv b, lv (own_lf b), .second, lv (own_dr (own_mix (ql + (-7046029254386353131 : Int64)))), .second] [(.long (own_dr (own_mix (ql + (-7046029254386353131 : Int64)))))])) _
          refine XS.lloadN X2.here hx rfl (hb hby d5_26) rfl ?_
          show Steps p.tables e below (T2.setTop (mkF m 27 #[rv a, iv b, lv (own_lf b), .second, lv (own_dr (own_mix (ql + (-7046029254386353131 : Int64)))), .second] [(.long (own_lf b)), (.long (own_dr (own_mix (ql + (-7046029254386353131 : Int64)))))])) _
          refine XS.lcmp X2.here hx rfl (hb hby d5_27) rfl ?_
          exact k
        by_cases hc28 : (own_lf b) < (own_dr (own_mix (ql + (-7046029254386353131 : Int64))))
        · skip
          refine Go.step (S' := T2.setTop (mkF m 16 #[rv a, iv b, lv (own_lf b), .second, lv (own_dr (own_mix (ql + (-7046029254386353131 : Int64)))), .second] [])) (fun t k => ?_) ?_
          · show Steps p.tables e below (T2.setTop (mkF m 28 #[rv a, iv b, lv (own_lf b), .second, lv (own_dr (own_mix (ql + (-7046029254386353131 : Int64)))), .second] [(.int (lcmpW (own_dr (own_mix (ql + (-7046029254386353131 : Int64)))) (own_lf b)))])) _
            refine XS.ifYes X2.here hx rfl (pc0 := 28) (pc' := 16) rfl (hb hby d5_28) rfl ((if0 _ _).trans (tlt ((lw_gt (own_dr (own_mix (ql + (-7046029254386353131 : Int64)))) (own_lf b)).mpr hc28)).2.2.1) (by decide) (by decide) ?_
            exact k
          exact absurd hc28 (own_stop hbp hm)
        · skip
          refine Go.step (S' := T2.setTop (mkF m 37 #[rv a, iv b, lv (own_lf b), .second, lv (own_dr (own_mix (ql + (-7046029254386353131 : Int64)))), .second] [(.int (((own_dr (own_mix (ql + (-7046029254386353131 : Int64)))) - ((own_dr (own_mix (ql + (-7046029254386353131 : Int64)))) / (b.toInt64)) * (b.toInt64)).toInt32))])) (fun t k => ?_) ?_
          · show Steps p.tables e below (T2.setTop (mkF m 28 #[rv a, iv b, lv (own_lf b), .second, lv (own_dr (own_mix (ql + (-7046029254386353131 : Int64)))), .second] [(.int (lcmpW (own_dr (own_mix (ql + (-7046029254386353131 : Int64)))) (own_lf b)))])) _
            refine XS.ifNo X2.here hx rfl (hb hby d5_28) rfl ((if0 _ _).trans (flt (fun zq => absurd ((lw_gt (own_dr (own_mix (ql + (-7046029254386353131 : Int64)))) (own_lf b)).mp zq) hc28)).2.2.1) ?_
            show Steps p.tables e below (T2.setTop (mkF m 31 #[rv a, iv b, lv (own_lf b), .second, lv (own_dr (own_mix (ql + (-7046029254386353131 : Int64)))), .second] [])) _
            refine XS.lload X2.here hx rfl (hb hby d5_31) rfl ?_
            show Steps p.tables e below (T2.setTop (mkF m 33 #[rv a, iv b, lv (own_lf b), .second, lv (own_dr (own_mix (ql + (-7046029254386353131 : Int64)))), .second] [(.long (own_dr (own_mix (ql + (-7046029254386353131 : Int64)))))])) _
            refine XS.iloadN X2.here hx rfl (hb hby d5_33) rfl ?_
            show Steps p.tables e below (T2.setTop (mkF m 34 #[rv a, iv b, lv (own_lf b), .second, lv (own_dr (own_mix (ql + (-7046029254386353131 : Int64)))), .second] [(.int b), (.long (own_dr (own_mix (ql + (-7046029254386353131 : Int64)))))])) _
            refine XS.i2l X2.here hx rfl (hb hby d5_34) rfl ?_
            show Steps p.tables e below (T2.setTop (mkF m 35 #[rv a, iv b, lv (own_lf b), .second, lv (own_dr (own_mix (ql + (-7046029254386353131 : Int64)))), .second] [(.long (b.toInt64)), (.long (own_dr (own_mix (ql + (-7046029254386353131 : Int64)))))])) _
            refine XS.lrem X2.here hx rfl (hb hby d5_35) rfl (own_nz hbp) ?_
            show Steps p.tables e below (T2.setTop (mkF m 36 #[rv a, iv b, lv (own_lf b), .second, lv (own_dr (own_mix (ql + (-7046029254386353131 : Int64)))), .second] [(.long ((own_dr (own_mix (ql + (-7046029254386353131 : Int64)))) - ((own_dr (own_mix (ql + (-7046029254386353131 : Int64)))) / (b.toInt64)) * (b.toInt64)))])) _
            refine XS.l2i X2.here hx rfl (hb hby d5_36) rfl ?_
            exact k
          obtain ⟨fs, hr, hrun, hended, hW, hsame⟩ := X2.leave (v := some (.int (((own_dr (own_mix (ql + (-7046029254386353131 : Int64)))) - ((own_dr (own_mix (ql + (-7046029254386353131 : Int64)))) / (b.toInt64)) * (b.toInt64)).toInt32))) (fun h => by rw [Bd.returns] at h; cases h)
          refine Go.fin (S' := T2.setFrames fs) ?_ hrun hended ⟨_, _, rfl, ?_, ⟨_, rfl⟩, hW, hsame.mono (by decide) (by decide)⟩
          · exact retOut X2 hx Bd.returns rfl (Or.inl ⟨rfl, Or.inl rfl, _, rfl⟩) (hb hby d5_37) hr
          · show Q_rmNI Z a b q h0 n0 (some (.int (((own_dr (own_mix (ql + (-7046029254386353131 : Int64)))) - ((own_dr (own_mix (ql + (-7046029254386353131 : Int64)))) / (b.toInt64)) * (b.toInt64)).toInt32))) T2.heap _
            exact ⟨(((own_dr (own_mix (ql + (-7046029254386353131 : Int64)))) - ((own_dr (own_mix (ql + (-7046029254386353131 : Int64)))) / (b.toInt64)) * (b.toInt64)).toInt32), (ql + (-7046029254386353131 : Int64)), rfl, N2, K, E_a, F_2⟩
      | succ n ih =>
        intro ql dl TL HL LL XL eL O K E_a F_state_a NL hm
        refine Go.step (S' := TL.setTop (mkF m 17 #[rv a, iv b, lv (own_lf b), .second, lv dl, .second] [(.ref a)])) (fun t k => ?_) ?_
        · show Steps p.tables e below (TL.setTop (mkF m 16 #[rv a, iv b, lv (own_lf b), .second, lv dl, .second] [])) _
          refine XS.aloadN XL.here hx rfl (hb hby d5_16) rfl rfl ?_
          exact k
        obtain ⟨cq3, kq3, q3a, q3b, q3c⟩ := isOf hZ eL E_a
        obtain ⟨_, _, ⟨T3, L3, k3, n3⟩, -, X3, ⟨Lc3, hQ3, l3, y3, z3⟩, st3⟩ := XL.virtualBack hx (y := (⟨"org/ninefold/service/SeededRandom", "nextLong", "()J"⟩ : MethodName)) (z := (⟨"org/ninefold/service/SeededRandom", "nextLong", "()J"⟩ : MethodName)) hown (mvT hZ (own_w hw 37 rfl)) (mvT hZ (own_w hw 24 rfl)) (notFace_of_selects (args := #[]) (mvT hZ (own_w hw 26 rfl))) (mvT hZ (own_w hw 26 rfl)) (mvT hZ (own_w hw 25 rfl)) (by decide) (backOf (W := 0) (rmNL l Z a0 hw [] a ql HL n0 O E_a F_state_a (by assumption)) hZ (own_w hw 27 rfl) (own_w hw 6 rfl) (by decide) (by decide)) q3a q3c (g := (mkF m 17 #[rv a, iv b, lv (own_lf b), .second, lv dl, .second] [(.ref a)])) rfl (by rw [hml]; rfl) (Steps.refl _) (argsL := []) (rest := []) (lenOf pd__28_29J rfl) rfl (by show 2 * 0 + _ ≤ _; exact Nat.le_of_eq rfl) (hb hby d5_17) (fun _ _ => ⟨rfl, eL, (by decide : 0 + 0 ≤ _), (by decide : 0 + 0 ≤ _)⟩)
        dsimp only [Pt.U, Pt.locs, Pt.cells, Pt.slots] at X3 l3 y3 z3 st3 hQ3
        subst l3 y3 z3
        obtain ⟨rfl, Nq3, K3, P3_E, P3_F⟩ := hQ3
        have N3 := Fr.app NL Nq3
        have O := O.keep K3 (allS g_a all0)
        have K := K.trans K3 (allS (Or.inl (List.mem_of_getElem? (i := 0) rfl)) all0)
        have E_a := E_a.keep K3
        have E_3 := P3_E
        have F_3 := P3_F
        refine Go.step (fun t k => st3.trans k) ?_
        show Go p e below _ (T3.setTop (mkF m 20 #[rv a, iv b, lv (own_lf b), .second, lv dl, .second] [(.long (own_mix (ql + (-7046029254386353131 : Int64))))]))
        refine Go.step (S' := T3.setTop (mkF m 24 #[rv a, iv b, lv (own_lf b), .second, lv (((own_mix (ql + (-7046029254386353131 : Int64))).toUInt64 >>> ((1 : Int32) &&& 0x3f).toInt64.toUInt64).toInt64), .second] [])) (fun t k => ?_) ?_
        · show Steps p.tables e below (T3.setTop (mkF m 20 #[rv a, iv b, lv (own_lf b), .second, lv dl, .second] [(.long (own_mix (ql + (-7046029254386353131 : Int64))))])) _
          refine XS.iconst X3.here hx rfl (hb hby d5_20) ?_
          show Steps p.tables e below (T3.setTop (mkF m 21 #[rv a, iv b, lv (own_lf b), .second, lv dl, .second] [(.int (1 : Int32)), (.long (own_mix (ql + (-7046029254386353131 : Int64))))])) _
          refine XS.lushr X3.here hx rfl (hb hby d5_21) rfl ?_
          show Steps p.tables e below (T3.setTop (mkF m 22 #[rv a, iv b, lv (own_lf b), .second, lv dl, .second] [(.long (((own_mix (ql + (-7046029254386353131 : Int64))).toUInt64 >>> ((1 : Int32) &&& 0x3f).toInt64.toUInt64).toInt64))])) _
          refine XS.lstore X3.here hx rfl (hb hby d5_22) rfl (l' := #[rv a, iv b, lv (own_lf b), .second, lv (((own_mix (ql + (-7046029254386353131 : Int64))).toUInt64 >>> ((1 : Int32) &&& 0x3f).toInt64.toUInt64).toInt64), .second]) rfl ?_
          exact k
        rw [(rfl : (((own_mix (ql + (-7046029254386353131 : Int64))).toUInt64 >>> ((1 : Int32) &&& 0x3f).toInt64.toUInt64).toInt64) = (own_dr (own_mix (ql + (-7046029254386353131 : Int64)))))]
        show Go p e below _ (T3.setTop (mkF m 24 #[rv a, iv b, lv (own_lf b), .second, lv (own_dr (own_mix (ql + (-7046029254386353131 : Int64)))), .second] []))
        refine Go.step (S' := T3.setTop (mkF m 28 #[rv a, iv b, lv (own_lf b), .second, lv (own_dr (own_mix (ql + (-7046029254386353131 : Int64)))), .second] [(.int (lcmpW (own_dr (own_mix (ql + (-7046029254386353131 : Int64)))) (own_lf b)))])) (fun t k => ?_) ?_
        · show Steps p.tables e below (T3.setTop (mkF m 24 #[rv a, iv b, lv (own_lf b), .second, lv (own_dr (own_mix (ql + (-7046029254386353131 : Int64)))), .second] [])) _
          refine XS.lload X3.here hx rfl (hb hby d5_24) rfl ?_
          show Steps p.tables e below (T3.setTop (mkF m 26 #[rv a, iv b, lv (own_lf b), .second, lv (own_dr (own_mix (ql + (-7046029254386353131 : Int64)))), .second] [(.long (own_dr (own_mix (ql + (-7046029254386353131 : Int64)))))])) _
          refine XS.lloadN X3.here hx rfl (hb hby d5_26) rfl ?_
          show Steps p.tables e below (T3.setTop (mkF m 27 #[rv a, iv b, lv (own_lf b), .second, lv (own_dr (own_mix (ql + (-7046029254386353131 : Int64)))), .second] [(.long (own_lf b)), (.long (own_dr (own_mix (ql + (-7046029254386353131 : Int64)))))])) _
          refine XS.lcmp X3.here hx rfl (hb hby d5_27) rfl ?_
          exact k
        by_cases hc28 : (own_lf b) < (own_dr (own_mix (ql + (-7046029254386353131 : Int64))))
        · skip
          refine Go.step (S' := T3.setTop (mkF m 16 #[rv a, iv b, lv (own_lf b), .second, lv (own_dr (own_mix (ql + (-7046029254386353131 : Int64)))), .second] [])) (fun t k => ?_) ?_
          · show Steps p.tables e below (T3.setTop (mkF m 28 #[rv a, iv b, lv (own_lf b), .second, lv (own_dr (own_mix (ql + (-7046029254386353131 : Int64)))), .second] [(.int (lcmpW (own_dr (own_mix (ql + (-7046029254386353131 : Int64)))) (own_lf b)))])) _
            refine XS.ifYes X3.here hx rfl (pc0 := 28) (pc' := 16) rfl (hb hby d5_28) rfl ((if0 _ _).trans (tlt ((lw_gt (own_dr (own_mix (ql + (-7046029254386353131 : Int64)))) (own_lf b)).mpr hc28)).2.2.1) (by decide) (by decide) ?_
            exact k
          exact ih _ _ _ _ _ X3 (Eq.refl T3.heap) O K E_a F_3 N3 (own_meas1 hm)
        · skip
          refine Go.step (S' := T3.setTop (mkF m 37 #[rv a, iv b, lv (own_lf b), .second, lv (own_dr (own_mix (ql + (-7046029254386353131 : Int64)))), .second] [(.int (((own_dr (own_mix (ql + (-7046029254386353131 : Int64)))) - ((own_dr (own_mix (ql + (-7046029254386353131 : Int64)))) / (b.toInt64)) * (b.toInt64)).toInt32))])) (fun t k => ?_) ?_
          · show Steps p.tables e below (T3.setTop (mkF m 28 #[rv a, iv b, lv (own_lf b), .second, lv (own_dr (own_mix (ql + (-7046029254386353131 : Int64)))), .second] [(.int (lcmpW (own_dr (own_mix (ql + (-7046029254386353131 : Int64)))) (own_lf b)))])) _
            refine XS.ifNo X3.here hx rfl (hb hby d5_28) rfl ((if0 _ _).trans (flt (fun zq => absurd ((lw_gt (own_dr (own_mix (ql + (-7046029254386353131 : Int64)))) (own_lf b)).mp zq) hc28)).2.2.1) ?_
            show Steps p.tables e below (T3.setTop (mkF m 31 #[rv a, iv b, lv (own_lf b), .second, lv (own_dr (own_mix (ql + (-7046029254386353131 : Int64)))), .second] [])) _
            refine XS.lload X3.here hx rfl (hb hby d5_31) rfl ?_
            show Steps p.tables e below (T3.setTop (mkF m 33 #[rv a, iv b, lv (own_lf b), .second, lv (own_dr (own_mix (ql + (-7046029254386353131 : Int64)))), .second] [(.long (own_dr (own_mix (ql + (-7046029254386353131 : Int64)))))])) _
            refine XS.iloadN X3.here hx rfl (hb hby d5_33) rfl ?_
            show Steps p.tables e below (T3.setTop (mkF m 34 #[rv a, iv b, lv (own_lf b), .second, lv (own_dr (own_mix (ql + (-7046029254386353131 : Int64)))), .second] [(.int b), (.long (own_dr (own_mix (ql + (-7046029254386353131 : Int64)))))])) _
            refine XS.i2l X3.here hx rfl (hb hby d5_34) rfl ?_
            show Steps p.tables e below (T3.setTop (mkF m 35 #[rv a, iv b, lv (own_lf b), .second, lv (own_dr (own_mix (ql + (-7046029254386353131 : Int64)))), .second] [(.long (b.toInt64)), (.long (own_dr (own_mix (ql + (-7046029254386353131 : Int64)))))])) _
            refine XS.lrem X3.here hx rfl (hb hby d5_35) rfl (own_nz hbp) ?_
            show Steps p.tables e below (T3.setTop (mkF m 36 #[rv a, iv b, lv (own_lf b), .second, lv (own_dr (own_mix (ql + (-7046029254386353131 : Int64)))), .second] [(.long ((own_dr (own_mix (ql + (-7046029254386353131 : Int64)))) - ((own_dr (own_mix (ql + (-7046029254386353131 : Int64)))) / (b.toInt64)) * (b.toInt64)))])) _
            refine XS.l2i X3.here hx rfl (hb hby d5_36) rfl ?_
            exact k
          obtain ⟨fs, hr, hrun, hended, hW, hsame⟩ := X3.leave (v := some (.int (((own_dr (own_mix (ql + (-7046029254386353131 : Int64)))) - ((own_dr (own_mix (ql + (-7046029254386353131 : Int64)))) / (b.toInt64)) * (b.toInt64)).toInt32))) (fun h => by rw [Bd.returns] at h; cases h)
          refine Go.fin (S' := T3.setFrames fs) ?_ hrun hended ⟨_, _, rfl, ?_, ⟨_, rfl⟩, hW, hsame.mono (by decide) (by decide)⟩
          · exact retOut X3 hx Bd.returns rfl (Or.inl ⟨rfl, Or.inl rfl, _, rfl⟩) (hb hby d5_37) hr
          · show Q_rmNI Z a b q h0 n0 (some (.int (((own_dr (own_mix (ql + (-7046029254386353131 : Int64)))) - ((own_dr (own_mix (ql + (-7046029254386353131 : Int64)))) / (b.toInt64)) * (b.toInt64)).toInt32))) T3.heap _
            exact ⟨(((own_dr (own_mix (ql + (-7046029254386353131 : Int64)))) - ((own_dr (own_mix (ql + (-7046029254386353131 : Int64)))) / (b.toInt64)) * (b.toInt64)).toInt32), (ql + (-7046029254386353131 : Int64)), rfl, N3, K, E_a, F_3⟩
    exact loop _ _ _ _ _ _ X1 (Eq.refl T1.heap) O K E_a F_1 N1 rfl
  · skip
    refine Go.step (S' := T1.setTop (mkF m 37 #[rv a, iv b, lv (own_lf b), .second, lv (own_dr (own_mix (q + (-7046029254386353131 : Int64)))), .second] [(.int (((own_dr (own_mix (q + (-7046029254386353131 : Int64)))) - ((own_dr (own_mix (q + (-7046029254386353131 : Int64)))) / (b.toInt64)) * (b.toInt64)).toInt32))])) (fun t k => ?_) ?_
    · show Steps p.tables e below (T1.setTop (mkF m 28 #[rv a, iv b, lv (own_lf b), .second, lv (own_dr (own_mix (q + (-7046029254386353131 : Int64)))), .second] [(.int (lcmpW (own_dr (own_mix (q + (-7046029254386353131 : Int64)))) (own_lf b)))])) _
      refine XS.ifNo X1.here hx rfl (hb hby d5_28) rfl ((if0 _ _).trans (flt (fun zq => absurd ((lw_gt (own_dr (own_mix (q + (-7046029254386353131 : Int64)))) (own_lf b)).mp zq) hc28)).2.2.1) ?_
      show Steps p.tables e below (T1.setTop (mkF m 31 #[rv a, iv b, lv (own_lf b), .second, lv (own_dr (own_mix (q + (-7046029254386353131 : Int64)))), .second] [])) _
      refine XS.lload X1.here hx rfl (hb hby d5_31) rfl ?_
      show Steps p.tables e below (T1.setTop (mkF m 33 #[rv a, iv b, lv (own_lf b), .second, lv (own_dr (own_mix (q + (-7046029254386353131 : Int64)))), .second] [(.long (own_dr (own_mix (q + (-7046029254386353131 : Int64)))))])) _
      refine XS.iloadN X1.here hx rfl (hb hby d5_33) rfl ?_
      show Steps p.tables e below (T1.setTop (mkF m 34 #[rv a, iv b, lv (own_lf b), .second, lv (own_dr (own_mix (q + (-7046029254386353131 : Int64)))), .second] [(.int b), (.long (own_dr (own_mix (q + (-7046029254386353131 : Int64)))))])) _
      refine XS.i2l X1.here hx rfl (hb hby d5_34) rfl ?_
      show Steps p.tables e below (T1.setTop (mkF m 35 #[rv a, iv b, lv (own_lf b), .second, lv (own_dr (own_mix (q + (-7046029254386353131 : Int64)))), .second] [(.long (b.toInt64)), (.long (own_dr (own_mix (q + (-7046029254386353131 : Int64)))))])) _
      refine XS.lrem X1.here hx rfl (hb hby d5_35) rfl (own_nz hbp) ?_
      show Steps p.tables e below (T1.setTop (mkF m 36 #[rv a, iv b, lv (own_lf b), .second, lv (own_dr (own_mix (q + (-7046029254386353131 : Int64)))), .second] [(.long ((own_dr (own_mix (q + (-7046029254386353131 : Int64)))) - ((own_dr (own_mix (q + (-7046029254386353131 : Int64)))) / (b.toInt64)) * (b.toInt64)))])) _
      refine XS.l2i X1.here hx rfl (hb hby d5_36) rfl ?_
      exact k
    obtain ⟨fs, hr, hrun, hended, hW, hsame⟩ := X1.leave (v := some (.int (((own_dr (own_mix (q + (-7046029254386353131 : Int64)))) - ((own_dr (own_mix (q + (-7046029254386353131 : Int64)))) / (b.toInt64)) * (b.toInt64)).toInt32))) (fun h => by rw [Bd.returns] at h; cases h)
    refine Go.fin (S' := T1.setFrames fs) ?_ hrun hended ⟨_, _, rfl, ?_, ⟨_, rfl⟩, hW, hsame.mono (by decide) (by decide)⟩
    · exact retOut X1 hx Bd.returns rfl (Or.inl ⟨rfl, Or.inl rfl, _, rfl⟩) (hb hby d5_37) hr
    · show Q_rmNI Z a b q h0 n0 (some (.int (((own_dr (own_mix (q + (-7046029254386353131 : Int64)))) - ((own_dr (own_mix (q + (-7046029254386353131 : Int64)))) / (b.toInt64)) * (b.toInt64)).toInt32))) T1.heap _
      exact ⟨(((own_dr (own_mix (q + (-7046029254386353131 : Int64)))) - ((own_dr (own_mix (q + (-7046029254386353131 : Int64)))) / (b.toInt64)) * (b.toInt64)).toInt32), (q + (-7046029254386353131 : Int64)), rfl, N1, K, E_a, F_1⟩
theorem own_pos {x : Int32} (h : ¬ ((x &&& (2147483647 : Int32)) = (0 : Int32))) : (0 : Int32) < (x &&& (2147483647 : Int32)) := by
  have h1 := c_mask x 2147483647 31 (by decide) (by decide)
  rw [← Int32.toInt_inj, show (0 : Int32).toInt = 0 from rfl] at h
  rw [Int32.lt_iff_toInt_lt, show (0 : Int32).toInt = 0 from rfl]
  omega
theorem pn_org_ninefold_service_SeededRandomNextIntPinLaw : plainName "org/ninefold/service/SeededRandomNextIntPinLaw" = true := by first | (simp [plainName, overriddenIn]; done) | decide +kernel
theorem pd__28JJLorg_2fninefold_2fservice_2fSeededRandom_24Purpose_3b_29V : parseMethodDescriptor "(JJLorg/ninefold/service/SeededRandom$Purpose;)V" = some ⟨[.long, .long, (.object "org/ninefold/service/SeededRandom$Purpose")], none⟩ := by decide +kernel
theorem pd__28I_29I : parseMethodDescriptor "(I)I" = some ⟨[.int], some .int⟩ := by decide +kernel
theorem ef_rm0 (m : MethodId) (q0 : Int64) (q1 : Int64) (p2 : Int32) (p3 : Int32) : entryFrame m #[(.long q0), (.long q1), (.int p2), (.int p3)] maxLocals = mkF m 0 #[.val (.long q0), .second, .val (.long q1), .second, .val (.int p2), .val (.int p3), .unset, .unset, .unset, .unset, .unset, .unset, .unset, .unset, .unset, .unset, .unset, .unset, .unset, .unset, .unset, .unset, .unset, .unset, .unset, .unset, .unset] [] := by first | (simp [entryFrame, mkF, argsToLocals, Value.category, maxLocals]; done) | rfl
def Q_rm0 (Z : State) (q0 : Int64) (q1 : Int64) (p2 : Int32) (p3 : Int32) (w_GRID : Addr) (w_REMOVAL : Addr) (h0 : Heap) (n0 : Nat) (v : Option Value) (h : Heap) (L : List Loc) : Prop := (v = some (.int (1 : Int32))) ∧ (Fr n0 L) ∧ (Keep h0 h [])
set_option maxRecDepth 65536 in
set_option maxHeartbeats 4000000 in
theorem rm0 (l : Launch) (Z : State) (a0 : Array Value) (hw : ∀ d ∈ tables_1, d.before a0 Z = true) (ws : List Jvm.Cond) (q0 : Int64) (q1 : Int64) (p2 : Int32) (p3 : Int32) (w_GRID : Addr) (w_REMOVAL : Addr) (h0 : Heap) (n0 : Nat) (O : Old Z n0 h0) (S_GRID : Sta Z Z.heap "org/ninefold/service/SeededRandom$Purpose" "GRID" "Lorg/ninefold/service/SeededRandom$Purpose;" (.ref w_GRID)) (F_key_GRID : Fld Z Z.heap w_GRID "org/ninefold/service/SeededRandom$Purpose" "key" "J" (.long (0 : Int64))) (S_REMOVAL : Sta Z Z.heap "org/ninefold/service/SeededRandom$Purpose" "REMOVAL" "Lorg/ninefold/service/SeededRandom$Purpose;" (.ref w_REMOVAL)) (F_key_REMOVAL : Fld Z Z.heap w_REMOVAL "org/ninefold/service/SeededRandom$Purpose" "key" "J" (.long (6238072747940578789 : Int64))) :
    MetFree l x (head1 (Jvm.Cond.code x code maxLocals ret :: ws) room_1) (fun A_ U => A_ = #[(.long q0), (.long q1), (.int p2), (.int p3)] ∧ Z.Warmed39 U.vm ∧ U.heap = h0) (fun _ _ _ _ _ => True) (fun _ U o U' => ∃ v L, o = .returned v ∧ Q_rm0 Z q0 q1 p2 p3 w_GRID w_REMOVAL h0 n0 v U'.heap L ∧ FrameEnd U o U' L room_1.cells room_1.slots) := by
  refine MetFree.of_bodySF (plainFor_of_name pn_org_ninefold_service_SeededRandomNextIntPinLaw) hisR ?_
  intro p e s m args below meth c s₁ Bd hml0 hP hK
  obtain ⟨rfl, hZ, hh⟩ := hP
  have hx := Bd.exec
  have hby := Bd.bytes
  have hml : c.maxLocals = 27 := hml0
  have hown : s.vm.findClass "org/ninefold/service/SeededRandomNextIntPinLaw" = some m.cls := findClass_of_methodNamed Bd.named
  have hnm := (name_of_methodNamed Bd.named Bd.method).1
  have X0 : Stand p l e room_1 s m #[(.long q0), (.long q1), (.int p2), (.int p3)] below meth c s₁ [] 0 0 := Stand.of_body Bd
  have e0 : s₁.heap = h0 := by rw [← hh, Bd.state]; rfl
  have N0 := Fr.nil n0
  have K := Keep.refl h0 []
  refine Go.step (p := p) (e := e) (below := below) (G := fun o U' => ∃ v L, o = .returned v ∧ Q_rm0 Z q0 q1 p2 p3 w_GRID w_REMOVAL h0 n0 v U'.heap L ∧ FrameEnd s o U' L room_1.cells room_1.slots) (S' := s₁.setTop (mkF m 0 #[lv q0, .second, lv q1, .second, iv p2, iv p3, u_, u_, u_, u_, u_, u_, u_, u_, u_, u_, u_, u_, u_, u_, u_, u_, u_, u_, u_, u_, u_] [])) (fun t k => castTop (ef_rm0 m q0 q1 p2 p3) k) ?_
  have tail : ∀ bn : Int32, (0 : Int32) < bn → Go p e below (fun o U' => ∃ v L, o = .returned v ∧ Q_rm0 Z q0 q1 p2 p3 w_GRID w_REMOVAL h0 n0 v U'.heap L ∧ FrameEnd s o U' L room_1.cells room_1.slots) (s₁.setTop (mkF m 15 #[lv q0, .second, lv q1, .second, iv p2, iv p3, iv bn, u_, u_, u_, u_, u_, u_, u_, u_, u_, u_, u_, u_, u_, u_, u_, u_, u_, u_, u_, u_] [])) := by
    intro bn hpos
    refine Go.step (S' := s₁.setTop (mkF m 19 #[lv q0, .second, lv q1, .second, iv p2, iv p3, iv bn, u_, u_, u_, u_, u_, u_, u_, u_, u_, u_, u_, u_, u_, u_, u_, u_, u_, u_, u_, u_] [(.int (p2 &&& (1 : Int32)))])) (fun t k => ?_) ?_
    · show Steps p.tables e below (s₁.setTop (mkF m 15 #[lv q0, .second, lv q1, .second, iv p2, iv p3, iv bn, u_, u_, u_, u_, u_, u_, u_, u_, u_, u_, u_, u_, u_, u_, u_, u_, u_, u_, u_, u_] [])) _
      refine XS.iload X0.here hx rfl (hb hby at_15) rfl ?_
      show Steps p.tables e below (s₁.setTop (mkF m 17 #[lv q0, .second, lv q1, .second, iv p2, iv p3, iv bn, u_, u_, u_, u_, u_, u_, u_, u_, u_, u_, u_, u_, u_, u_, u_, u_, u_, u_, u_, u_] [(.int p2)])) _
      refine XS.iconst X0.here hx rfl (hb hby at_17) ?_
      show Steps p.tables e below (s₁.setTop (mkF m 18 #[lv q0, .second, lv q1, .second, iv p2, iv p3, iv bn, u_, u_, u_, u_, u_, u_, u_, u_, u_, u_, u_, u_, u_, u_, u_, u_, u_, u_, u_, u_] [(.int (1 : Int32)), (.int p2)])) _
      refine XS.iand X0.here hx rfl (hb hby at_18) rfl ?_
      exact k
    by_cases hc19 : (p2 &&& (1 : Int32)) = (0 : Int32)
    · skip
      refine Go.step (S' := s₁.setTop (mkF m 22 #[lv q0, .second, lv q1, .second, iv p2, iv p3, iv bn, u_, u_, u_, u_, u_, u_, u_, u_, u_, u_, u_, u_, u_, u_, u_, u_, u_, u_, u_, u_] [])) (fun t k => ?_) ?_
      · show Steps p.tables e below (s₁.setTop (mkF m 19 #[lv q0, .second, lv q1, .second, iv p2, iv p3, iv bn, u_, u_, u_, u_, u_, u_, u_, u_, u_, u_, u_, u_, u_, u_, u_, u_, u_, u_, u_, u_] [(.int (p2 &&& (1 : Int32)))])) _
        refine XS.ifNo X0.here hx rfl (hb hby at_19) rfl ((if0 _ _).trans (teq (hc19 : (p2 &&& (1 : Int32)) = (0 : Int32))).2) ?_
        exact k
      obtain ⟨T1, X1, e1, st1⟩ := getS2 X0 hx hZ hown (host := "") (Or.inl (own_w hw 1 rfl)) Via.refl e0 (S_GRID.ext O.2) (g := (mkF m 22 #[lv q0, .second, lv q1, .second, iv p2, iv p3, iv bn, u_, u_, u_, u_, u_, u_, u_, u_, u_, u_, u_, u_, u_, u_, u_, u_, u_, u_, u_, u_] [])) rfl (hb hby at_22)
      refine Go.step st1 ?_
      show Go p e below _ (T1.setTop (mkF m 25 #[lv q0, .second, lv q1, .second, iv p2, iv p3, iv bn, u_, u_, u_, u_, u_, u_, u_, u_, u_, u_, u_, u_, u_, u_, u_, u_, u_, u_, u_, u_] [(.ref w_GRID)]))
      refine Go.step (S' := T1.setTop (mkF m 33 #[lv q0, .second, lv q1, .second, iv p2, iv p3, iv bn, rv w_GRID, u_, u_, u_, u_, u_, u_, u_, u_, u_, u_, u_, u_, u_, u_, u_, u_, u_, u_, u_] [])) (fun t k => ?_) ?_
      · show Steps p.tables e below (T1.setTop (mkF m 25 #[lv q0, .second, lv q1, .second, iv p2, iv p3, iv bn, u_, u_, u_, u_, u_, u_, u_, u_, u_, u_, u_, u_, u_, u_, u_, u_, u_, u_, u_, u_] [(.ref w_GRID)])) _
        refine XS.goto X1.here hx rfl (pc0 := 25) (pc' := 31) rfl (hb hby at_25) (by decide) (by decide) ?_
        show Steps p.tables e below (T1.setTop (mkF m 31 #[lv q0, .second, lv q1, .second, iv p2, iv p3, iv bn, u_, u_, u_, u_, u_, u_, u_, u_, u_, u_, u_, u_, u_, u_, u_, u_, u_, u_, u_, u_] [(.ref w_GRID)])) _
        refine XS.astore X1.here hx rfl (hb hby at_31) rfl rfl (l' := #[lv q0, .second, lv q1, .second, iv p2, iv p3, iv bn, rv w_GRID, u_, u_, u_, u_, u_, u_, u_, u_, u_, u_, u_, u_, u_, u_, u_, u_, u_, u_, u_]) rfl ?_
        exact k
      obtain ⟨T2, h2, X2, e2, E2, A2, D2, -, st2⟩ := newO X1 hx hZ hown (own_w hw 4 rfl) (own_w hw 5 rfl) (own_w hw 6 rfl) e1 (g := (mkF m 33 #[lv q0, .second, lv q1, .second, iv p2, iv p3, iv bn, rv w_GRID, u_, u_, u_, u_, u_, u_, u_, u_, u_, u_, u_, u_, u_, u_, u_, u_, u_, u_, u_] [])) rfl (hb hby at_33) (by decide) (by decide)
      obtain ⟨b2, g2⟩ : ∃ z, z = Array.size h0 := ⟨_, rfl⟩
      have g_b2 : n0 ≤ b2 := Nat.le_trans (old_le O) (Nat.le_of_eq g2.symm)
      have sz_b2 : h0.size ≤ b2 := Nat.le_trans K.1 (Nat.le_of_eq g2.symm)
      rw [← g2] at A2 D2 st2
      have O := O.ext E2
      have K := K.ext E2
      have E_b2 := A2
      have F_state_b2 : Fld Z h2 b2 "org/ninefold/service/SeededRandom" "state" "J" (.long (0 : Int64)) := D2 (Or.inl (own_w hw 22 rfl)) (ty := .long) (by decide)
      refine Go.step st2 ?_
      show Go p e below _ (T2.setTop (mkF m 36 #[lv q0, .second, lv q1, .second, iv p2, iv p3, iv bn, rv w_GRID, u_, u_, u_, u_, u_, u_, u_, u_, u_, u_, u_, u_, u_, u_, u_, u_, u_, u_, u_] [(.ref b2)]))
      refine Go.step (S' := T2.setTop (mkF m 41 #[lv q0, .second, lv q1, .second, iv p2, iv p3, iv bn, rv w_GRID, u_, u_, u_, u_, u_, u_, u_, u_, u_, u_, u_, u_, u_, u_, u_, u_, u_, u_, u_] [(.ref w_GRID), (.long q1), (.long q0), (.ref b2), (.ref b2)])) (fun t k => ?_) ?_
      · show Steps p.tables e below (T2.setTop (mkF m 36 #[lv q0, .second, lv q1, .second, iv p2, iv p3, iv bn, rv w_GRID, u_, u_, u_, u_, u_, u_, u_, u_, u_, u_, u_, u_, u_, u_, u_, u_, u_, u_, u_] [(.ref b2)])) _
        refine XS.dup X2.here hx rfl (hb hby at_36) rfl rfl ?_
        show Steps p.tables e below (T2.setTop (mkF m 37 #[lv q0, .second, lv q1, .second, iv p2, iv p3, iv bn, rv w_GRID, u_, u_, u_, u_, u_, u_, u_, u_, u_, u_, u_, u_, u_, u_, u_, u_, u_, u_, u_] [(.ref b2), (.ref b2)])) _
        refine XS.lloadN X2.here hx rfl (hb hby at_37) rfl ?_
        show Steps p.tables e below (T2.setTop (mkF m 38 #[lv q0, .second, lv q1, .second, iv p2, iv p3, iv bn, rv w_GRID, u_, u_, u_, u_, u_, u_, u_, u_, u_, u_, u_, u_, u_, u_, u_, u_, u_, u_, u_] [(.long q0), (.ref b2), (.ref b2)])) _
        refine XS.lloadN X2.here hx rfl (hb hby at_38) rfl ?_
        show Steps p.tables e below (T2.setTop (mkF m 39 #[lv q0, .second, lv q1, .second, iv p2, iv p3, iv bn, rv w_GRID, u_, u_, u_, u_, u_, u_, u_, u_, u_, u_, u_, u_, u_, u_, u_, u_, u_, u_, u_] [(.long q1), (.long q0), (.ref b2), (.ref b2)])) _
        refine XS.aload X2.here hx rfl (hb hby at_39) rfl rfl ?_
        exact k
      obtain ⟨_, _, ⟨T3, L3, k3, n3⟩, -, X3, ⟨Lc3, hQ3, l3, y3, z3⟩, st3⟩ := X2.specialBack hx (y := (⟨"org/ninefold/service/SeededRandom", "<init>", "(JJLorg/ninefold/service/SeededRandom$Purpose;)V"⟩ : MethodName)) rfl hown (mvT hZ (own_w hw 7 rfl)) (mvT hZ (own_w hw 8 rfl)) (mvT hZ (own_w hw 9 rfl)) (by decide) (backOf (W := 1) (rmInit l Z a0 hw [] b2 q0 q1 w_GRID (0 : Int64) h2 n0 O E_b2 F_state_b2 F_key_GRID (by assumption)) hZ (own_w hw 9 rfl) (own_w hw 6 rfl) (by decide) (by decide)) (g := (mkF m 41 #[lv q0, .second, lv q1, .second, iv p2, iv p3, iv bn, rv w_GRID, u_, u_, u_, u_, u_, u_, u_, u_, u_, u_, u_, u_, u_, u_, u_, u_, u_, u_, u_] [(.ref w_GRID), (.long q1), (.long q0), (.ref b2), (.ref b2)])) rfl (by rw [hml]; rfl) (Steps.refl _) (a := b2) (argsL := [(.long q0), (.long q1), (.ref w_GRID)]) (rest := [(.ref b2)]) (lenOf pd__28JJLorg_2fninefold_2fservice_2fSeededRandom_24Purpose_3b_29V rfl) rfl (by show 2 * 0 + _ ≤ _; exact Nat.le_of_eq rfl) (hb hby at_41) (fun _ _ => ⟨rfl, e2, (by decide : 1 + 0 ≤ _), (by decide : 1 + 0 ≤ _)⟩)
      dsimp only [Pt.U, Pt.locs, Pt.cells, Pt.slots] at X3 l3 y3 z3 st3 hQ3
      subst l3 y3 z3
      obtain ⟨rfl, Nq3, K3, P3_E, P3_F⟩ := hQ3
      have N3 := Fr.app N0 Nq3
      have O := O.keep K3 (allS g_b2 all0)
      have K := K.trans K3 (allS (Or.inr sz_b2) all0)
      have E_b2 := E_b2.keep K3
      have E_3 := P3_E
      have F_3 := P3_F
      refine Go.step (fun t k => st3.trans k) ?_
      show Go p e below _ (T3.setTop (mkF m 44 #[lv q0, .second, lv q1, .second, iv p2, iv p3, iv bn, rv w_GRID, u_, u_, u_, u_, u_, u_, u_, u_, u_, u_, u_, u_, u_, u_, u_, u_, u_, u_, u_] [(.ref b2)]))
      obtain ⟨qs, hqs⟩ : ∃ z : Int64, (own_mix (((own_mix q0) ^^^ (0 : Int64)) + ((-7046029254386353131 : Int64) * q1))) = z := ⟨_, rfl⟩
      rw [hqs] at F_3
      refine Go.step (S' := T3.setTop (mkF m 46 #[lv q0, .second, lv q1, .second, iv p2, iv p3, iv bn, rv w_GRID, rv b2, u_, u_, u_, u_, u_, u_, u_, u_, u_, u_, u_, u_, u_, u_, u_, u_, u_, u_] [])) (fun t k => ?_) ?_
      · show Steps p.tables e below (T3.setTop (mkF m 44 #[lv q0, .second, lv q1, .second, iv p2, iv p3, iv bn, rv w_GRID, u_, u_, u_, u_, u_, u_, u_, u_, u_, u_, u_, u_, u_, u_, u_, u_, u_, u_, u_] [(.ref b2)])) _
        refine XS.astore X3.here hx rfl (hb hby at_44) rfl rfl (l' := #[lv q0, .second, lv q1, .second, iv p2, iv p3, iv bn, rv w_GRID, rv b2, u_, u_, u_, u_, u_, u_, u_, u_, u_, u_, u_, u_, u_, u_, u_, u_, u_, u_]) rfl ?_
        exact k
      obtain ⟨T4, h4, X4, e4, E4, A4, D4, -, st4⟩ := newO X3 hx hZ hown (own_w hw 4 rfl) (own_w hw 5 rfl) (own_w hw 6 rfl) (Eq.refl T3.heap) (g := (mkF m 46 #[lv q0, .second, lv q1, .second, iv p2, iv p3, iv bn, rv w_GRID, rv b2, u_, u_, u_, u_, u_, u_, u_, u_, u_, u_, u_, u_, u_, u_, u_, u_, u_, u_] [])) rfl (hb hby at_46) (by decide) (by decide)
      obtain ⟨b4, g4⟩ : ∃ z, z = Array.size T3.heap := ⟨_, rfl⟩
      have g_b4 : n0 ≤ b4 := Nat.le_trans (old_le O) (Nat.le_of_eq g4.symm)
      have sz_b4 : h0.size ≤ b4 := Nat.le_trans K.1 (Nat.le_of_eq g4.symm)
      have ne_b2_b4 : b2 ≠ b4 := Nat.ne_of_lt (Nat.lt_of_lt_of_le E_b2.lt (Nat.le_of_eq g4.symm))
      rw [← g4] at A4 D4 st4
      have O := O.ext E4
      have K := K.ext E4
      have E_b2 := E_b2.ext E4
      have E_3 := E_3.ext E4
      have F_3 := F_3.ext E4
      have E_b4 := A4
      have F_state_b4 : Fld Z h4 b4 "org/ninefold/service/SeededRandom" "state" "J" (.long (0 : Int64)) := D4 (Or.inl (own_w hw 22 rfl)) (ty := .long) (by decide)
      refine Go.step st4 ?_
      show Go p e below _ (T4.setTop (mkF m 49 #[lv q0, .second, lv q1, .second, iv p2, iv p3, iv bn, rv w_GRID, rv b2, u_, u_, u_, u_, u_, u_, u_, u_, u_, u_, u_, u_, u_, u_, u_, u_, u_, u_] [(.ref b4)]))
      refine Go.step (S' := T4.setTop (mkF m 54 #[lv q0, .second, lv q1, .second, iv p2, iv p3, iv bn, rv w_GRID, rv b2, u_, u_, u_, u_, u_, u_, u_, u_, u_, u_, u_, u_, u_, u_, u_, u_, u_, u_] [(.ref w_GRID), (.long q1), (.long q0), (.ref b4), (.ref b4)])) (fun t k => ?_) ?_
      · show Steps p.tables e below (T4.setTop (mkF m 49 #[lv q0, .second, lv q1, .second, iv p2, iv p3, iv bn, rv w_GRID, rv b2, u_, u_, u_, u_, u_, u_, u_, u_, u_, u_, u_, u_, u_, u_, u_, u_, u_, u_] [(.ref b4)])) _
        refine XS.dup X4.here hx rfl (hb hby at_49) rfl rfl ?_
        show Steps p.tables e below (T4.setTop (mkF m 50 #[lv q0, .second, lv q1, .second, iv p2, iv p3, iv bn, rv w_GRID, rv b2, u_, u_, u_, u_, u_, u_, u_, u_, u_, u_, u_, u_, u_, u_, u_, u_, u_, u_] [(.ref b4), (.ref b4)])) _
        refine XS.lloadN X4.here hx rfl (hb hby at_50) rfl ?_
        show Steps p.tables e below (T4.setTop (mkF m 51 #[lv q0, .second, lv q1, .second, iv p2, iv p3, iv bn, rv w_GRID, rv b2, u_, u_, u_, u_, u_, u_, u_, u_, u_, u_, u_, u_, u_, u_, u_, u_, u_, u_] [(.long q0), (.ref b4), (.ref b4)])) _
        refine XS.lloadN X4.here hx rfl (hb hby at_51) rfl ?_
        show Steps p.tables e below (T4.setTop (mkF m 52 #[lv q0, .second, lv q1, .second, iv p2, iv p3, iv bn, rv w_GRID, rv b2, u_, u_, u_, u_, u_, u_, u_, u_, u_, u_, u_, u_, u_, u_, u_, u_, u_, u_] [(.long q1), (.long q0), (.ref b4), (.ref b4)])) _
        refine XS.aload X4.here hx rfl (hb hby at_52) rfl rfl ?_
        exact k
      obtain ⟨_, _, ⟨T5, L5, k5, n5⟩, -, X5, ⟨Lc5, hQ5, l5, y5, z5⟩, st5⟩ := X4.specialBack hx (y := (⟨"org/ninefold/service/SeededRandom", "<init>", "(JJLorg/ninefold/service/SeededRandom$Purpose;)V"⟩ : MethodName)) rfl hown (mvT hZ (own_w hw 7 rfl)) (mvT hZ (own_w hw 8 rfl)) (mvT hZ (own_w hw 9 rfl)) (by decide) (backOf (W := 1) (rmInit l Z a0 hw [] b4 q0 q1 w_GRID (0 : Int64) h4 n0 O E_b4 F_state_b4 F_key_GRID (by assumption)) hZ (own_w hw 9 rfl) (own_w hw 6 rfl) (by decide) (by decide)) (g := (mkF m 54 #[lv q0, .second, lv q1, .second, iv p2, iv p3, iv bn, rv w_GRID, rv b2, u_, u_, u_, u_, u_, u_, u_, u_, u_, u_, u_, u_, u_, u_, u_, u_, u_, u_] [(.ref w_GRID), (.long q1), (.long q0), (.ref b4), (.ref b4)])) rfl (by rw [hml]; rfl) (Steps.refl _) (a := b4) (argsL := [(.long q0), (.long q1), (.ref w_GRID)]) (rest := [(.ref b4)]) (lenOf pd__28JJLorg_2fninefold_2fservice_2fSeededRandom_24Purpose_3b_29V rfl) rfl (by show 2 * 0 + _ ≤ _; exact Nat.le_of_eq rfl) (hb hby at_54) (fun _ _ => ⟨rfl, e4, (by decide : 2 + 0 ≤ _), (by decide : 2 + 0 ≤ _)⟩)
      dsimp only [Pt.U, Pt.locs, Pt.cells, Pt.slots] at X5 l5 y5 z5 st5 hQ5
      subst l5 y5 z5
      obtain ⟨rfl, Nq5, K5, P5_E, P5_F⟩ := hQ5
      have N5 := Fr.app N3 Nq5
      have O := O.keep K5 (allS g_b4 all0)
      have K := K.trans K5 (allS (Or.inr sz_b4) all0)
      have E_b2 := E_b2.keep K5
      have E_3 := E_3.keep K5
      have F_3 := F_3.keep K5 (ninS ne_b2_b4 nin0)
      have E_b4 := E_b4.keep K5
      have E_5 := P5_E
      have F_5 := P5_F
      refine Go.step (fun t k => st5.trans k) ?_
      show Go p e below _ (T5.setTop (mkF m 57 #[lv q0, .second, lv q1, .second, iv p2, iv p3, iv bn, rv w_GRID, rv b2, u_, u_, u_, u_, u_, u_, u_, u_, u_, u_, u_, u_, u_, u_, u_, u_, u_, u_] [(.ref b4)]))
      rw [hqs] at F_5
      refine Go.step (S' := T5.setTop (mkF m 61 #[lv q0, .second, lv q1, .second, iv p2, iv p3, iv bn, rv w_GRID, rv b2, rv b4, u_, u_, u_, u_, u_, u_, u_, u_, u_, u_, u_, u_, u_, u_, u_, u_, u_] [(.ref b4)])) (fun t k => ?_) ?_
      · show Steps p.tables e below (T5.setTop (mkF m 57 #[lv q0, .second, lv q1, .second, iv p2, iv p3, iv bn, rv w_GRID, rv b2, u_, u_, u_, u_, u_, u_, u_, u_, u_, u_, u_, u_, u_, u_, u_, u_, u_, u_] [(.ref b4)])) _
        refine XS.astore X5.here hx rfl (hb hby at_57) rfl rfl (l' := #[lv q0, .second, lv q1, .second, iv p2, iv p3, iv bn, rv w_GRID, rv b2, rv b4, u_, u_, u_, u_, u_, u_, u_, u_, u_, u_, u_, u_, u_, u_, u_, u_, u_]) rfl ?_
        show Steps p.tables e below (T5.setTop (mkF m 59 #[lv q0, .second, lv q1, .second, iv p2, iv p3, iv bn, rv w_GRID, rv b2, rv b4, u_, u_, u_, u_, u_, u_, u_, u_, u_, u_, u_, u_, u_, u_, u_, u_, u_] [])) _
        refine XS.aload X5.here hx rfl (hb hby at_59) rfl rfl ?_
        exact k
      obtain ⟨cq6, kq6, q6a, q6b, q6c⟩ := isOf hZ (Eq.refl T5.heap) E_b4
      obtain ⟨_, _, ⟨T6, L6, k6, n6⟩, -, X6, ⟨Lc6, hQ6, l6, y6, z6⟩, st6⟩ := X5.virtualBack hx (y := (⟨"org/ninefold/service/SeededRandom", "nextLong", "()J"⟩ : MethodName)) (z := (⟨"org/ninefold/service/SeededRandom", "nextLong", "()J"⟩ : MethodName)) hown (mvT hZ (own_w hw 23 rfl)) (mvT hZ (own_w hw 24 rfl)) (notFace_of_selects (args := #[]) (mvT hZ (own_w hw 26 rfl))) (mvT hZ (own_w hw 26 rfl)) (mvT hZ (own_w hw 25 rfl)) (by decide) (backOf (W := 0) (rmNL l Z a0 hw [] b4 qs T5.heap n0 O E_b4 F_5 (by assumption)) hZ (own_w hw 27 rfl) (own_w hw 6 rfl) (by decide) (by decide)) q6a q6c (g := (mkF m 61 #[lv q0, .second, lv q1, .second, iv p2, iv p3, iv bn, rv w_GRID, rv b2, rv b4, u_, u_, u_, u_, u_, u_, u_, u_, u_, u_, u_, u_, u_, u_, u_, u_, u_] [(.ref b4)])) rfl (by rw [hml]; rfl) (Steps.refl _) (argsL := []) (rest := []) (lenOf pd__28_29J rfl) rfl (by show 2 * 0 + _ ≤ _; exact Nat.le_of_eq rfl) (hb hby at_61) (fun _ _ => ⟨rfl, (Eq.refl T5.heap), (by decide : 2 + 0 ≤ _), (by decide : 2 + 0 ≤ _)⟩)
      dsimp only [Pt.U, Pt.locs, Pt.cells, Pt.slots] at X6 l6 y6 z6 st6 hQ6
      subst l6 y6 z6
      obtain ⟨rfl, Nq6, K6, P6_E, P6_F⟩ := hQ6
      have N6 := Fr.app N5 Nq6
      have O := O.keep K6 (allS g_b4 all0)
      have K := K.trans K6 (allS (Or.inr sz_b4) all0)
      have E_b2 := E_b2.keep K6
      have E_3 := E_3.keep K6
      have F_3 := F_3.keep K6 (ninS ne_b2_b4 nin0)
      have E_b4 := E_b4.keep K6
      have E_5 := E_5.keep K6
      have E_6 := P6_E
      have F_6 := P6_F
      refine Go.step (fun t k => st6.trans k) ?_
      show Go p e below _ (T6.setTop (mkF m 64 #[lv q0, .second, lv q1, .second, iv p2, iv p3, iv bn, rv w_GRID, rv b2, rv b4, u_, u_, u_, u_, u_, u_, u_, u_, u_, u_, u_, u_, u_, u_, u_, u_, u_] [(.long (own_mix (qs + (-7046029254386353131 : Int64))))]))
      refine Go.step (S' := T6.setTop (mkF m 68 #[lv q0, .second, lv q1, .second, iv p2, iv p3, iv bn, rv w_GRID, rv b2, rv b4, lv (own_mix (qs + (-7046029254386353131 : Int64))), .second, u_, u_, u_, u_, u_, u_, u_, u_, u_, u_, u_, u_, u_, u_, u_] [(.ref b4)])) (fun t k => ?_) ?_
      · show Steps p.tables e below (T6.setTop (mkF m 64 #[lv q0, .second, lv q1, .second, iv p2, iv p3, iv bn, rv w_GRID, rv b2, rv b4, u_, u_, u_, u_, u_, u_, u_, u_, u_, u_, u_, u_, u_, u_, u_, u_, u_] [(.long (own_mix (qs + (-7046029254386353131 : Int64))))])) _
        refine XS.lstore X6.here hx rfl (hb hby at_64) rfl (l' := #[lv q0, .second, lv q1, .second, iv p2, iv p3, iv bn, rv w_GRID, rv b2, rv b4, lv (own_mix (qs + (-7046029254386353131 : Int64))), .second, u_, u_, u_, u_, u_, u_, u_, u_, u_, u_, u_, u_, u_, u_, u_]) rfl ?_
        show Steps p.tables e below (T6.setTop (mkF m 66 #[lv q0, .second, lv q1, .second, iv p2, iv p3, iv bn, rv w_GRID, rv b2, rv b4, lv (own_mix (qs + (-7046029254386353131 : Int64))), .second, u_, u_, u_, u_, u_, u_, u_, u_, u_, u_, u_, u_, u_, u_, u_] [])) _
        refine XS.aload X6.here hx rfl (hb hby at_66) rfl rfl ?_
        exact k
      obtain ⟨cq7, kq7, q7a, q7b, q7c⟩ := isOf hZ (Eq.refl T6.heap) E_b4
      obtain ⟨_, _, ⟨T7, L7, k7, n7⟩, -, X7, ⟨Lc7, hQ7, l7, y7, z7⟩, st7⟩ := X6.virtualBack hx (y := (⟨"org/ninefold/service/SeededRandom", "nextLong", "()J"⟩ : MethodName)) (z := (⟨"org/ninefold/service/SeededRandom", "nextLong", "()J"⟩ : MethodName)) hown (mvT hZ (own_w hw 23 rfl)) (mvT hZ (own_w hw 24 rfl)) (notFace_of_selects (args := #[]) (mvT hZ (own_w hw 26 rfl))) (mvT hZ (own_w hw 26 rfl)) (mvT hZ (own_w hw 25 rfl)) (by decide) (backOf (W := 0) (rmNL l Z a0 hw [] b4 (qs + (-7046029254386353131 : Int64)) T6.heap n0 O E_b4 F_6 (by assumption)) hZ (own_w hw 27 rfl) (own_w hw 6 rfl) (by decide) (by decide)) q7a q7c (g := (mkF m 68 #[lv q0, .second, lv q1, .second, iv p2, iv p3, iv bn, rv w_GRID, rv b2, rv b4, lv (own_mix (qs + (-7046029254386353131 : Int64))), .second, u_, u_, u_, u_, u_, u_, u_, u_, u_, u_, u_, u_, u_, u_, u_] [(.ref b4)])) rfl (by rw [hml]; rfl) (Steps.refl _) (argsL := []) (rest := []) (lenOf pd__28_29J rfl) rfl (by show 2 * 0 + _ ≤ _; exact Nat.le_of_eq rfl) (hb hby at_68) (fun _ _ => ⟨rfl, (Eq.refl T6.heap), (by decide : 2 + 0 ≤ _), (by decide : 2 + 0 ≤ _)⟩)
      dsimp only [Pt.U, Pt.locs, Pt.cells, Pt.slots] at X7 l7 y7 z7 st7 hQ7
      subst l7 y7 z7
      obtain ⟨rfl, Nq7, K7, P7_E, P7_F⟩ := hQ7
      have N7 := Fr.app N6 Nq7
      have O := O.keep K7 (allS g_b4 all0)
      have K := K.trans K7 (allS (Or.inr sz_b4) all0)
      have E_b2 := E_b2.keep K7
      have E_3 := E_3.keep K7
      have F_3 := F_3.keep K7 (ninS ne_b2_b4 nin0)
      have E_b4 := E_b4.keep K7
      have E_5 := E_5.keep K7
      have E_6 := E_6.keep K7
      have E_7 := P7_E
      have F_7 := P7_F
      refine Go.step (fun t k => st7.trans k) ?_
      show Go p e below _ (T7.setTop (mkF m 71 #[lv q0, .second, lv q1, .second, iv p2, iv p3, iv bn, rv w_GRID, rv b2, rv b4, lv (own_mix (qs + (-7046029254386353131 : Int64))), .second, u_, u_, u_, u_, u_, u_, u_, u_, u_, u_, u_, u_, u_, u_, u_] [(.long (own_mix ((qs + (-7046029254386353131 : Int64)) + (-7046029254386353131 : Int64))))]))
      refine Go.step (S' := T7.setTop (mkF m 75 #[lv q0, .second, lv q1, .second, iv p2, iv p3, iv bn, rv w_GRID, rv b2, rv b4, lv (own_mix (qs + (-7046029254386353131 : Int64))), .second, lv (own_mix ((qs + (-7046029254386353131 : Int64)) + (-7046029254386353131 : Int64))), .second, u_, u_, u_, u_, u_, u_, u_, u_, u_, u_, u_, u_, u_] [(.ref b4)])) (fun t k => ?_) ?_
      · show Steps p.tables e below (T7.setTop (mkF m 71 #[lv q0, .second, lv q1, .second, iv p2, iv p3, iv bn, rv w_GRID, rv b2, rv b4, lv (own_mix (qs + (-7046029254386353131 : Int64))), .second, u_, u_, u_, u_, u_, u_, u_, u_, u_, u_, u_, u_, u_, u_, u_] [(.long (own_mix ((qs + (-7046029254386353131 : Int64)) + (-7046029254386353131 : Int64))))])) _
        refine XS.lstore X7.here hx rfl (hb hby at_71) rfl (l' := #[lv q0, .second, lv q1, .second, iv p2, iv p3, iv bn, rv w_GRID, rv b2, rv b4, lv (own_mix (qs + (-7046029254386353131 : Int64))), .second, lv (own_mix ((qs + (-7046029254386353131 : Int64)) + (-7046029254386353131 : Int64))), .second, u_, u_, u_, u_, u_, u_, u_, u_, u_, u_, u_, u_, u_]) rfl ?_
        show Steps p.tables e below (T7.setTop (mkF m 73 #[lv q0, .second, lv q1, .second, iv p2, iv p3, iv bn, rv w_GRID, rv b2, rv b4, lv (own_mix (qs + (-7046029254386353131 : Int64))), .second, lv (own_mix ((qs + (-7046029254386353131 : Int64)) + (-7046029254386353131 : Int64))), .second, u_, u_, u_, u_, u_, u_, u_, u_, u_, u_, u_, u_, u_] [])) _
        refine XS.aload X7.here hx rfl (hb hby at_73) rfl rfl ?_
        exact k
      obtain ⟨cq8, kq8, q8a, q8b, q8c⟩ := isOf hZ (Eq.refl T7.heap) E_b4
      obtain ⟨_, _, ⟨T8, L8, k8, n8⟩, -, X8, ⟨Lc8, hQ8, l8, y8, z8⟩, st8⟩ := X7.virtualBack hx (y := (⟨"org/ninefold/service/SeededRandom", "nextLong", "()J"⟩ : MethodName)) (z := (⟨"org/ninefold/service/SeededRandom", "nextLong", "()J"⟩ : MethodName)) hown (mvT hZ (own_w hw 23 rfl)) (mvT hZ (own_w hw 24 rfl)) (notFace_of_selects (args := #[]) (mvT hZ (own_w hw 26 rfl))) (mvT hZ (own_w hw 26 rfl)) (mvT hZ (own_w hw 25 rfl)) (by decide) (backOf (W := 0) (rmNL l Z a0 hw [] b4 ((qs + (-7046029254386353131 : Int64)) + (-7046029254386353131 : Int64)) T7.heap n0 O E_b4 F_7 (by assumption)) hZ (own_w hw 27 rfl) (own_w hw 6 rfl) (by decide) (by decide)) q8a q8c (g := (mkF m 75 #[lv q0, .second, lv q1, .second, iv p2, iv p3, iv bn, rv w_GRID, rv b2, rv b4, lv (own_mix (qs + (-7046029254386353131 : Int64))), .second, lv (own_mix ((qs + (-7046029254386353131 : Int64)) + (-7046029254386353131 : Int64))), .second, u_, u_, u_, u_, u_, u_, u_, u_, u_, u_, u_, u_, u_] [(.ref b4)])) rfl (by rw [hml]; rfl) (Steps.refl _) (argsL := []) (rest := []) (lenOf pd__28_29J rfl) rfl (by show 2 * 0 + _ ≤ _; exact Nat.le_of_eq rfl) (hb hby at_75) (fun _ _ => ⟨rfl, (Eq.refl T7.heap), (by decide : 2 + 0 ≤ _), (by decide : 2 + 0 ≤ _)⟩)
      dsimp only [Pt.U, Pt.locs, Pt.cells, Pt.slots] at X8 l8 y8 z8 st8 hQ8
      subst l8 y8 z8
      obtain ⟨rfl, Nq8, K8, P8_E, P8_F⟩ := hQ8
      have N8 := Fr.app N7 Nq8
      have O := O.keep K8 (allS g_b4 all0)
      have K := K.trans K8 (allS (Or.inr sz_b4) all0)
      have E_b2 := E_b2.keep K8
      have E_3 := E_3.keep K8
      have F_3 := F_3.keep K8 (ninS ne_b2_b4 nin0)
      have E_b4 := E_b4.keep K8
      have E_5 := E_5.keep K8
      have E_6 := E_6.keep K8
      have E_7 := E_7.keep K8
      have E_8 := P8_E
      have F_8 := P8_F
      refine Go.step (fun t k => st8.trans k) ?_
      show Go p e below _ (T8.setTop (mkF m 78 #[lv q0, .second, lv q1, .second, iv p2, iv p3, iv bn, rv w_GRID, rv b2, rv b4, lv (own_mix (qs + (-7046029254386353131 : Int64))), .second, lv (own_mix ((qs + (-7046029254386353131 : Int64)) + (-7046029254386353131 : Int64))), .second, u_, u_, u_, u_, u_, u_, u_, u_, u_, u_, u_, u_, u_] [(.long (own_mix (((qs + (-7046029254386353131 : Int64)) + (-7046029254386353131 : Int64)) + (-7046029254386353131 : Int64))))]))
      refine Go.step (S' := T8.setTop (mkF m 86 #[lv q0, .second, lv q1, .second, iv p2, iv p3, iv bn, rv w_GRID, rv b2, rv b4, lv (own_mix (qs + (-7046029254386353131 : Int64))), .second, lv (own_mix ((qs + (-7046029254386353131 : Int64)) + (-7046029254386353131 : Int64))), .second, lv (own_mix (((qs + (-7046029254386353131 : Int64)) + (-7046029254386353131 : Int64)) + (-7046029254386353131 : Int64))), .second, lv (((own_mix (qs + (-7046029254386353131 : Int64))).toUInt64 >>> ((1 : Int32) &&& 0x3f).toInt64.toUInt64).toInt64), .second, u_, u_, u_, u_, u_, u_, u_, u_, u_] [])) (fun t k => ?_) ?_
      · show Steps p.tables e below (T8.setTop (mkF m 78 #[lv q0, .second, lv q1, .second, iv p2, iv p3, iv bn, rv w_GRID, rv b2, rv b4, lv (own_mix (qs + (-7046029254386353131 : Int64))), .second, lv (own_mix ((qs + (-7046029254386353131 : Int64)) + (-7046029254386353131 : Int64))), .second, u_, u_, u_, u_, u_, u_, u_, u_, u_, u_, u_, u_, u_] [(.long (own_mix (((qs + (-7046029254386353131 : Int64)) + (-7046029254386353131 : Int64)) + (-7046029254386353131 : Int64))))])) _
        refine XS.lstore X8.here hx rfl (hb hby at_78) rfl (l' := #[lv q0, .second, lv q1, .second, iv p2, iv p3, iv bn, rv w_GRID, rv b2, rv b4, lv (own_mix (qs + (-7046029254386353131 : Int64))), .second, lv (own_mix ((qs + (-7046029254386353131 : Int64)) + (-7046029254386353131 : Int64))), .second, lv (own_mix (((qs + (-7046029254386353131 : Int64)) + (-7046029254386353131 : Int64)) + (-7046029254386353131 : Int64))), .second, u_, u_, u_, u_, u_, u_, u_, u_, u_, u_, u_]) rfl ?_
        show Steps p.tables e below (T8.setTop (mkF m 80 #[lv q0, .second, lv q1, .second, iv p2, iv p3, iv bn, rv w_GRID, rv b2, rv b4, lv (own_mix (qs + (-7046029254386353131 : Int64))), .second, lv (own_mix ((qs + (-7046029254386353131 : Int64)) + (-7046029254386353131 : Int64))), .second, lv (own_mix (((qs + (-7046029254386353131 : Int64)) + (-7046029254386353131 : Int64)) + (-7046029254386353131 : Int64))), .second, u_, u_, u_, u_, u_, u_, u_, u_, u_, u_, u_] [])) _
        refine XS.lload X8.here hx rfl (hb hby at_80) rfl ?_
        show Steps p.tables e below (T8.setTop (mkF m 82 #[lv q0, .second, lv q1, .second, iv p2, iv p3, iv bn, rv w_GRID, rv b2, rv b4, lv (own_mix (qs + (-7046029254386353131 : Int64))), .second, lv (own_mix ((qs + (-7046029254386353131 : Int64)) + (-7046029254386353131 : Int64))), .second, lv (own_mix (((qs + (-7046029254386353131 : Int64)) + (-7046029254386353131 : Int64)) + (-7046029254386353131 : Int64))), .second, u_, u_, u_, u_, u_, u_, u_, u_, u_, u_, u_] [(.long (own_mix (qs + (-7046029254386353131 : Int64))))])) _
        refine XS.iconst X8.here hx rfl (hb hby at_82) ?_
        show Steps p.tables e below (T8.setTop (mkF m 83 #[lv q0, .second, lv q1, .second, iv p2, iv p3, iv bn, rv w_GRID, rv b2, rv b4, lv (own_mix (qs + (-7046029254386353131 : Int64))), .second, lv (own_mix ((qs + (-7046029254386353131 : Int64)) + (-7046029254386353131 : Int64))), .second, lv (own_mix (((qs + (-7046029254386353131 : Int64)) + (-7046029254386353131 : Int64)) + (-7046029254386353131 : Int64))), .second, u_, u_, u_, u_, u_, u_, u_, u_, u_, u_, u_] [(.int (1 : Int32)), (.long (own_mix (qs + (-7046029254386353131 : Int64))))])) _
        refine XS.lushr X8.here hx rfl (hb hby at_83) rfl ?_
        show Steps p.tables e below (T8.setTop (mkF m 84 #[lv q0, .second, lv q1, .second, iv p2, iv p3, iv bn, rv w_GRID, rv b2, rv b4, lv (own_mix (qs + (-7046029254386353131 : Int64))), .second, lv (own_mix ((qs + (-7046029254386353131 : Int64)) + (-7046029254386353131 : Int64))), .second, lv (own_mix (((qs + (-7046029254386353131 : Int64)) + (-7046029254386353131 : Int64)) + (-7046029254386353131 : Int64))), .second, u_, u_, u_, u_, u_, u_, u_, u_, u_, u_, u_] [(.long (((own_mix (qs + (-7046029254386353131 : Int64))).toUInt64 >>> ((1 : Int32) &&& 0x3f).toInt64.toUInt64).toInt64))])) _
        refine XS.lstore X8.here hx rfl (hb hby at_84) rfl (l' := #[lv q0, .second, lv q1, .second, iv p2, iv p3, iv bn, rv w_GRID, rv b2, rv b4, lv (own_mix (qs + (-7046029254386353131 : Int64))), .second, lv (own_mix ((qs + (-7046029254386353131 : Int64)) + (-7046029254386353131 : Int64))), .second, lv (own_mix (((qs + (-7046029254386353131 : Int64)) + (-7046029254386353131 : Int64)) + (-7046029254386353131 : Int64))), .second, lv (((own_mix (qs + (-7046029254386353131 : Int64))).toUInt64 >>> ((1 : Int32) &&& 0x3f).toInt64.toUInt64).toInt64), .second, u_, u_, u_, u_, u_, u_, u_, u_, u_]) rfl ?_
        exact k
      rw [(rfl : (((own_mix (qs + (-7046029254386353131 : Int64))).toUInt64 >>> ((1 : Int32) &&& 0x3f).toInt64.toUInt64).toInt64) = (own_dr (own_mix (qs + (-7046029254386353131 : Int64)))))]
      show Go p e below _ (T8.setTop (mkF m 86 #[lv q0, .second, lv q1, .second, iv p2, iv p3, iv bn, rv w_GRID, rv b2, rv b4, lv (own_mix (qs + (-7046029254386353131 : Int64))), .second, lv (own_mix ((qs + (-7046029254386353131 : Int64)) + (-7046029254386353131 : Int64))), .second, lv (own_mix (((qs + (-7046029254386353131 : Int64)) + (-7046029254386353131 : Int64)) + (-7046029254386353131 : Int64))), .second, lv (own_dr (own_mix (qs + (-7046029254386353131 : Int64)))), .second, u_, u_, u_, u_, u_, u_, u_, u_, u_] []))
      refine Go.step (S' := T8.setTop (mkF m 92 #[lv q0, .second, lv q1, .second, iv p2, iv p3, iv bn, rv w_GRID, rv b2, rv b4, lv (own_mix (qs + (-7046029254386353131 : Int64))), .second, lv (own_mix ((qs + (-7046029254386353131 : Int64)) + (-7046029254386353131 : Int64))), .second, lv (own_mix (((qs + (-7046029254386353131 : Int64)) + (-7046029254386353131 : Int64)) + (-7046029254386353131 : Int64))), .second, lv (own_dr (own_mix (qs + (-7046029254386353131 : Int64)))), .second, lv (((own_mix ((qs + (-7046029254386353131 : Int64)) + (-7046029254386353131 : Int64))).toUInt64 >>> ((1 : Int32) &&& 0x3f).toInt64.toUInt64).toInt64), .second, u_, u_, u_, u_, u_, u_, u_] [])) (fun t k => ?_) ?_
      · show Steps p.tables e below (T8.setTop (mkF m 86 #[lv q0, .second, lv q1, .second, iv p2, iv p3, iv bn, rv w_GRID, rv b2, rv b4, lv (own_mix (qs + (-7046029254386353131 : Int64))), .second, lv (own_mix ((qs + (-7046029254386353131 : Int64)) + (-7046029254386353131 : Int64))), .second, lv (own_mix (((qs + (-7046029254386353131 : Int64)) + (-7046029254386353131 : Int64)) + (-7046029254386353131 : Int64))), .second, lv (own_dr (own_mix (qs + (-7046029254386353131 : Int64)))), .second, u_, u_, u_, u_, u_, u_, u_, u_, u_] [])) _
        refine XS.lload X8.here hx rfl (hb hby at_86) rfl ?_
        show Steps p.tables e below (T8.setTop (mkF m 88 #[lv q0, .second, lv q1, .second, iv p2, iv p3, iv bn, rv w_GRID, rv b2, rv b4, lv (own_mix (qs + (-7046029254386353131 : Int64))), .second, lv (own_mix ((qs + (-7046029254386353131 : Int64)) + (-7046029254386353131 : Int64))), .second, lv (own_mix (((qs + (-7046029254386353131 : Int64)) + (-7046029254386353131 : Int64)) + (-7046029254386353131 : Int64))), .second, lv (own_dr (own_mix (qs + (-7046029254386353131 : Int64)))), .second, u_, u_, u_, u_, u_, u_, u_, u_, u_] [(.long (own_mix ((qs + (-7046029254386353131 : Int64)) + (-7046029254386353131 : Int64))))])) _
        refine XS.iconst X8.here hx rfl (hb hby at_88) ?_
        show Steps p.tables e below (T8.setTop (mkF m 89 #[lv q0, .second, lv q1, .second, iv p2, iv p3, iv bn, rv w_GRID, rv b2, rv b4, lv (own_mix (qs + (-7046029254386353131 : Int64))), .second, lv (own_mix ((qs + (-7046029254386353131 : Int64)) + (-7046029254386353131 : Int64))), .second, lv (own_mix (((qs + (-7046029254386353131 : Int64)) + (-7046029254386353131 : Int64)) + (-7046029254386353131 : Int64))), .second, lv (own_dr (own_mix (qs + (-7046029254386353131 : Int64)))), .second, u_, u_, u_, u_, u_, u_, u_, u_, u_] [(.int (1 : Int32)), (.long (own_mix ((qs + (-7046029254386353131 : Int64)) + (-7046029254386353131 : Int64))))])) _
        refine XS.lushr X8.here hx rfl (hb hby at_89) rfl ?_
        show Steps p.tables e below (T8.setTop (mkF m 90 #[lv q0, .second, lv q1, .second, iv p2, iv p3, iv bn, rv w_GRID, rv b2, rv b4, lv (own_mix (qs + (-7046029254386353131 : Int64))), .second, lv (own_mix ((qs + (-7046029254386353131 : Int64)) + (-7046029254386353131 : Int64))), .second, lv (own_mix (((qs + (-7046029254386353131 : Int64)) + (-7046029254386353131 : Int64)) + (-7046029254386353131 : Int64))), .second, lv (own_dr (own_mix (qs + (-7046029254386353131 : Int64)))), .second, u_, u_, u_, u_, u_, u_, u_, u_, u_] [(.long (((own_mix ((qs + (-7046029254386353131 : Int64)) + (-7046029254386353131 : Int64))).toUInt64 >>> ((1 : Int32) &&& 0x3f).toInt64.toUInt64).toInt64))])) _
        refine XS.lstore X8.here hx rfl (hb hby at_90) rfl (l' := #[lv q0, .second, lv q1, .second, iv p2, iv p3, iv bn, rv w_GRID, rv b2, rv b4, lv (own_mix (qs + (-7046029254386353131 : Int64))), .second, lv (own_mix ((qs + (-7046029254386353131 : Int64)) + (-7046029254386353131 : Int64))), .second, lv (own_mix (((qs + (-7046029254386353131 : Int64)) + (-7046029254386353131 : Int64)) + (-7046029254386353131 : Int64))), .second, lv (own_dr (own_mix (qs + (-7046029254386353131 : Int64)))), .second, lv (((own_mix ((qs + (-7046029254386353131 : Int64)) + (-7046029254386353131 : Int64))).toUInt64 >>> ((1 : Int32) &&& 0x3f).toInt64.toUInt64).toInt64), .second, u_, u_, u_, u_, u_, u_, u_]) rfl ?_
        exact k
      rw [(rfl : (((own_mix ((qs + (-7046029254386353131 : Int64)) + (-7046029254386353131 : Int64))).toUInt64 >>> ((1 : Int32) &&& 0x3f).toInt64.toUInt64).toInt64) = (own_dr (own_mix ((qs + (-7046029254386353131 : Int64)) + (-7046029254386353131 : Int64)))))]
      show Go p e below _ (T8.setTop (mkF m 92 #[lv q0, .second, lv q1, .second, iv p2, iv p3, iv bn, rv w_GRID, rv b2, rv b4, lv (own_mix (qs + (-7046029254386353131 : Int64))), .second, lv (own_mix ((qs + (-7046029254386353131 : Int64)) + (-7046029254386353131 : Int64))), .second, lv (own_mix (((qs + (-7046029254386353131 : Int64)) + (-7046029254386353131 : Int64)) + (-7046029254386353131 : Int64))), .second, lv (own_dr (own_mix (qs + (-7046029254386353131 : Int64)))), .second, lv (own_dr (own_mix ((qs + (-7046029254386353131 : Int64)) + (-7046029254386353131 : Int64)))), .second, u_, u_, u_, u_, u_, u_, u_] []))
      refine Go.step (S' := T8.setTop (mkF m 109 #[lv q0, .second, lv q1, .second, iv p2, iv p3, iv bn, rv w_GRID, rv b2, rv b4, lv (own_mix (qs + (-7046029254386353131 : Int64))), .second, lv (own_mix ((qs + (-7046029254386353131 : Int64)) + (-7046029254386353131 : Int64))), .second, lv (own_mix (((qs + (-7046029254386353131 : Int64)) + (-7046029254386353131 : Int64)) + (-7046029254386353131 : Int64))), .second, lv (own_dr (own_mix (qs + (-7046029254386353131 : Int64)))), .second, lv (own_dr (own_mix ((qs + (-7046029254386353131 : Int64)) + (-7046029254386353131 : Int64)))), .second, lv ((((4611686018427387904 : Int64) - ((4611686018427387904 : Int64) / (bn.toInt64)) * (bn.toInt64)) * (2 : Int64)) - ((((4611686018427387904 : Int64) - ((4611686018427387904 : Int64) / (bn.toInt64)) * (bn.toInt64)) * (2 : Int64)) / (bn.toInt64)) * (bn.toInt64)), .second, u_, u_, u_, u_, u_] [])) (fun t k => ?_) ?_
      · show Steps p.tables e below (T8.setTop (mkF m 92 #[lv q0, .second, lv q1, .second, iv p2, iv p3, iv bn, rv w_GRID, rv b2, rv b4, lv (own_mix (qs + (-7046029254386353131 : Int64))), .second, lv (own_mix ((qs + (-7046029254386353131 : Int64)) + (-7046029254386353131 : Int64))), .second, lv (own_mix (((qs + (-7046029254386353131 : Int64)) + (-7046029254386353131 : Int64)) + (-7046029254386353131 : Int64))), .second, lv (own_dr (own_mix (qs + (-7046029254386353131 : Int64)))), .second, lv (own_dr (own_mix ((qs + (-7046029254386353131 : Int64)) + (-7046029254386353131 : Int64)))), .second, u_, u_, u_, u_, u_, u_, u_] [])) _
        refine X8.ldc2Long hx hown (mvT hZ (own_w hw 28 rfl)) (g := (mkF m 92 #[lv q0, .second, lv q1, .second, iv p2, iv p3, iv bn, rv w_GRID, rv b2, rv b4, lv (own_mix (qs + (-7046029254386353131 : Int64))), .second, lv (own_mix ((qs + (-7046029254386353131 : Int64)) + (-7046029254386353131 : Int64))), .second, lv (own_mix (((qs + (-7046029254386353131 : Int64)) + (-7046029254386353131 : Int64)) + (-7046029254386353131 : Int64))), .second, lv (own_dr (own_mix (qs + (-7046029254386353131 : Int64)))), .second, lv (own_dr (own_mix ((qs + (-7046029254386353131 : Int64)) + (-7046029254386353131 : Int64)))), .second, u_, u_, u_, u_, u_, u_, u_] [])) rfl (hb hby at_92) _ ?_
        show Steps p.tables e below (T8.setTop (mkF m 95 #[lv q0, .second, lv q1, .second, iv p2, iv p3, iv bn, rv w_GRID, rv b2, rv b4, lv (own_mix (qs + (-7046029254386353131 : Int64))), .second, lv (own_mix ((qs + (-7046029254386353131 : Int64)) + (-7046029254386353131 : Int64))), .second, lv (own_mix (((qs + (-7046029254386353131 : Int64)) + (-7046029254386353131 : Int64)) + (-7046029254386353131 : Int64))), .second, lv (own_dr (own_mix (qs + (-7046029254386353131 : Int64)))), .second, lv (own_dr (own_mix ((qs + (-7046029254386353131 : Int64)) + (-7046029254386353131 : Int64)))), .second, u_, u_, u_, u_, u_, u_, u_] [(.long (4611686018427387904 : Int64))])) _
        refine XS.iload X8.here hx rfl (hb hby at_95) rfl ?_
        show Steps p.tables e below (T8.setTop (mkF m 97 #[lv q0, .second, lv q1, .second, iv p2, iv p3, iv bn, rv w_GRID, rv b2, rv b4, lv (own_mix (qs + (-7046029254386353131 : Int64))), .second, lv (own_mix ((qs + (-7046029254386353131 : Int64)) + (-7046029254386353131 : Int64))), .second, lv (own_mix (((qs + (-7046029254386353131 : Int64)) + (-7046029254386353131 : Int64)) + (-7046029254386353131 : Int64))), .second, lv (own_dr (own_mix (qs + (-7046029254386353131 : Int64)))), .second, lv (own_dr (own_mix ((qs + (-7046029254386353131 : Int64)) + (-7046029254386353131 : Int64)))), .second, u_, u_, u_, u_, u_, u_, u_] [(.int bn), (.long (4611686018427387904 : Int64))])) _
        refine XS.i2l X8.here hx rfl (hb hby at_97) rfl ?_
        show Steps p.tables e below (T8.setTop (mkF m 98 #[lv q0, .second, lv q1, .second, iv p2, iv p3, iv bn, rv w_GRID, rv b2, rv b4, lv (own_mix (qs + (-7046029254386353131 : Int64))), .second, lv (own_mix ((qs + (-7046029254386353131 : Int64)) + (-7046029254386353131 : Int64))), .second, lv (own_mix (((qs + (-7046029254386353131 : Int64)) + (-7046029254386353131 : Int64)) + (-7046029254386353131 : Int64))), .second, lv (own_dr (own_mix (qs + (-7046029254386353131 : Int64)))), .second, lv (own_dr (own_mix ((qs + (-7046029254386353131 : Int64)) + (-7046029254386353131 : Int64)))), .second, u_, u_, u_, u_, u_, u_, u_] [(.long (bn.toInt64)), (.long (4611686018427387904 : Int64))])) _
        refine XS.lrem X8.here hx rfl (hb hby at_98) rfl (own_nz hpos) ?_
        show Steps p.tables e below (T8.setTop (mkF m 99 #[lv q0, .second, lv q1, .second, iv p2, iv p3, iv bn, rv w_GRID, rv b2, rv b4, lv (own_mix (qs + (-7046029254386353131 : Int64))), .second, lv (own_mix ((qs + (-7046029254386353131 : Int64)) + (-7046029254386353131 : Int64))), .second, lv (own_mix (((qs + (-7046029254386353131 : Int64)) + (-7046029254386353131 : Int64)) + (-7046029254386353131 : Int64))), .second, lv (own_dr (own_mix (qs + (-7046029254386353131 : Int64)))), .second, lv (own_dr (own_mix ((qs + (-7046029254386353131 : Int64)) + (-7046029254386353131 : Int64)))), .second, u_, u_, u_, u_, u_, u_, u_] [(.long ((4611686018427387904 : Int64) - ((4611686018427387904 : Int64) / (bn.toInt64)) * (bn.toInt64)))])) _
        refine X8.ldc2Long hx hown (mvT hZ (own_w hw 29 rfl)) (g := (mkF m 99 #[lv q0, .second, lv q1, .second, iv p2, iv p3, iv bn, rv w_GRID, rv b2, rv b4, lv (own_mix (qs + (-7046029254386353131 : Int64))), .second, lv (own_mix ((qs + (-7046029254386353131 : Int64)) + (-7046029254386353131 : Int64))), .second, lv (own_mix (((qs + (-7046029254386353131 : Int64)) + (-7046029254386353131 : Int64)) + (-7046029254386353131 : Int64))), .second, lv (own_dr (own_mix (qs + (-7046029254386353131 : Int64)))), .second, lv (own_dr (own_mix ((qs + (-7046029254386353131 : Int64)) + (-7046029254386353131 : Int64)))), .second, u_, u_, u_, u_, u_, u_, u_] [(.long ((4611686018427387904 : Int64) - ((4611686018427387904 : Int64) / (bn.toInt64)) * (bn.toInt64)))])) rfl (hb hby at_99) _ ?_
        show Steps p.tables e below (T8.setTop (mkF m 102 #[lv q0, .second, lv q1, .second, iv p2, iv p3, iv bn, rv w_GRID, rv b2, rv b4, lv (own_mix (qs + (-7046029254386353131 : Int64))), .second, lv (own_mix ((qs + (-7046029254386353131 : Int64)) + (-7046029254386353131 : Int64))), .second, lv (own_mix (((qs + (-7046029254386353131 : Int64)) + (-7046029254386353131 : Int64)) + (-7046029254386353131 : Int64))), .second, lv (own_dr (own_mix (qs + (-7046029254386353131 : Int64)))), .second, lv (own_dr (own_mix ((qs + (-7046029254386353131 : Int64)) + (-7046029254386353131 : Int64)))), .second, u_, u_, u_, u_, u_, u_, u_] [(.long (2 : Int64)), (.long ((4611686018427387904 : Int64) - ((4611686018427387904 : Int64) / (bn.toInt64)) * (bn.toInt64)))])) _
        refine XS.lmul X8.here hx rfl (hb hby at_102) rfl ?_
        show Steps p.tables e below (T8.setTop (mkF m 103 #[lv q0, .second, lv q1, .second, iv p2, iv p3, iv bn, rv w_GRID, rv b2, rv b4, lv (own_mix (qs + (-7046029254386353131 : Int64))), .second, lv (own_mix ((qs + (-7046029254386353131 : Int64)) + (-7046029254386353131 : Int64))), .second, lv (own_mix (((qs + (-7046029254386353131 : Int64)) + (-7046029254386353131 : Int64)) + (-7046029254386353131 : Int64))), .second, lv (own_dr (own_mix (qs + (-7046029254386353131 : Int64)))), .second, lv (own_dr (own_mix ((qs + (-7046029254386353131 : Int64)) + (-7046029254386353131 : Int64)))), .second, u_, u_, u_, u_, u_, u_, u_] [(.long (((4611686018427387904 : Int64) - ((4611686018427387904 : Int64) / (bn.toInt64)) * (bn.toInt64)) * (2 : Int64)))])) _
        refine XS.iload X8.here hx rfl (hb hby at_103) rfl ?_
        show Steps p.tables e below (T8.setTop (mkF m 105 #[lv q0, .second, lv q1, .second, iv p2, iv p3, iv bn, rv w_GRID, rv b2, rv b4, lv (own_mix (qs + (-7046029254386353131 : Int64))), .second, lv (own_mix ((qs + (-7046029254386353131 : Int64)) + (-7046029254386353131 : Int64))), .second, lv (own_mix (((qs + (-7046029254386353131 : Int64)) + (-7046029254386353131 : Int64)) + (-7046029254386353131 : Int64))), .second, lv (own_dr (own_mix (qs + (-7046029254386353131 : Int64)))), .second, lv (own_dr (own_mix ((qs + (-7046029254386353131 : Int64)) + (-7046029254386353131 : Int64)))), .second, u_, u_, u_, u_, u_, u_, u_] [(.int bn), (.long (((4611686018427387904 : Int64) - ((4611686018427387904 : Int64) / (bn.toInt64)) * (bn.toInt64)) * (2 : Int64)))])) _
        refine XS.i2l X8.here hx rfl (hb hby at_105) rfl ?_
        show Steps p.tables e below (T8.setTop (mkF m 106 #[lv q0, .second, lv q1, .second, iv p2, iv p3, iv bn, rv w_GRID, rv b2, rv b4, lv (own_mix (qs + (-7046029254386353131 : Int64))), .second, lv (own_mix ((qs + (-7046029254386353131 : Int64)) + (-7046029254386353131 : Int64))), .second, lv (own_mix (((qs + (-7046029254386353131 : Int64)) + (-7046029254386353131 : Int64)) + (-7046029254386353131 : Int64))), .second, lv (own_dr (own_mix (qs + (-7046029254386353131 : Int64)))), .second, lv (own_dr (own_mix ((qs + (-7046029254386353131 : Int64)) + (-7046029254386353131 : Int64)))), .second, u_, u_, u_, u_, u_, u_, u_] [(.long (bn.toInt64)), (.long (((4611686018427387904 : Int64) - ((4611686018427387904 : Int64) / (bn.toInt64)) * (bn.toInt64)) * (2 : Int64)))])) _
        refine XS.lrem X8.here hx rfl (hb hby at_106) rfl (own_nz hpos) ?_
        show Steps p.tables e below (T8.setTop (mkF m 107 #[lv q0, .second, lv q1, .second, iv p2, iv p3, iv bn, rv w_GRID, rv b2, rv b4, lv (own_mix (qs + (-7046029254386353131 : Int64))), .second, lv (own_mix ((qs + (-7046029254386353131 : Int64)) + (-7046029254386353131 : Int64))), .second, lv (own_mix (((qs + (-7046029254386353131 : Int64)) + (-7046029254386353131 : Int64)) + (-7046029254386353131 : Int64))), .second, lv (own_dr (own_mix (qs + (-7046029254386353131 : Int64)))), .second, lv (own_dr (own_mix ((qs + (-7046029254386353131 : Int64)) + (-7046029254386353131 : Int64)))), .second, u_, u_, u_, u_, u_, u_, u_] [(.long ((((4611686018427387904 : Int64) - ((4611686018427387904 : Int64) / (bn.toInt64)) * (bn.toInt64)) * (2 : Int64)) - ((((4611686018427387904 : Int64) - ((4611686018427387904 : Int64) / (bn.toInt64)) * (bn.toInt64)) * (2 : Int64)) / (bn.toInt64)) * (bn.toInt64)))])) _
        refine XS.lstore X8.here hx rfl (hb hby at_107) rfl (l' := #[lv q0, .second, lv q1, .second, iv p2, iv p3, iv bn, rv w_GRID, rv b2, rv b4, lv (own_mix (qs + (-7046029254386353131 : Int64))), .second, lv (own_mix ((qs + (-7046029254386353131 : Int64)) + (-7046029254386353131 : Int64))), .second, lv (own_mix (((qs + (-7046029254386353131 : Int64)) + (-7046029254386353131 : Int64)) + (-7046029254386353131 : Int64))), .second, lv (own_dr (own_mix (qs + (-7046029254386353131 : Int64)))), .second, lv (own_dr (own_mix ((qs + (-7046029254386353131 : Int64)) + (-7046029254386353131 : Int64)))), .second, lv ((((4611686018427387904 : Int64) - ((4611686018427387904 : Int64) / (bn.toInt64)) * (bn.toInt64)) * (2 : Int64)) - ((((4611686018427387904 : Int64) - ((4611686018427387904 : Int64) / (bn.toInt64)) * (bn.toInt64)) * (2 : Int64)) / (bn.toInt64)) * (bn.toInt64)), .second, u_, u_, u_, u_, u_]) rfl ?_
        exact k
      obtain ⟨rem, hd_rem⟩ : ∃ z : Int64, ((((4611686018427387904 : Int64) - ((4611686018427387904 : Int64) / (bn.toInt64)) * (bn.toInt64)) * (2 : Int64)) - ((((4611686018427387904 : Int64) - ((4611686018427387904 : Int64) / (bn.toInt64)) * (bn.toInt64)) * (2 : Int64)) / (bn.toInt64)) * (bn.toInt64)) = z := ⟨_, rfl⟩
      rw [hd_rem]
      show Go p e below _ (T8.setTop (mkF m 109 #[lv q0, .second, lv q1, .second, iv p2, iv p3, iv bn, rv w_GRID, rv b2, rv b4, lv (own_mix (qs + (-7046029254386353131 : Int64))), .second, lv (own_mix ((qs + (-7046029254386353131 : Int64)) + (-7046029254386353131 : Int64))), .second, lv (own_mix (((qs + (-7046029254386353131 : Int64)) + (-7046029254386353131 : Int64)) + (-7046029254386353131 : Int64))), .second, lv (own_dr (own_mix (qs + (-7046029254386353131 : Int64)))), .second, lv (own_dr (own_mix ((qs + (-7046029254386353131 : Int64)) + (-7046029254386353131 : Int64)))), .second, lv rem, .second, u_, u_, u_, u_, u_] []))
      refine Go.step (S' := T8.setTop (mkF m 117 #[lv q0, .second, lv q1, .second, iv p2, iv p3, iv bn, rv w_GRID, rv b2, rv b4, lv (own_mix (qs + (-7046029254386353131 : Int64))), .second, lv (own_mix ((qs + (-7046029254386353131 : Int64)) + (-7046029254386353131 : Int64))), .second, lv (own_mix (((qs + (-7046029254386353131 : Int64)) + (-7046029254386353131 : Int64)) + (-7046029254386353131 : Int64))), .second, lv (own_dr (own_mix (qs + (-7046029254386353131 : Int64)))), .second, lv (own_dr (own_mix ((qs + (-7046029254386353131 : Int64)) + (-7046029254386353131 : Int64)))), .second, lv rem, .second, lv ((9223372036854775807 : Int64) - rem), .second, u_, u_, u_] [])) (fun t k => ?_) ?_
      · show Steps p.tables e below (T8.setTop (mkF m 109 #[lv q0, .second, lv q1, .second, iv p2, iv p3, iv bn, rv w_GRID, rv b2, rv b4, lv (own_mix (qs + (-7046029254386353131 : Int64))), .second, lv (own_mix ((qs + (-7046029254386353131 : Int64)) + (-7046029254386353131 : Int64))), .second, lv (own_mix (((qs + (-7046029254386353131 : Int64)) + (-7046029254386353131 : Int64)) + (-7046029254386353131 : Int64))), .second, lv (own_dr (own_mix (qs + (-7046029254386353131 : Int64)))), .second, lv (own_dr (own_mix ((qs + (-7046029254386353131 : Int64)) + (-7046029254386353131 : Int64)))), .second, lv rem, .second, u_, u_, u_, u_, u_] [])) _
        refine X8.ldc2Long hx hown (mvT hZ (own_w hw 30 rfl)) (g := (mkF m 109 #[lv q0, .second, lv q1, .second, iv p2, iv p3, iv bn, rv w_GRID, rv b2, rv b4, lv (own_mix (qs + (-7046029254386353131 : Int64))), .second, lv (own_mix ((qs + (-7046029254386353131 : Int64)) + (-7046029254386353131 : Int64))), .second, lv (own_mix (((qs + (-7046029254386353131 : Int64)) + (-7046029254386353131 : Int64)) + (-7046029254386353131 : Int64))), .second, lv (own_dr (own_mix (qs + (-7046029254386353131 : Int64)))), .second, lv (own_dr (own_mix ((qs + (-7046029254386353131 : Int64)) + (-7046029254386353131 : Int64)))), .second, lv rem, .second, u_, u_, u_, u_, u_] [])) rfl (hb hby at_109) _ ?_
        show Steps p.tables e below (T8.setTop (mkF m 112 #[lv q0, .second, lv q1, .second, iv p2, iv p3, iv bn, rv w_GRID, rv b2, rv b4, lv (own_mix (qs + (-7046029254386353131 : Int64))), .second, lv (own_mix ((qs + (-7046029254386353131 : Int64)) + (-7046029254386353131 : Int64))), .second, lv (own_mix (((qs + (-7046029254386353131 : Int64)) + (-7046029254386353131 : Int64)) + (-7046029254386353131 : Int64))), .second, lv (own_dr (own_mix (qs + (-7046029254386353131 : Int64)))), .second, lv (own_dr (own_mix ((qs + (-7046029254386353131 : Int64)) + (-7046029254386353131 : Int64)))), .second, lv rem, .second, u_, u_, u_, u_, u_] [(.long (9223372036854775807 : Int64))])) _
        refine XS.lload X8.here hx rfl (hb hby at_112) rfl ?_
        show Steps p.tables e below (T8.setTop (mkF m 114 #[lv q0, .second, lv q1, .second, iv p2, iv p3, iv bn, rv w_GRID, rv b2, rv b4, lv (own_mix (qs + (-7046029254386353131 : Int64))), .second, lv (own_mix ((qs + (-7046029254386353131 : Int64)) + (-7046029254386353131 : Int64))), .second, lv (own_mix (((qs + (-7046029254386353131 : Int64)) + (-7046029254386353131 : Int64)) + (-7046029254386353131 : Int64))), .second, lv (own_dr (own_mix (qs + (-7046029254386353131 : Int64)))), .second, lv (own_dr (own_mix ((qs + (-7046029254386353131 : Int64)) + (-7046029254386353131 : Int64)))), .second, lv rem, .second, u_, u_, u_, u_, u_] [(.long rem), (.long (9223372036854775807 : Int64))])) _
        refine XS.lsub X8.here hx rfl (hb hby at_114) rfl ?_
        show Steps p.tables e below (T8.setTop (mkF m 115 #[lv q0, .second, lv q1, .second, iv p2, iv p3, iv bn, rv w_GRID, rv b2, rv b4, lv (own_mix (qs + (-7046029254386353131 : Int64))), .second, lv (own_mix ((qs + (-7046029254386353131 : Int64)) + (-7046029254386353131 : Int64))), .second, lv (own_mix (((qs + (-7046029254386353131 : Int64)) + (-7046029254386353131 : Int64)) + (-7046029254386353131 : Int64))), .second, lv (own_dr (own_mix (qs + (-7046029254386353131 : Int64)))), .second, lv (own_dr (own_mix ((qs + (-7046029254386353131 : Int64)) + (-7046029254386353131 : Int64)))), .second, lv rem, .second, u_, u_, u_, u_, u_] [(.long ((9223372036854775807 : Int64) - rem))])) _
        refine XS.lstore X8.here hx rfl (hb hby at_115) rfl (l' := #[lv q0, .second, lv q1, .second, iv p2, iv p3, iv bn, rv w_GRID, rv b2, rv b4, lv (own_mix (qs + (-7046029254386353131 : Int64))), .second, lv (own_mix ((qs + (-7046029254386353131 : Int64)) + (-7046029254386353131 : Int64))), .second, lv (own_mix (((qs + (-7046029254386353131 : Int64)) + (-7046029254386353131 : Int64)) + (-7046029254386353131 : Int64))), .second, lv (own_dr (own_mix (qs + (-7046029254386353131 : Int64)))), .second, lv (own_dr (own_mix ((qs + (-7046029254386353131 : Int64)) + (-7046029254386353131 : Int64)))), .second, lv rem, .second, lv ((9223372036854775807 : Int64) - rem), .second, u_, u_, u_]) rfl ?_
        exact k
      rw [(own_last hpos hd_rem : ((9223372036854775807 : Int64) - rem) = (own_lf bn))]
      show Go p e below _ (T8.setTop (mkF m 117 #[lv q0, .second, lv q1, .second, iv p2, iv p3, iv bn, rv w_GRID, rv b2, rv b4, lv (own_mix (qs + (-7046029254386353131 : Int64))), .second, lv (own_mix ((qs + (-7046029254386353131 : Int64)) + (-7046029254386353131 : Int64))), .second, lv (own_mix (((qs + (-7046029254386353131 : Int64)) + (-7046029254386353131 : Int64)) + (-7046029254386353131 : Int64))), .second, lv (own_dr (own_mix (qs + (-7046029254386353131 : Int64)))), .second, lv (own_dr (own_mix ((qs + (-7046029254386353131 : Int64)) + (-7046029254386353131 : Int64)))), .second, lv rem, .second, lv (own_lf bn), .second, u_, u_, u_] []))
      refine Go.step (S' := T8.setTop (mkF m 121 #[lv q0, .second, lv q1, .second, iv p2, iv p3, iv bn, rv w_GRID, rv b2, rv b4, lv (own_mix (qs + (-7046029254386353131 : Int64))), .second, lv (own_mix ((qs + (-7046029254386353131 : Int64)) + (-7046029254386353131 : Int64))), .second, lv (own_mix (((qs + (-7046029254386353131 : Int64)) + (-7046029254386353131 : Int64)) + (-7046029254386353131 : Int64))), .second, lv (own_dr (own_mix (qs + (-7046029254386353131 : Int64)))), .second, lv (own_dr (own_mix ((qs + (-7046029254386353131 : Int64)) + (-7046029254386353131 : Int64)))), .second, lv rem, .second, lv (own_lf bn), .second, u_, u_, u_] [(.int bn), (.ref b2)])) (fun t k => ?_) ?_
      · show Steps p.tables e below (T8.setTop (mkF m 117 #[lv q0, .second, lv q1, .second, iv p2, iv p3, iv bn, rv w_GRID, rv b2, rv b4, lv (own_mix (qs + (-7046029254386353131 : Int64))), .second, lv (own_mix ((qs + (-7046029254386353131 : Int64)) + (-7046029254386353131 : Int64))), .second, lv (own_mix (((qs + (-7046029254386353131 : Int64)) + (-7046029254386353131 : Int64)) + (-7046029254386353131 : Int64))), .second, lv (own_dr (own_mix (qs + (-7046029254386353131 : Int64)))), .second, lv (own_dr (own_mix ((qs + (-7046029254386353131 : Int64)) + (-7046029254386353131 : Int64)))), .second, lv rem, .second, lv (own_lf bn), .second, u_, u_, u_] [])) _
        refine XS.aload X8.here hx rfl (hb hby at_117) rfl rfl ?_
        show Steps p.tables e below (T8.setTop (mkF m 119 #[lv q0, .second, lv q1, .second, iv p2, iv p3, iv bn, rv w_GRID, rv b2, rv b4, lv (own_mix (qs + (-7046029254386353131 : Int64))), .second, lv (own_mix ((qs + (-7046029254386353131 : Int64)) + (-7046029254386353131 : Int64))), .second, lv (own_mix (((qs + (-7046029254386353131 : Int64)) + (-7046029254386353131 : Int64)) + (-7046029254386353131 : Int64))), .second, lv (own_dr (own_mix (qs + (-7046029254386353131 : Int64)))), .second, lv (own_dr (own_mix ((qs + (-7046029254386353131 : Int64)) + (-7046029254386353131 : Int64)))), .second, lv rem, .second, lv (own_lf bn), .second, u_, u_, u_] [(.ref b2)])) _
        refine XS.iload X8.here hx rfl (hb hby at_119) rfl ?_
        exact k
      by_cases hA : (own_lf bn) < (own_dr (own_mix (qs + (-7046029254386353131 : Int64))))
      · skip
        by_cases hC : (own_lf bn) < (own_dr (own_mix ((qs + (-7046029254386353131 : Int64)) + (-7046029254386353131 : Int64))))
        · skip
          obtain ⟨cq9, kq9, q9a, q9b, q9c⟩ := isOf hZ (Eq.refl T8.heap) E_b2
          obtain ⟨_, _, ⟨T9, L9, k9, n9⟩, -, X9, ⟨Lc9, hQ9, l9, y9, z9⟩, st9⟩ := X8.virtualBack hx (y := (⟨"org/ninefold/service/SeededRandom", "nextInt", "(I)I"⟩ : MethodName)) (z := (⟨"org/ninefold/service/SeededRandom", "nextInt", "(I)I"⟩ : MethodName)) hown (mvT hZ (own_w hw 31 rfl)) (mvT hZ (own_w hw 32 rfl)) (notFace_of_selects (args := #[]) (mvT hZ (own_w hw 34 rfl))) (mvT hZ (own_w hw 34 rfl)) (mvT hZ (own_w hw 33 rfl)) (by decide) (backOf (W := 0) (rmNI l Z a0 hw [] b2 bn qs T8.heap n0 O E_b2 F_3 (by assumption) hpos) hZ (own_w hw 35 rfl) (own_w hw 6 rfl) (by decide) (by decide)) q9a q9c (g := (mkF m 121 #[lv q0, .second, lv q1, .second, iv p2, iv p3, iv bn, rv w_GRID, rv b2, rv b4, lv (own_mix (qs + (-7046029254386353131 : Int64))), .second, lv (own_mix ((qs + (-7046029254386353131 : Int64)) + (-7046029254386353131 : Int64))), .second, lv (own_mix (((qs + (-7046029254386353131 : Int64)) + (-7046029254386353131 : Int64)) + (-7046029254386353131 : Int64))), .second, lv (own_dr (own_mix (qs + (-7046029254386353131 : Int64)))), .second, lv (own_dr (own_mix ((qs + (-7046029254386353131 : Int64)) + (-7046029254386353131 : Int64)))), .second, lv rem, .second, lv (own_lf bn), .second, u_, u_, u_] [(.int bn), (.ref b2)])) rfl (by rw [hml]; rfl) (Steps.refl _) (argsL := [(.int bn)]) (rest := []) (lenOf pd__28I_29I rfl) rfl (by show 2 * 0 + _ ≤ _; exact Nat.le_of_eq rfl) (hb hby at_121) (fun _ _ => ⟨rfl, (Eq.refl T8.heap), (by decide : 2 + 0 ≤ _), (by decide : 2 + 0 ≤ _)⟩)
          dsimp only [Pt.U, Pt.locs, Pt.cells, Pt.slots] at X9 l9 y9 z9 st9 hQ9
          subst l9 y9 z9
          obtain ⟨r_9, qq_9, rfl, Nq9, K9, P9_E, P9_F⟩ := hQ9
          have N9 := Fr.app N8 Nq9
          have O := O.keep K9 (allS g_b2 all0)
          have K := K.trans K9 (allS (Or.inr sz_b2) all0)
          have E_b2 := E_b2.keep K9
          have E_3 := E_3.keep K9
          have E_b4 := E_b4.keep K9
          have E_5 := E_5.keep K9
          have E_6 := E_6.keep K9
          have E_7 := E_7.keep K9
          have E_8 := E_8.keep K9
          have F_8 := F_8.keep K9 (ninS (Ne.symm ne_b2_b4) nin0)
          have E_9 := P9_E
          have F_9 := P9_F
          refine Go.step (fun t k => st9.trans k) ?_
          show Go p e below _ (T9.setTop (mkF m 124 #[lv q0, .second, lv q1, .second, iv p2, iv p3, iv bn, rv w_GRID, rv b2, rv b4, lv (own_mix (qs + (-7046029254386353131 : Int64))), .second, lv (own_mix ((qs + (-7046029254386353131 : Int64)) + (-7046029254386353131 : Int64))), .second, lv (own_mix (((qs + (-7046029254386353131 : Int64)) + (-7046029254386353131 : Int64)) + (-7046029254386353131 : Int64))), .second, lv (own_dr (own_mix (qs + (-7046029254386353131 : Int64)))), .second, lv (own_dr (own_mix ((qs + (-7046029254386353131 : Int64)) + (-7046029254386353131 : Int64)))), .second, lv rem, .second, lv (own_lf bn), .second, u_, u_, u_] [(.int r_9)]))
          refine Go.step (S' := T9.setTop (mkF m 128 #[lv q0, .second, lv q1, .second, iv p2, iv p3, iv bn, rv w_GRID, rv b2, rv b4, lv (own_mix (qs + (-7046029254386353131 : Int64))), .second, lv (own_mix ((qs + (-7046029254386353131 : Int64)) + (-7046029254386353131 : Int64))), .second, lv (own_mix (((qs + (-7046029254386353131 : Int64)) + (-7046029254386353131 : Int64)) + (-7046029254386353131 : Int64))), .second, lv (own_dr (own_mix (qs + (-7046029254386353131 : Int64)))), .second, lv (own_dr (own_mix ((qs + (-7046029254386353131 : Int64)) + (-7046029254386353131 : Int64)))), .second, lv rem, .second, lv (own_lf bn), .second, iv r_9, u_, u_] [(.ref b2)])) (fun t k => ?_) ?_
          · show Steps p.tables e below (T9.setTop (mkF m 124 #[lv q0, .second, lv q1, .second, iv p2, iv p3, iv bn, rv w_GRID, rv b2, rv b4, lv (own_mix (qs + (-7046029254386353131 : Int64))), .second, lv (own_mix ((qs + (-7046029254386353131 : Int64)) + (-7046029254386353131 : Int64))), .second, lv (own_mix (((qs + (-7046029254386353131 : Int64)) + (-7046029254386353131 : Int64)) + (-7046029254386353131 : Int64))), .second, lv (own_dr (own_mix (qs + (-7046029254386353131 : Int64)))), .second, lv (own_dr (own_mix ((qs + (-7046029254386353131 : Int64)) + (-7046029254386353131 : Int64)))), .second, lv rem, .second, lv (own_lf bn), .second, u_, u_, u_] [(.int r_9)])) _
            refine XS.istore X9.here hx rfl (hb hby at_124) rfl (l' := #[lv q0, .second, lv q1, .second, iv p2, iv p3, iv bn, rv w_GRID, rv b2, rv b4, lv (own_mix (qs + (-7046029254386353131 : Int64))), .second, lv (own_mix ((qs + (-7046029254386353131 : Int64)) + (-7046029254386353131 : Int64))), .second, lv (own_mix (((qs + (-7046029254386353131 : Int64)) + (-7046029254386353131 : Int64)) + (-7046029254386353131 : Int64))), .second, lv (own_dr (own_mix (qs + (-7046029254386353131 : Int64)))), .second, lv (own_dr (own_mix ((qs + (-7046029254386353131 : Int64)) + (-7046029254386353131 : Int64)))), .second, lv rem, .second, lv (own_lf bn), .second, iv r_9, u_, u_]) rfl ?_
            show Steps p.tables e below (T9.setTop (mkF m 126 #[lv q0, .second, lv q1, .second, iv p2, iv p3, iv bn, rv w_GRID, rv b2, rv b4, lv (own_mix (qs + (-7046029254386353131 : Int64))), .second, lv (own_mix ((qs + (-7046029254386353131 : Int64)) + (-7046029254386353131 : Int64))), .second, lv (own_mix (((qs + (-7046029254386353131 : Int64)) + (-7046029254386353131 : Int64)) + (-7046029254386353131 : Int64))), .second, lv (own_dr (own_mix (qs + (-7046029254386353131 : Int64)))), .second, lv (own_dr (own_mix ((qs + (-7046029254386353131 : Int64)) + (-7046029254386353131 : Int64)))), .second, lv rem, .second, lv (own_lf bn), .second, iv r_9, u_, u_] [])) _
            refine XS.aload X9.here hx rfl (hb hby at_126) rfl rfl ?_
            exact k
          obtain ⟨cq10, kq10, q10a, q10b, q10c⟩ := isOf hZ (Eq.refl T9.heap) E_b2
          obtain ⟨_, _, ⟨T10, L10, k10, n10⟩, -, X10, ⟨Lc10, hQ10, l10, y10, z10⟩, st10⟩ := X9.virtualBack hx (y := (⟨"org/ninefold/service/SeededRandom", "nextLong", "()J"⟩ : MethodName)) (z := (⟨"org/ninefold/service/SeededRandom", "nextLong", "()J"⟩ : MethodName)) hown (mvT hZ (own_w hw 23 rfl)) (mvT hZ (own_w hw 24 rfl)) (notFace_of_selects (args := #[]) (mvT hZ (own_w hw 26 rfl))) (mvT hZ (own_w hw 26 rfl)) (mvT hZ (own_w hw 25 rfl)) (by decide) (backOf (W := 0) (rmNL l Z a0 hw [] b2 qq_9 T9.heap n0 O E_b2 F_9 (by assumption)) hZ (own_w hw 27 rfl) (own_w hw 6 rfl) (by decide) (by decide)) q10a q10c (g := (mkF m 128 #[lv q0, .second, lv q1, .second, iv p2, iv p3, iv bn, rv w_GRID, rv b2, rv b4, lv (own_mix (qs + (-7046029254386353131 : Int64))), .second, lv (own_mix ((qs + (-7046029254386353131 : Int64)) + (-7046029254386353131 : Int64))), .second, lv (own_mix (((qs + (-7046029254386353131 : Int64)) + (-7046029254386353131 : Int64)) + (-7046029254386353131 : Int64))), .second, lv (own_dr (own_mix (qs + (-7046029254386353131 : Int64)))), .second, lv (own_dr (own_mix ((qs + (-7046029254386353131 : Int64)) + (-7046029254386353131 : Int64)))), .second, lv rem, .second, lv (own_lf bn), .second, iv r_9, u_, u_] [(.ref b2)])) rfl (by rw [hml]; rfl) (Steps.refl _) (argsL := []) (rest := []) (lenOf pd__28_29J rfl) rfl (by show 2 * 0 + _ ≤ _; exact Nat.le_of_eq rfl) (hb hby at_128) (fun _ _ => ⟨rfl, (Eq.refl T9.heap), (by decide : 2 + 0 ≤ _), (by decide : 2 + 0 ≤ _)⟩)
          dsimp only [Pt.U, Pt.locs, Pt.cells, Pt.slots] at X10 l10 y10 z10 st10 hQ10
          subst l10 y10 z10
          obtain ⟨rfl, Nq10, K10, P10_E, P10_F⟩ := hQ10
          have N10 := Fr.app N9 Nq10
          have O := O.keep K10 (allS g_b2 all0)
          have K := K.trans K10 (allS (Or.inr sz_b2) all0)
          have E_b2 := E_b2.keep K10
          have E_3 := E_3.keep K10
          have E_b4 := E_b4.keep K10
          have E_5 := E_5.keep K10
          have E_6 := E_6.keep K10
          have E_7 := E_7.keep K10
          have E_8 := E_8.keep K10
          have F_8 := F_8.keep K10 (ninS (Ne.symm ne_b2_b4) nin0)
          have E_9 := E_9.keep K10
          have E_10 := P10_E
          have F_10 := P10_F
          refine Go.step (fun t k => st10.trans k) ?_
          show Go p e below _ (T10.setTop (mkF m 131 #[lv q0, .second, lv q1, .second, iv p2, iv p3, iv bn, rv w_GRID, rv b2, rv b4, lv (own_mix (qs + (-7046029254386353131 : Int64))), .second, lv (own_mix ((qs + (-7046029254386353131 : Int64)) + (-7046029254386353131 : Int64))), .second, lv (own_mix (((qs + (-7046029254386353131 : Int64)) + (-7046029254386353131 : Int64)) + (-7046029254386353131 : Int64))), .second, lv (own_dr (own_mix (qs + (-7046029254386353131 : Int64)))), .second, lv (own_dr (own_mix ((qs + (-7046029254386353131 : Int64)) + (-7046029254386353131 : Int64)))), .second, lv rem, .second, lv (own_lf bn), .second, iv r_9, u_, u_] [(.long (own_mix (qq_9 + (-7046029254386353131 : Int64))))]))
          refine Go.step (S' := T10.setTop (mkF m 202 #[lv q0, .second, lv q1, .second, iv p2, iv p3, iv bn, rv w_GRID, rv b2, rv b4, lv (own_mix (qs + (-7046029254386353131 : Int64))), .second, lv (own_mix ((qs + (-7046029254386353131 : Int64)) + (-7046029254386353131 : Int64))), .second, lv (own_mix (((qs + (-7046029254386353131 : Int64)) + (-7046029254386353131 : Int64)) + (-7046029254386353131 : Int64))), .second, lv (own_dr (own_mix (qs + (-7046029254386353131 : Int64)))), .second, lv (own_dr (own_mix ((qs + (-7046029254386353131 : Int64)) + (-7046029254386353131 : Int64)))), .second, lv rem, .second, lv (own_lf bn), .second, iv r_9, lv (own_mix (qq_9 + (-7046029254386353131 : Int64))), .second] [(.int (1 : Int32))])) (fun t k => ?_) ?_
          · show Steps p.tables e below (T10.setTop (mkF m 131 #[lv q0, .second, lv q1, .second, iv p2, iv p3, iv bn, rv w_GRID, rv b2, rv b4, lv (own_mix (qs + (-7046029254386353131 : Int64))), .second, lv (own_mix ((qs + (-7046029254386353131 : Int64)) + (-7046029254386353131 : Int64))), .second, lv (own_mix (((qs + (-7046029254386353131 : Int64)) + (-7046029254386353131 : Int64)) + (-7046029254386353131 : Int64))), .second, lv (own_dr (own_mix (qs + (-7046029254386353131 : Int64)))), .second, lv (own_dr (own_mix ((qs + (-7046029254386353131 : Int64)) + (-7046029254386353131 : Int64)))), .second, lv rem, .second, lv (own_lf bn), .second, iv r_9, u_, u_] [(.long (own_mix (qq_9 + (-7046029254386353131 : Int64))))])) _
            refine XS.lstore X10.here hx rfl (hb hby at_131) rfl (l' := #[lv q0, .second, lv q1, .second, iv p2, iv p3, iv bn, rv w_GRID, rv b2, rv b4, lv (own_mix (qs + (-7046029254386353131 : Int64))), .second, lv (own_mix ((qs + (-7046029254386353131 : Int64)) + (-7046029254386353131 : Int64))), .second, lv (own_mix (((qs + (-7046029254386353131 : Int64)) + (-7046029254386353131 : Int64)) + (-7046029254386353131 : Int64))), .second, lv (own_dr (own_mix (qs + (-7046029254386353131 : Int64)))), .second, lv (own_dr (own_mix ((qs + (-7046029254386353131 : Int64)) + (-7046029254386353131 : Int64)))), .second, lv rem, .second, lv (own_lf bn), .second, iv r_9, lv (own_mix (qq_9 + (-7046029254386353131 : Int64))), .second]) rfl ?_
            show Steps p.tables e below (T10.setTop (mkF m 133 #[lv q0, .second, lv q1, .second, iv p2, iv p3, iv bn, rv w_GRID, rv b2, rv b4, lv (own_mix (qs + (-7046029254386353131 : Int64))), .second, lv (own_mix ((qs + (-7046029254386353131 : Int64)) + (-7046029254386353131 : Int64))), .second, lv (own_mix (((qs + (-7046029254386353131 : Int64)) + (-7046029254386353131 : Int64)) + (-7046029254386353131 : Int64))), .second, lv (own_dr (own_mix (qs + (-7046029254386353131 : Int64)))), .second, lv (own_dr (own_mix ((qs + (-7046029254386353131 : Int64)) + (-7046029254386353131 : Int64)))), .second, lv rem, .second, lv (own_lf bn), .second, iv r_9, lv (own_mix (qq_9 + (-7046029254386353131 : Int64))), .second] [])) _
            refine XS.lload X10.here hx rfl (hb hby at_133) rfl ?_
            show Steps p.tables e below (T10.setTop (mkF m 135 #[lv q0, .second, lv q1, .second, iv p2, iv p3, iv bn, rv w_GRID, rv b2, rv b4, lv (own_mix (qs + (-7046029254386353131 : Int64))), .second, lv (own_mix ((qs + (-7046029254386353131 : Int64)) + (-7046029254386353131 : Int64))), .second, lv (own_mix (((qs + (-7046029254386353131 : Int64)) + (-7046029254386353131 : Int64)) + (-7046029254386353131 : Int64))), .second, lv (own_dr (own_mix (qs + (-7046029254386353131 : Int64)))), .second, lv (own_dr (own_mix ((qs + (-7046029254386353131 : Int64)) + (-7046029254386353131 : Int64)))), .second, lv rem, .second, lv (own_lf bn), .second, iv r_9, lv (own_mix (qq_9 + (-7046029254386353131 : Int64))), .second] [(.long (own_dr (own_mix (qs + (-7046029254386353131 : Int64)))))])) _
            refine XS.lload X10.here hx rfl (hb hby at_135) rfl ?_
            show Steps p.tables e below (T10.setTop (mkF m 137 #[lv q0, .second, lv q1, .second, iv p2, iv p3, iv bn, rv w_GRID, rv b2, rv b4, lv (own_mix (qs + (-7046029254386353131 : Int64))), .second, lv (own_mix ((qs + (-7046029254386353131 : Int64)) + (-7046029254386353131 : Int64))), .second, lv (own_mix (((qs + (-7046029254386353131 : Int64)) + (-7046029254386353131 : Int64)) + (-7046029254386353131 : Int64))), .second, lv (own_dr (own_mix (qs + (-7046029254386353131 : Int64)))), .second, lv (own_dr (own_mix ((qs + (-7046029254386353131 : Int64)) + (-7046029254386353131 : Int64)))), .second, lv rem, .second, lv (own_lf bn), .second, iv r_9, lv (own_mix (qq_9 + (-7046029254386353131 : Int64))), .second] [(.long (own_lf bn)), (.long (own_dr (own_mix (qs + (-7046029254386353131 : Int64)))))])) _
            refine XS.lcmp X10.here hx rfl (hb hby at_137) rfl ?_
            show Steps p.tables e below (T10.setTop (mkF m 138 #[lv q0, .second, lv q1, .second, iv p2, iv p3, iv bn, rv w_GRID, rv b2, rv b4, lv (own_mix (qs + (-7046029254386353131 : Int64))), .second, lv (own_mix ((qs + (-7046029254386353131 : Int64)) + (-7046029254386353131 : Int64))), .second, lv (own_mix (((qs + (-7046029254386353131 : Int64)) + (-7046029254386353131 : Int64)) + (-7046029254386353131 : Int64))), .second, lv (own_dr (own_mix (qs + (-7046029254386353131 : Int64)))), .second, lv (own_dr (own_mix ((qs + (-7046029254386353131 : Int64)) + (-7046029254386353131 : Int64)))), .second, lv rem, .second, lv (own_lf bn), .second, iv r_9, lv (own_mix (qq_9 + (-7046029254386353131 : Int64))), .second] [(.int (lcmpW (own_dr (own_mix (qs + (-7046029254386353131 : Int64)))) (own_lf bn)))])) _
            refine XS.ifYes X10.here hx rfl (pc0 := 138) (pc' := 167) rfl (hb hby at_138) rfl ((if0 _ _).trans (tlt ((lw_gt (own_dr (own_mix (qs + (-7046029254386353131 : Int64)))) (own_lf bn)).mpr hA)).2.2.1) (by decide) (by decide) ?_
            show Steps p.tables e below (T10.setTop (mkF m 167 #[lv q0, .second, lv q1, .second, iv p2, iv p3, iv bn, rv w_GRID, rv b2, rv b4, lv (own_mix (qs + (-7046029254386353131 : Int64))), .second, lv (own_mix ((qs + (-7046029254386353131 : Int64)) + (-7046029254386353131 : Int64))), .second, lv (own_mix (((qs + (-7046029254386353131 : Int64)) + (-7046029254386353131 : Int64)) + (-7046029254386353131 : Int64))), .second, lv (own_dr (own_mix (qs + (-7046029254386353131 : Int64)))), .second, lv (own_dr (own_mix ((qs + (-7046029254386353131 : Int64)) + (-7046029254386353131 : Int64)))), .second, lv rem, .second, lv (own_lf bn), .second, iv r_9, lv (own_mix (qq_9 + (-7046029254386353131 : Int64))), .second] [])) _
            refine XS.lload X10.here hx rfl (hb hby at_167) rfl ?_
            show Steps p.tables e below (T10.setTop (mkF m 169 #[lv q0, .second, lv q1, .second, iv p2, iv p3, iv bn, rv w_GRID, rv b2, rv b4, lv (own_mix (qs + (-7046029254386353131 : Int64))), .second, lv (own_mix ((qs + (-7046029254386353131 : Int64)) + (-7046029254386353131 : Int64))), .second, lv (own_mix (((qs + (-7046029254386353131 : Int64)) + (-7046029254386353131 : Int64)) + (-7046029254386353131 : Int64))), .second, lv (own_dr (own_mix (qs + (-7046029254386353131 : Int64)))), .second, lv (own_dr (own_mix ((qs + (-7046029254386353131 : Int64)) + (-7046029254386353131 : Int64)))), .second, lv rem, .second, lv (own_lf bn), .second, iv r_9, lv (own_mix (qq_9 + (-7046029254386353131 : Int64))), .second] [(.long (own_dr (own_mix ((qs + (-7046029254386353131 : Int64)) + (-7046029254386353131 : Int64)))))])) _
            refine XS.lload X10.here hx rfl (hb hby at_169) rfl ?_
            show Steps p.tables e below (T10.setTop (mkF m 171 #[lv q0, .second, lv q1, .second, iv p2, iv p3, iv bn, rv w_GRID, rv b2, rv b4, lv (own_mix (qs + (-7046029254386353131 : Int64))), .second, lv (own_mix ((qs + (-7046029254386353131 : Int64)) + (-7046029254386353131 : Int64))), .second, lv (own_mix (((qs + (-7046029254386353131 : Int64)) + (-7046029254386353131 : Int64)) + (-7046029254386353131 : Int64))), .second, lv (own_dr (own_mix (qs + (-7046029254386353131 : Int64)))), .second, lv (own_dr (own_mix ((qs + (-7046029254386353131 : Int64)) + (-7046029254386353131 : Int64)))), .second, lv rem, .second, lv (own_lf bn), .second, iv r_9, lv (own_mix (qq_9 + (-7046029254386353131 : Int64))), .second] [(.long (own_lf bn)), (.long (own_dr (own_mix ((qs + (-7046029254386353131 : Int64)) + (-7046029254386353131 : Int64)))))])) _
            refine XS.lcmp X10.here hx rfl (hb hby at_171) rfl ?_
            show Steps p.tables e below (T10.setTop (mkF m 172 #[lv q0, .second, lv q1, .second, iv p2, iv p3, iv bn, rv w_GRID, rv b2, rv b4, lv (own_mix (qs + (-7046029254386353131 : Int64))), .second, lv (own_mix ((qs + (-7046029254386353131 : Int64)) + (-7046029254386353131 : Int64))), .second, lv (own_mix (((qs + (-7046029254386353131 : Int64)) + (-7046029254386353131 : Int64)) + (-7046029254386353131 : Int64))), .second, lv (own_dr (own_mix (qs + (-7046029254386353131 : Int64)))), .second, lv (own_dr (own_mix ((qs + (-7046029254386353131 : Int64)) + (-7046029254386353131 : Int64)))), .second, lv rem, .second, lv (own_lf bn), .second, iv r_9, lv (own_mix (qq_9 + (-7046029254386353131 : Int64))), .second] [(.int (lcmpW (own_dr (own_mix ((qs + (-7046029254386353131 : Int64)) + (-7046029254386353131 : Int64)))) (own_lf bn)))])) _
            refine XS.ifYes X10.here hx rfl (pc0 := 172) (pc' := 201) rfl (hb hby at_172) rfl ((if0 _ _).trans (tlt ((lw_gt (own_dr (own_mix ((qs + (-7046029254386353131 : Int64)) + (-7046029254386353131 : Int64)))) (own_lf bn)).mpr hC)).2.2.1) (by decide) (by decide) ?_
            show Steps p.tables e below (T10.setTop (mkF m 201 #[lv q0, .second, lv q1, .second, iv p2, iv p3, iv bn, rv w_GRID, rv b2, rv b4, lv (own_mix (qs + (-7046029254386353131 : Int64))), .second, lv (own_mix ((qs + (-7046029254386353131 : Int64)) + (-7046029254386353131 : Int64))), .second, lv (own_mix (((qs + (-7046029254386353131 : Int64)) + (-7046029254386353131 : Int64)) + (-7046029254386353131 : Int64))), .second, lv (own_dr (own_mix (qs + (-7046029254386353131 : Int64)))), .second, lv (own_dr (own_mix ((qs + (-7046029254386353131 : Int64)) + (-7046029254386353131 : Int64)))), .second, lv rem, .second, lv (own_lf bn), .second, iv r_9, lv (own_mix (qq_9 + (-7046029254386353131 : Int64))), .second] [])) _
            refine XS.iconst X10.here hx rfl (hb hby at_201) ?_
            exact k
          obtain ⟨fs, hr, hrun, hended, hW, hsame⟩ := X10.leave (v := some (.int (1 : Int32))) (fun h => by rw [Bd.returns] at h; cases h)
          refine Go.fin (S' := T10.setFrames fs) ?_ hrun hended ⟨_, _, rfl, ?_, ⟨_, rfl⟩, hW, hsame.mono (by decide) (by decide)⟩
          · exact retOut X10 hx Bd.returns (by decide) (Or.inl ⟨rfl, Or.inr (Or.inl rfl), _, rfl⟩) (hb hby at_202) hr
          · show Q_rm0 Z q0 q1 p2 p3 w_GRID w_REMOVAL h0 n0 (some (.int (1 : Int32))) T10.heap _
            exact ⟨rfl, N10, K⟩
        · skip
          obtain ⟨cq11, kq11, q11a, q11b, q11c⟩ := isOf hZ (Eq.refl T8.heap) E_b2
          obtain ⟨_, _, ⟨T11, L11, k11, n11⟩, -, X11, ⟨Lc11, hQ11, l11, y11, z11⟩, st11⟩ := X8.virtualBack hx (y := (⟨"org/ninefold/service/SeededRandom", "nextInt", "(I)I"⟩ : MethodName)) (z := (⟨"org/ninefold/service/SeededRandom", "nextInt", "(I)I"⟩ : MethodName)) hown (mvT hZ (own_w hw 31 rfl)) (mvT hZ (own_w hw 32 rfl)) (notFace_of_selects (args := #[]) (mvT hZ (own_w hw 34 rfl))) (mvT hZ (own_w hw 34 rfl)) (mvT hZ (own_w hw 33 rfl)) (by decide) (backOf (W := 0) (rmNI2 l Z a0 hw [] b2 bn qs T8.heap n0 O E_b2 F_3 (by assumption) hpos hA hC) hZ (own_w hw 35 rfl) (own_w hw 6 rfl) (by decide) (by decide)) q11a q11c (g := (mkF m 121 #[lv q0, .second, lv q1, .second, iv p2, iv p3, iv bn, rv w_GRID, rv b2, rv b4, lv (own_mix (qs + (-7046029254386353131 : Int64))), .second, lv (own_mix ((qs + (-7046029254386353131 : Int64)) + (-7046029254386353131 : Int64))), .second, lv (own_mix (((qs + (-7046029254386353131 : Int64)) + (-7046029254386353131 : Int64)) + (-7046029254386353131 : Int64))), .second, lv (own_dr (own_mix (qs + (-7046029254386353131 : Int64)))), .second, lv (own_dr (own_mix ((qs + (-7046029254386353131 : Int64)) + (-7046029254386353131 : Int64)))), .second, lv rem, .second, lv (own_lf bn), .second, u_, u_, u_] [(.int bn), (.ref b2)])) rfl (by rw [hml]; rfl) (Steps.refl _) (argsL := [(.int bn)]) (rest := []) (lenOf pd__28I_29I rfl) rfl (by show 2 * 0 + _ ≤ _; exact Nat.le_of_eq rfl) (hb hby at_121) (fun _ _ => ⟨rfl, (Eq.refl T8.heap), (by decide : 2 + 0 ≤ _), (by decide : 2 + 0 ≤ _)⟩)
          dsimp only [Pt.U, Pt.locs, Pt.cells, Pt.slots] at X11 l11 y11 z11 st11 hQ11
          subst l11 y11 z11
          obtain ⟨rfl, Nq11, K11, P11_E, P11_F⟩ := hQ11
          have N11 := Fr.app N8 Nq11
          have O := O.keep K11 (allS g_b2 all0)
          have K := K.trans K11 (allS (Or.inr sz_b2) all0)
          have E_b2 := E_b2.keep K11
          have E_3 := E_3.keep K11
          have E_b4 := E_b4.keep K11
          have E_5 := E_5.keep K11
          have E_6 := E_6.keep K11
          have E_7 := E_7.keep K11
          have E_8 := E_8.keep K11
          have F_8 := F_8.keep K11 (ninS (Ne.symm ne_b2_b4) nin0)
          have E_11 := P11_E
          have F_11 := P11_F
          refine Go.step (fun t k => st11.trans k) ?_
          show Go p e below _ (T11.setTop (mkF m 124 #[lv q0, .second, lv q1, .second, iv p2, iv p3, iv bn, rv w_GRID, rv b2, rv b4, lv (own_mix (qs + (-7046029254386353131 : Int64))), .second, lv (own_mix ((qs + (-7046029254386353131 : Int64)) + (-7046029254386353131 : Int64))), .second, lv (own_mix (((qs + (-7046029254386353131 : Int64)) + (-7046029254386353131 : Int64)) + (-7046029254386353131 : Int64))), .second, lv (own_dr (own_mix (qs + (-7046029254386353131 : Int64)))), .second, lv (own_dr (own_mix ((qs + (-7046029254386353131 : Int64)) + (-7046029254386353131 : Int64)))), .second, lv rem, .second, lv (own_lf bn), .second, u_, u_, u_] [(.int (((own_dr (own_mix ((qs + (-7046029254386353131 : Int64)) + (-7046029254386353131 : Int64)))) - ((own_dr (own_mix ((qs + (-7046029254386353131 : Int64)) + (-7046029254386353131 : Int64)))) / (bn.toInt64)) * (bn.toInt64)).toInt32))]))
          refine Go.step (S' := T11.setTop (mkF m 128 #[lv q0, .second, lv q1, .second, iv p2, iv p3, iv bn, rv w_GRID, rv b2, rv b4, lv (own_mix (qs + (-7046029254386353131 : Int64))), .second, lv (own_mix ((qs + (-7046029254386353131 : Int64)) + (-7046029254386353131 : Int64))), .second, lv (own_mix (((qs + (-7046029254386353131 : Int64)) + (-7046029254386353131 : Int64)) + (-7046029254386353131 : Int64))), .second, lv (own_dr (own_mix (qs + (-7046029254386353131 : Int64)))), .second, lv (own_dr (own_mix ((qs + (-7046029254386353131 : Int64)) + (-7046029254386353131 : Int64)))), .second, lv rem, .second, lv (own_lf bn), .second, iv (((own_dr (own_mix ((qs + (-7046029254386353131 : Int64)) + (-7046029254386353131 : Int64)))) - ((own_dr (own_mix ((qs + (-7046029254386353131 : Int64)) + (-7046029254386353131 : Int64)))) / (bn.toInt64)) * (bn.toInt64)).toInt32), u_, u_] [(.ref b2)])) (fun t k => ?_) ?_
          · show Steps p.tables e below (T11.setTop (mkF m 124 #[lv q0, .second, lv q1, .second, iv p2, iv p3, iv bn, rv w_GRID, rv b2, rv b4, lv (own_mix (qs + (-7046029254386353131 : Int64))), .second, lv (own_mix ((qs + (-7046029254386353131 : Int64)) + (-7046029254386353131 : Int64))), .second, lv (own_mix (((qs + (-7046029254386353131 : Int64)) + (-7046029254386353131 : Int64)) + (-7046029254386353131 : Int64))), .second, lv (own_dr (own_mix (qs + (-7046029254386353131 : Int64)))), .second, lv (own_dr (own_mix ((qs + (-7046029254386353131 : Int64)) + (-7046029254386353131 : Int64)))), .second, lv rem, .second, lv (own_lf bn), .second, u_, u_, u_] [(.int (((own_dr (own_mix ((qs + (-7046029254386353131 : Int64)) + (-7046029254386353131 : Int64)))) - ((own_dr (own_mix ((qs + (-7046029254386353131 : Int64)) + (-7046029254386353131 : Int64)))) / (bn.toInt64)) * (bn.toInt64)).toInt32))])) _
            refine XS.istore X11.here hx rfl (hb hby at_124) rfl (l' := #[lv q0, .second, lv q1, .second, iv p2, iv p3, iv bn, rv w_GRID, rv b2, rv b4, lv (own_mix (qs + (-7046029254386353131 : Int64))), .second, lv (own_mix ((qs + (-7046029254386353131 : Int64)) + (-7046029254386353131 : Int64))), .second, lv (own_mix (((qs + (-7046029254386353131 : Int64)) + (-7046029254386353131 : Int64)) + (-7046029254386353131 : Int64))), .second, lv (own_dr (own_mix (qs + (-7046029254386353131 : Int64)))), .second, lv (own_dr (own_mix ((qs + (-7046029254386353131 : Int64)) + (-7046029254386353131 : Int64)))), .second, lv rem, .second, lv (own_lf bn), .second, iv (((own_dr (own_mix ((qs + (-7046029254386353131 : Int64)) + (-7046029254386353131 : Int64)))) - ((own_dr (own_mix ((qs + (-7046029254386353131 : Int64)) + (-7046029254386353131 : Int64)))) / (bn.toInt64)) * (bn.toInt64)).toInt32), u_, u_]) rfl ?_
            show Steps p.tables e below (T11.setTop (mkF m 126 #[lv q0, .second, lv q1, .second, iv p2, iv p3, iv bn, rv w_GRID, rv b2, rv b4, lv (own_mix (qs + (-7046029254386353131 : Int64))), .second, lv (own_mix ((qs + (-7046029254386353131 : Int64)) + (-7046029254386353131 : Int64))), .second, lv (own_mix (((qs + (-7046029254386353131 : Int64)) + (-7046029254386353131 : Int64)) + (-7046029254386353131 : Int64))), .second, lv (own_dr (own_mix (qs + (-7046029254386353131 : Int64)))), .second, lv (own_dr (own_mix ((qs + (-7046029254386353131 : Int64)) + (-7046029254386353131 : Int64)))), .second, lv rem, .second, lv (own_lf bn), .second, iv (((own_dr (own_mix ((qs + (-7046029254386353131 : Int64)) + (-7046029254386353131 : Int64)))) - ((own_dr (own_mix ((qs + (-7046029254386353131 : Int64)) + (-7046029254386353131 : Int64)))) / (bn.toInt64)) * (bn.toInt64)).toInt32), u_, u_] [])) _
            refine XS.aload X11.here hx rfl (hb hby at_126) rfl rfl ?_
            exact k
          obtain ⟨cq12, kq12, q12a, q12b, q12c⟩ := isOf hZ (Eq.refl T11.heap) E_b2
          obtain ⟨_, _, ⟨T12, L12, k12, n12⟩, -, X12, ⟨Lc12, hQ12, l12, y12, z12⟩, st12⟩ := X11.virtualBack hx (y := (⟨"org/ninefold/service/SeededRandom", "nextLong", "()J"⟩ : MethodName)) (z := (⟨"org/ninefold/service/SeededRandom", "nextLong", "()J"⟩ : MethodName)) hown (mvT hZ (own_w hw 23 rfl)) (mvT hZ (own_w hw 24 rfl)) (notFace_of_selects (args := #[]) (mvT hZ (own_w hw 26 rfl))) (mvT hZ (own_w hw 26 rfl)) (mvT hZ (own_w hw 25 rfl)) (by decide) (backOf (W := 0) (rmNL l Z a0 hw [] b2 ((qs + (-7046029254386353131 : Int64)) + (-7046029254386353131 : Int64)) T11.heap n0 O E_b2 F_11 (by assumption)) hZ (own_w hw 27 rfl) (own_w hw 6 rfl) (by decide) (by decide)) q12a q12c (g := (mkF m 128 #[lv q0, .second, lv q1, .second, iv p2, iv p3, iv bn, rv w_GRID, rv b2, rv b4, lv (own_mix (qs + (-7046029254386353131 : Int64))), .second, lv (own_mix ((qs + (-7046029254386353131 : Int64)) + (-7046029254386353131 : Int64))), .second, lv (own_mix (((qs + (-7046029254386353131 : Int64)) + (-7046029254386353131 : Int64)) + (-7046029254386353131 : Int64))), .second, lv (own_dr (own_mix (qs + (-7046029254386353131 : Int64)))), .second, lv (own_dr (own_mix ((qs + (-7046029254386353131 : Int64)) + (-7046029254386353131 : Int64)))), .second, lv rem, .second, lv (own_lf bn), .second, iv (((own_dr (own_mix ((qs + (-7046029254386353131 : Int64)) + (-7046029254386353131 : Int64)))) - ((own_dr (own_mix ((qs + (-7046029254386353131 : Int64)) + (-7046029254386353131 : Int64)))) / (bn.toInt64)) * (bn.toInt64)).toInt32), u_, u_] [(.ref b2)])) rfl (by rw [hml]; rfl) (Steps.refl _) (argsL := []) (rest := []) (lenOf pd__28_29J rfl) rfl (by show 2 * 0 + _ ≤ _; exact Nat.le_of_eq rfl) (hb hby at_128) (fun _ _ => ⟨rfl, (Eq.refl T11.heap), (by decide : 2 + 0 ≤ _), (by decide : 2 + 0 ≤ _)⟩)
          dsimp only [Pt.U, Pt.locs, Pt.cells, Pt.slots] at X12 l12 y12 z12 st12 hQ12
          subst l12 y12 z12
          obtain ⟨rfl, Nq12, K12, P12_E, P12_F⟩ := hQ12
          have N12 := Fr.app N11 Nq12
          have O := O.keep K12 (allS g_b2 all0)
          have K := K.trans K12 (allS (Or.inr sz_b2) all0)
          have E_b2 := E_b2.keep K12
          have E_3 := E_3.keep K12
          have E_b4 := E_b4.keep K12
          have E_5 := E_5.keep K12
          have E_6 := E_6.keep K12
          have E_7 := E_7.keep K12
          have E_8 := E_8.keep K12
          have F_8 := F_8.keep K12 (ninS (Ne.symm ne_b2_b4) nin0)
          have E_11 := E_11.keep K12
          have E_12 := P12_E
          have F_12 := P12_F
          refine Go.step (fun t k => st12.trans k) ?_
          show Go p e below _ (T12.setTop (mkF m 131 #[lv q0, .second, lv q1, .second, iv p2, iv p3, iv bn, rv w_GRID, rv b2, rv b4, lv (own_mix (qs + (-7046029254386353131 : Int64))), .second, lv (own_mix ((qs + (-7046029254386353131 : Int64)) + (-7046029254386353131 : Int64))), .second, lv (own_mix (((qs + (-7046029254386353131 : Int64)) + (-7046029254386353131 : Int64)) + (-7046029254386353131 : Int64))), .second, lv (own_dr (own_mix (qs + (-7046029254386353131 : Int64)))), .second, lv (own_dr (own_mix ((qs + (-7046029254386353131 : Int64)) + (-7046029254386353131 : Int64)))), .second, lv rem, .second, lv (own_lf bn), .second, iv (((own_dr (own_mix ((qs + (-7046029254386353131 : Int64)) + (-7046029254386353131 : Int64)))) - ((own_dr (own_mix ((qs + (-7046029254386353131 : Int64)) + (-7046029254386353131 : Int64)))) / (bn.toInt64)) * (bn.toInt64)).toInt32), u_, u_] [(.long (own_mix (((qs + (-7046029254386353131 : Int64)) + (-7046029254386353131 : Int64)) + (-7046029254386353131 : Int64))))]))
          refine Go.step (S' := T12.setTop (mkF m 200 #[lv q0, .second, lv q1, .second, iv p2, iv p3, iv bn, rv w_GRID, rv b2, rv b4, lv (own_mix (qs + (-7046029254386353131 : Int64))), .second, lv (own_mix ((qs + (-7046029254386353131 : Int64)) + (-7046029254386353131 : Int64))), .second, lv (own_mix (((qs + (-7046029254386353131 : Int64)) + (-7046029254386353131 : Int64)) + (-7046029254386353131 : Int64))), .second, lv (own_dr (own_mix (qs + (-7046029254386353131 : Int64)))), .second, lv (own_dr (own_mix ((qs + (-7046029254386353131 : Int64)) + (-7046029254386353131 : Int64)))), .second, lv rem, .second, lv (own_lf bn), .second, iv (((own_dr (own_mix ((qs + (-7046029254386353131 : Int64)) + (-7046029254386353131 : Int64)))) - ((own_dr (own_mix ((qs + (-7046029254386353131 : Int64)) + (-7046029254386353131 : Int64)))) / (bn.toInt64)) * (bn.toInt64)).toInt32), lv (own_mix (((qs + (-7046029254386353131 : Int64)) + (-7046029254386353131 : Int64)) + (-7046029254386353131 : Int64))), .second] [(.int (1 : Int32))])) (fun t k => ?_) ?_
          · show Steps p.tables e below (T12.setTop (mkF m 131 #[lv q0, .second, lv q1, .second, iv p2, iv p3, iv bn, rv w_GRID, rv b2, rv b4, lv (own_mix (qs + (-7046029254386353131 : Int64))), .second, lv (own_mix ((qs + (-7046029254386353131 : Int64)) + (-7046029254386353131 : Int64))), .second, lv (own_mix (((qs + (-7046029254386353131 : Int64)) + (-7046029254386353131 : Int64)) + (-7046029254386353131 : Int64))), .second, lv (own_dr (own_mix (qs + (-7046029254386353131 : Int64)))), .second, lv (own_dr (own_mix ((qs + (-7046029254386353131 : Int64)) + (-7046029254386353131 : Int64)))), .second, lv rem, .second, lv (own_lf bn), .second, iv (((own_dr (own_mix ((qs + (-7046029254386353131 : Int64)) + (-7046029254386353131 : Int64)))) - ((own_dr (own_mix ((qs + (-7046029254386353131 : Int64)) + (-7046029254386353131 : Int64)))) / (bn.toInt64)) * (bn.toInt64)).toInt32), u_, u_] [(.long (own_mix (((qs + (-7046029254386353131 : Int64)) + (-7046029254386353131 : Int64)) + (-7046029254386353131 : Int64))))])) _
            refine XS.lstore X12.here hx rfl (hb hby at_131) rfl (l' := #[lv q0, .second, lv q1, .second, iv p2, iv p3, iv bn, rv w_GRID, rv b2, rv b4, lv (own_mix (qs + (-7046029254386353131 : Int64))), .second, lv (own_mix ((qs + (-7046029254386353131 : Int64)) + (-7046029254386353131 : Int64))), .second, lv (own_mix (((qs + (-7046029254386353131 : Int64)) + (-7046029254386353131 : Int64)) + (-7046029254386353131 : Int64))), .second, lv (own_dr (own_mix (qs + (-7046029254386353131 : Int64)))), .second, lv (own_dr (own_mix ((qs + (-7046029254386353131 : Int64)) + (-7046029254386353131 : Int64)))), .second, lv rem, .second, lv (own_lf bn), .second, iv (((own_dr (own_mix ((qs + (-7046029254386353131 : Int64)) + (-7046029254386353131 : Int64)))) - ((own_dr (own_mix ((qs + (-7046029254386353131 : Int64)) + (-7046029254386353131 : Int64)))) / (bn.toInt64)) * (bn.toInt64)).toInt32), lv (own_mix (((qs + (-7046029254386353131 : Int64)) + (-7046029254386353131 : Int64)) + (-7046029254386353131 : Int64))), .second]) rfl ?_
            show Steps p.tables e below (T12.setTop (mkF m 133 #[lv q0, .second, lv q1, .second, iv p2, iv p3, iv bn, rv w_GRID, rv b2, rv b4, lv (own_mix (qs + (-7046029254386353131 : Int64))), .second, lv (own_mix ((qs + (-7046029254386353131 : Int64)) + (-7046029254386353131 : Int64))), .second, lv (own_mix (((qs + (-7046029254386353131 : Int64)) + (-7046029254386353131 : Int64)) + (-7046029254386353131 : Int64))), .second, lv (own_dr (own_mix (qs + (-7046029254386353131 : Int64)))), .second, lv (own_dr (own_mix ((qs + (-7046029254386353131 : Int64)) + (-7046029254386353131 : Int64)))), .second, lv rem, .second, lv (own_lf bn), .second, iv (((own_dr (own_mix ((qs + (-7046029254386353131 : Int64)) + (-7046029254386353131 : Int64)))) - ((own_dr (own_mix ((qs + (-7046029254386353131 : Int64)) + (-7046029254386353131 : Int64)))) / (bn.toInt64)) * (bn.toInt64)).toInt32), lv (own_mix (((qs + (-7046029254386353131 : Int64)) + (-7046029254386353131 : Int64)) + (-7046029254386353131 : Int64))), .second] [])) _
            refine XS.lload X12.here hx rfl (hb hby at_133) rfl ?_
            show Steps p.tables e below (T12.setTop (mkF m 135 #[lv q0, .second, lv q1, .second, iv p2, iv p3, iv bn, rv w_GRID, rv b2, rv b4, lv (own_mix (qs + (-7046029254386353131 : Int64))), .second, lv (own_mix ((qs + (-7046029254386353131 : Int64)) + (-7046029254386353131 : Int64))), .second, lv (own_mix (((qs + (-7046029254386353131 : Int64)) + (-7046029254386353131 : Int64)) + (-7046029254386353131 : Int64))), .second, lv (own_dr (own_mix (qs + (-7046029254386353131 : Int64)))), .second, lv (own_dr (own_mix ((qs + (-7046029254386353131 : Int64)) + (-7046029254386353131 : Int64)))), .second, lv rem, .second, lv (own_lf bn), .second, iv (((own_dr (own_mix ((qs + (-7046029254386353131 : Int64)) + (-7046029254386353131 : Int64)))) - ((own_dr (own_mix ((qs + (-7046029254386353131 : Int64)) + (-7046029254386353131 : Int64)))) / (bn.toInt64)) * (bn.toInt64)).toInt32), lv (own_mix (((qs + (-7046029254386353131 : Int64)) + (-7046029254386353131 : Int64)) + (-7046029254386353131 : Int64))), .second] [(.long (own_dr (own_mix (qs + (-7046029254386353131 : Int64)))))])) _
            refine XS.lload X12.here hx rfl (hb hby at_135) rfl ?_
            show Steps p.tables e below (T12.setTop (mkF m 137 #[lv q0, .second, lv q1, .second, iv p2, iv p3, iv bn, rv w_GRID, rv b2, rv b4, lv (own_mix (qs + (-7046029254386353131 : Int64))), .second, lv (own_mix ((qs + (-7046029254386353131 : Int64)) + (-7046029254386353131 : Int64))), .second, lv (own_mix (((qs + (-7046029254386353131 : Int64)) + (-7046029254386353131 : Int64)) + (-7046029254386353131 : Int64))), .second, lv (own_dr (own_mix (qs + (-7046029254386353131 : Int64)))), .second, lv (own_dr (own_mix ((qs + (-7046029254386353131 : Int64)) + (-7046029254386353131 : Int64)))), .second, lv rem, .second, lv (own_lf bn), .second, iv (((own_dr (own_mix ((qs + (-7046029254386353131 : Int64)) + (-7046029254386353131 : Int64)))) - ((own_dr (own_mix ((qs + (-7046029254386353131 : Int64)) + (-7046029254386353131 : Int64)))) / (bn.toInt64)) * (bn.toInt64)).toInt32), lv (own_mix (((qs + (-7046029254386353131 : Int64)) + (-7046029254386353131 : Int64)) + (-7046029254386353131 : Int64))), .second] [(.long (own_lf bn)), (.long (own_dr (own_mix (qs + (-7046029254386353131 : Int64)))))])) _
            refine XS.lcmp X12.here hx rfl (hb hby at_137) rfl ?_
            show Steps p.tables e below (T12.setTop (mkF m 138 #[lv q0, .second, lv q1, .second, iv p2, iv p3, iv bn, rv w_GRID, rv b2, rv b4, lv (own_mix (qs + (-7046029254386353131 : Int64))), .second, lv (own_mix ((qs + (-7046029254386353131 : Int64)) + (-7046029254386353131 : Int64))), .second, lv (own_mix (((qs + (-7046029254386353131 : Int64)) + (-7046029254386353131 : Int64)) + (-7046029254386353131 : Int64))), .second, lv (own_dr (own_mix (qs + (-7046029254386353131 : Int64)))), .second, lv (own_dr (own_mix ((qs + (-7046029254386353131 : Int64)) + (-7046029254386353131 : Int64)))), .second, lv rem, .second, lv (own_lf bn), .second, iv (((own_dr (own_mix ((qs + (-7046029254386353131 : Int64)) + (-7046029254386353131 : Int64)))) - ((own_dr (own_mix ((qs + (-7046029254386353131 : Int64)) + (-7046029254386353131 : Int64)))) / (bn.toInt64)) * (bn.toInt64)).toInt32), lv (own_mix (((qs + (-7046029254386353131 : Int64)) + (-7046029254386353131 : Int64)) + (-7046029254386353131 : Int64))), .second] [(.int (lcmpW (own_dr (own_mix (qs + (-7046029254386353131 : Int64)))) (own_lf bn)))])) _
            refine XS.ifYes X12.here hx rfl (pc0 := 138) (pc' := 167) rfl (hb hby at_138) rfl ((if0 _ _).trans (tlt ((lw_gt (own_dr (own_mix (qs + (-7046029254386353131 : Int64)))) (own_lf bn)).mpr hA)).2.2.1) (by decide) (by decide) ?_
            show Steps p.tables e below (T12.setTop (mkF m 167 #[lv q0, .second, lv q1, .second, iv p2, iv p3, iv bn, rv w_GRID, rv b2, rv b4, lv (own_mix (qs + (-7046029254386353131 : Int64))), .second, lv (own_mix ((qs + (-7046029254386353131 : Int64)) + (-7046029254386353131 : Int64))), .second, lv (own_mix (((qs + (-7046029254386353131 : Int64)) + (-7046029254386353131 : Int64)) + (-7046029254386353131 : Int64))), .second, lv (own_dr (own_mix (qs + (-7046029254386353131 : Int64)))), .second, lv (own_dr (own_mix ((qs + (-7046029254386353131 : Int64)) + (-7046029254386353131 : Int64)))), .second, lv rem, .second, lv (own_lf bn), .second, iv (((own_dr (own_mix ((qs + (-7046029254386353131 : Int64)) + (-7046029254386353131 : Int64)))) - ((own_dr (own_mix ((qs + (-7046029254386353131 : Int64)) + (-7046029254386353131 : Int64)))) / (bn.toInt64)) * (bn.toInt64)).toInt32), lv (own_mix (((qs + (-7046029254386353131 : Int64)) + (-7046029254386353131 : Int64)) + (-7046029254386353131 : Int64))), .second] [])) _
            refine XS.lload X12.here hx rfl (hb hby at_167) rfl ?_
            show Steps p.tables e below (T12.setTop (mkF m 169 #[lv q0, .second, lv q1, .second, iv p2, iv p3, iv bn, rv w_GRID, rv b2, rv b4, lv (own_mix (qs + (-7046029254386353131 : Int64))), .second, lv (own_mix ((qs + (-7046029254386353131 : Int64)) + (-7046029254386353131 : Int64))), .second, lv (own_mix (((qs + (-7046029254386353131 : Int64)) + (-7046029254386353131 : Int64)) + (-7046029254386353131 : Int64))), .second, lv (own_dr (own_mix (qs + (-7046029254386353131 : Int64)))), .second, lv (own_dr (own_mix ((qs + (-7046029254386353131 : Int64)) + (-7046029254386353131 : Int64)))), .second, lv rem, .second, lv (own_lf bn), .second, iv (((own_dr (own_mix ((qs + (-7046029254386353131 : Int64)) + (-7046029254386353131 : Int64)))) - ((own_dr (own_mix ((qs + (-7046029254386353131 : Int64)) + (-7046029254386353131 : Int64)))) / (bn.toInt64)) * (bn.toInt64)).toInt32), lv (own_mix (((qs + (-7046029254386353131 : Int64)) + (-7046029254386353131 : Int64)) + (-7046029254386353131 : Int64))), .second] [(.long (own_dr (own_mix ((qs + (-7046029254386353131 : Int64)) + (-7046029254386353131 : Int64)))))])) _
            refine XS.lload X12.here hx rfl (hb hby at_169) rfl ?_
            show Steps p.tables e below (T12.setTop (mkF m 171 #[lv q0, .second, lv q1, .second, iv p2, iv p3, iv bn, rv w_GRID, rv b2, rv b4, lv (own_mix (qs + (-7046029254386353131 : Int64))), .second, lv (own_mix ((qs + (-7046029254386353131 : Int64)) + (-7046029254386353131 : Int64))), .second, lv (own_mix (((qs + (-7046029254386353131 : Int64)) + (-7046029254386353131 : Int64)) + (-7046029254386353131 : Int64))), .second, lv (own_dr (own_mix (qs + (-7046029254386353131 : Int64)))), .second, lv (own_dr (own_mix ((qs + (-7046029254386353131 : Int64)) + (-7046029254386353131 : Int64)))), .second, lv rem, .second, lv (own_lf bn), .second, iv (((own_dr (own_mix ((qs + (-7046029254386353131 : Int64)) + (-7046029254386353131 : Int64)))) - ((own_dr (own_mix ((qs + (-7046029254386353131 : Int64)) + (-7046029254386353131 : Int64)))) / (bn.toInt64)) * (bn.toInt64)).toInt32), lv (own_mix (((qs + (-7046029254386353131 : Int64)) + (-7046029254386353131 : Int64)) + (-7046029254386353131 : Int64))), .second] [(.long (own_lf bn)), (.long (own_dr (own_mix ((qs + (-7046029254386353131 : Int64)) + (-7046029254386353131 : Int64)))))])) _
            refine XS.lcmp X12.here hx rfl (hb hby at_171) rfl ?_
            show Steps p.tables e below (T12.setTop (mkF m 172 #[lv q0, .second, lv q1, .second, iv p2, iv p3, iv bn, rv w_GRID, rv b2, rv b4, lv (own_mix (qs + (-7046029254386353131 : Int64))), .second, lv (own_mix ((qs + (-7046029254386353131 : Int64)) + (-7046029254386353131 : Int64))), .second, lv (own_mix (((qs + (-7046029254386353131 : Int64)) + (-7046029254386353131 : Int64)) + (-7046029254386353131 : Int64))), .second, lv (own_dr (own_mix (qs + (-7046029254386353131 : Int64)))), .second, lv (own_dr (own_mix ((qs + (-7046029254386353131 : Int64)) + (-7046029254386353131 : Int64)))), .second, lv rem, .second, lv (own_lf bn), .second, iv (((own_dr (own_mix ((qs + (-7046029254386353131 : Int64)) + (-7046029254386353131 : Int64)))) - ((own_dr (own_mix ((qs + (-7046029254386353131 : Int64)) + (-7046029254386353131 : Int64)))) / (bn.toInt64)) * (bn.toInt64)).toInt32), lv (own_mix (((qs + (-7046029254386353131 : Int64)) + (-7046029254386353131 : Int64)) + (-7046029254386353131 : Int64))), .second] [(.int (lcmpW (own_dr (own_mix ((qs + (-7046029254386353131 : Int64)) + (-7046029254386353131 : Int64)))) (own_lf bn)))])) _
            refine XS.ifNo X12.here hx rfl (hb hby at_172) rfl ((if0 _ _).trans (flt (fun zq => absurd ((lw_gt (own_dr (own_mix ((qs + (-7046029254386353131 : Int64)) + (-7046029254386353131 : Int64)))) (own_lf bn)).mp zq) hC)).2.2.1) ?_
            show Steps p.tables e below (T12.setTop (mkF m 175 #[lv q0, .second, lv q1, .second, iv p2, iv p3, iv bn, rv w_GRID, rv b2, rv b4, lv (own_mix (qs + (-7046029254386353131 : Int64))), .second, lv (own_mix ((qs + (-7046029254386353131 : Int64)) + (-7046029254386353131 : Int64))), .second, lv (own_mix (((qs + (-7046029254386353131 : Int64)) + (-7046029254386353131 : Int64)) + (-7046029254386353131 : Int64))), .second, lv (own_dr (own_mix (qs + (-7046029254386353131 : Int64)))), .second, lv (own_dr (own_mix ((qs + (-7046029254386353131 : Int64)) + (-7046029254386353131 : Int64)))), .second, lv rem, .second, lv (own_lf bn), .second, iv (((own_dr (own_mix ((qs + (-7046029254386353131 : Int64)) + (-7046029254386353131 : Int64)))) - ((own_dr (own_mix ((qs + (-7046029254386353131 : Int64)) + (-7046029254386353131 : Int64)))) / (bn.toInt64)) * (bn.toInt64)).toInt32), lv (own_mix (((qs + (-7046029254386353131 : Int64)) + (-7046029254386353131 : Int64)) + (-7046029254386353131 : Int64))), .second] [])) _
            refine XS.iload X12.here hx rfl (hb hby at_175) rfl ?_
            show Steps p.tables e below (T12.setTop (mkF m 177 #[lv q0, .second, lv q1, .second, iv p2, iv p3, iv bn, rv w_GRID, rv b2, rv b4, lv (own_mix (qs + (-7046029254386353131 : Int64))), .second, lv (own_mix ((qs + (-7046029254386353131 : Int64)) + (-7046029254386353131 : Int64))), .second, lv (own_mix (((qs + (-7046029254386353131 : Int64)) + (-7046029254386353131 : Int64)) + (-7046029254386353131 : Int64))), .second, lv (own_dr (own_mix (qs + (-7046029254386353131 : Int64)))), .second, lv (own_dr (own_mix ((qs + (-7046029254386353131 : Int64)) + (-7046029254386353131 : Int64)))), .second, lv rem, .second, lv (own_lf bn), .second, iv (((own_dr (own_mix ((qs + (-7046029254386353131 : Int64)) + (-7046029254386353131 : Int64)))) - ((own_dr (own_mix ((qs + (-7046029254386353131 : Int64)) + (-7046029254386353131 : Int64)))) / (bn.toInt64)) * (bn.toInt64)).toInt32), lv (own_mix (((qs + (-7046029254386353131 : Int64)) + (-7046029254386353131 : Int64)) + (-7046029254386353131 : Int64))), .second] [(.int (((own_dr (own_mix ((qs + (-7046029254386353131 : Int64)) + (-7046029254386353131 : Int64)))) - ((own_dr (own_mix ((qs + (-7046029254386353131 : Int64)) + (-7046029254386353131 : Int64)))) / (bn.toInt64)) * (bn.toInt64)).toInt32))])) _
            refine XS.lload X12.here hx rfl (hb hby at_177) rfl ?_
            show Steps p.tables e below (T12.setTop (mkF m 179 #[lv q0, .second, lv q1, .second, iv p2, iv p3, iv bn, rv w_GRID, rv b2, rv b4, lv (own_mix (qs + (-7046029254386353131 : Int64))), .second, lv (own_mix ((qs + (-7046029254386353131 : Int64)) + (-7046029254386353131 : Int64))), .second, lv (own_mix (((qs + (-7046029254386353131 : Int64)) + (-7046029254386353131 : Int64)) + (-7046029254386353131 : Int64))), .second, lv (own_dr (own_mix (qs + (-7046029254386353131 : Int64)))), .second, lv (own_dr (own_mix ((qs + (-7046029254386353131 : Int64)) + (-7046029254386353131 : Int64)))), .second, lv rem, .second, lv (own_lf bn), .second, iv (((own_dr (own_mix ((qs + (-7046029254386353131 : Int64)) + (-7046029254386353131 : Int64)))) - ((own_dr (own_mix ((qs + (-7046029254386353131 : Int64)) + (-7046029254386353131 : Int64)))) / (bn.toInt64)) * (bn.toInt64)).toInt32), lv (own_mix (((qs + (-7046029254386353131 : Int64)) + (-7046029254386353131 : Int64)) + (-7046029254386353131 : Int64))), .second] [(.long (own_dr (own_mix ((qs + (-7046029254386353131 : Int64)) + (-7046029254386353131 : Int64))))), (.int (((own_dr (own_mix ((qs + (-7046029254386353131 : Int64)) + (-7046029254386353131 : Int64)))) - ((own_dr (own_mix ((qs + (-7046029254386353131 : Int64)) + (-7046029254386353131 : Int64)))) / (bn.toInt64)) * (bn.toInt64)).toInt32))])) _
            refine XS.iload X12.here hx rfl (hb hby at_179) rfl ?_
            show Steps p.tables e below (T12.setTop (mkF m 181 #[lv q0, .second, lv q1, .second, iv p2, iv p3, iv bn, rv w_GRID, rv b2, rv b4, lv (own_mix (qs + (-7046029254386353131 : Int64))), .second, lv (own_mix ((qs + (-7046029254386353131 : Int64)) + (-7046029254386353131 : Int64))), .second, lv (own_mix (((qs + (-7046029254386353131 : Int64)) + (-7046029254386353131 : Int64)) + (-7046029254386353131 : Int64))), .second, lv (own_dr (own_mix (qs + (-7046029254386353131 : Int64)))), .second, lv (own_dr (own_mix ((qs + (-7046029254386353131 : Int64)) + (-7046029254386353131 : Int64)))), .second, lv rem, .second, lv (own_lf bn), .second, iv (((own_dr (own_mix ((qs + (-7046029254386353131 : Int64)) + (-7046029254386353131 : Int64)))) - ((own_dr (own_mix ((qs + (-7046029254386353131 : Int64)) + (-7046029254386353131 : Int64)))) / (bn.toInt64)) * (bn.toInt64)).toInt32), lv (own_mix (((qs + (-7046029254386353131 : Int64)) + (-7046029254386353131 : Int64)) + (-7046029254386353131 : Int64))), .second] [(.int bn), (.long (own_dr (own_mix ((qs + (-7046029254386353131 : Int64)) + (-7046029254386353131 : Int64))))), (.int (((own_dr (own_mix ((qs + (-7046029254386353131 : Int64)) + (-7046029254386353131 : Int64)))) - ((own_dr (own_mix ((qs + (-7046029254386353131 : Int64)) + (-7046029254386353131 : Int64)))) / (bn.toInt64)) * (bn.toInt64)).toInt32))])) _
            refine XS.i2l X12.here hx rfl (hb hby at_181) rfl ?_
            show Steps p.tables e below (T12.setTop (mkF m 182 #[lv q0, .second, lv q1, .second, iv p2, iv p3, iv bn, rv w_GRID, rv b2, rv b4, lv (own_mix (qs + (-7046029254386353131 : Int64))), .second, lv (own_mix ((qs + (-7046029254386353131 : Int64)) + (-7046029254386353131 : Int64))), .second, lv (own_mix (((qs + (-7046029254386353131 : Int64)) + (-7046029254386353131 : Int64)) + (-7046029254386353131 : Int64))), .second, lv (own_dr (own_mix (qs + (-7046029254386353131 : Int64)))), .second, lv (own_dr (own_mix ((qs + (-7046029254386353131 : Int64)) + (-7046029254386353131 : Int64)))), .second, lv rem, .second, lv (own_lf bn), .second, iv (((own_dr (own_mix ((qs + (-7046029254386353131 : Int64)) + (-7046029254386353131 : Int64)))) - ((own_dr (own_mix ((qs + (-7046029254386353131 : Int64)) + (-7046029254386353131 : Int64)))) / (bn.toInt64)) * (bn.toInt64)).toInt32), lv (own_mix (((qs + (-7046029254386353131 : Int64)) + (-7046029254386353131 : Int64)) + (-7046029254386353131 : Int64))), .second] [(.long (bn.toInt64)), (.long (own_dr (own_mix ((qs + (-7046029254386353131 : Int64)) + (-7046029254386353131 : Int64))))), (.int (((own_dr (own_mix ((qs + (-7046029254386353131 : Int64)) + (-7046029254386353131 : Int64)))) - ((own_dr (own_mix ((qs + (-7046029254386353131 : Int64)) + (-7046029254386353131 : Int64)))) / (bn.toInt64)) * (bn.toInt64)).toInt32))])) _
            refine XS.lrem X12.here hx rfl (hb hby at_182) rfl (own_nz hpos) ?_
            show Steps p.tables e below (T12.setTop (mkF m 183 #[lv q0, .second, lv q1, .second, iv p2, iv p3, iv bn, rv w_GRID, rv b2, rv b4, lv (own_mix (qs + (-7046029254386353131 : Int64))), .second, lv (own_mix ((qs + (-7046029254386353131 : Int64)) + (-7046029254386353131 : Int64))), .second, lv (own_mix (((qs + (-7046029254386353131 : Int64)) + (-7046029254386353131 : Int64)) + (-7046029254386353131 : Int64))), .second, lv (own_dr (own_mix (qs + (-7046029254386353131 : Int64)))), .second, lv (own_dr (own_mix ((qs + (-7046029254386353131 : Int64)) + (-7046029254386353131 : Int64)))), .second, lv rem, .second, lv (own_lf bn), .second, iv (((own_dr (own_mix ((qs + (-7046029254386353131 : Int64)) + (-7046029254386353131 : Int64)))) - ((own_dr (own_mix ((qs + (-7046029254386353131 : Int64)) + (-7046029254386353131 : Int64)))) / (bn.toInt64)) * (bn.toInt64)).toInt32), lv (own_mix (((qs + (-7046029254386353131 : Int64)) + (-7046029254386353131 : Int64)) + (-7046029254386353131 : Int64))), .second] [(.long ((own_dr (own_mix ((qs + (-7046029254386353131 : Int64)) + (-7046029254386353131 : Int64)))) - ((own_dr (own_mix ((qs + (-7046029254386353131 : Int64)) + (-7046029254386353131 : Int64)))) / (bn.toInt64)) * (bn.toInt64))), (.int (((own_dr (own_mix ((qs + (-7046029254386353131 : Int64)) + (-7046029254386353131 : Int64)))) - ((own_dr (own_mix ((qs + (-7046029254386353131 : Int64)) + (-7046029254386353131 : Int64)))) / (bn.toInt64)) * (bn.toInt64)).toInt32))])) _
            refine XS.l2i X12.here hx rfl (hb hby at_183) rfl ?_
            show Steps p.tables e below (T12.setTop (mkF m 184 #[lv q0, .second, lv q1, .second, iv p2, iv p3, iv bn, rv w_GRID, rv b2, rv b4, lv (own_mix (qs + (-7046029254386353131 : Int64))), .second, lv (own_mix ((qs + (-7046029254386353131 : Int64)) + (-7046029254386353131 : Int64))), .second, lv (own_mix (((qs + (-7046029254386353131 : Int64)) + (-7046029254386353131 : Int64)) + (-7046029254386353131 : Int64))), .second, lv (own_dr (own_mix (qs + (-7046029254386353131 : Int64)))), .second, lv (own_dr (own_mix ((qs + (-7046029254386353131 : Int64)) + (-7046029254386353131 : Int64)))), .second, lv rem, .second, lv (own_lf bn), .second, iv (((own_dr (own_mix ((qs + (-7046029254386353131 : Int64)) + (-7046029254386353131 : Int64)))) - ((own_dr (own_mix ((qs + (-7046029254386353131 : Int64)) + (-7046029254386353131 : Int64)))) / (bn.toInt64)) * (bn.toInt64)).toInt32), lv (own_mix (((qs + (-7046029254386353131 : Int64)) + (-7046029254386353131 : Int64)) + (-7046029254386353131 : Int64))), .second] [(.int (((own_dr (own_mix ((qs + (-7046029254386353131 : Int64)) + (-7046029254386353131 : Int64)))) - ((own_dr (own_mix ((qs + (-7046029254386353131 : Int64)) + (-7046029254386353131 : Int64)))) / (bn.toInt64)) * (bn.toInt64)).toInt32)), (.int (((own_dr (own_mix ((qs + (-7046029254386353131 : Int64)) + (-7046029254386353131 : Int64)))) - ((own_dr (own_mix ((qs + (-7046029254386353131 : Int64)) + (-7046029254386353131 : Int64)))) / (bn.toInt64)) * (bn.toInt64)).toInt32))])) _
            refine XS.icmpNo X12.here hx rfl (hb hby at_184) rfl (teq (rfl : (((own_dr (own_mix ((qs + (-7046029254386353131 : Int64)) + (-7046029254386353131 : Int64)))) - ((own_dr (own_mix ((qs + (-7046029254386353131 : Int64)) + (-7046029254386353131 : Int64)))) / (bn.toInt64)) * (bn.toInt64)).toInt32) = (((own_dr (own_mix ((qs + (-7046029254386353131 : Int64)) + (-7046029254386353131 : Int64)))) - ((own_dr (own_mix ((qs + (-7046029254386353131 : Int64)) + (-7046029254386353131 : Int64)))) / (bn.toInt64)) * (bn.toInt64)).toInt32))).2 ?_
            show Steps p.tables e below (T12.setTop (mkF m 187 #[lv q0, .second, lv q1, .second, iv p2, iv p3, iv bn, rv w_GRID, rv b2, rv b4, lv (own_mix (qs + (-7046029254386353131 : Int64))), .second, lv (own_mix ((qs + (-7046029254386353131 : Int64)) + (-7046029254386353131 : Int64))), .second, lv (own_mix (((qs + (-7046029254386353131 : Int64)) + (-7046029254386353131 : Int64)) + (-7046029254386353131 : Int64))), .second, lv (own_dr (own_mix (qs + (-7046029254386353131 : Int64)))), .second, lv (own_dr (own_mix ((qs + (-7046029254386353131 : Int64)) + (-7046029254386353131 : Int64)))), .second, lv rem, .second, lv (own_lf bn), .second, iv (((own_dr (own_mix ((qs + (-7046029254386353131 : Int64)) + (-7046029254386353131 : Int64)))) - ((own_dr (own_mix ((qs + (-7046029254386353131 : Int64)) + (-7046029254386353131 : Int64)))) / (bn.toInt64)) * (bn.toInt64)).toInt32), lv (own_mix (((qs + (-7046029254386353131 : Int64)) + (-7046029254386353131 : Int64)) + (-7046029254386353131 : Int64))), .second] [])) _
            refine XS.lload X12.here hx rfl (hb hby at_187) rfl ?_
            show Steps p.tables e below (T12.setTop (mkF m 189 #[lv q0, .second, lv q1, .second, iv p2, iv p3, iv bn, rv w_GRID, rv b2, rv b4, lv (own_mix (qs + (-7046029254386353131 : Int64))), .second, lv (own_mix ((qs + (-7046029254386353131 : Int64)) + (-7046029254386353131 : Int64))), .second, lv (own_mix (((qs + (-7046029254386353131 : Int64)) + (-7046029254386353131 : Int64)) + (-7046029254386353131 : Int64))), .second, lv (own_dr (own_mix (qs + (-7046029254386353131 : Int64)))), .second, lv (own_dr (own_mix ((qs + (-7046029254386353131 : Int64)) + (-7046029254386353131 : Int64)))), .second, lv rem, .second, lv (own_lf bn), .second, iv (((own_dr (own_mix ((qs + (-7046029254386353131 : Int64)) + (-7046029254386353131 : Int64)))) - ((own_dr (own_mix ((qs + (-7046029254386353131 : Int64)) + (-7046029254386353131 : Int64)))) / (bn.toInt64)) * (bn.toInt64)).toInt32), lv (own_mix (((qs + (-7046029254386353131 : Int64)) + (-7046029254386353131 : Int64)) + (-7046029254386353131 : Int64))), .second] [(.long (own_mix (((qs + (-7046029254386353131 : Int64)) + (-7046029254386353131 : Int64)) + (-7046029254386353131 : Int64))))])) _
            refine XS.lload X12.here hx rfl (hb hby at_189) rfl ?_
            show Steps p.tables e below (T12.setTop (mkF m 191 #[lv q0, .second, lv q1, .second, iv p2, iv p3, iv bn, rv w_GRID, rv b2, rv b4, lv (own_mix (qs + (-7046029254386353131 : Int64))), .second, lv (own_mix ((qs + (-7046029254386353131 : Int64)) + (-7046029254386353131 : Int64))), .second, lv (own_mix (((qs + (-7046029254386353131 : Int64)) + (-7046029254386353131 : Int64)) + (-7046029254386353131 : Int64))), .second, lv (own_dr (own_mix (qs + (-7046029254386353131 : Int64)))), .second, lv (own_dr (own_mix ((qs + (-7046029254386353131 : Int64)) + (-7046029254386353131 : Int64)))), .second, lv rem, .second, lv (own_lf bn), .second, iv (((own_dr (own_mix ((qs + (-7046029254386353131 : Int64)) + (-7046029254386353131 : Int64)))) - ((own_dr (own_mix ((qs + (-7046029254386353131 : Int64)) + (-7046029254386353131 : Int64)))) / (bn.toInt64)) * (bn.toInt64)).toInt32), lv (own_mix (((qs + (-7046029254386353131 : Int64)) + (-7046029254386353131 : Int64)) + (-7046029254386353131 : Int64))), .second] [(.long (own_mix (((qs + (-7046029254386353131 : Int64)) + (-7046029254386353131 : Int64)) + (-7046029254386353131 : Int64)))), (.long (own_mix (((qs + (-7046029254386353131 : Int64)) + (-7046029254386353131 : Int64)) + (-7046029254386353131 : Int64))))])) _
            refine XS.lcmp X12.here hx rfl (hb hby at_191) rfl ?_
            show Steps p.tables e below (T12.setTop (mkF m 192 #[lv q0, .second, lv q1, .second, iv p2, iv p3, iv bn, rv w_GRID, rv b2, rv b4, lv (own_mix (qs + (-7046029254386353131 : Int64))), .second, lv (own_mix ((qs + (-7046029254386353131 : Int64)) + (-7046029254386353131 : Int64))), .second, lv (own_mix (((qs + (-7046029254386353131 : Int64)) + (-7046029254386353131 : Int64)) + (-7046029254386353131 : Int64))), .second, lv (own_dr (own_mix (qs + (-7046029254386353131 : Int64)))), .second, lv (own_dr (own_mix ((qs + (-7046029254386353131 : Int64)) + (-7046029254386353131 : Int64)))), .second, lv rem, .second, lv (own_lf bn), .second, iv (((own_dr (own_mix ((qs + (-7046029254386353131 : Int64)) + (-7046029254386353131 : Int64)))) - ((own_dr (own_mix ((qs + (-7046029254386353131 : Int64)) + (-7046029254386353131 : Int64)))) / (bn.toInt64)) * (bn.toInt64)).toInt32), lv (own_mix (((qs + (-7046029254386353131 : Int64)) + (-7046029254386353131 : Int64)) + (-7046029254386353131 : Int64))), .second] [(.int (lcmpW (own_mix (((qs + (-7046029254386353131 : Int64)) + (-7046029254386353131 : Int64)) + (-7046029254386353131 : Int64))) (own_mix (((qs + (-7046029254386353131 : Int64)) + (-7046029254386353131 : Int64)) + (-7046029254386353131 : Int64)))))])) _
            refine XS.ifNo X12.here hx rfl (hb hby at_192) rfl ((if0 _ _).trans (teq ((lw_eq (own_mix (((qs + (-7046029254386353131 : Int64)) + (-7046029254386353131 : Int64)) + (-7046029254386353131 : Int64))) (own_mix (((qs + (-7046029254386353131 : Int64)) + (-7046029254386353131 : Int64)) + (-7046029254386353131 : Int64)))).mpr rfl)).2) ?_
            show Steps p.tables e below (T12.setTop (mkF m 195 #[lv q0, .second, lv q1, .second, iv p2, iv p3, iv bn, rv w_GRID, rv b2, rv b4, lv (own_mix (qs + (-7046029254386353131 : Int64))), .second, lv (own_mix ((qs + (-7046029254386353131 : Int64)) + (-7046029254386353131 : Int64))), .second, lv (own_mix (((qs + (-7046029254386353131 : Int64)) + (-7046029254386353131 : Int64)) + (-7046029254386353131 : Int64))), .second, lv (own_dr (own_mix (qs + (-7046029254386353131 : Int64)))), .second, lv (own_dr (own_mix ((qs + (-7046029254386353131 : Int64)) + (-7046029254386353131 : Int64)))), .second, lv rem, .second, lv (own_lf bn), .second, iv (((own_dr (own_mix ((qs + (-7046029254386353131 : Int64)) + (-7046029254386353131 : Int64)))) - ((own_dr (own_mix ((qs + (-7046029254386353131 : Int64)) + (-7046029254386353131 : Int64)))) / (bn.toInt64)) * (bn.toInt64)).toInt32), lv (own_mix (((qs + (-7046029254386353131 : Int64)) + (-7046029254386353131 : Int64)) + (-7046029254386353131 : Int64))), .second] [])) _
            refine XS.iconst X12.here hx rfl (hb hby at_195) ?_
            show Steps p.tables e below (T12.setTop (mkF m 196 #[lv q0, .second, lv q1, .second, iv p2, iv p3, iv bn, rv w_GRID, rv b2, rv b4, lv (own_mix (qs + (-7046029254386353131 : Int64))), .second, lv (own_mix ((qs + (-7046029254386353131 : Int64)) + (-7046029254386353131 : Int64))), .second, lv (own_mix (((qs + (-7046029254386353131 : Int64)) + (-7046029254386353131 : Int64)) + (-7046029254386353131 : Int64))), .second, lv (own_dr (own_mix (qs + (-7046029254386353131 : Int64)))), .second, lv (own_dr (own_mix ((qs + (-7046029254386353131 : Int64)) + (-7046029254386353131 : Int64)))), .second, lv rem, .second, lv (own_lf bn), .second, iv (((own_dr (own_mix ((qs + (-7046029254386353131 : Int64)) + (-7046029254386353131 : Int64)))) - ((own_dr (own_mix ((qs + (-7046029254386353131 : Int64)) + (-7046029254386353131 : Int64)))) / (bn.toInt64)) * (bn.toInt64)).toInt32), lv (own_mix (((qs + (-7046029254386353131 : Int64)) + (-7046029254386353131 : Int64)) + (-7046029254386353131 : Int64))), .second] [(.int (1 : Int32))])) _
            refine XS.goto X12.here hx rfl (pc0 := 196) (pc' := 200) rfl (hb hby at_196) (by decide) (by decide) ?_
            exact k
          obtain ⟨fs, hr, hrun, hended, hW, hsame⟩ := X12.leave (v := some (.int (1 : Int32))) (fun h => by rw [Bd.returns] at h; cases h)
          refine Go.fin (S' := T12.setFrames fs) ?_ hrun hended ⟨_, _, rfl, ?_, ⟨_, rfl⟩, hW, hsame.mono (by decide) (by decide)⟩
          · exact retOut X12 hx Bd.returns (by decide) (Or.inl ⟨rfl, Or.inr (Or.inl rfl), _, rfl⟩) (hb hby at_200) hr
          · show Q_rm0 Z q0 q1 p2 p3 w_GRID w_REMOVAL h0 n0 (some (.int (1 : Int32))) T12.heap _
            exact ⟨rfl, N12, K⟩
      · skip
        obtain ⟨cq13, kq13, q13a, q13b, q13c⟩ := isOf hZ (Eq.refl T8.heap) E_b2
        obtain ⟨_, _, ⟨T13, L13, k13, n13⟩, -, X13, ⟨Lc13, hQ13, l13, y13, z13⟩, st13⟩ := X8.virtualBack hx (y := (⟨"org/ninefold/service/SeededRandom", "nextInt", "(I)I"⟩ : MethodName)) (z := (⟨"org/ninefold/service/SeededRandom", "nextInt", "(I)I"⟩ : MethodName)) hown (mvT hZ (own_w hw 31 rfl)) (mvT hZ (own_w hw 32 rfl)) (notFace_of_selects (args := #[]) (mvT hZ (own_w hw 34 rfl))) (mvT hZ (own_w hw 34 rfl)) (mvT hZ (own_w hw 33 rfl)) (by decide) (backOf (W := 0) (rmNI1 l Z a0 hw [] b2 bn qs T8.heap n0 O E_b2 F_3 (by assumption) hpos hA) hZ (own_w hw 35 rfl) (own_w hw 6 rfl) (by decide) (by decide)) q13a q13c (g := (mkF m 121 #[lv q0, .second, lv q1, .second, iv p2, iv p3, iv bn, rv w_GRID, rv b2, rv b4, lv (own_mix (qs + (-7046029254386353131 : Int64))), .second, lv (own_mix ((qs + (-7046029254386353131 : Int64)) + (-7046029254386353131 : Int64))), .second, lv (own_mix (((qs + (-7046029254386353131 : Int64)) + (-7046029254386353131 : Int64)) + (-7046029254386353131 : Int64))), .second, lv (own_dr (own_mix (qs + (-7046029254386353131 : Int64)))), .second, lv (own_dr (own_mix ((qs + (-7046029254386353131 : Int64)) + (-7046029254386353131 : Int64)))), .second, lv rem, .second, lv (own_lf bn), .second, u_, u_, u_] [(.int bn), (.ref b2)])) rfl (by rw [hml]; rfl) (Steps.refl _) (argsL := [(.int bn)]) (rest := []) (lenOf pd__28I_29I rfl) rfl (by show 2 * 0 + _ ≤ _; exact Nat.le_of_eq rfl) (hb hby at_121) (fun _ _ => ⟨rfl, (Eq.refl T8.heap), (by decide : 2 + 0 ≤ _), (by decide : 2 + 0 ≤ _)⟩)
        dsimp only [Pt.U, Pt.locs, Pt.cells, Pt.slots] at X13 l13 y13 z13 st13 hQ13
        subst l13 y13 z13
        obtain ⟨rfl, Nq13, K13, P13_E, P13_F⟩ := hQ13
        have N13 := Fr.app N8 Nq13
        have O := O.keep K13 (allS g_b2 all0)
        have K := K.trans K13 (allS (Or.inr sz_b2) all0)
        have E_b2 := E_b2.keep K13
        have E_3 := E_3.keep K13
        have E_b4 := E_b4.keep K13
        have E_5 := E_5.keep K13
        have E_6 := E_6.keep K13
        have E_7 := E_7.keep K13
        have E_8 := E_8.keep K13
        have F_8 := F_8.keep K13 (ninS (Ne.symm ne_b2_b4) nin0)
        have E_13 := P13_E
        have F_13 := P13_F
        refine Go.step (fun t k => st13.trans k) ?_
        show Go p e below _ (T13.setTop (mkF m 124 #[lv q0, .second, lv q1, .second, iv p2, iv p3, iv bn, rv w_GRID, rv b2, rv b4, lv (own_mix (qs + (-7046029254386353131 : Int64))), .second, lv (own_mix ((qs + (-7046029254386353131 : Int64)) + (-7046029254386353131 : Int64))), .second, lv (own_mix (((qs + (-7046029254386353131 : Int64)) + (-7046029254386353131 : Int64)) + (-7046029254386353131 : Int64))), .second, lv (own_dr (own_mix (qs + (-7046029254386353131 : Int64)))), .second, lv (own_dr (own_mix ((qs + (-7046029254386353131 : Int64)) + (-7046029254386353131 : Int64)))), .second, lv rem, .second, lv (own_lf bn), .second, u_, u_, u_] [(.int (((own_dr (own_mix (qs + (-7046029254386353131 : Int64)))) - ((own_dr (own_mix (qs + (-7046029254386353131 : Int64)))) / (bn.toInt64)) * (bn.toInt64)).toInt32))]))
        refine Go.step (S' := T13.setTop (mkF m 128 #[lv q0, .second, lv q1, .second, iv p2, iv p3, iv bn, rv w_GRID, rv b2, rv b4, lv (own_mix (qs + (-7046029254386353131 : Int64))), .second, lv (own_mix ((qs + (-7046029254386353131 : Int64)) + (-7046029254386353131 : Int64))), .second, lv (own_mix (((qs + (-7046029254386353131 : Int64)) + (-7046029254386353131 : Int64)) + (-7046029254386353131 : Int64))), .second, lv (own_dr (own_mix (qs + (-7046029254386353131 : Int64)))), .second, lv (own_dr (own_mix ((qs + (-7046029254386353131 : Int64)) + (-7046029254386353131 : Int64)))), .second, lv rem, .second, lv (own_lf bn), .second, iv (((own_dr (own_mix (qs + (-7046029254386353131 : Int64)))) - ((own_dr (own_mix (qs + (-7046029254386353131 : Int64)))) / (bn.toInt64)) * (bn.toInt64)).toInt32), u_, u_] [(.ref b2)])) (fun t k => ?_) ?_
        · show Steps p.tables e below (T13.setTop (mkF m 124 #[lv q0, .second, lv q1, .second, iv p2, iv p3, iv bn, rv w_GRID, rv b2, rv b4, lv (own_mix (qs + (-7046029254386353131 : Int64))), .second, lv (own_mix ((qs + (-7046029254386353131 : Int64)) + (-7046029254386353131 : Int64))), .second, lv (own_mix (((qs + (-7046029254386353131 : Int64)) + (-7046029254386353131 : Int64)) + (-7046029254386353131 : Int64))), .second, lv (own_dr (own_mix (qs + (-7046029254386353131 : Int64)))), .second, lv (own_dr (own_mix ((qs + (-7046029254386353131 : Int64)) + (-7046029254386353131 : Int64)))), .second, lv rem, .second, lv (own_lf bn), .second, u_, u_, u_] [(.int (((own_dr (own_mix (qs + (-7046029254386353131 : Int64)))) - ((own_dr (own_mix (qs + (-7046029254386353131 : Int64)))) / (bn.toInt64)) * (bn.toInt64)).toInt32))])) _
          refine XS.istore X13.here hx rfl (hb hby at_124) rfl (l' := #[lv q0, .second, lv q1, .second, iv p2, iv p3, iv bn, rv w_GRID, rv b2, rv b4, lv (own_mix (qs + (-7046029254386353131 : Int64))), .second, lv (own_mix ((qs + (-7046029254386353131 : Int64)) + (-7046029254386353131 : Int64))), .second, lv (own_mix (((qs + (-7046029254386353131 : Int64)) + (-7046029254386353131 : Int64)) + (-7046029254386353131 : Int64))), .second, lv (own_dr (own_mix (qs + (-7046029254386353131 : Int64)))), .second, lv (own_dr (own_mix ((qs + (-7046029254386353131 : Int64)) + (-7046029254386353131 : Int64)))), .second, lv rem, .second, lv (own_lf bn), .second, iv (((own_dr (own_mix (qs + (-7046029254386353131 : Int64)))) - ((own_dr (own_mix (qs + (-7046029254386353131 : Int64)))) / (bn.toInt64)) * (bn.toInt64)).toInt32), u_, u_]) rfl ?_
          show Steps p.tables e below (T13.setTop (mkF m 126 #[lv q0, .second, lv q1, .second, iv p2, iv p3, iv bn, rv w_GRID, rv b2, rv b4, lv (own_mix (qs + (-7046029254386353131 : Int64))), .second, lv (own_mix ((qs + (-7046029254386353131 : Int64)) + (-7046029254386353131 : Int64))), .second, lv (own_mix (((qs + (-7046029254386353131 : Int64)) + (-7046029254386353131 : Int64)) + (-7046029254386353131 : Int64))), .second, lv (own_dr (own_mix (qs + (-7046029254386353131 : Int64)))), .second, lv (own_dr (own_mix ((qs + (-7046029254386353131 : Int64)) + (-7046029254386353131 : Int64)))), .second, lv rem, .second, lv (own_lf bn), .second, iv (((own_dr (own_mix (qs + (-7046029254386353131 : Int64)))) - ((own_dr (own_mix (qs + (-7046029254386353131 : Int64)))) / (bn.toInt64)) * (bn.toInt64)).toInt32), u_, u_] [])) _
          refine XS.aload X13.here hx rfl (hb hby at_126) rfl rfl ?_
          exact k
        obtain ⟨cq14, kq14, q14a, q14b, q14c⟩ := isOf hZ (Eq.refl T13.heap) E_b2
        obtain ⟨_, _, ⟨T14, L14, k14, n14⟩, -, X14, ⟨Lc14, hQ14, l14, y14, z14⟩, st14⟩ := X13.virtualBack hx (y := (⟨"org/ninefold/service/SeededRandom", "nextLong", "()J"⟩ : MethodName)) (z := (⟨"org/ninefold/service/SeededRandom", "nextLong", "()J"⟩ : MethodName)) hown (mvT hZ (own_w hw 23 rfl)) (mvT hZ (own_w hw 24 rfl)) (notFace_of_selects (args := #[]) (mvT hZ (own_w hw 26 rfl))) (mvT hZ (own_w hw 26 rfl)) (mvT hZ (own_w hw 25 rfl)) (by decide) (backOf (W := 0) (rmNL l Z a0 hw [] b2 (qs + (-7046029254386353131 : Int64)) T13.heap n0 O E_b2 F_13 (by assumption)) hZ (own_w hw 27 rfl) (own_w hw 6 rfl) (by decide) (by decide)) q14a q14c (g := (mkF m 128 #[lv q0, .second, lv q1, .second, iv p2, iv p3, iv bn, rv w_GRID, rv b2, rv b4, lv (own_mix (qs + (-7046029254386353131 : Int64))), .second, lv (own_mix ((qs + (-7046029254386353131 : Int64)) + (-7046029254386353131 : Int64))), .second, lv (own_mix (((qs + (-7046029254386353131 : Int64)) + (-7046029254386353131 : Int64)) + (-7046029254386353131 : Int64))), .second, lv (own_dr (own_mix (qs + (-7046029254386353131 : Int64)))), .second, lv (own_dr (own_mix ((qs + (-7046029254386353131 : Int64)) + (-7046029254386353131 : Int64)))), .second, lv rem, .second, lv (own_lf bn), .second, iv (((own_dr (own_mix (qs + (-7046029254386353131 : Int64)))) - ((own_dr (own_mix (qs + (-7046029254386353131 : Int64)))) / (bn.toInt64)) * (bn.toInt64)).toInt32), u_, u_] [(.ref b2)])) rfl (by rw [hml]; rfl) (Steps.refl _) (argsL := []) (rest := []) (lenOf pd__28_29J rfl) rfl (by show 2 * 0 + _ ≤ _; exact Nat.le_of_eq rfl) (hb hby at_128) (fun _ _ => ⟨rfl, (Eq.refl T13.heap), (by decide : 2 + 0 ≤ _), (by decide : 2 + 0 ≤ _)⟩)
        dsimp only [Pt.U, Pt.locs, Pt.cells, Pt.slots] at X14 l14 y14 z14 st14 hQ14
        subst l14 y14 z14
        obtain ⟨rfl, Nq14, K14, P14_E, P14_F⟩ := hQ14
        have N14 := Fr.app N13 Nq14
        have O := O.keep K14 (allS g_b2 all0)
        have K := K.trans K14 (allS (Or.inr sz_b2) all0)
        have E_b2 := E_b2.keep K14
        have E_3 := E_3.keep K14
        have E_b4 := E_b4.keep K14
        have E_5 := E_5.keep K14
        have E_6 := E_6.keep K14
        have E_7 := E_7.keep K14
        have E_8 := E_8.keep K14
        have F_8 := F_8.keep K14 (ninS (Ne.symm ne_b2_b4) nin0)
        have E_13 := E_13.keep K14
        have E_14 := P14_E
        have F_14 := P14_F
        refine Go.step (fun t k => st14.trans k) ?_
        show Go p e below _ (T14.setTop (mkF m 131 #[lv q0, .second, lv q1, .second, iv p2, iv p3, iv bn, rv w_GRID, rv b2, rv b4, lv (own_mix (qs + (-7046029254386353131 : Int64))), .second, lv (own_mix ((qs + (-7046029254386353131 : Int64)) + (-7046029254386353131 : Int64))), .second, lv (own_mix (((qs + (-7046029254386353131 : Int64)) + (-7046029254386353131 : Int64)) + (-7046029254386353131 : Int64))), .second, lv (own_dr (own_mix (qs + (-7046029254386353131 : Int64)))), .second, lv (own_dr (own_mix ((qs + (-7046029254386353131 : Int64)) + (-7046029254386353131 : Int64)))), .second, lv rem, .second, lv (own_lf bn), .second, iv (((own_dr (own_mix (qs + (-7046029254386353131 : Int64)))) - ((own_dr (own_mix (qs + (-7046029254386353131 : Int64)))) / (bn.toInt64)) * (bn.toInt64)).toInt32), u_, u_] [(.long (own_mix ((qs + (-7046029254386353131 : Int64)) + (-7046029254386353131 : Int64))))]))
        refine Go.step (S' := T14.setTop (mkF m 166 #[lv q0, .second, lv q1, .second, iv p2, iv p3, iv bn, rv w_GRID, rv b2, rv b4, lv (own_mix (qs + (-7046029254386353131 : Int64))), .second, lv (own_mix ((qs + (-7046029254386353131 : Int64)) + (-7046029254386353131 : Int64))), .second, lv (own_mix (((qs + (-7046029254386353131 : Int64)) + (-7046029254386353131 : Int64)) + (-7046029254386353131 : Int64))), .second, lv (own_dr (own_mix (qs + (-7046029254386353131 : Int64)))), .second, lv (own_dr (own_mix ((qs + (-7046029254386353131 : Int64)) + (-7046029254386353131 : Int64)))), .second, lv rem, .second, lv (own_lf bn), .second, iv (((own_dr (own_mix (qs + (-7046029254386353131 : Int64)))) - ((own_dr (own_mix (qs + (-7046029254386353131 : Int64)))) / (bn.toInt64)) * (bn.toInt64)).toInt32), lv (own_mix ((qs + (-7046029254386353131 : Int64)) + (-7046029254386353131 : Int64))), .second] [(.int (1 : Int32))])) (fun t k => ?_) ?_
        · show Steps p.tables e below (T14.setTop (mkF m 131 #[lv q0, .second, lv q1, .second, iv p2, iv p3, iv bn, rv w_GRID, rv b2, rv b4, lv (own_mix (qs + (-7046029254386353131 : Int64))), .second, lv (own_mix ((qs + (-7046029254386353131 : Int64)) + (-7046029254386353131 : Int64))), .second, lv (own_mix (((qs + (-7046029254386353131 : Int64)) + (-7046029254386353131 : Int64)) + (-7046029254386353131 : Int64))), .second, lv (own_dr (own_mix (qs + (-7046029254386353131 : Int64)))), .second, lv (own_dr (own_mix ((qs + (-7046029254386353131 : Int64)) + (-7046029254386353131 : Int64)))), .second, lv rem, .second, lv (own_lf bn), .second, iv (((own_dr (own_mix (qs + (-7046029254386353131 : Int64)))) - ((own_dr (own_mix (qs + (-7046029254386353131 : Int64)))) / (bn.toInt64)) * (bn.toInt64)).toInt32), u_, u_] [(.long (own_mix ((qs + (-7046029254386353131 : Int64)) + (-7046029254386353131 : Int64))))])) _
          refine XS.lstore X14.here hx rfl (hb hby at_131) rfl (l' := #[lv q0, .second, lv q1, .second, iv p2, iv p3, iv bn, rv w_GRID, rv b2, rv b4, lv (own_mix (qs + (-7046029254386353131 : Int64))), .second, lv (own_mix ((qs + (-7046029254386353131 : Int64)) + (-7046029254386353131 : Int64))), .second, lv (own_mix (((qs + (-7046029254386353131 : Int64)) + (-7046029254386353131 : Int64)) + (-7046029254386353131 : Int64))), .second, lv (own_dr (own_mix (qs + (-7046029254386353131 : Int64)))), .second, lv (own_dr (own_mix ((qs + (-7046029254386353131 : Int64)) + (-7046029254386353131 : Int64)))), .second, lv rem, .second, lv (own_lf bn), .second, iv (((own_dr (own_mix (qs + (-7046029254386353131 : Int64)))) - ((own_dr (own_mix (qs + (-7046029254386353131 : Int64)))) / (bn.toInt64)) * (bn.toInt64)).toInt32), lv (own_mix ((qs + (-7046029254386353131 : Int64)) + (-7046029254386353131 : Int64))), .second]) rfl ?_
          show Steps p.tables e below (T14.setTop (mkF m 133 #[lv q0, .second, lv q1, .second, iv p2, iv p3, iv bn, rv w_GRID, rv b2, rv b4, lv (own_mix (qs + (-7046029254386353131 : Int64))), .second, lv (own_mix ((qs + (-7046029254386353131 : Int64)) + (-7046029254386353131 : Int64))), .second, lv (own_mix (((qs + (-7046029254386353131 : Int64)) + (-7046029254386353131 : Int64)) + (-7046029254386353131 : Int64))), .second, lv (own_dr (own_mix (qs + (-7046029254386353131 : Int64)))), .second, lv (own_dr (own_mix ((qs + (-7046029254386353131 : Int64)) + (-7046029254386353131 : Int64)))), .second, lv rem, .second, lv (own_lf bn), .second, iv (((own_dr (own_mix (qs + (-7046029254386353131 : Int64)))) - ((own_dr (own_mix (qs + (-7046029254386353131 : Int64)))) / (bn.toInt64)) * (bn.toInt64)).toInt32), lv (own_mix ((qs + (-7046029254386353131 : Int64)) + (-7046029254386353131 : Int64))), .second] [])) _
          refine XS.lload X14.here hx rfl (hb hby at_133) rfl ?_
          show Steps p.tables e below (T14.setTop (mkF m 135 #[lv q0, .second, lv q1, .second, iv p2, iv p3, iv bn, rv w_GRID, rv b2, rv b4, lv (own_mix (qs + (-7046029254386353131 : Int64))), .second, lv (own_mix ((qs + (-7046029254386353131 : Int64)) + (-7046029254386353131 : Int64))), .second, lv (own_mix (((qs + (-7046029254386353131 : Int64)) + (-7046029254386353131 : Int64)) + (-7046029254386353131 : Int64))), .second, lv (own_dr (own_mix (qs + (-7046029254386353131 : Int64)))), .second, lv (own_dr (own_mix ((qs + (-7046029254386353131 : Int64)) + (-7046029254386353131 : Int64)))), .second, lv rem, .second, lv (own_lf bn), .second, iv (((own_dr (own_mix (qs + (-7046029254386353131 : Int64)))) - ((own_dr (own_mix (qs + (-7046029254386353131 : Int64)))) / (bn.toInt64)) * (bn.toInt64)).toInt32), lv (own_mix ((qs + (-7046029254386353131 : Int64)) + (-7046029254386353131 : Int64))), .second] [(.long (own_dr (own_mix (qs + (-7046029254386353131 : Int64)))))])) _
          refine XS.lload X14.here hx rfl (hb hby at_135) rfl ?_
          show Steps p.tables e below (T14.setTop (mkF m 137 #[lv q0, .second, lv q1, .second, iv p2, iv p3, iv bn, rv w_GRID, rv b2, rv b4, lv (own_mix (qs + (-7046029254386353131 : Int64))), .second, lv (own_mix ((qs + (-7046029254386353131 : Int64)) + (-7046029254386353131 : Int64))), .second, lv (own_mix (((qs + (-7046029254386353131 : Int64)) + (-7046029254386353131 : Int64)) + (-7046029254386353131 : Int64))), .second, lv (own_dr (own_mix (qs + (-7046029254386353131 : Int64)))), .second, lv (own_dr (own_mix ((qs + (-7046029254386353131 : Int64)) + (-7046029254386353131 : Int64)))), .second, lv rem, .second, lv (own_lf bn), .second, iv (((own_dr (own_mix (qs + (-7046029254386353131 : Int64)))) - ((own_dr (own_mix (qs + (-7046029254386353131 : Int64)))) / (bn.toInt64)) * (bn.toInt64)).toInt32), lv (own_mix ((qs + (-7046029254386353131 : Int64)) + (-7046029254386353131 : Int64))), .second] [(.long (own_lf bn)), (.long (own_dr (own_mix (qs + (-7046029254386353131 : Int64)))))])) _
          refine XS.lcmp X14.here hx rfl (hb hby at_137) rfl ?_
          show Steps p.tables e below (T14.setTop (mkF m 138 #[lv q0, .second, lv q1, .second, iv p2, iv p3, iv bn, rv w_GRID, rv b2, rv b4, lv (own_mix (qs + (-7046029254386353131 : Int64))), .second, lv (own_mix ((qs + (-7046029254386353131 : Int64)) + (-7046029254386353131 : Int64))), .second, lv (own_mix (((qs + (-7046029254386353131 : Int64)) + (-7046029254386353131 : Int64)) + (-7046029254386353131 : Int64))), .second, lv (own_dr (own_mix (qs + (-7046029254386353131 : Int64)))), .second, lv (own_dr (own_mix ((qs + (-7046029254386353131 : Int64)) + (-7046029254386353131 : Int64)))), .second, lv rem, .second, lv (own_lf bn), .second, iv (((own_dr (own_mix (qs + (-7046029254386353131 : Int64)))) - ((own_dr (own_mix (qs + (-7046029254386353131 : Int64)))) / (bn.toInt64)) * (bn.toInt64)).toInt32), lv (own_mix ((qs + (-7046029254386353131 : Int64)) + (-7046029254386353131 : Int64))), .second] [(.int (lcmpW (own_dr (own_mix (qs + (-7046029254386353131 : Int64)))) (own_lf bn)))])) _
          refine XS.ifNo X14.here hx rfl (hb hby at_138) rfl ((if0 _ _).trans (flt (fun zq => absurd ((lw_gt (own_dr (own_mix (qs + (-7046029254386353131 : Int64)))) (own_lf bn)).mp zq) hA)).2.2.1) ?_
          show Steps p.tables e below (T14.setTop (mkF m 141 #[lv q0, .second, lv q1, .second, iv p2, iv p3, iv bn, rv w_GRID, rv b2, rv b4, lv (own_mix (qs + (-7046029254386353131 : Int64))), .second, lv (own_mix ((qs + (-7046029254386353131 : Int64)) + (-7046029254386353131 : Int64))), .second, lv (own_mix (((qs + (-7046029254386353131 : Int64)) + (-7046029254386353131 : Int64)) + (-7046029254386353131 : Int64))), .second, lv (own_dr (own_mix (qs + (-7046029254386353131 : Int64)))), .second, lv (own_dr (own_mix ((qs + (-7046029254386353131 : Int64)) + (-7046029254386353131 : Int64)))), .second, lv rem, .second, lv (own_lf bn), .second, iv (((own_dr (own_mix (qs + (-7046029254386353131 : Int64)))) - ((own_dr (own_mix (qs + (-7046029254386353131 : Int64)))) / (bn.toInt64)) * (bn.toInt64)).toInt32), lv (own_mix ((qs + (-7046029254386353131 : Int64)) + (-7046029254386353131 : Int64))), .second] [])) _
          refine XS.iload X14.here hx rfl (hb hby at_141) rfl ?_
          show Steps p.tables e below (T14.setTop (mkF m 143 #[lv q0, .second, lv q1, .second, iv p2, iv p3, iv bn, rv w_GRID, rv b2, rv b4, lv (own_mix (qs + (-7046029254386353131 : Int64))), .second, lv (own_mix ((qs + (-7046029254386353131 : Int64)) + (-7046029254386353131 : Int64))), .second, lv (own_mix (((qs + (-7046029254386353131 : Int64)) + (-7046029254386353131 : Int64)) + (-7046029254386353131 : Int64))), .second, lv (own_dr (own_mix (qs + (-7046029254386353131 : Int64)))), .second, lv (own_dr (own_mix ((qs + (-7046029254386353131 : Int64)) + (-7046029254386353131 : Int64)))), .second, lv rem, .second, lv (own_lf bn), .second, iv (((own_dr (own_mix (qs + (-7046029254386353131 : Int64)))) - ((own_dr (own_mix (qs + (-7046029254386353131 : Int64)))) / (bn.toInt64)) * (bn.toInt64)).toInt32), lv (own_mix ((qs + (-7046029254386353131 : Int64)) + (-7046029254386353131 : Int64))), .second] [(.int (((own_dr (own_mix (qs + (-7046029254386353131 : Int64)))) - ((own_dr (own_mix (qs + (-7046029254386353131 : Int64)))) / (bn.toInt64)) * (bn.toInt64)).toInt32))])) _
          refine XS.lload X14.here hx rfl (hb hby at_143) rfl ?_
          show Steps p.tables e below (T14.setTop (mkF m 145 #[lv q0, .second, lv q1, .second, iv p2, iv p3, iv bn, rv w_GRID, rv b2, rv b4, lv (own_mix (qs + (-7046029254386353131 : Int64))), .second, lv (own_mix ((qs + (-7046029254386353131 : Int64)) + (-7046029254386353131 : Int64))), .second, lv (own_mix (((qs + (-7046029254386353131 : Int64)) + (-7046029254386353131 : Int64)) + (-7046029254386353131 : Int64))), .second, lv (own_dr (own_mix (qs + (-7046029254386353131 : Int64)))), .second, lv (own_dr (own_mix ((qs + (-7046029254386353131 : Int64)) + (-7046029254386353131 : Int64)))), .second, lv rem, .second, lv (own_lf bn), .second, iv (((own_dr (own_mix (qs + (-7046029254386353131 : Int64)))) - ((own_dr (own_mix (qs + (-7046029254386353131 : Int64)))) / (bn.toInt64)) * (bn.toInt64)).toInt32), lv (own_mix ((qs + (-7046029254386353131 : Int64)) + (-7046029254386353131 : Int64))), .second] [(.long (own_dr (own_mix (qs + (-7046029254386353131 : Int64))))), (.int (((own_dr (own_mix (qs + (-7046029254386353131 : Int64)))) - ((own_dr (own_mix (qs + (-7046029254386353131 : Int64)))) / (bn.toInt64)) * (bn.toInt64)).toInt32))])) _
          refine XS.iload X14.here hx rfl (hb hby at_145) rfl ?_
          show Steps p.tables e below (T14.setTop (mkF m 147 #[lv q0, .second, lv q1, .second, iv p2, iv p3, iv bn, rv w_GRID, rv b2, rv b4, lv (own_mix (qs + (-7046029254386353131 : Int64))), .second, lv (own_mix ((qs + (-7046029254386353131 : Int64)) + (-7046029254386353131 : Int64))), .second, lv (own_mix (((qs + (-7046029254386353131 : Int64)) + (-7046029254386353131 : Int64)) + (-7046029254386353131 : Int64))), .second, lv (own_dr (own_mix (qs + (-7046029254386353131 : Int64)))), .second, lv (own_dr (own_mix ((qs + (-7046029254386353131 : Int64)) + (-7046029254386353131 : Int64)))), .second, lv rem, .second, lv (own_lf bn), .second, iv (((own_dr (own_mix (qs + (-7046029254386353131 : Int64)))) - ((own_dr (own_mix (qs + (-7046029254386353131 : Int64)))) / (bn.toInt64)) * (bn.toInt64)).toInt32), lv (own_mix ((qs + (-7046029254386353131 : Int64)) + (-7046029254386353131 : Int64))), .second] [(.int bn), (.long (own_dr (own_mix (qs + (-7046029254386353131 : Int64))))), (.int (((own_dr (own_mix (qs + (-7046029254386353131 : Int64)))) - ((own_dr (own_mix (qs + (-7046029254386353131 : Int64)))) / (bn.toInt64)) * (bn.toInt64)).toInt32))])) _
          refine XS.i2l X14.here hx rfl (hb hby at_147) rfl ?_
          show Steps p.tables e below (T14.setTop (mkF m 148 #[lv q0, .second, lv q1, .second, iv p2, iv p3, iv bn, rv w_GRID, rv b2, rv b4, lv (own_mix (qs + (-7046029254386353131 : Int64))), .second, lv (own_mix ((qs + (-7046029254386353131 : Int64)) + (-7046029254386353131 : Int64))), .second, lv (own_mix (((qs + (-7046029254386353131 : Int64)) + (-7046029254386353131 : Int64)) + (-7046029254386353131 : Int64))), .second, lv (own_dr (own_mix (qs + (-7046029254386353131 : Int64)))), .second, lv (own_dr (own_mix ((qs + (-7046029254386353131 : Int64)) + (-7046029254386353131 : Int64)))), .second, lv rem, .second, lv (own_lf bn), .second, iv (((own_dr (own_mix (qs + (-7046029254386353131 : Int64)))) - ((own_dr (own_mix (qs + (-7046029254386353131 : Int64)))) / (bn.toInt64)) * (bn.toInt64)).toInt32), lv (own_mix ((qs + (-7046029254386353131 : Int64)) + (-7046029254386353131 : Int64))), .second] [(.long (bn.toInt64)), (.long (own_dr (own_mix (qs + (-7046029254386353131 : Int64))))), (.int (((own_dr (own_mix (qs + (-7046029254386353131 : Int64)))) - ((own_dr (own_mix (qs + (-7046029254386353131 : Int64)))) / (bn.toInt64)) * (bn.toInt64)).toInt32))])) _
          refine XS.lrem X14.here hx rfl (hb hby at_148) rfl (own_nz hpos) ?_
          show Steps p.tables e below (T14.setTop (mkF m 149 #[lv q0, .second, lv q1, .second, iv p2, iv p3, iv bn, rv w_GRID, rv b2, rv b4, lv (own_mix (qs + (-7046029254386353131 : Int64))), .second, lv (own_mix ((qs + (-7046029254386353131 : Int64)) + (-7046029254386353131 : Int64))), .second, lv (own_mix (((qs + (-7046029254386353131 : Int64)) + (-7046029254386353131 : Int64)) + (-7046029254386353131 : Int64))), .second, lv (own_dr (own_mix (qs + (-7046029254386353131 : Int64)))), .second, lv (own_dr (own_mix ((qs + (-7046029254386353131 : Int64)) + (-7046029254386353131 : Int64)))), .second, lv rem, .second, lv (own_lf bn), .second, iv (((own_dr (own_mix (qs + (-7046029254386353131 : Int64)))) - ((own_dr (own_mix (qs + (-7046029254386353131 : Int64)))) / (bn.toInt64)) * (bn.toInt64)).toInt32), lv (own_mix ((qs + (-7046029254386353131 : Int64)) + (-7046029254386353131 : Int64))), .second] [(.long ((own_dr (own_mix (qs + (-7046029254386353131 : Int64)))) - ((own_dr (own_mix (qs + (-7046029254386353131 : Int64)))) / (bn.toInt64)) * (bn.toInt64))), (.int (((own_dr (own_mix (qs + (-7046029254386353131 : Int64)))) - ((own_dr (own_mix (qs + (-7046029254386353131 : Int64)))) / (bn.toInt64)) * (bn.toInt64)).toInt32))])) _
          refine XS.l2i X14.here hx rfl (hb hby at_149) rfl ?_
          show Steps p.tables e below (T14.setTop (mkF m 150 #[lv q0, .second, lv q1, .second, iv p2, iv p3, iv bn, rv w_GRID, rv b2, rv b4, lv (own_mix (qs + (-7046029254386353131 : Int64))), .second, lv (own_mix ((qs + (-7046029254386353131 : Int64)) + (-7046029254386353131 : Int64))), .second, lv (own_mix (((qs + (-7046029254386353131 : Int64)) + (-7046029254386353131 : Int64)) + (-7046029254386353131 : Int64))), .second, lv (own_dr (own_mix (qs + (-7046029254386353131 : Int64)))), .second, lv (own_dr (own_mix ((qs + (-7046029254386353131 : Int64)) + (-7046029254386353131 : Int64)))), .second, lv rem, .second, lv (own_lf bn), .second, iv (((own_dr (own_mix (qs + (-7046029254386353131 : Int64)))) - ((own_dr (own_mix (qs + (-7046029254386353131 : Int64)))) / (bn.toInt64)) * (bn.toInt64)).toInt32), lv (own_mix ((qs + (-7046029254386353131 : Int64)) + (-7046029254386353131 : Int64))), .second] [(.int (((own_dr (own_mix (qs + (-7046029254386353131 : Int64)))) - ((own_dr (own_mix (qs + (-7046029254386353131 : Int64)))) / (bn.toInt64)) * (bn.toInt64)).toInt32)), (.int (((own_dr (own_mix (qs + (-7046029254386353131 : Int64)))) - ((own_dr (own_mix (qs + (-7046029254386353131 : Int64)))) / (bn.toInt64)) * (bn.toInt64)).toInt32))])) _
          refine XS.icmpNo X14.here hx rfl (hb hby at_150) rfl (teq (rfl : (((own_dr (own_mix (qs + (-7046029254386353131 : Int64)))) - ((own_dr (own_mix (qs + (-7046029254386353131 : Int64)))) / (bn.toInt64)) * (bn.toInt64)).toInt32) = (((own_dr (own_mix (qs + (-7046029254386353131 : Int64)))) - ((own_dr (own_mix (qs + (-7046029254386353131 : Int64)))) / (bn.toInt64)) * (bn.toInt64)).toInt32))).2 ?_
          show Steps p.tables e below (T14.setTop (mkF m 153 #[lv q0, .second, lv q1, .second, iv p2, iv p3, iv bn, rv w_GRID, rv b2, rv b4, lv (own_mix (qs + (-7046029254386353131 : Int64))), .second, lv (own_mix ((qs + (-7046029254386353131 : Int64)) + (-7046029254386353131 : Int64))), .second, lv (own_mix (((qs + (-7046029254386353131 : Int64)) + (-7046029254386353131 : Int64)) + (-7046029254386353131 : Int64))), .second, lv (own_dr (own_mix (qs + (-7046029254386353131 : Int64)))), .second, lv (own_dr (own_mix ((qs + (-7046029254386353131 : Int64)) + (-7046029254386353131 : Int64)))), .second, lv rem, .second, lv (own_lf bn), .second, iv (((own_dr (own_mix (qs + (-7046029254386353131 : Int64)))) - ((own_dr (own_mix (qs + (-7046029254386353131 : Int64)))) / (bn.toInt64)) * (bn.toInt64)).toInt32), lv (own_mix ((qs + (-7046029254386353131 : Int64)) + (-7046029254386353131 : Int64))), .second] [])) _
          refine XS.lload X14.here hx rfl (hb hby at_153) rfl ?_
          show Steps p.tables e below (T14.setTop (mkF m 155 #[lv q0, .second, lv q1, .second, iv p2, iv p3, iv bn, rv w_GRID, rv b2, rv b4, lv (own_mix (qs + (-7046029254386353131 : Int64))), .second, lv (own_mix ((qs + (-7046029254386353131 : Int64)) + (-7046029254386353131 : Int64))), .second, lv (own_mix (((qs + (-7046029254386353131 : Int64)) + (-7046029254386353131 : Int64)) + (-7046029254386353131 : Int64))), .second, lv (own_dr (own_mix (qs + (-7046029254386353131 : Int64)))), .second, lv (own_dr (own_mix ((qs + (-7046029254386353131 : Int64)) + (-7046029254386353131 : Int64)))), .second, lv rem, .second, lv (own_lf bn), .second, iv (((own_dr (own_mix (qs + (-7046029254386353131 : Int64)))) - ((own_dr (own_mix (qs + (-7046029254386353131 : Int64)))) / (bn.toInt64)) * (bn.toInt64)).toInt32), lv (own_mix ((qs + (-7046029254386353131 : Int64)) + (-7046029254386353131 : Int64))), .second] [(.long (own_mix ((qs + (-7046029254386353131 : Int64)) + (-7046029254386353131 : Int64))))])) _
          refine XS.lload X14.here hx rfl (hb hby at_155) rfl ?_
          show Steps p.tables e below (T14.setTop (mkF m 157 #[lv q0, .second, lv q1, .second, iv p2, iv p3, iv bn, rv w_GRID, rv b2, rv b4, lv (own_mix (qs + (-7046029254386353131 : Int64))), .second, lv (own_mix ((qs + (-7046029254386353131 : Int64)) + (-7046029254386353131 : Int64))), .second, lv (own_mix (((qs + (-7046029254386353131 : Int64)) + (-7046029254386353131 : Int64)) + (-7046029254386353131 : Int64))), .second, lv (own_dr (own_mix (qs + (-7046029254386353131 : Int64)))), .second, lv (own_dr (own_mix ((qs + (-7046029254386353131 : Int64)) + (-7046029254386353131 : Int64)))), .second, lv rem, .second, lv (own_lf bn), .second, iv (((own_dr (own_mix (qs + (-7046029254386353131 : Int64)))) - ((own_dr (own_mix (qs + (-7046029254386353131 : Int64)))) / (bn.toInt64)) * (bn.toInt64)).toInt32), lv (own_mix ((qs + (-7046029254386353131 : Int64)) + (-7046029254386353131 : Int64))), .second] [(.long (own_mix ((qs + (-7046029254386353131 : Int64)) + (-7046029254386353131 : Int64)))), (.long (own_mix ((qs + (-7046029254386353131 : Int64)) + (-7046029254386353131 : Int64))))])) _
          refine XS.lcmp X14.here hx rfl (hb hby at_157) rfl ?_
          show Steps p.tables e below (T14.setTop (mkF m 158 #[lv q0, .second, lv q1, .second, iv p2, iv p3, iv bn, rv w_GRID, rv b2, rv b4, lv (own_mix (qs + (-7046029254386353131 : Int64))), .second, lv (own_mix ((qs + (-7046029254386353131 : Int64)) + (-7046029254386353131 : Int64))), .second, lv (own_mix (((qs + (-7046029254386353131 : Int64)) + (-7046029254386353131 : Int64)) + (-7046029254386353131 : Int64))), .second, lv (own_dr (own_mix (qs + (-7046029254386353131 : Int64)))), .second, lv (own_dr (own_mix ((qs + (-7046029254386353131 : Int64)) + (-7046029254386353131 : Int64)))), .second, lv rem, .second, lv (own_lf bn), .second, iv (((own_dr (own_mix (qs + (-7046029254386353131 : Int64)))) - ((own_dr (own_mix (qs + (-7046029254386353131 : Int64)))) / (bn.toInt64)) * (bn.toInt64)).toInt32), lv (own_mix ((qs + (-7046029254386353131 : Int64)) + (-7046029254386353131 : Int64))), .second] [(.int (lcmpW (own_mix ((qs + (-7046029254386353131 : Int64)) + (-7046029254386353131 : Int64))) (own_mix ((qs + (-7046029254386353131 : Int64)) + (-7046029254386353131 : Int64)))))])) _
          refine XS.ifNo X14.here hx rfl (hb hby at_158) rfl ((if0 _ _).trans (teq ((lw_eq (own_mix ((qs + (-7046029254386353131 : Int64)) + (-7046029254386353131 : Int64))) (own_mix ((qs + (-7046029254386353131 : Int64)) + (-7046029254386353131 : Int64)))).mpr rfl)).2) ?_
          show Steps p.tables e below (T14.setTop (mkF m 161 #[lv q0, .second, lv q1, .second, iv p2, iv p3, iv bn, rv w_GRID, rv b2, rv b4, lv (own_mix (qs + (-7046029254386353131 : Int64))), .second, lv (own_mix ((qs + (-7046029254386353131 : Int64)) + (-7046029254386353131 : Int64))), .second, lv (own_mix (((qs + (-7046029254386353131 : Int64)) + (-7046029254386353131 : Int64)) + (-7046029254386353131 : Int64))), .second, lv (own_dr (own_mix (qs + (-7046029254386353131 : Int64)))), .second, lv (own_dr (own_mix ((qs + (-7046029254386353131 : Int64)) + (-7046029254386353131 : Int64)))), .second, lv rem, .second, lv (own_lf bn), .second, iv (((own_dr (own_mix (qs + (-7046029254386353131 : Int64)))) - ((own_dr (own_mix (qs + (-7046029254386353131 : Int64)))) / (bn.toInt64)) * (bn.toInt64)).toInt32), lv (own_mix ((qs + (-7046029254386353131 : Int64)) + (-7046029254386353131 : Int64))), .second] [])) _
          refine XS.iconst X14.here hx rfl (hb hby at_161) ?_
          show Steps p.tables e below (T14.setTop (mkF m 162 #[lv q0, .second, lv q1, .second, iv p2, iv p3, iv bn, rv w_GRID, rv b2, rv b4, lv (own_mix (qs + (-7046029254386353131 : Int64))), .second, lv (own_mix ((qs + (-7046029254386353131 : Int64)) + (-7046029254386353131 : Int64))), .second, lv (own_mix (((qs + (-7046029254386353131 : Int64)) + (-7046029254386353131 : Int64)) + (-7046029254386353131 : Int64))), .second, lv (own_dr (own_mix (qs + (-7046029254386353131 : Int64)))), .second, lv (own_dr (own_mix ((qs + (-7046029254386353131 : Int64)) + (-7046029254386353131 : Int64)))), .second, lv rem, .second, lv (own_lf bn), .second, iv (((own_dr (own_mix (qs + (-7046029254386353131 : Int64)))) - ((own_dr (own_mix (qs + (-7046029254386353131 : Int64)))) / (bn.toInt64)) * (bn.toInt64)).toInt32), lv (own_mix ((qs + (-7046029254386353131 : Int64)) + (-7046029254386353131 : Int64))), .second] [(.int (1 : Int32))])) _
          refine XS.goto X14.here hx rfl (pc0 := 162) (pc' := 166) rfl (hb hby at_162) (by decide) (by decide) ?_
          exact k
        obtain ⟨fs, hr, hrun, hended, hW, hsame⟩ := X14.leave (v := some (.int (1 : Int32))) (fun h => by rw [Bd.returns] at h; cases h)
        refine Go.fin (S' := T14.setFrames fs) ?_ hrun hended ⟨_, _, rfl, ?_, ⟨_, rfl⟩, hW, hsame.mono (by decide) (by decide)⟩
        · exact retOut X14 hx Bd.returns (by decide) (Or.inl ⟨rfl, Or.inr (Or.inl rfl), _, rfl⟩) (hb hby at_166) hr
        · show Q_rm0 Z q0 q1 p2 p3 w_GRID w_REMOVAL h0 n0 (some (.int (1 : Int32))) T14.heap _
          exact ⟨rfl, N14, K⟩
    · skip
      refine Go.step (S' := s₁.setTop (mkF m 28 #[lv q0, .second, lv q1, .second, iv p2, iv p3, iv bn, u_, u_, u_, u_, u_, u_, u_, u_, u_, u_, u_, u_, u_, u_, u_, u_, u_, u_, u_, u_] [])) (fun t k => ?_) ?_
      · show Steps p.tables e below (s₁.setTop (mkF m 19 #[lv q0, .second, lv q1, .second, iv p2, iv p3, iv bn, u_, u_, u_, u_, u_, u_, u_, u_, u_, u_, u_, u_, u_, u_, u_, u_, u_, u_, u_, u_] [(.int (p2 &&& (1 : Int32)))])) _
        refine XS.ifYes X0.here hx rfl (pc0 := 19) (pc' := 28) rfl (hb hby at_19) rfl ((if0 _ _).trans (feq (hc19 : ¬ ((p2 &&& (1 : Int32)) = (0 : Int32)))).2) (by decide) (by decide) ?_
        exact k
      obtain ⟨T15, X15, e15, st15⟩ := getS2 X0 hx hZ hown (host := "") (Or.inl (own_w hw 38 rfl)) Via.refl e0 (S_REMOVAL.ext O.2) (g := (mkF m 28 #[lv q0, .second, lv q1, .second, iv p2, iv p3, iv bn, u_, u_, u_, u_, u_, u_, u_, u_, u_, u_, u_, u_, u_, u_, u_, u_, u_, u_, u_, u_] [])) rfl (hb hby at_28)
      refine Go.step st15 ?_
      show Go p e below _ (T15.setTop (mkF m 31 #[lv q0, .second, lv q1, .second, iv p2, iv p3, iv bn, u_, u_, u_, u_, u_, u_, u_, u_, u_, u_, u_, u_, u_, u_, u_, u_, u_, u_, u_, u_] [(.ref w_REMOVAL)]))
      refine Go.step (S' := T15.setTop (mkF m 33 #[lv q0, .second, lv q1, .second, iv p2, iv p3, iv bn, rv w_REMOVAL, u_, u_, u_, u_, u_, u_, u_, u_, u_, u_, u_, u_, u_, u_, u_, u_, u_, u_, u_] [])) (fun t k => ?_) ?_
      · show Steps p.tables e below (T15.setTop (mkF m 31 #[lv q0, .second, lv q1, .second, iv p2, iv p3, iv bn, u_, u_, u_, u_, u_, u_, u_, u_, u_, u_, u_, u_, u_, u_, u_, u_, u_, u_, u_, u_] [(.ref w_REMOVAL)])) _
        refine XS.astore X15.here hx rfl (hb hby at_31) rfl rfl (l' := #[lv q0, .second, lv q1, .second, iv p2, iv p3, iv bn, rv w_REMOVAL, u_, u_, u_, u_, u_, u_, u_, u_, u_, u_, u_, u_, u_, u_, u_, u_, u_, u_, u_]) rfl ?_
        exact k
      obtain ⟨T16, h16, X16, e16, E16, A16, D16, -, st16⟩ := newO X15 hx hZ hown (own_w hw 4 rfl) (own_w hw 5 rfl) (own_w hw 6 rfl) e15 (g := (mkF m 33 #[lv q0, .second, lv q1, .second, iv p2, iv p3, iv bn, rv w_REMOVAL, u_, u_, u_, u_, u_, u_, u_, u_, u_, u_, u_, u_, u_, u_, u_, u_, u_, u_, u_] [])) rfl (hb hby at_33) (by decide) (by decide)
      obtain ⟨b16, g16⟩ : ∃ z, z = Array.size h0 := ⟨_, rfl⟩
      have g_b16 : n0 ≤ b16 := Nat.le_trans (old_le O) (Nat.le_of_eq g16.symm)
      have sz_b16 : h0.size ≤ b16 := Nat.le_trans K.1 (Nat.le_of_eq g16.symm)
      rw [← g16] at A16 D16 st16
      have O := O.ext E16
      have K := K.ext E16
      have E_b16 := A16
      have F_state_b16 : Fld Z h16 b16 "org/ninefold/service/SeededRandom" "state" "J" (.long (0 : Int64)) := D16 (Or.inl (own_w hw 22 rfl)) (ty := .long) (by decide)
      refine Go.step st16 ?_
      show Go p e below _ (T16.setTop (mkF m 36 #[lv q0, .second, lv q1, .second, iv p2, iv p3, iv bn, rv w_REMOVAL, u_, u_, u_, u_, u_, u_, u_, u_, u_, u_, u_, u_, u_, u_, u_, u_, u_, u_, u_] [(.ref b16)]))
      refine Go.step (S' := T16.setTop (mkF m 41 #[lv q0, .second, lv q1, .second, iv p2, iv p3, iv bn, rv w_REMOVAL, u_, u_, u_, u_, u_, u_, u_, u_, u_, u_, u_, u_, u_, u_, u_, u_, u_, u_, u_] [(.ref w_REMOVAL), (.long q1), (.long q0), (.ref b16), (.ref b16)])) (fun t k => ?_) ?_
      · show Steps p.tables e below (T16.setTop (mkF m 36 #[lv q0, .second, lv q1, .second, iv p2, iv p3, iv bn, rv w_REMOVAL, u_, u_, u_, u_, u_, u_, u_, u_, u_, u_, u_, u_, u_, u_, u_, u_, u_, u_, u_] [(.ref b16)])) _
        refine XS.dup X16.here hx rfl (hb hby at_36) rfl rfl ?_
        show Steps p.tables e below (T16.setTop (mkF m 37 #[lv q0, .second, lv q1, .second, iv p2, iv p3, iv bn, rv w_REMOVAL, u_, u_, u_, u_, u_, u_, u_, u_, u_, u_, u_, u_, u_, u_, u_, u_, u_, u_, u_] [(.ref b16), (.ref b16)])) _
        refine XS.lloadN X16.here hx rfl (hb hby at_37) rfl ?_
        show Steps p.tables e below (T16.setTop (mkF m 38 #[lv q0, .second, lv q1, .second, iv p2, iv p3, iv bn, rv w_REMOVAL, u_, u_, u_, u_, u_, u_, u_, u_, u_, u_, u_, u_, u_, u_, u_, u_, u_, u_, u_] [(.long q0), (.ref b16), (.ref b16)])) _
        refine XS.lloadN X16.here hx rfl (hb hby at_38) rfl ?_
        show Steps p.tables e below (T16.setTop (mkF m 39 #[lv q0, .second, lv q1, .second, iv p2, iv p3, iv bn, rv w_REMOVAL, u_, u_, u_, u_, u_, u_, u_, u_, u_, u_, u_, u_, u_, u_, u_, u_, u_, u_, u_] [(.long q1), (.long q0), (.ref b16), (.ref b16)])) _
        refine XS.aload X16.here hx rfl (hb hby at_39) rfl rfl ?_
        exact k
      obtain ⟨_, _, ⟨T17, L17, k17, n17⟩, -, X17, ⟨Lc17, hQ17, l17, y17, z17⟩, st17⟩ := X16.specialBack hx (y := (⟨"org/ninefold/service/SeededRandom", "<init>", "(JJLorg/ninefold/service/SeededRandom$Purpose;)V"⟩ : MethodName)) rfl hown (mvT hZ (own_w hw 7 rfl)) (mvT hZ (own_w hw 8 rfl)) (mvT hZ (own_w hw 9 rfl)) (by decide) (backOf (W := 1) (rmInit l Z a0 hw [] b16 q0 q1 w_REMOVAL (6238072747940578789 : Int64) h16 n0 O E_b16 F_state_b16 F_key_REMOVAL (by assumption)) hZ (own_w hw 9 rfl) (own_w hw 6 rfl) (by decide) (by decide)) (g := (mkF m 41 #[lv q0, .second, lv q1, .second, iv p2, iv p3, iv bn, rv w_REMOVAL, u_, u_, u_, u_, u_, u_, u_, u_, u_, u_, u_, u_, u_, u_, u_, u_, u_, u_, u_] [(.ref w_REMOVAL), (.long q1), (.long q0), (.ref b16), (.ref b16)])) rfl (by rw [hml]; rfl) (Steps.refl _) (a := b16) (argsL := [(.long q0), (.long q1), (.ref w_REMOVAL)]) (rest := [(.ref b16)]) (lenOf pd__28JJLorg_2fninefold_2fservice_2fSeededRandom_24Purpose_3b_29V rfl) rfl (by show 2 * 0 + _ ≤ _; exact Nat.le_of_eq rfl) (hb hby at_41) (fun _ _ => ⟨rfl, e16, (by decide : 1 + 0 ≤ _), (by decide : 1 + 0 ≤ _)⟩)
      dsimp only [Pt.U, Pt.locs, Pt.cells, Pt.slots] at X17 l17 y17 z17 st17 hQ17
      subst l17 y17 z17
      obtain ⟨rfl, Nq17, K17, P17_E, P17_F⟩ := hQ17
      have N17 := Fr.app N0 Nq17
      have O := O.keep K17 (allS g_b16 all0)
      have K := K.trans K17 (allS (Or.inr sz_b16) all0)
      have E_b16 := E_b16.keep K17
      have E_17 := P17_E
      have F_17 := P17_F
      refine Go.step (fun t k => st17.trans k) ?_
      show Go p e below _ (T17.setTop (mkF m 44 #[lv q0, .second, lv q1, .second, iv p2, iv p3, iv bn, rv w_REMOVAL, u_, u_, u_, u_, u_, u_, u_, u_, u_, u_, u_, u_, u_, u_, u_, u_, u_, u_, u_] [(.ref b16)]))
      obtain ⟨qs, hqs⟩ : ∃ z : Int64, (own_mix (((own_mix q0) ^^^ (6238072747940578789 : Int64)) + ((-7046029254386353131 : Int64) * q1))) = z := ⟨_, rfl⟩
      rw [hqs] at F_17
      refine Go.step (S' := T17.setTop (mkF m 46 #[lv q0, .second, lv q1, .second, iv p2, iv p3, iv bn, rv w_REMOVAL, rv b16, u_, u_, u_, u_, u_, u_, u_, u_, u_, u_, u_, u_, u_, u_, u_, u_, u_, u_] [])) (fun t k => ?_) ?_
      · show Steps p.tables e below (T17.setTop (mkF m 44 #[lv q0, .second, lv q1, .second, iv p2, iv p3, iv bn, rv w_REMOVAL, u_, u_, u_, u_, u_, u_, u_, u_, u_, u_, u_, u_, u_, u_, u_, u_, u_, u_, u_] [(.ref b16)])) _
        refine XS.astore X17.here hx rfl (hb hby at_44) rfl rfl (l' := #[lv q0, .second, lv q1, .second, iv p2, iv p3, iv bn, rv w_REMOVAL, rv b16, u_, u_, u_, u_, u_, u_, u_, u_, u_, u_, u_, u_, u_, u_, u_, u_, u_, u_]) rfl ?_
        exact k
      obtain ⟨T18, h18, X18, e18, E18, A18, D18, -, st18⟩ := newO X17 hx hZ hown (own_w hw 4 rfl) (own_w hw 5 rfl) (own_w hw 6 rfl) (Eq.refl T17.heap) (g := (mkF m 46 #[lv q0, .second, lv q1, .second, iv p2, iv p3, iv bn, rv w_REMOVAL, rv b16, u_, u_, u_, u_, u_, u_, u_, u_, u_, u_, u_, u_, u_, u_, u_, u_, u_, u_] [])) rfl (hb hby at_46) (by decide) (by decide)
      obtain ⟨b18, g18⟩ : ∃ z, z = Array.size T17.heap := ⟨_, rfl⟩
      have g_b18 : n0 ≤ b18 := Nat.le_trans (old_le O) (Nat.le_of_eq g18.symm)
      have sz_b18 : h0.size ≤ b18 := Nat.le_trans K.1 (Nat.le_of_eq g18.symm)
      have ne_b16_b18 : b16 ≠ b18 := Nat.ne_of_lt (Nat.lt_of_lt_of_le E_b16.lt (Nat.le_of_eq g18.symm))
      rw [← g18] at A18 D18 st18
      have O := O.ext E18
      have K := K.ext E18
      have E_b16 := E_b16.ext E18
      have E_17 := E_17.ext E18
      have F_17 := F_17.ext E18
      have E_b18 := A18
      have F_state_b18 : Fld Z h18 b18 "org/ninefold/service/SeededRandom" "state" "J" (.long (0 : Int64)) := D18 (Or.inl (own_w hw 22 rfl)) (ty := .long) (by decide)
      refine Go.step st18 ?_
      show Go p e below _ (T18.setTop (mkF m 49 #[lv q0, .second, lv q1, .second, iv p2, iv p3, iv bn, rv w_REMOVAL, rv b16, u_, u_, u_, u_, u_, u_, u_, u_, u_, u_, u_, u_, u_, u_, u_, u_, u_, u_] [(.ref b18)]))
      refine Go.step (S' := T18.setTop (mkF m 54 #[lv q0, .second, lv q1, .second, iv p2, iv p3, iv bn, rv w_REMOVAL, rv b16, u_, u_, u_, u_, u_, u_, u_, u_, u_, u_, u_, u_, u_, u_, u_, u_, u_, u_] [(.ref w_REMOVAL), (.long q1), (.long q0), (.ref b18), (.ref b18)])) (fun t k => ?_) ?_
      · show Steps p.tables e below (T18.setTop (mkF m 49 #[lv q0, .second, lv q1, .second, iv p2, iv p3, iv bn, rv w_REMOVAL, rv b16, u_, u_, u_, u_, u_, u_, u_, u_, u_, u_, u_, u_, u_, u_, u_, u_, u_, u_] [(.ref b18)])) _
        refine XS.dup X18.here hx rfl (hb hby at_49) rfl rfl ?_
        show Steps p.tables e below (T18.setTop (mkF m 50 #[lv q0, .second, lv q1, .second, iv p2, iv p3, iv bn, rv w_REMOVAL, rv b16, u_, u_, u_, u_, u_, u_, u_, u_, u_, u_, u_, u_, u_, u_, u_, u_, u_, u_] [(.ref b18), (.ref b18)])) _
        refine XS.lloadN X18.here hx rfl (hb hby at_50) rfl ?_
        show Steps p.tables e below (T18.setTop (mkF m 51 #[lv q0, .second, lv q1, .second, iv p2, iv p3, iv bn, rv w_REMOVAL, rv b16, u_, u_, u_, u_, u_, u_, u_, u_, u_, u_, u_, u_, u_, u_, u_, u_, u_, u_] [(.long q0), (.ref b18), (.ref b18)])) _
        refine XS.lloadN X18.here hx rfl (hb hby at_51) rfl ?_
        show Steps p.tables e below (T18.setTop (mkF m 52 #[lv q0, .second, lv q1, .second, iv p2, iv p3, iv bn, rv w_REMOVAL, rv b16, u_, u_, u_, u_, u_, u_, u_, u_, u_, u_, u_, u_, u_, u_, u_, u_, u_, u_] [(.long q1), (.long q0), (.ref b18), (.ref b18)])) _
        refine XS.aload X18.here hx rfl (hb hby at_52) rfl rfl ?_
        exact k
      obtain ⟨_, _, ⟨T19, L19, k19, n19⟩, -, X19, ⟨Lc19, hQ19, l19, y19, z19⟩, st19⟩ := X18.specialBack hx (y := (⟨"org/ninefold/service/SeededRandom", "<init>", "(JJLorg/ninefold/service/SeededRandom$Purpose;)V"⟩ : MethodName)) rfl hown (mvT hZ (own_w hw 7 rfl)) (mvT hZ (own_w hw 8 rfl)) (mvT hZ (own_w hw 9 rfl)) (by decide) (backOf (W := 1) (rmInit l Z a0 hw [] b18 q0 q1 w_REMOVAL (6238072747940578789 : Int64) h18 n0 O E_b18 F_state_b18 F_key_REMOVAL (by assumption)) hZ (own_w hw 9 rfl) (own_w hw 6 rfl) (by decide) (by decide)) (g := (mkF m 54 #[lv q0, .second, lv q1, .second, iv p2, iv p3, iv bn, rv w_REMOVAL, rv b16, u_, u_, u_, u_, u_, u_, u_, u_, u_, u_, u_, u_, u_, u_, u_, u_, u_, u_] [(.ref w_REMOVAL), (.long q1), (.long q0), (.ref b18), (.ref b18)])) rfl (by rw [hml]; rfl) (Steps.refl _) (a := b18) (argsL := [(.long q0), (.long q1), (.ref w_REMOVAL)]) (rest := [(.ref b18)]) (lenOf pd__28JJLorg_2fninefold_2fservice_2fSeededRandom_24Purpose_3b_29V rfl) rfl (by show 2 * 0 + _ ≤ _; exact Nat.le_of_eq rfl) (hb hby at_54) (fun _ _ => ⟨rfl, e18, (by decide : 2 + 0 ≤ _), (by decide : 2 + 0 ≤ _)⟩)
      dsimp only [Pt.U, Pt.locs, Pt.cells, Pt.slots] at X19 l19 y19 z19 st19 hQ19
      subst l19 y19 z19
      obtain ⟨rfl, Nq19, K19, P19_E, P19_F⟩ := hQ19
      have N19 := Fr.app N17 Nq19
      have O := O.keep K19 (allS g_b18 all0)
      have K := K.trans K19 (allS (Or.inr sz_b18) all0)
      have E_b16 := E_b16.keep K19
      have E_17 := E_17.keep K19
      have F_17 := F_17.keep K19 (ninS ne_b16_b18 nin0)
      have E_b18 := E_b18.keep K19
      have E_19 := P19_E
      have F_19 := P19_F
      refine Go.step (fun t k => st19.trans k) ?_
      show Go p e below _ (T19.setTop (mkF m 57 #[lv q0, .second, lv q1, .second, iv p2, iv p3, iv bn, rv w_REMOVAL, rv b16, u_, u_, u_, u_, u_, u_, u_, u_, u_, u_, u_, u_, u_, u_, u_, u_, u_, u_] [(.ref b18)]))
      rw [hqs] at F_19
      refine Go.step (S' := T19.setTop (mkF m 61 #[lv q0, .second, lv q1, .second, iv p2, iv p3, iv bn, rv w_REMOVAL, rv b16, rv b18, u_, u_, u_, u_, u_, u_, u_, u_, u_, u_, u_, u_, u_, u_, u_, u_, u_] [(.ref b18)])) (fun t k => ?_) ?_
      · show Steps p.tables e below (T19.setTop (mkF m 57 #[lv q0, .second, lv q1, .second, iv p2, iv p3, iv bn, rv w_REMOVAL, rv b16, u_, u_, u_, u_, u_, u_, u_, u_, u_, u_, u_, u_, u_, u_, u_, u_, u_, u_] [(.ref b18)])) _
        refine XS.astore X19.here hx rfl (hb hby at_57) rfl rfl (l' := #[lv q0, .second, lv q1, .second, iv p2, iv p3, iv bn, rv w_REMOVAL, rv b16, rv b18, u_, u_, u_, u_, u_, u_, u_, u_, u_, u_, u_, u_, u_, u_, u_, u_, u_]) rfl ?_
        show Steps p.tables e below (T19.setTop (mkF m 59 #[lv q0, .second, lv q1, .second, iv p2, iv p3, iv bn, rv w_REMOVAL, rv b16, rv b18, u_, u_, u_, u_, u_, u_, u_, u_, u_, u_, u_, u_, u_, u_, u_, u_, u_] [])) _
        refine XS.aload X19.here hx rfl (hb hby at_59) rfl rfl ?_
        exact k
      obtain ⟨cq20, kq20, q20a, q20b, q20c⟩ := isOf hZ (Eq.refl T19.heap) E_b18
      obtain ⟨_, _, ⟨T20, L20, k20, n20⟩, -, X20, ⟨Lc20, hQ20, l20, y20, z20⟩, st20⟩ := X19.virtualBack hx (y := (⟨"org/ninefold/service/SeededRandom", "nextLong", "()J"⟩ : MethodName)) (z := (⟨"org/ninefold/service/SeededRandom", "nextLong", "()J"⟩ : MethodName)) hown (mvT hZ (own_w hw 23 rfl)) (mvT hZ (own_w hw 24 rfl)) (notFace_of_selects (args := #[]) (mvT hZ (own_w hw 26 rfl))) (mvT hZ (own_w hw 26 rfl)) (mvT hZ (own_w hw 25 rfl)) (by decide) (backOf (W := 0) (rmNL l Z a0 hw [] b18 qs T19.heap n0 O E_b18 F_19 (by assumption)) hZ (own_w hw 27 rfl) (own_w hw 6 rfl) (by decide) (by decide)) q20a q20c (g := (mkF m 61 #[lv q0, .second, lv q1, .second, iv p2, iv p3, iv bn, rv w_REMOVAL, rv b16, rv b18, u_, u_, u_, u_, u_, u_, u_, u_, u_, u_, u_, u_, u_, u_, u_, u_, u_] [(.ref b18)])) rfl (by rw [hml]; rfl) (Steps.refl _) (argsL := []) (rest := []) (lenOf pd__28_29J rfl) rfl (by show 2 * 0 + _ ≤ _; exact Nat.le_of_eq rfl) (hb hby at_61) (fun _ _ => ⟨rfl, (Eq.refl T19.heap), (by decide : 2 + 0 ≤ _), (by decide : 2 + 0 ≤ _)⟩)
      dsimp only [Pt.U, Pt.locs, Pt.cells, Pt.slots] at X20 l20 y20 z20 st20 hQ20
      subst l20 y20 z20
      obtain ⟨rfl, Nq20, K20, P20_E, P20_F⟩ := hQ20
      have N20 := Fr.app N19 Nq20
      have O := O.keep K20 (allS g_b18 all0)
      have K := K.trans K20 (allS (Or.inr sz_b18) all0)
      have E_b16 := E_b16.keep K20
      have E_17 := E_17.keep K20
      have F_17 := F_17.keep K20 (ninS ne_b16_b18 nin0)
      have E_b18 := E_b18.keep K20
      have E_19 := E_19.keep K20
      have E_20 := P20_E
      have F_20 := P20_F
      refine Go.step (fun t k => st20.trans k) ?_
      show Go p e below _ (T20.setTop (mkF m 64 #[lv q0, .second, lv q1, .second, iv p2, iv p3, iv bn, rv w_REMOVAL, rv b16, rv b18, u_, u_, u_, u_, u_, u_, u_, u_, u_, u_, u_, u_, u_, u_, u_, u_, u_] [(.long (own_mix (qs + (-7046029254386353131 : Int64))))]))
      refine Go.step (S' := T20.setTop (mkF m 68 #[lv q0, .second, lv q1, .second, iv p2, iv p3, iv bn, rv w_REMOVAL, rv b16, rv b18, lv (own_mix (qs + (-7046029254386353131 : Int64))), .second, u_, u_, u_, u_, u_, u_, u_, u_, u_, u_, u_, u_, u_, u_, u_] [(.ref b18)])) (fun t k => ?_) ?_
      · show Steps p.tables e below (T20.setTop (mkF m 64 #[lv q0, .second, lv q1, .second, iv p2, iv p3, iv bn, rv w_REMOVAL, rv b16, rv b18, u_, u_, u_, u_, u_, u_, u_, u_, u_, u_, u_, u_, u_, u_, u_, u_, u_] [(.long (own_mix (qs + (-7046029254386353131 : Int64))))])) _
        refine XS.lstore X20.here hx rfl (hb hby at_64) rfl (l' := #[lv q0, .second, lv q1, .second, iv p2, iv p3, iv bn, rv w_REMOVAL, rv b16, rv b18, lv (own_mix (qs + (-7046029254386353131 : Int64))), .second, u_, u_, u_, u_, u_, u_, u_, u_, u_, u_, u_, u_, u_, u_, u_]) rfl ?_
        show Steps p.tables e below (T20.setTop (mkF m 66 #[lv q0, .second, lv q1, .second, iv p2, iv p3, iv bn, rv w_REMOVAL, rv b16, rv b18, lv (own_mix (qs + (-7046029254386353131 : Int64))), .second, u_, u_, u_, u_, u_, u_, u_, u_, u_, u_, u_, u_, u_, u_, u_] [])) _
        refine XS.aload X20.here hx rfl (hb hby at_66) rfl rfl ?_
        exact k
      obtain ⟨cq21, kq21, q21a, q21b, q21c⟩ := isOf hZ (Eq.refl T20.heap) E_b18
      obtain ⟨_, _, ⟨T21, L21, k21, n21⟩, -, X21, ⟨Lc21, hQ21, l21, y21, z21⟩, st21⟩ := X20.virtualBack hx (y := (⟨"org/ninefold/service/SeededRandom", "nextLong", "()J"⟩ : MethodName)) (z := (⟨"org/ninefold/service/SeededRandom", "nextLong", "()J"⟩ : MethodName)) hown (mvT hZ (own_w hw 23 rfl)) (mvT hZ (own_w hw 24 rfl)) (notFace_of_selects (args := #[]) (mvT hZ (own_w hw 26 rfl))) (mvT hZ (own_w hw 26 rfl)) (mvT hZ (own_w hw 25 rfl)) (by decide) (backOf (W := 0) (rmNL l Z a0 hw [] b18 (qs + (-7046029254386353131 : Int64)) T20.heap n0 O E_b18 F_20 (by assumption)) hZ (own_w hw 27 rfl) (own_w hw 6 rfl) (by decide) (by decide)) q21a q21c (g := (mkF m 68 #[lv q0, .second, lv q1, .second, iv p2, iv p3, iv bn, rv w_REMOVAL, rv b16, rv b18, lv (own_mix (qs + (-7046029254386353131 : Int64))), .second, u_, u_, u_, u_, u_, u_, u_, u_, u_, u_, u_, u_, u_, u_, u_] [(.ref b18)])) rfl (by rw [hml]; rfl) (Steps.refl _) (argsL := []) (rest := []) (lenOf pd__28_29J rfl) rfl (by show 2 * 0 + _ ≤ _; exact Nat.le_of_eq rfl) (hb hby at_68) (fun _ _ => ⟨rfl, (Eq.refl T20.heap), (by decide : 2 + 0 ≤ _), (by decide : 2 + 0 ≤ _)⟩)
      dsimp only [Pt.U, Pt.locs, Pt.cells, Pt.slots] at X21 l21 y21 z21 st21 hQ21
      subst l21 y21 z21
      obtain ⟨rfl, Nq21, K21, P21_E, P21_F⟩ := hQ21
      have N21 := Fr.app N20 Nq21
      have O := O.keep K21 (allS g_b18 all0)
      have K := K.trans K21 (allS (Or.inr sz_b18) all0)
      have E_b16 := E_b16.keep K21
      have E_17 := E_17.keep K21
      have F_17 := F_17.keep K21 (ninS ne_b16_b18 nin0)
      have E_b18 := E_b18.keep K21
      have E_19 := E_19.keep K21
      have E_20 := E_20.keep K21
      have E_21 := P21_E
      have F_21 := P21_F
      refine Go.step (fun t k => st21.trans k) ?_
      show Go p e below _ (T21.setTop (mkF m 71 #[lv q0, .second, lv q1, .second, iv p2, iv p3, iv bn, rv w_REMOVAL, rv b16, rv b18, lv (own_mix (qs + (-7046029254386353131 : Int64))), .second, u_, u_, u_, u_, u_, u_, u_, u_, u_, u_, u_, u_, u_, u_, u_] [(.long (own_mix ((qs + (-7046029254386353131 : Int64)) + (-7046029254386353131 : Int64))))]))
      refine Go.step (S' := T21.setTop (mkF m 75 #[lv q0, .second, lv q1, .second, iv p2, iv p3, iv bn, rv w_REMOVAL, rv b16, rv b18, lv (own_mix (qs + (-7046029254386353131 : Int64))), .second, lv (own_mix ((qs + (-7046029254386353131 : Int64)) + (-7046029254386353131 : Int64))), .second, u_, u_, u_, u_, u_, u_, u_, u_, u_, u_, u_, u_, u_] [(.ref b18)])) (fun t k => ?_) ?_
      · show Steps p.tables e below (T21.setTop (mkF m 71 #[lv q0, .second, lv q1, .second, iv p2, iv p3, iv bn, rv w_REMOVAL, rv b16, rv b18, lv (own_mix (qs + (-7046029254386353131 : Int64))), .second, u_, u_, u_, u_, u_, u_, u_, u_, u_, u_, u_, u_, u_, u_, u_] [(.long (own_mix ((qs + (-7046029254386353131 : Int64)) + (-7046029254386353131 : Int64))))])) _
        refine XS.lstore X21.here hx rfl (hb hby at_71) rfl (l' := #[lv q0, .second, lv q1, .second, iv p2, iv p3, iv bn, rv w_REMOVAL, rv b16, rv b18, lv (own_mix (qs + (-7046029254386353131 : Int64))), .second, lv (own_mix ((qs + (-7046029254386353131 : Int64)) + (-7046029254386353131 : Int64))), .second, u_, u_, u_, u_, u_, u_, u_, u_, u_, u_, u_, u_, u_]) rfl ?_
        show Steps p.tables e below (T21.setTop (mkF m 73 #[lv q0, .second, lv q1, .second, iv p2, iv p3, iv bn, rv w_REMOVAL, rv b16, rv b18, lv (own_mix (qs + (-7046029254386353131 : Int64))), .second, lv (own_mix ((qs + (-7046029254386353131 : Int64)) + (-7046029254386353131 : Int64))), .second, u_, u_, u_, u_, u_, u_, u_, u_, u_, u_, u_, u_, u_] [])) _
        refine XS.aload X21.here hx rfl (hb hby at_73) rfl rfl ?_
        exact k
      obtain ⟨cq22, kq22, q22a, q22b, q22c⟩ := isOf hZ (Eq.refl T21.heap) E_b18
      obtain ⟨_, _, ⟨T22, L22, k22, n22⟩, -, X22, ⟨Lc22, hQ22, l22, y22, z22⟩, st22⟩ := X21.virtualBack hx (y := (⟨"org/ninefold/service/SeededRandom", "nextLong", "()J"⟩ : MethodName)) (z := (⟨"org/ninefold/service/SeededRandom", "nextLong", "()J"⟩ : MethodName)) hown (mvT hZ (own_w hw 23 rfl)) (mvT hZ (own_w hw 24 rfl)) (notFace_of_selects (args := #[]) (mvT hZ (own_w hw 26 rfl))) (mvT hZ (own_w hw 26 rfl)) (mvT hZ (own_w hw 25 rfl)) (by decide) (backOf (W := 0) (rmNL l Z a0 hw [] b18 ((qs + (-7046029254386353131 : Int64)) + (-7046029254386353131 : Int64)) T21.heap n0 O E_b18 F_21 (by assumption)) hZ (own_w hw 27 rfl) (own_w hw 6 rfl) (by decide) (by decide)) q22a q22c (g := (mkF m 75 #[lv q0, .second, lv q1, .second, iv p2, iv p3, iv bn, rv w_REMOVAL, rv b16, rv b18, lv (own_mix (qs + (-7046029254386353131 : Int64))), .second, lv (own_mix ((qs + (-7046029254386353131 : Int64)) + (-7046029254386353131 : Int64))), .second, u_, u_, u_, u_, u_, u_, u_, u_, u_, u_, u_, u_, u_] [(.ref b18)])) rfl (by rw [hml]; rfl) (Steps.refl _) (argsL := []) (rest := []) (lenOf pd__28_29J rfl) rfl (by show 2 * 0 + _ ≤ _; exact Nat.le_of_eq rfl) (hb hby at_75) (fun _ _ => ⟨rfl, (Eq.refl T21.heap), (by decide : 2 + 0 ≤ _), (by decide : 2 + 0 ≤ _)⟩)
      dsimp only [Pt.U, Pt.locs, Pt.cells, Pt.slots] at X22 l22 y22 z22 st22 hQ22
      subst l22 y22 z22
      obtain ⟨rfl, Nq22, K22, P22_E, P22_F⟩ := hQ22
      have N22 := Fr.app N21 Nq22
      have O := O.keep K22 (allS g_b18 all0)
      have K := K.trans K22 (allS (Or.inr sz_b18) all0)
      have E_b16 := E_b16.keep K22
      have E_17 := E_17.keep K22
      have F_17 := F_17.keep K22 (ninS ne_b16_b18 nin0)
      have E_b18 := E_b18.keep K22
      have E_19 := E_19.keep K22
      have E_20 := E_20.keep K22
      have E_21 := E_21.keep K22
      have E_22 := P22_E
      have F_22 := P22_F
      refine Go.step (fun t k => st22.trans k) ?_
      show Go p e below _ (T22.setTop (mkF m 78 #[lv q0, .second, lv q1, .second, iv p2, iv p3, iv bn, rv w_REMOVAL, rv b16, rv b18, lv (own_mix (qs + (-7046029254386353131 : Int64))), .second, lv (own_mix ((qs + (-7046029254386353131 : Int64)) + (-7046029254386353131 : Int64))), .second, u_, u_, u_, u_, u_, u_, u_, u_, u_, u_, u_, u_, u_] [(.long (own_mix (((qs + (-7046029254386353131 : Int64)) + (-7046029254386353131 : Int64)) + (-7046029254386353131 : Int64))))]))
      refine Go.step (S' := T22.setTop (mkF m 86 #[lv q0, .second, lv q1, .second, iv p2, iv p3, iv bn, rv w_REMOVAL, rv b16, rv b18, lv (own_mix (qs + (-7046029254386353131 : Int64))), .second, lv (own_mix ((qs + (-7046029254386353131 : Int64)) + (-7046029254386353131 : Int64))), .second, lv (own_mix (((qs + (-7046029254386353131 : Int64)) + (-7046029254386353131 : Int64)) + (-7046029254386353131 : Int64))), .second, lv (((own_mix (qs + (-7046029254386353131 : Int64))).toUInt64 >>> ((1 : Int32) &&& 0x3f).toInt64.toUInt64).toInt64), .second, u_, u_, u_, u_, u_, u_, u_, u_, u_] [])) (fun t k => ?_) ?_
      · show Steps p.tables e below (T22.setTop (mkF m 78 #[lv q0, .second, lv q1, .second, iv p2, iv p3, iv bn, rv w_REMOVAL, rv b16, rv b18, lv (own_mix (qs + (-7046029254386353131 : Int64))), .second, lv (own_mix ((qs + (-7046029254386353131 : Int64)) + (-7046029254386353131 : Int64))), .second, u_, u_, u_, u_, u_, u_, u_, u_, u_, u_, u_, u_, u_] [(.long (own_mix (((qs + (-7046029254386353131 : Int64)) + (-7046029254386353131 : Int64)) + (-7046029254386353131 : Int64))))])) _
        refine XS.lstore X22.here hx rfl (hb hby at_78) rfl (l' := #[lv q0, .second, lv q1, .second, iv p2, iv p3, iv bn, rv w_REMOVAL, rv b16, rv b18, lv (own_mix (qs + (-7046029254386353131 : Int64))), .second, lv (own_mix ((qs + (-7046029254386353131 : Int64)) + (-7046029254386353131 : Int64))), .second, lv (own_mix (((qs + (-7046029254386353131 : Int64)) + (-7046029254386353131 : Int64)) + (-7046029254386353131 : Int64))), .second, u_, u_, u_, u_, u_, u_, u_, u_, u_, u_, u_]) rfl ?_
        show Steps p.tables e below (T22.setTop (mkF m 80 #[lv q0, .second, lv q1, .second, iv p2, iv p3, iv bn, rv w_REMOVAL, rv b16, rv b18, lv (own_mix (qs + (-7046029254386353131 : Int64))), .second, lv (own_mix ((qs + (-7046029254386353131 : Int64)) + (-7046029254386353131 : Int64))), .second, lv (own_mix (((qs + (-7046029254386353131 : Int64)) + (-7046029254386353131 : Int64)) + (-7046029254386353131 : Int64))), .second, u_, u_, u_, u_, u_, u_, u_, u_, u_, u_, u_] [])) _
        refine XS.lload X22.here hx rfl (hb hby at_80) rfl ?_
        show Steps p.tables e below (T22.setTop (mkF m 82 #[lv q0, .second, lv q1, .second, iv p2, iv p3, iv bn, rv w_REMOVAL, rv b16, rv b18, lv (own_mix (qs + (-7046029254386353131 : Int64))), .second, lv (own_mix ((qs + (-7046029254386353131 : Int64)) + (-7046029254386353131 : Int64))), .second, lv (own_mix (((qs + (-7046029254386353131 : Int64)) + (-7046029254386353131 : Int64)) + (-7046029254386353131 : Int64))), .second, u_, u_, u_, u_, u_, u_, u_, u_, u_, u_, u_] [(.long (own_mix (qs + (-7046029254386353131 : Int64))))])) _
        refine XS.iconst X22.here hx rfl (hb hby at_82) ?_
        show Steps p.tables e below (T22.setTop (mkF m 83 #[lv q0, .second, lv q1, .second, iv p2, iv p3, iv bn, rv w_REMOVAL, rv b16, rv b18, lv (own_mix (qs + (-7046029254386353131 : Int64))), .second, lv (own_mix ((qs + (-7046029254386353131 : Int64)) + (-7046029254386353131 : Int64))), .second, lv (own_mix (((qs + (-7046029254386353131 : Int64)) + (-7046029254386353131 : Int64)) + (-7046029254386353131 : Int64))), .second, u_, u_, u_, u_, u_, u_, u_, u_, u_, u_, u_] [(.int (1 : Int32)), (.long (own_mix (qs + (-7046029254386353131 : Int64))))])) _
        refine XS.lushr X22.here hx rfl (hb hby at_83) rfl ?_
        show Steps p.tables e below (T22.setTop (mkF m 84 #[lv q0, .second, lv q1, .second, iv p2, iv p3, iv bn, rv w_REMOVAL, rv b16, rv b18, lv (own_mix (qs + (-7046029254386353131 : Int64))), .second, lv (own_mix ((qs + (-7046029254386353131 : Int64)) + (-7046029254386353131 : Int64))), .second, lv (own_mix (((qs + (-7046029254386353131 : Int64)) + (-7046029254386353131 : Int64)) + (-7046029254386353131 : Int64))), .second, u_, u_, u_, u_, u_, u_, u_, u_, u_, u_, u_] [(.long (((own_mix (qs + (-7046029254386353131 : Int64))).toUInt64 >>> ((1 : Int32) &&& 0x3f).toInt64.toUInt64).toInt64))])) _
        refine XS.lstore X22.here hx rfl (hb hby at_84) rfl (l' := #[lv q0, .second, lv q1, .second, iv p2, iv p3, iv bn, rv w_REMOVAL, rv b16, rv b18, lv (own_mix (qs + (-7046029254386353131 : Int64))), .second, lv (own_mix ((qs + (-7046029254386353131 : Int64)) + (-7046029254386353131 : Int64))), .second, lv (own_mix (((qs + (-7046029254386353131 : Int64)) + (-7046029254386353131 : Int64)) + (-7046029254386353131 : Int64))), .second, lv (((own_mix (qs + (-7046029254386353131 : Int64))).toUInt64 >>> ((1 : Int32) &&& 0x3f).toInt64.toUInt64).toInt64), .second, u_, u_, u_, u_, u_, u_, u_, u_, u_]) rfl ?_
        exact k
      rw [(rfl : (((own_mix (qs + (-7046029254386353131 : Int64))).toUInt64 >>> ((1 : Int32) &&& 0x3f).toInt64.toUInt64).toInt64) = (own_dr (own_mix (qs + (-7046029254386353131 : Int64)))))]
      show Go p e below _ (T22.setTop (mkF m 86 #[lv q0, .second, lv q1, .second, iv p2, iv p3, iv bn, rv w_REMOVAL, rv b16, rv b18, lv (own_mix (qs + (-7046029254386353131 : Int64))), .second, lv (own_mix ((qs + (-7046029254386353131 : Int64)) + (-7046029254386353131 : Int64))), .second, lv (own_mix (((qs + (-7046029254386353131 : Int64)) + (-7046029254386353131 : Int64)) + (-7046029254386353131 : Int64))), .second, lv (own_dr (own_mix (qs + (-7046029254386353131 : Int64)))), .second, u_, u_, u_, u_, u_, u_, u_, u_, u_] []))
      refine Go.step (S' := T22.setTop (mkF m 92 #[lv q0, .second, lv q1, .second, iv p2, iv p3, iv bn, rv w_REMOVAL, rv b16, rv b18, lv (own_mix (qs + (-7046029254386353131 : Int64))), .second, lv (own_mix ((qs + (-7046029254386353131 : Int64)) + (-7046029254386353131 : Int64))), .second, lv (own_mix (((qs + (-7046029254386353131 : Int64)) + (-7046029254386353131 : Int64)) + (-7046029254386353131 : Int64))), .second, lv (own_dr (own_mix (qs + (-7046029254386353131 : Int64)))), .second, lv (((own_mix ((qs + (-7046029254386353131 : Int64)) + (-7046029254386353131 : Int64))).toUInt64 >>> ((1 : Int32) &&& 0x3f).toInt64.toUInt64).toInt64), .second, u_, u_, u_, u_, u_, u_, u_] [])) (fun t k => ?_) ?_
      · show Steps p.tables e below (T22.setTop (mkF m 86 #[lv q0, .second, lv q1, .second, iv p2, iv p3, iv bn, rv w_REMOVAL, rv b16, rv b18, lv (own_mix (qs + (-7046029254386353131 : Int64))), .second, lv (own_mix ((qs + (-7046029254386353131 : Int64)) + (-7046029254386353131 : Int64))), .second, lv (own_mix (((qs + (-7046029254386353131 : Int64)) + (-7046029254386353131 : Int64)) + (-7046029254386353131 : Int64))), .second, lv (own_dr (own_mix (qs + (-7046029254386353131 : Int64)))), .second, u_, u_, u_, u_, u_, u_, u_, u_, u_] [])) _
        refine XS.lload X22.here hx rfl (hb hby at_86) rfl ?_
        show Steps p.tables e below (T22.setTop (mkF m 88 #[lv q0, .second, lv q1, .second, iv p2, iv p3, iv bn, rv w_REMOVAL, rv b16, rv b18, lv (own_mix (qs + (-7046029254386353131 : Int64))), .second, lv (own_mix ((qs + (-7046029254386353131 : Int64)) + (-7046029254386353131 : Int64))), .second, lv (own_mix (((qs + (-7046029254386353131 : Int64)) + (-7046029254386353131 : Int64)) + (-7046029254386353131 : Int64))), .second, lv (own_dr (own_mix (qs + (-7046029254386353131 : Int64)))), .second, u_, u_, u_, u_, u_, u_, u_, u_, u_] [(.long (own_mix ((qs + (-7046029254386353131 : Int64)) + (-7046029254386353131 : Int64))))])) _
        refine XS.iconst X22.here hx rfl (hb hby at_88) ?_
        show Steps p.tables e below (T22.setTop (mkF m 89 #[lv q0, .second, lv q1, .second, iv p2, iv p3, iv bn, rv w_REMOVAL, rv b16, rv b18, lv (own_mix (qs + (-7046029254386353131 : Int64))), .second, lv (own_mix ((qs + (-7046029254386353131 : Int64)) + (-7046029254386353131 : Int64))), .second, lv (own_mix (((qs + (-7046029254386353131 : Int64)) + (-7046029254386353131 : Int64)) + (-7046029254386353131 : Int64))), .second, lv (own_dr (own_mix (qs + (-7046029254386353131 : Int64)))), .second, u_, u_, u_, u_, u_, u_, u_, u_, u_] [(.int (1 : Int32)), (.long (own_mix ((qs + (-7046029254386353131 : Int64)) + (-7046029254386353131 : Int64))))])) _
        refine XS.lushr X22.here hx rfl (hb hby at_89) rfl ?_
        show Steps p.tables e below (T22.setTop (mkF m 90 #[lv q0, .second, lv q1, .second, iv p2, iv p3, iv bn, rv w_REMOVAL, rv b16, rv b18, lv (own_mix (qs + (-7046029254386353131 : Int64))), .second, lv (own_mix ((qs + (-7046029254386353131 : Int64)) + (-7046029254386353131 : Int64))), .second, lv (own_mix (((qs + (-7046029254386353131 : Int64)) + (-7046029254386353131 : Int64)) + (-7046029254386353131 : Int64))), .second, lv (own_dr (own_mix (qs + (-7046029254386353131 : Int64)))), .second, u_, u_, u_, u_, u_, u_, u_, u_, u_] [(.long (((own_mix ((qs + (-7046029254386353131 : Int64)) + (-7046029254386353131 : Int64))).toUInt64 >>> ((1 : Int32) &&& 0x3f).toInt64.toUInt64).toInt64))])) _
        refine XS.lstore X22.here hx rfl (hb hby at_90) rfl (l' := #[lv q0, .second, lv q1, .second, iv p2, iv p3, iv bn, rv w_REMOVAL, rv b16, rv b18, lv (own_mix (qs + (-7046029254386353131 : Int64))), .second, lv (own_mix ((qs + (-7046029254386353131 : Int64)) + (-7046029254386353131 : Int64))), .second, lv (own_mix (((qs + (-7046029254386353131 : Int64)) + (-7046029254386353131 : Int64)) + (-7046029254386353131 : Int64))), .second, lv (own_dr (own_mix (qs + (-7046029254386353131 : Int64)))), .second, lv (((own_mix ((qs + (-7046029254386353131 : Int64)) + (-7046029254386353131 : Int64))).toUInt64 >>> ((1 : Int32) &&& 0x3f).toInt64.toUInt64).toInt64), .second, u_, u_, u_, u_, u_, u_, u_]) rfl ?_
        exact k
      rw [(rfl : (((own_mix ((qs + (-7046029254386353131 : Int64)) + (-7046029254386353131 : Int64))).toUInt64 >>> ((1 : Int32) &&& 0x3f).toInt64.toUInt64).toInt64) = (own_dr (own_mix ((qs + (-7046029254386353131 : Int64)) + (-7046029254386353131 : Int64)))))]
      show Go p e below _ (T22.setTop (mkF m 92 #[lv q0, .second, lv q1, .second, iv p2, iv p3, iv bn, rv w_REMOVAL, rv b16, rv b18, lv (own_mix (qs + (-7046029254386353131 : Int64))), .second, lv (own_mix ((qs + (-7046029254386353131 : Int64)) + (-7046029254386353131 : Int64))), .second, lv (own_mix (((qs + (-7046029254386353131 : Int64)) + (-7046029254386353131 : Int64)) + (-7046029254386353131 : Int64))), .second, lv (own_dr (own_mix (qs + (-7046029254386353131 : Int64)))), .second, lv (own_dr (own_mix ((qs + (-7046029254386353131 : Int64)) + (-7046029254386353131 : Int64)))), .second, u_, u_, u_, u_, u_, u_, u_] []))
      refine Go.step (S' := T22.setTop (mkF m 109 #[lv q0, .second, lv q1, .second, iv p2, iv p3, iv bn, rv w_REMOVAL, rv b16, rv b18, lv (own_mix (qs + (-7046029254386353131 : Int64))), .second, lv (own_mix ((qs + (-7046029254386353131 : Int64)) + (-7046029254386353131 : Int64))), .second, lv (own_mix (((qs + (-7046029254386353131 : Int64)) + (-7046029254386353131 : Int64)) + (-7046029254386353131 : Int64))), .second, lv (own_dr (own_mix (qs + (-7046029254386353131 : Int64)))), .second, lv (own_dr (own_mix ((qs + (-7046029254386353131 : Int64)) + (-7046029254386353131 : Int64)))), .second, lv ((((4611686018427387904 : Int64) - ((4611686018427387904 : Int64) / (bn.toInt64)) * (bn.toInt64)) * (2 : Int64)) - ((((4611686018427387904 : Int64) - ((4611686018427387904 : Int64) / (bn.toInt64)) * (bn.toInt64)) * (2 : Int64)) / (bn.toInt64)) * (bn.toInt64)), .second, u_, u_, u_, u_, u_] [])) (fun t k => ?_) ?_
      · show Steps p.tables e below (T22.setTop (mkF m 92 #[lv q0, .second, lv q1, .second, iv p2, iv p3, iv bn, rv w_REMOVAL, rv b16, rv b18, lv (own_mix (qs + (-7046029254386353131 : Int64))), .second, lv (own_mix ((qs + (-7046029254386353131 : Int64)) + (-7046029254386353131 : Int64))), .second, lv (own_mix (((qs + (-7046029254386353131 : Int64)) + (-7046029254386353131 : Int64)) + (-7046029254386353131 : Int64))), .second, lv (own_dr (own_mix (qs + (-7046029254386353131 : Int64)))), .second, lv (own_dr (own_mix ((qs + (-7046029254386353131 : Int64)) + (-7046029254386353131 : Int64)))), .second, u_, u_, u_, u_, u_, u_, u_] [])) _
        refine X22.ldc2Long hx hown (mvT hZ (own_w hw 28 rfl)) (g := (mkF m 92 #[lv q0, .second, lv q1, .second, iv p2, iv p3, iv bn, rv w_REMOVAL, rv b16, rv b18, lv (own_mix (qs + (-7046029254386353131 : Int64))), .second, lv (own_mix ((qs + (-7046029254386353131 : Int64)) + (-7046029254386353131 : Int64))), .second, lv (own_mix (((qs + (-7046029254386353131 : Int64)) + (-7046029254386353131 : Int64)) + (-7046029254386353131 : Int64))), .second, lv (own_dr (own_mix (qs + (-7046029254386353131 : Int64)))), .second, lv (own_dr (own_mix ((qs + (-7046029254386353131 : Int64)) + (-7046029254386353131 : Int64)))), .second, u_, u_, u_, u_, u_, u_, u_] [])) rfl (hb hby at_92) _ ?_
        show Steps p.tables e below (T22.setTop (mkF m 95 #[lv q0, .second, lv q1, .second, iv p2, iv p3, iv bn, rv w_REMOVAL, rv b16, rv b18, lv (own_mix (qs + (-7046029254386353131 : Int64))), .second, lv (own_mix ((qs + (-7046029254386353131 : Int64)) + (-7046029254386353131 : Int64))), .second, lv (own_mix (((qs + (-7046029254386353131 : Int64)) + (-7046029254386353131 : Int64)) + (-7046029254386353131 : Int64))), .second, lv (own_dr (own_mix (qs + (-7046029254386353131 : Int64)))), .second, lv (own_dr (own_mix ((qs + (-7046029254386353131 : Int64)) + (-7046029254386353131 : Int64)))), .second, u_, u_, u_, u_, u_, u_, u_] [(.long (4611686018427387904 : Int64))])) _
        refine XS.iload X22.here hx rfl (hb hby at_95) rfl ?_
        show Steps p.tables e below (T22.setTop (mkF m 97 #[lv q0, .second, lv q1, .second, iv p2, iv p3, iv bn, rv w_REMOVAL, rv b16, rv b18, lv (own_mix (qs + (-7046029254386353131 : Int64))), .second, lv (own_mix ((qs + (-7046029254386353131 : Int64)) + (-7046029254386353131 : Int64))), .second, lv (own_mix (((qs + (-7046029254386353131 : Int64)) + (-7046029254386353131 : Int64)) + (-7046029254386353131 : Int64))), .second, lv (own_dr (own_mix (qs + (-7046029254386353131 : Int64)))), .second, lv (own_dr (own_mix ((qs + (-7046029254386353131 : Int64)) + (-7046029254386353131 : Int64)))), .second, u_, u_, u_, u_, u_, u_, u_] [(.int bn), (.long (4611686018427387904 : Int64))])) _
        refine XS.i2l X22.here hx rfl (hb hby at_97) rfl ?_
        show Steps p.tables e below (T22.setTop (mkF m 98 #[lv q0, .second, lv q1, .second, iv p2, iv p3, iv bn, rv w_REMOVAL, rv b16, rv b18, lv (own_mix (qs + (-7046029254386353131 : Int64))), .second, lv (own_mix ((qs + (-7046029254386353131 : Int64)) + (-7046029254386353131 : Int64))), .second, lv (own_mix (((qs + (-7046029254386353131 : Int64)) + (-7046029254386353131 : Int64)) + (-7046029254386353131 : Int64))), .second, lv (own_dr (own_mix (qs + (-7046029254386353131 : Int64)))), .second, lv (own_dr (own_mix ((qs + (-7046029254386353131 : Int64)) + (-7046029254386353131 : Int64)))), .second, u_, u_, u_, u_, u_, u_, u_] [(.long (bn.toInt64)), (.long (4611686018427387904 : Int64))])) _
        refine XS.lrem X22.here hx rfl (hb hby at_98) rfl (own_nz hpos) ?_
        show Steps p.tables e below (T22.setTop (mkF m 99 #[lv q0, .second, lv q1, .second, iv p2, iv p3, iv bn, rv w_REMOVAL, rv b16, rv b18, lv (own_mix (qs + (-7046029254386353131 : Int64))), .second, lv (own_mix ((qs + (-7046029254386353131 : Int64)) + (-7046029254386353131 : Int64))), .second, lv (own_mix (((qs + (-7046029254386353131 : Int64)) + (-7046029254386353131 : Int64)) + (-7046029254386353131 : Int64))), .second, lv (own_dr (own_mix (qs + (-7046029254386353131 : Int64)))), .second, lv (own_dr (own_mix ((qs + (-7046029254386353131 : Int64)) + (-7046029254386353131 : Int64)))), .second, u_, u_, u_, u_, u_, u_, u_] [(.long ((4611686018427387904 : Int64) - ((4611686018427387904 : Int64) / (bn.toInt64)) * (bn.toInt64)))])) _
        refine X22.ldc2Long hx hown (mvT hZ (own_w hw 29 rfl)) (g := (mkF m 99 #[lv q0, .second, lv q1, .second, iv p2, iv p3, iv bn, rv w_REMOVAL, rv b16, rv b18, lv (own_mix (qs + (-7046029254386353131 : Int64))), .second, lv (own_mix ((qs + (-7046029254386353131 : Int64)) + (-7046029254386353131 : Int64))), .second, lv (own_mix (((qs + (-7046029254386353131 : Int64)) + (-7046029254386353131 : Int64)) + (-7046029254386353131 : Int64))), .second, lv (own_dr (own_mix (qs + (-7046029254386353131 : Int64)))), .second, lv (own_dr (own_mix ((qs + (-7046029254386353131 : Int64)) + (-7046029254386353131 : Int64)))), .second, u_, u_, u_, u_, u_, u_, u_] [(.long ((4611686018427387904 : Int64) - ((4611686018427387904 : Int64) / (bn.toInt64)) * (bn.toInt64)))])) rfl (hb hby at_99) _ ?_
        show Steps p.tables e below (T22.setTop (mkF m 102 #[lv q0, .second, lv q1, .second, iv p2, iv p3, iv bn, rv w_REMOVAL, rv b16, rv b18, lv (own_mix (qs + (-7046029254386353131 : Int64))), .second, lv (own_mix ((qs + (-7046029254386353131 : Int64)) + (-7046029254386353131 : Int64))), .second, lv (own_mix (((qs + (-7046029254386353131 : Int64)) + (-7046029254386353131 : Int64)) + (-7046029254386353131 : Int64))), .second, lv (own_dr (own_mix (qs + (-7046029254386353131 : Int64)))), .second, lv (own_dr (own_mix ((qs + (-7046029254386353131 : Int64)) + (-7046029254386353131 : Int64)))), .second, u_, u_, u_, u_, u_, u_, u_] [(.long (2 : Int64)), (.long ((4611686018427387904 : Int64) - ((4611686018427387904 : Int64) / (bn.toInt64)) * (bn.toInt64)))])) _
        refine XS.lmul X22.here hx rfl (hb hby at_102) rfl ?_
        show Steps p.tables e below (T22.setTop (mkF m 103 #[lv q0, .second, lv q1, .second, iv p2, iv p3, iv bn, rv w_REMOVAL, rv b16, rv b18, lv (own_mix (qs + (-7046029254386353131 : Int64))), .second, lv (own_mix ((qs + (-7046029254386353131 : Int64)) + (-7046029254386353131 : Int64))), .second, lv (own_mix (((qs + (-7046029254386353131 : Int64)) + (-7046029254386353131 : Int64)) + (-7046029254386353131 : Int64))), .second, lv (own_dr (own_mix (qs + (-7046029254386353131 : Int64)))), .second, lv (own_dr (own_mix ((qs + (-7046029254386353131 : Int64)) + (-7046029254386353131 : Int64)))), .second, u_, u_, u_, u_, u_, u_, u_] [(.long (((4611686018427387904 : Int64) - ((4611686018427387904 : Int64) / (bn.toInt64)) * (bn.toInt64)) * (2 : Int64)))])) _
        refine XS.iload X22.here hx rfl (hb hby at_103) rfl ?_
        show Steps p.tables e below (T22.setTop (mkF m 105 #[lv q0, .second, lv q1, .second, iv p2, iv p3, iv bn, rv w_REMOVAL, rv b16, rv b18, lv (own_mix (qs + (-7046029254386353131 : Int64))), .second, lv (own_mix ((qs + (-7046029254386353131 : Int64)) + (-7046029254386353131 : Int64))), .second, lv (own_mix (((qs + (-7046029254386353131 : Int64)) + (-7046029254386353131 : Int64)) + (-7046029254386353131 : Int64))), .second, lv (own_dr (own_mix (qs + (-7046029254386353131 : Int64)))), .second, lv (own_dr (own_mix ((qs + (-7046029254386353131 : Int64)) + (-7046029254386353131 : Int64)))), .second, u_, u_, u_, u_, u_, u_, u_] [(.int bn), (.long (((4611686018427387904 : Int64) - ((4611686018427387904 : Int64) / (bn.toInt64)) * (bn.toInt64)) * (2 : Int64)))])) _
        refine XS.i2l X22.here hx rfl (hb hby at_105) rfl ?_
        show Steps p.tables e below (T22.setTop (mkF m 106 #[lv q0, .second, lv q1, .second, iv p2, iv p3, iv bn, rv w_REMOVAL, rv b16, rv b18, lv (own_mix (qs + (-7046029254386353131 : Int64))), .second, lv (own_mix ((qs + (-7046029254386353131 : Int64)) + (-7046029254386353131 : Int64))), .second, lv (own_mix (((qs + (-7046029254386353131 : Int64)) + (-7046029254386353131 : Int64)) + (-7046029254386353131 : Int64))), .second, lv (own_dr (own_mix (qs + (-7046029254386353131 : Int64)))), .second, lv (own_dr (own_mix ((qs + (-7046029254386353131 : Int64)) + (-7046029254386353131 : Int64)))), .second, u_, u_, u_, u_, u_, u_, u_] [(.long (bn.toInt64)), (.long (((4611686018427387904 : Int64) - ((4611686018427387904 : Int64) / (bn.toInt64)) * (bn.toInt64)) * (2 : Int64)))])) _
        refine XS.lrem X22.here hx rfl (hb hby at_106) rfl (own_nz hpos) ?_
        show Steps p.tables e below (T22.setTop (mkF m 107 #[lv q0, .second, lv q1, .second, iv p2, iv p3, iv bn, rv w_REMOVAL, rv b16, rv b18, lv (own_mix (qs + (-7046029254386353131 : Int64))), .second, lv (own_mix ((qs + (-7046029254386353131 : Int64)) + (-7046029254386353131 : Int64))), .second, lv (own_mix (((qs + (-7046029254386353131 : Int64)) + (-7046029254386353131 : Int64)) + (-7046029254386353131 : Int64))), .second, lv (own_dr (own_mix (qs + (-7046029254386353131 : Int64)))), .second, lv (own_dr (own_mix ((qs + (-7046029254386353131 : Int64)) + (-7046029254386353131 : Int64)))), .second, u_, u_, u_, u_, u_, u_, u_] [(.long ((((4611686018427387904 : Int64) - ((4611686018427387904 : Int64) / (bn.toInt64)) * (bn.toInt64)) * (2 : Int64)) - ((((4611686018427387904 : Int64) - ((4611686018427387904 : Int64) / (bn.toInt64)) * (bn.toInt64)) * (2 : Int64)) / (bn.toInt64)) * (bn.toInt64)))])) _
        refine XS.lstore X22.here hx rfl (hb hby at_107) rfl (l' := #[lv q0, .second, lv q1, .second, iv p2, iv p3, iv bn, rv w_REMOVAL, rv b16, rv b18, lv (own_mix (qs + (-7046029254386353131 : Int64))), .second, lv (own_mix ((qs + (-7046029254386353131 : Int64)) + (-7046029254386353131 : Int64))), .second, lv (own_mix (((qs + (-7046029254386353131 : Int64)) + (-7046029254386353131 : Int64)) + (-7046029254386353131 : Int64))), .second, lv (own_dr (own_mix (qs + (-7046029254386353131 : Int64)))), .second, lv (own_dr (own_mix ((qs + (-7046029254386353131 : Int64)) + (-7046029254386353131 : Int64)))), .second, lv ((((4611686018427387904 : Int64) - ((4611686018427387904 : Int64) / (bn.toInt64)) * (bn.toInt64)) * (2 : Int64)) - ((((4611686018427387904 : Int64) - ((4611686018427387904 : Int64) / (bn.toInt64)) * (bn.toInt64)) * (2 : Int64)) / (bn.toInt64)) * (bn.toInt64)), .second, u_, u_, u_, u_, u_]) rfl ?_
        exact k
      obtain ⟨rem, hd_rem⟩ : ∃ z : Int64, ((((4611686018427387904 : Int64) - ((4611686018427387904 : Int64) / (bn.toInt64)) * (bn.toInt64)) * (2 : Int64)) - ((((4611686018427387904 : Int64) - ((4611686018427387904 : Int64) / (bn.toInt64)) * (bn.toInt64)) * (2 : Int64)) / (bn.toInt64)) * (bn.toInt64)) = z := ⟨_, rfl⟩
      rw [hd_rem]
      show Go p e below _ (T22.setTop (mkF m 109 #[lv q0, .second, lv q1, .second, iv p2, iv p3, iv bn, rv w_REMOVAL, rv b16, rv b18, lv (own_mix (qs + (-7046029254386353131 : Int64))), .second, lv (own_mix ((qs + (-7046029254386353131 : Int64)) + (-7046029254386353131 : Int64))), .second, lv (own_mix (((qs + (-7046029254386353131 : Int64)) + (-7046029254386353131 : Int64)) + (-7046029254386353131 : Int64))), .second, lv (own_dr (own_mix (qs + (-7046029254386353131 : Int64)))), .second, lv (own_dr (own_mix ((qs + (-7046029254386353131 : Int64)) + (-7046029254386353131 : Int64)))), .second, lv rem, .second, u_, u_, u_, u_, u_] []))
      refine Go.step (S' := T22.setTop (mkF m 117 #[lv q0, .second, lv q1, .second, iv p2, iv p3, iv bn, rv w_REMOVAL, rv b16, rv b18, lv (own_mix (qs + (-7046029254386353131 : Int64))), .second, lv (own_mix ((qs + (-7046029254386353131 : Int64)) + (-7046029254386353131 : Int64))), .second, lv (own_mix (((qs + (-7046029254386353131 : Int64)) + (-7046029254386353131 : Int64)) + (-7046029254386353131 : Int64))), .second, lv (own_dr (own_mix (qs + (-7046029254386353131 : Int64)))), .second, lv (own_dr (own_mix ((qs + (-7046029254386353131 : Int64)) + (-7046029254386353131 : Int64)))), .second, lv rem, .second, lv ((9223372036854775807 : Int64) - rem), .second, u_, u_, u_] [])) (fun t k => ?_) ?_
      · show Steps p.tables e below (T22.setTop (mkF m 109 #[lv q0, .second, lv q1, .second, iv p2, iv p3, iv bn, rv w_REMOVAL, rv b16, rv b18, lv (own_mix (qs + (-7046029254386353131 : Int64))), .second, lv (own_mix ((qs + (-7046029254386353131 : Int64)) + (-7046029254386353131 : Int64))), .second, lv (own_mix (((qs + (-7046029254386353131 : Int64)) + (-7046029254386353131 : Int64)) + (-7046029254386353131 : Int64))), .second, lv (own_dr (own_mix (qs + (-7046029254386353131 : Int64)))), .second, lv (own_dr (own_mix ((qs + (-7046029254386353131 : Int64)) + (-7046029254386353131 : Int64)))), .second, lv rem, .second, u_, u_, u_, u_, u_] [])) _
        refine X22.ldc2Long hx hown (mvT hZ (own_w hw 30 rfl)) (g := (mkF m 109 #[lv q0, .second, lv q1, .second, iv p2, iv p3, iv bn, rv w_REMOVAL, rv b16, rv b18, lv (own_mix (qs + (-7046029254386353131 : Int64))), .second, lv (own_mix ((qs + (-7046029254386353131 : Int64)) + (-7046029254386353131 : Int64))), .second, lv (own_mix (((qs + (-7046029254386353131 : Int64)) + (-7046029254386353131 : Int64)) + (-7046029254386353131 : Int64))), .second, lv (own_dr (own_mix (qs + (-7046029254386353131 : Int64)))), .second, lv (own_dr (own_mix ((qs + (-7046029254386353131 : Int64)) + (-7046029254386353131 : Int64)))), .second, lv rem, .second, u_, u_, u_, u_, u_] [])) rfl (hb hby at_109) _ ?_
        show Steps p.tables e below (T22.setTop (mkF m 112 #[lv q0, .second, lv q1, .second, iv p2, iv p3, iv bn, rv w_REMOVAL, rv b16, rv b18, lv (own_mix (qs + (-7046029254386353131 : Int64))), .second, lv (own_mix ((qs + (-7046029254386353131 : Int64)) + (-7046029254386353131 : Int64))), .second, lv (own_mix (((qs + (-7046029254386353131 : Int64)) + (-7046029254386353131 : Int64)) + (-7046029254386353131 : Int64))), .second, lv (own_dr (own_mix (qs + (-7046029254386353131 : Int64)))), .second, lv (own_dr (own_mix ((qs + (-7046029254386353131 : Int64)) + (-7046029254386353131 : Int64)))), .second, lv rem, .second, u_, u_, u_, u_, u_] [(.long (9223372036854775807 : Int64))])) _
        refine XS.lload X22.here hx rfl (hb hby at_112) rfl ?_
        show Steps p.tables e below (T22.setTop (mkF m 114 #[lv q0, .second, lv q1, .second, iv p2, iv p3, iv bn, rv w_REMOVAL, rv b16, rv b18, lv (own_mix (qs + (-7046029254386353131 : Int64))), .second, lv (own_mix ((qs + (-7046029254386353131 : Int64)) + (-7046029254386353131 : Int64))), .second, lv (own_mix (((qs + (-7046029254386353131 : Int64)) + (-7046029254386353131 : Int64)) + (-7046029254386353131 : Int64))), .second, lv (own_dr (own_mix (qs + (-7046029254386353131 : Int64)))), .second, lv (own_dr (own_mix ((qs + (-7046029254386353131 : Int64)) + (-7046029254386353131 : Int64)))), .second, lv rem, .second, u_, u_, u_, u_, u_] [(.long rem), (.long (9223372036854775807 : Int64))])) _
        refine XS.lsub X22.here hx rfl (hb hby at_114) rfl ?_
        show Steps p.tables e below (T22.setTop (mkF m 115 #[lv q0, .second, lv q1, .second, iv p2, iv p3, iv bn, rv w_REMOVAL, rv b16, rv b18, lv (own_mix (qs + (-7046029254386353131 : Int64))), .second, lv (own_mix ((qs + (-7046029254386353131 : Int64)) + (-7046029254386353131 : Int64))), .second, lv (own_mix (((qs + (-7046029254386353131 : Int64)) + (-7046029254386353131 : Int64)) + (-7046029254386353131 : Int64))), .second, lv (own_dr (own_mix (qs + (-7046029254386353131 : Int64)))), .second, lv (own_dr (own_mix ((qs + (-7046029254386353131 : Int64)) + (-7046029254386353131 : Int64)))), .second, lv rem, .second, u_, u_, u_, u_, u_] [(.long ((9223372036854775807 : Int64) - rem))])) _
        refine XS.lstore X22.here hx rfl (hb hby at_115) rfl (l' := #[lv q0, .second, lv q1, .second, iv p2, iv p3, iv bn, rv w_REMOVAL, rv b16, rv b18, lv (own_mix (qs + (-7046029254386353131 : Int64))), .second, lv (own_mix ((qs + (-7046029254386353131 : Int64)) + (-7046029254386353131 : Int64))), .second, lv (own_mix (((qs + (-7046029254386353131 : Int64)) + (-7046029254386353131 : Int64)) + (-7046029254386353131 : Int64))), .second, lv (own_dr (own_mix (qs + (-7046029254386353131 : Int64)))), .second, lv (own_dr (own_mix ((qs + (-7046029254386353131 : Int64)) + (-7046029254386353131 : Int64)))), .second, lv rem, .second, lv ((9223372036854775807 : Int64) - rem), .second, u_, u_, u_]) rfl ?_
        exact k
      rw [(own_last hpos hd_rem : ((9223372036854775807 : Int64) - rem) = (own_lf bn))]
      show Go p e below _ (T22.setTop (mkF m 117 #[lv q0, .second, lv q1, .second, iv p2, iv p3, iv bn, rv w_REMOVAL, rv b16, rv b18, lv (own_mix (qs + (-7046029254386353131 : Int64))), .second, lv (own_mix ((qs + (-7046029254386353131 : Int64)) + (-7046029254386353131 : Int64))), .second, lv (own_mix (((qs + (-7046029254386353131 : Int64)) + (-7046029254386353131 : Int64)) + (-7046029254386353131 : Int64))), .second, lv (own_dr (own_mix (qs + (-7046029254386353131 : Int64)))), .second, lv (own_dr (own_mix ((qs + (-7046029254386353131 : Int64)) + (-7046029254386353131 : Int64)))), .second, lv rem, .second, lv (own_lf bn), .second, u_, u_, u_] []))
      refine Go.step (S' := T22.setTop (mkF m 121 #[lv q0, .second, lv q1, .second, iv p2, iv p3, iv bn, rv w_REMOVAL, rv b16, rv b18, lv (own_mix (qs + (-7046029254386353131 : Int64))), .second, lv (own_mix ((qs + (-7046029254386353131 : Int64)) + (-7046029254386353131 : Int64))), .second, lv (own_mix (((qs + (-7046029254386353131 : Int64)) + (-7046029254386353131 : Int64)) + (-7046029254386353131 : Int64))), .second, lv (own_dr (own_mix (qs + (-7046029254386353131 : Int64)))), .second, lv (own_dr (own_mix ((qs + (-7046029254386353131 : Int64)) + (-7046029254386353131 : Int64)))), .second, lv rem, .second, lv (own_lf bn), .second, u_, u_, u_] [(.int bn), (.ref b16)])) (fun t k => ?_) ?_
      · show Steps p.tables e below (T22.setTop (mkF m 117 #[lv q0, .second, lv q1, .second, iv p2, iv p3, iv bn, rv w_REMOVAL, rv b16, rv b18, lv (own_mix (qs + (-7046029254386353131 : Int64))), .second, lv (own_mix ((qs + (-7046029254386353131 : Int64)) + (-7046029254386353131 : Int64))), .second, lv (own_mix (((qs + (-7046029254386353131 : Int64)) + (-7046029254386353131 : Int64)) + (-7046029254386353131 : Int64))), .second, lv (own_dr (own_mix (qs + (-7046029254386353131 : Int64)))), .second, lv (own_dr (own_mix ((qs + (-7046029254386353131 : Int64)) + (-7046029254386353131 : Int64)))), .second, lv rem, .second, lv (own_lf bn), .second, u_, u_, u_] [])) _
        refine XS.aload X22.here hx rfl (hb hby at_117) rfl rfl ?_
        show Steps p.tables e below (T22.setTop (mkF m 119 #[lv q0, .second, lv q1, .second, iv p2, iv p3, iv bn, rv w_REMOVAL, rv b16, rv b18, lv (own_mix (qs + (-7046029254386353131 : Int64))), .second, lv (own_mix ((qs + (-7046029254386353131 : Int64)) + (-7046029254386353131 : Int64))), .second, lv (own_mix (((qs + (-7046029254386353131 : Int64)) + (-7046029254386353131 : Int64)) + (-7046029254386353131 : Int64))), .second, lv (own_dr (own_mix (qs + (-7046029254386353131 : Int64)))), .second, lv (own_dr (own_mix ((qs + (-7046029254386353131 : Int64)) + (-7046029254386353131 : Int64)))), .second, lv rem, .second, lv (own_lf bn), .second, u_, u_, u_] [(.ref b16)])) _
        refine XS.iload X22.here hx rfl (hb hby at_119) rfl ?_
        exact k
      by_cases hA : (own_lf bn) < (own_dr (own_mix (qs + (-7046029254386353131 : Int64))))
      · skip
        by_cases hC : (own_lf bn) < (own_dr (own_mix ((qs + (-7046029254386353131 : Int64)) + (-7046029254386353131 : Int64))))
        · skip
          obtain ⟨cq23, kq23, q23a, q23b, q23c⟩ := isOf hZ (Eq.refl T22.heap) E_b16
          obtain ⟨_, _, ⟨T23, L23, k23, n23⟩, -, X23, ⟨Lc23, hQ23, l23, y23, z23⟩, st23⟩ := X22.virtualBack hx (y := (⟨"org/ninefold/service/SeededRandom", "nextInt", "(I)I"⟩ : MethodName)) (z := (⟨"org/ninefold/service/SeededRandom", "nextInt", "(I)I"⟩ : MethodName)) hown (mvT hZ (own_w hw 31 rfl)) (mvT hZ (own_w hw 32 rfl)) (notFace_of_selects (args := #[]) (mvT hZ (own_w hw 34 rfl))) (mvT hZ (own_w hw 34 rfl)) (mvT hZ (own_w hw 33 rfl)) (by decide) (backOf (W := 0) (rmNI l Z a0 hw [] b16 bn qs T22.heap n0 O E_b16 F_17 (by assumption) hpos) hZ (own_w hw 35 rfl) (own_w hw 6 rfl) (by decide) (by decide)) q23a q23c (g := (mkF m 121 #[lv q0, .second, lv q1, .second, iv p2, iv p3, iv bn, rv w_REMOVAL, rv b16, rv b18, lv (own_mix (qs + (-7046029254386353131 : Int64))), .second, lv (own_mix ((qs + (-7046029254386353131 : Int64)) + (-7046029254386353131 : Int64))), .second, lv (own_mix (((qs + (-7046029254386353131 : Int64)) + (-7046029254386353131 : Int64)) + (-7046029254386353131 : Int64))), .second, lv (own_dr (own_mix (qs + (-7046029254386353131 : Int64)))), .second, lv (own_dr (own_mix ((qs + (-7046029254386353131 : Int64)) + (-7046029254386353131 : Int64)))), .second, lv rem, .second, lv (own_lf bn), .second, u_, u_, u_] [(.int bn), (.ref b16)])) rfl (by rw [hml]; rfl) (Steps.refl _) (argsL := [(.int bn)]) (rest := []) (lenOf pd__28I_29I rfl) rfl (by show 2 * 0 + _ ≤ _; exact Nat.le_of_eq rfl) (hb hby at_121) (fun _ _ => ⟨rfl, (Eq.refl T22.heap), (by decide : 2 + 0 ≤ _), (by decide : 2 + 0 ≤ _)⟩)
          dsimp only [Pt.U, Pt.locs, Pt.cells, Pt.slots] at X23 l23 y23 z23 st23 hQ23
          subst l23 y23 z23
          obtain ⟨r_23, qq_23, rfl, Nq23, K23, P23_E, P23_F⟩ := hQ23
          have N23 := Fr.app N22 Nq23
          have O := O.keep K23 (allS g_b16 all0)
          have K := K.trans K23 (allS (Or.inr sz_b16) all0)
          have E_b16 := E_b16.keep K23
          have E_17 := E_17.keep K23
          have E_b18 := E_b18.keep K23
          have E_19 := E_19.keep K23
          have E_20 := E_20.keep K23
          have E_21 := E_21.keep K23
          have E_22 := E_22.keep K23
          have F_22 := F_22.keep K23 (ninS (Ne.symm ne_b16_b18) nin0)
          have E_23 := P23_E
          have F_23 := P23_F
          refine Go.step (fun t k => st23.trans k) ?_
          show Go p e below _ (T23.setTop (mkF m 124 #[lv q0, .second, lv q1, .second, iv p2, iv p3, iv bn, rv w_REMOVAL, rv b16, rv b18, lv (own_mix (qs + (-7046029254386353131 : Int64))), .second, lv (own_mix ((qs + (-7046029254386353131 : Int64)) + (-7046029254386353131 : Int64))), .second, lv (own_mix (((qs + (-7046029254386353131 : Int64)) + (-7046029254386353131 : Int64)) + (-7046029254386353131 : Int64))), .second, lv (own_dr (own_mix (qs + (-7046029254386353131 : Int64)))), .second, lv (own_dr (own_mix ((qs + (-7046029254386353131 : Int64)) + (-7046029254386353131 : Int64)))), .second, lv rem, .second, lv (own_lf bn), .second, u_, u_, u_] [(.int r_23)]))
          refine Go.step (S' := T23.setTop (mkF m 128 #[lv q0, .second, lv q1, .second, iv p2, iv p3, iv bn, rv w_REMOVAL, rv b16, rv b18, lv (own_mix (qs + (-7046029254386353131 : Int64))), .second, lv (own_mix ((qs + (-7046029254386353131 : Int64)) + (-7046029254386353131 : Int64))), .second, lv (own_mix (((qs + (-7046029254386353131 : Int64)) + (-7046029254386353131 : Int64)) + (-7046029254386353131 : Int64))), .second, lv (own_dr (own_mix (qs + (-7046029254386353131 : Int64)))), .second, lv (own_dr (own_mix ((qs + (-7046029254386353131 : Int64)) + (-7046029254386353131 : Int64)))), .second, lv rem, .second, lv (own_lf bn), .second, iv r_23, u_, u_] [(.ref b16)])) (fun t k => ?_) ?_
          · show Steps p.tables e below (T23.setTop (mkF m 124 #[lv q0, .second, lv q1, .second, iv p2, iv p3, iv bn, rv w_REMOVAL, rv b16, rv b18, lv (own_mix (qs + (-7046029254386353131 : Int64))), .second, lv (own_mix ((qs + (-7046029254386353131 : Int64)) + (-7046029254386353131 : Int64))), .second, lv (own_mix (((qs + (-7046029254386353131 : Int64)) + (-7046029254386353131 : Int64)) + (-7046029254386353131 : Int64))), .second, lv (own_dr (own_mix (qs + (-7046029254386353131 : Int64)))), .second, lv (own_dr (own_mix ((qs + (-7046029254386353131 : Int64)) + (-7046029254386353131 : Int64)))), .second, lv rem, .second, lv (own_lf bn), .second, u_, u_, u_] [(.int r_23)])) _
            refine XS.istore X23.here hx rfl (hb hby at_124) rfl (l' := #[lv q0, .second, lv q1, .second, iv p2, iv p3, iv bn, rv w_REMOVAL, rv b16, rv b18, lv (own_mix (qs + (-7046029254386353131 : Int64))), .second, lv (own_mix ((qs + (-7046029254386353131 : Int64)) + (-7046029254386353131 : Int64))), .second, lv (own_mix (((qs + (-7046029254386353131 : Int64)) + (-7046029254386353131 : Int64)) + (-7046029254386353131 : Int64))), .second, lv (own_dr (own_mix (qs + (-7046029254386353131 : Int64)))), .second, lv (own_dr (own_mix ((qs + (-7046029254386353131 : Int64)) + (-7046029254386353131 : Int64)))), .second, lv rem, .second, lv (own_lf bn), .second, iv r_23, u_, u_]) rfl ?_
            show Steps p.tables e below (T23.setTop (mkF m 126 #[lv q0, .second, lv q1, .second, iv p2, iv p3, iv bn, rv w_REMOVAL, rv b16, rv b18, lv (own_mix (qs + (-7046029254386353131 : Int64))), .second, lv (own_mix ((qs + (-7046029254386353131 : Int64)) + (-7046029254386353131 : Int64))), .second, lv (own_mix (((qs + (-7046029254386353131 : Int64)) + (-7046029254386353131 : Int64)) + (-7046029254386353131 : Int64))), .second, lv (own_dr (own_mix (qs + (-7046029254386353131 : Int64)))), .second, lv (own_dr (own_mix ((qs + (-7046029254386353131 : Int64)) + (-7046029254386353131 : Int64)))), .second, lv rem, .second, lv (own_lf bn), .second, iv r_23, u_, u_] [])) _
            refine XS.aload X23.here hx rfl (hb hby at_126) rfl rfl ?_
            exact k
          obtain ⟨cq24, kq24, q24a, q24b, q24c⟩ := isOf hZ (Eq.refl T23.heap) E_b16
          obtain ⟨_, _, ⟨T24, L24, k24, n24⟩, -, X24, ⟨Lc24, hQ24, l24, y24, z24⟩, st24⟩ := X23.virtualBack hx (y := (⟨"org/ninefold/service/SeededRandom", "nextLong", "()J"⟩ : MethodName)) (z := (⟨"org/ninefold/service/SeededRandom", "nextLong", "()J"⟩ : MethodName)) hown (mvT hZ (own_w hw 23 rfl)) (mvT hZ (own_w hw 24 rfl)) (notFace_of_selects (args := #[]) (mvT hZ (own_w hw 26 rfl))) (mvT hZ (own_w hw 26 rfl)) (mvT hZ (own_w hw 25 rfl)) (by decide) (backOf (W := 0) (rmNL l Z a0 hw [] b16 qq_23 T23.heap n0 O E_b16 F_23 (by assumption)) hZ (own_w hw 27 rfl) (own_w hw 6 rfl) (by decide) (by decide)) q24a q24c (g := (mkF m 128 #[lv q0, .second, lv q1, .second, iv p2, iv p3, iv bn, rv w_REMOVAL, rv b16, rv b18, lv (own_mix (qs + (-7046029254386353131 : Int64))), .second, lv (own_mix ((qs + (-7046029254386353131 : Int64)) + (-7046029254386353131 : Int64))), .second, lv (own_mix (((qs + (-7046029254386353131 : Int64)) + (-7046029254386353131 : Int64)) + (-7046029254386353131 : Int64))), .second, lv (own_dr (own_mix (qs + (-7046029254386353131 : Int64)))), .second, lv (own_dr (own_mix ((qs + (-7046029254386353131 : Int64)) + (-7046029254386353131 : Int64)))), .second, lv rem, .second, lv (own_lf bn), .second, iv r_23, u_, u_] [(.ref b16)])) rfl (by rw [hml]; rfl) (Steps.refl _) (argsL := []) (rest := []) (lenOf pd__28_29J rfl) rfl (by show 2 * 0 + _ ≤ _; exact Nat.le_of_eq rfl) (hb hby at_128) (fun _ _ => ⟨rfl, (Eq.refl T23.heap), (by decide : 2 + 0 ≤ _), (by decide : 2 + 0 ≤ _)⟩)
          dsimp only [Pt.U, Pt.locs, Pt.cells, Pt.slots] at X24 l24 y24 z24 st24 hQ24
          subst l24 y24 z24
          obtain ⟨rfl, Nq24, K24, P24_E, P24_F⟩ := hQ24
          have N24 := Fr.app N23 Nq24
          have O := O.keep K24 (allS g_b16 all0)
          have K := K.trans K24 (allS (Or.inr sz_b16) all0)
          have E_b16 := E_b16.keep K24
          have E_17 := E_17.keep K24
          have E_b18 := E_b18.keep K24
          have E_19 := E_19.keep K24
          have E_20 := E_20.keep K24
          have E_21 := E_21.keep K24
          have E_22 := E_22.keep K24
          have F_22 := F_22.keep K24 (ninS (Ne.symm ne_b16_b18) nin0)
          have E_23 := E_23.keep K24
          have E_24 := P24_E
          have F_24 := P24_F
          refine Go.step (fun t k => st24.trans k) ?_
          show Go p e below _ (T24.setTop (mkF m 131 #[lv q0, .second, lv q1, .second, iv p2, iv p3, iv bn, rv w_REMOVAL, rv b16, rv b18, lv (own_mix (qs + (-7046029254386353131 : Int64))), .second, lv (own_mix ((qs + (-7046029254386353131 : Int64)) + (-7046029254386353131 : Int64))), .second, lv (own_mix (((qs + (-7046029254386353131 : Int64)) + (-7046029254386353131 : Int64)) + (-7046029254386353131 : Int64))), .second, lv (own_dr (own_mix (qs + (-7046029254386353131 : Int64)))), .second, lv (own_dr (own_mix ((qs + (-7046029254386353131 : Int64)) + (-7046029254386353131 : Int64)))), .second, lv rem, .second, lv (own_lf bn), .second, iv r_23, u_, u_] [(.long (own_mix (qq_23 + (-7046029254386353131 : Int64))))]))
          refine Go.step (S' := T24.setTop (mkF m 202 #[lv q0, .second, lv q1, .second, iv p2, iv p3, iv bn, rv w_REMOVAL, rv b16, rv b18, lv (own_mix (qs + (-7046029254386353131 : Int64))), .second, lv (own_mix ((qs + (-7046029254386353131 : Int64)) + (-7046029254386353131 : Int64))), .second, lv (own_mix (((qs + (-7046029254386353131 : Int64)) + (-7046029254386353131 : Int64)) + (-7046029254386353131 : Int64))), .second, lv (own_dr (own_mix (qs + (-7046029254386353131 : Int64)))), .second, lv (own_dr (own_mix ((qs + (-7046029254386353131 : Int64)) + (-7046029254386353131 : Int64)))), .second, lv rem, .second, lv (own_lf bn), .second, iv r_23, lv (own_mix (qq_23 + (-7046029254386353131 : Int64))), .second] [(.int (1 : Int32))])) (fun t k => ?_) ?_
          · show Steps p.tables e below (T24.setTop (mkF m 131 #[lv q0, .second, lv q1, .second, iv p2, iv p3, iv bn, rv w_REMOVAL, rv b16, rv b18, lv (own_mix (qs + (-7046029254386353131 : Int64))), .second, lv (own_mix ((qs + (-7046029254386353131 : Int64)) + (-7046029254386353131 : Int64))), .second, lv (own_mix (((qs + (-7046029254386353131 : Int64)) + (-7046029254386353131 : Int64)) + (-7046029254386353131 : Int64))), .second, lv (own_dr (own_mix (qs + (-7046029254386353131 : Int64)))), .second, lv (own_dr (own_mix ((qs + (-7046029254386353131 : Int64)) + (-7046029254386353131 : Int64)))), .second, lv rem, .second, lv (own_lf bn), .second, iv r_23, u_, u_] [(.long (own_mix (qq_23 + (-7046029254386353131 : Int64))))])) _
            refine XS.lstore X24.here hx rfl (hb hby at_131) rfl (l' := #[lv q0, .second, lv q1, .second, iv p2, iv p3, iv bn, rv w_REMOVAL, rv b16, rv b18, lv (own_mix (qs + (-7046029254386353131 : Int64))), .second, lv (own_mix ((qs + (-7046029254386353131 : Int64)) + (-7046029254386353131 : Int64))), .second, lv (own_mix (((qs + (-7046029254386353131 : Int64)) + (-7046029254386353131 : Int64)) + (-7046029254386353131 : Int64))), .second, lv (own_dr (own_mix (qs + (-7046029254386353131 : Int64)))), .second, lv (own_dr (own_mix ((qs + (-7046029254386353131 : Int64)) + (-7046029254386353131 : Int64)))), .second, lv rem, .second, lv (own_lf bn), .second, iv r_23, lv (own_mix (qq_23 + (-7046029254386353131 : Int64))), .second]) rfl ?_
            show Steps p.tables e below (T24.setTop (mkF m 133 #[lv q0, .second, lv q1, .second, iv p2, iv p3, iv bn, rv w_REMOVAL, rv b16, rv b18, lv (own_mix (qs + (-7046029254386353131 : Int64))), .second, lv (own_mix ((qs + (-7046029254386353131 : Int64)) + (-7046029254386353131 : Int64))), .second, lv (own_mix (((qs + (-7046029254386353131 : Int64)) + (-7046029254386353131 : Int64)) + (-7046029254386353131 : Int64))), .second, lv (own_dr (own_mix (qs + (-7046029254386353131 : Int64)))), .second, lv (own_dr (own_mix ((qs + (-7046029254386353131 : Int64)) + (-7046029254386353131 : Int64)))), .second, lv rem, .second, lv (own_lf bn), .second, iv r_23, lv (own_mix (qq_23 + (-7046029254386353131 : Int64))), .second] [])) _
            refine XS.lload X24.here hx rfl (hb hby at_133) rfl ?_
            show Steps p.tables e below (T24.setTop (mkF m 135 #[lv q0, .second, lv q1, .second, iv p2, iv p3, iv bn, rv w_REMOVAL, rv b16, rv b18, lv (own_mix (qs + (-7046029254386353131 : Int64))), .second, lv (own_mix ((qs + (-7046029254386353131 : Int64)) + (-7046029254386353131 : Int64))), .second, lv (own_mix (((qs + (-7046029254386353131 : Int64)) + (-7046029254386353131 : Int64)) + (-7046029254386353131 : Int64))), .second, lv (own_dr (own_mix (qs + (-7046029254386353131 : Int64)))), .second, lv (own_dr (own_mix ((qs + (-7046029254386353131 : Int64)) + (-7046029254386353131 : Int64)))), .second, lv rem, .second, lv (own_lf bn), .second, iv r_23, lv (own_mix (qq_23 + (-7046029254386353131 : Int64))), .second] [(.long (own_dr (own_mix (qs + (-7046029254386353131 : Int64)))))])) _
            refine XS.lload X24.here hx rfl (hb hby at_135) rfl ?_
            show Steps p.tables e below (T24.setTop (mkF m 137 #[lv q0, .second, lv q1, .second, iv p2, iv p3, iv bn, rv w_REMOVAL, rv b16, rv b18, lv (own_mix (qs + (-7046029254386353131 : Int64))), .second, lv (own_mix ((qs + (-7046029254386353131 : Int64)) + (-7046029254386353131 : Int64))), .second, lv (own_mix (((qs + (-7046029254386353131 : Int64)) + (-7046029254386353131 : Int64)) + (-7046029254386353131 : Int64))), .second, lv (own_dr (own_mix (qs + (-7046029254386353131 : Int64)))), .second, lv (own_dr (own_mix ((qs + (-7046029254386353131 : Int64)) + (-7046029254386353131 : Int64)))), .second, lv rem, .second, lv (own_lf bn), .second, iv r_23, lv (own_mix (qq_23 + (-7046029254386353131 : Int64))), .second] [(.long (own_lf bn)), (.long (own_dr (own_mix (qs + (-7046029254386353131 : Int64)))))])) _
            refine XS.lcmp X24.here hx rfl (hb hby at_137) rfl ?_
            show Steps p.tables e below (T24.setTop (mkF m 138 #[lv q0, .second, lv q1, .second, iv p2, iv p3, iv bn, rv w_REMOVAL, rv b16, rv b18, lv (own_mix (qs + (-7046029254386353131 : Int64))), .second, lv (own_mix ((qs + (-7046029254386353131 : Int64)) + (-7046029254386353131 : Int64))), .second, lv (own_mix (((qs + (-7046029254386353131 : Int64)) + (-7046029254386353131 : Int64)) + (-7046029254386353131 : Int64))), .second, lv (own_dr (own_mix (qs + (-7046029254386353131 : Int64)))), .second, lv (own_dr (own_mix ((qs + (-7046029254386353131 : Int64)) + (-7046029254386353131 : Int64)))), .second, lv rem, .second, lv (own_lf bn), .second, iv r_23, lv (own_mix (qq_23 + (-7046029254386353131 : Int64))), .second] [(.int (lcmpW (own_dr (own_mix (qs + (-7046029254386353131 : Int64)))) (own_lf bn)))])) _
            refine XS.ifYes X24.here hx rfl (pc0 := 138) (pc' := 167) rfl (hb hby at_138) rfl ((if0 _ _).trans (tlt ((lw_gt (own_dr (own_mix (qs + (-7046029254386353131 : Int64)))) (own_lf bn)).mpr hA)).2.2.1) (by decide) (by decide) ?_
            show Steps p.tables e below (T24.setTop (mkF m 167 #[lv q0, .second, lv q1, .second, iv p2, iv p3, iv bn, rv w_REMOVAL, rv b16, rv b18, lv (own_mix (qs + (-7046029254386353131 : Int64))), .second, lv (own_mix ((qs + (-7046029254386353131 : Int64)) + (-7046029254386353131 : Int64))), .second, lv (own_mix (((qs + (-7046029254386353131 : Int64)) + (-7046029254386353131 : Int64)) + (-7046029254386353131 : Int64))), .second, lv (own_dr (own_mix (qs + (-7046029254386353131 : Int64)))), .second, lv (own_dr (own_mix ((qs + (-7046029254386353131 : Int64)) + (-7046029254386353131 : Int64)))), .second, lv rem, .second, lv (own_lf bn), .second, iv r_23, lv (own_mix (qq_23 + (-7046029254386353131 : Int64))), .second] [])) _
            refine XS.lload X24.here hx rfl (hb hby at_167) rfl ?_
            show Steps p.tables e below (T24.setTop (mkF m 169 #[lv q0, .second, lv q1, .second, iv p2, iv p3, iv bn, rv w_REMOVAL, rv b16, rv b18, lv (own_mix (qs + (-7046029254386353131 : Int64))), .second, lv (own_mix ((qs + (-7046029254386353131 : Int64)) + (-7046029254386353131 : Int64))), .second, lv (own_mix (((qs + (-7046029254386353131 : Int64)) + (-7046029254386353131 : Int64)) + (-7046029254386353131 : Int64))), .second, lv (own_dr (own_mix (qs + (-7046029254386353131 : Int64)))), .second, lv (own_dr (own_mix ((qs + (-7046029254386353131 : Int64)) + (-7046029254386353131 : Int64)))), .second, lv rem, .second, lv (own_lf bn), .second, iv r_23, lv (own_mix (qq_23 + (-7046029254386353131 : Int64))), .second] [(.long (own_dr (own_mix ((qs + (-7046029254386353131 : Int64)) + (-7046029254386353131 : Int64)))))])) _
            refine XS.lload X24.here hx rfl (hb hby at_169) rfl ?_
            show Steps p.tables e below (T24.setTop (mkF m 171 #[lv q0, .second, lv q1, .second, iv p2, iv p3, iv bn, rv w_REMOVAL, rv b16, rv b18, lv (own_mix (qs + (-7046029254386353131 : Int64))), .second, lv (own_mix ((qs + (-7046029254386353131 : Int64)) + (-7046029254386353131 : Int64))), .second, lv (own_mix (((qs + (-7046029254386353131 : Int64)) + (-7046029254386353131 : Int64)) + (-7046029254386353131 : Int64))), .second, lv (own_dr (own_mix (qs + (-7046029254386353131 : Int64)))), .second, lv (own_dr (own_mix ((qs + (-7046029254386353131 : Int64)) + (-7046029254386353131 : Int64)))), .second, lv rem, .second, lv (own_lf bn), .second, iv r_23, lv (own_mix (qq_23 + (-7046029254386353131 : Int64))), .second] [(.long (own_lf bn)), (.long (own_dr (own_mix ((qs + (-7046029254386353131 : Int64)) + (-7046029254386353131 : Int64)))))])) _
            refine XS.lcmp X24.here hx rfl (hb hby at_171) rfl ?_
            show Steps p.tables e below (T24.setTop (mkF m 172 #[lv q0, .second, lv q1, .second, iv p2, iv p3, iv bn, rv w_REMOVAL, rv b16, rv b18, lv (own_mix (qs + (-7046029254386353131 : Int64))), .second, lv (own_mix ((qs + (-7046029254386353131 : Int64)) + (-7046029254386353131 : Int64))), .second, lv (own_mix (((qs + (-7046029254386353131 : Int64)) + (-7046029254386353131 : Int64)) + (-7046029254386353131 : Int64))), .second, lv (own_dr (own_mix (qs + (-7046029254386353131 : Int64)))), .second, lv (own_dr (own_mix ((qs + (-7046029254386353131 : Int64)) + (-7046029254386353131 : Int64)))), .second, lv rem, .second, lv (own_lf bn), .second, iv r_23, lv (own_mix (qq_23 + (-7046029254386353131 : Int64))), .second] [(.int (lcmpW (own_dr (own_mix ((qs + (-7046029254386353131 : Int64)) + (-7046029254386353131 : Int64)))) (own_lf bn)))])) _
            refine XS.ifYes X24.here hx rfl (pc0 := 172) (pc' := 201) rfl (hb hby at_172) rfl ((if0 _ _).trans (tlt ((lw_gt (own_dr (own_mix ((qs + (-7046029254386353131 : Int64)) + (-7046029254386353131 : Int64)))) (own_lf bn)).mpr hC)).2.2.1) (by decide) (by decide) ?_
            show Steps p.tables e below (T24.setTop (mkF m 201 #[lv q0, .second, lv q1, .second, iv p2, iv p3, iv bn, rv w_REMOVAL, rv b16, rv b18, lv (own_mix (qs + (-7046029254386353131 : Int64))), .second, lv (own_mix ((qs + (-7046029254386353131 : Int64)) + (-7046029254386353131 : Int64))), .second, lv (own_mix (((qs + (-7046029254386353131 : Int64)) + (-7046029254386353131 : Int64)) + (-7046029254386353131 : Int64))), .second, lv (own_dr (own_mix (qs + (-7046029254386353131 : Int64)))), .second, lv (own_dr (own_mix ((qs + (-7046029254386353131 : Int64)) + (-7046029254386353131 : Int64)))), .second, lv rem, .second, lv (own_lf bn), .second, iv r_23, lv (own_mix (qq_23 + (-7046029254386353131 : Int64))), .second] [])) _
            refine XS.iconst X24.here hx rfl (hb hby at_201) ?_
            exact k
          obtain ⟨fs, hr, hrun, hended, hW, hsame⟩ := X24.leave (v := some (.int (1 : Int32))) (fun h => by rw [Bd.returns] at h; cases h)
          refine Go.fin (S' := T24.setFrames fs) ?_ hrun hended ⟨_, _, rfl, ?_, ⟨_, rfl⟩, hW, hsame.mono (by decide) (by decide)⟩
          · exact retOut X24 hx Bd.returns (by decide) (Or.inl ⟨rfl, Or.inr (Or.inl rfl), _, rfl⟩) (hb hby at_202) hr
          · show Q_rm0 Z q0 q1 p2 p3 w_GRID w_REMOVAL h0 n0 (some (.int (1 : Int32))) T24.heap _
            exact ⟨rfl, N24, K⟩
        · skip
          obtain ⟨cq25, kq25, q25a, q25b, q25c⟩ := isOf hZ (Eq.refl T22.heap) E_b16
          obtain ⟨_, _, ⟨T25, L25, k25, n25⟩, -, X25, ⟨Lc25, hQ25, l25, y25, z25⟩, st25⟩ := X22.virtualBack hx (y := (⟨"org/ninefold/service/SeededRandom", "nextInt", "(I)I"⟩ : MethodName)) (z := (⟨"org/ninefold/service/SeededRandom", "nextInt", "(I)I"⟩ : MethodName)) hown (mvT hZ (own_w hw 31 rfl)) (mvT hZ (own_w hw 32 rfl)) (notFace_of_selects (args := #[]) (mvT hZ (own_w hw 34 rfl))) (mvT hZ (own_w hw 34 rfl)) (mvT hZ (own_w hw 33 rfl)) (by decide) (backOf (W := 0) (rmNI2 l Z a0 hw [] b16 bn qs T22.heap n0 O E_b16 F_17 (by assumption) hpos hA hC) hZ (own_w hw 35 rfl) (own_w hw 6 rfl) (by decide) (by decide)) q25a q25c (g := (mkF m 121 #[lv q0, .second, lv q1, .second, iv p2, iv p3, iv bn, rv w_REMOVAL, rv b16, rv b18, lv (own_mix (qs + (-7046029254386353131 : Int64))), .second, lv (own_mix ((qs + (-7046029254386353131 : Int64)) + (-7046029254386353131 : Int64))), .second, lv (own_mix (((qs + (-7046029254386353131 : Int64)) + (-7046029254386353131 : Int64)) + (-7046029254386353131 : Int64))), .second, lv (own_dr (own_mix (qs + (-7046029254386353131 : Int64)))), .second, lv (own_dr (own_mix ((qs + (-7046029254386353131 : Int64)) + (-7046029254386353131 : Int64)))), .second, lv rem, .second, lv (own_lf bn), .second, u_, u_, u_] [(.int bn), (.ref b16)])) rfl (by rw [hml]; rfl) (Steps.refl _) (argsL := [(.int bn)]) (rest := []) (lenOf pd__28I_29I rfl) rfl (by show 2 * 0 + _ ≤ _; exact Nat.le_of_eq rfl) (hb hby at_121) (fun _ _ => ⟨rfl, (Eq.refl T22.heap), (by decide : 2 + 0 ≤ _), (by decide : 2 + 0 ≤ _)⟩)
          dsimp only [Pt.U, Pt.locs, Pt.cells, Pt.slots] at X25 l25 y25 z25 st25 hQ25
          subst l25 y25 z25
          obtain ⟨rfl, Nq25, K25, P25_E, P25_F⟩ := hQ25
          have N25 := Fr.app N22 Nq25
          have O := O.keep K25 (allS g_b16 all0)
          have K := K.trans K25 (allS (Or.inr sz_b16) all0)
          have E_b16 := E_b16.keep K25
          have E_17 := E_17.keep K25
          have E_b18 := E_b18.keep K25
          have E_19 := E_19.keep K25
          have E_20 := E_20.keep K25
          have E_21 := E_21.keep K25
          have E_22 := E_22.keep K25
          have F_22 := F_22.keep K25 (ninS (Ne.symm ne_b16_b18) nin0)
          have E_25 := P25_E
          have F_25 := P25_F
          refine Go.step (fun t k => st25.trans k) ?_
          show Go p e below _ (T25.setTop (mkF m 124 #[lv q0, .second, lv q1, .second, iv p2, iv p3, iv bn, rv w_REMOVAL, rv b16, rv b18, lv (own_mix (qs + (-7046029254386353131 : Int64))), .second, lv (own_mix ((qs + (-7046029254386353131 : Int64)) + (-7046029254386353131 : Int64))), .second, lv (own_mix (((qs + (-7046029254386353131 : Int64)) + (-7046029254386353131 : Int64)) + (-7046029254386353131 : Int64))), .second, lv (own_dr (own_mix (qs + (-7046029254386353131 : Int64)))), .second, lv (own_dr (own_mix ((qs + (-7046029254386353131 : Int64)) + (-7046029254386353131 : Int64)))), .second, lv rem, .second, lv (own_lf bn), .second, u_, u_, u_] [(.int (((own_dr (own_mix ((qs + (-7046029254386353131 : Int64)) + (-7046029254386353131 : Int64)))) - ((own_dr (own_mix ((qs + (-7046029254386353131 : Int64)) + (-7046029254386353131 : Int64)))) / (bn.toInt64)) * (bn.toInt64)).toInt32))]))
          refine Go.step (S' := T25.setTop (mkF m 128 #[lv q0, .second, lv q1, .second, iv p2, iv p3, iv bn, rv w_REMOVAL, rv b16, rv b18, lv (own_mix (qs + (-7046029254386353131 : Int64))), .second, lv (own_mix ((qs + (-7046029254386353131 : Int64)) + (-7046029254386353131 : Int64))), .second, lv (own_mix (((qs + (-7046029254386353131 : Int64)) + (-7046029254386353131 : Int64)) + (-7046029254386353131 : Int64))), .second, lv (own_dr (own_mix (qs + (-7046029254386353131 : Int64)))), .second, lv (own_dr (own_mix ((qs + (-7046029254386353131 : Int64)) + (-7046029254386353131 : Int64)))), .second, lv rem, .second, lv (own_lf bn), .second, iv (((own_dr (own_mix ((qs + (-7046029254386353131 : Int64)) + (-7046029254386353131 : Int64)))) - ((own_dr (own_mix ((qs + (-7046029254386353131 : Int64)) + (-7046029254386353131 : Int64)))) / (bn.toInt64)) * (bn.toInt64)).toInt32), u_, u_] [(.ref b16)])) (fun t k => ?_) ?_
          · show Steps p.tables e below (T25.setTop (mkF m 124 #[lv q0, .second, lv q1, .second, iv p2, iv p3, iv bn, rv w_REMOVAL, rv b16, rv b18, lv (own_mix (qs + (-7046029254386353131 : Int64))), .second, lv (own_mix ((qs + (-7046029254386353131 : Int64)) + (-7046029254386353131 : Int64))), .second, lv (own_mix (((qs + (-7046029254386353131 : Int64)) + (-7046029254386353131 : Int64)) + (-7046029254386353131 : Int64))), .second, lv (own_dr (own_mix (qs + (-7046029254386353131 : Int64)))), .second, lv (own_dr (own_mix ((qs + (-7046029254386353131 : Int64)) + (-7046029254386353131 : Int64)))), .second, lv rem, .second, lv (own_lf bn), .second, u_, u_, u_] [(.int (((own_dr (own_mix ((qs + (-7046029254386353131 : Int64)) + (-7046029254386353131 : Int64)))) - ((own_dr (own_mix ((qs + (-7046029254386353131 : Int64)) + (-7046029254386353131 : Int64)))) / (bn.toInt64)) * (bn.toInt64)).toInt32))])) _
            refine XS.istore X25.here hx rfl (hb hby at_124) rfl (l' := #[lv q0, .second, lv q1, .second, iv p2, iv p3, iv bn, rv w_REMOVAL, rv b16, rv b18, lv (own_mix (qs + (-7046029254386353131 : Int64))), .second, lv (own_mix ((qs + (-7046029254386353131 : Int64)) + (-7046029254386353131 : Int64))), .second, lv (own_mix (((qs + (-7046029254386353131 : Int64)) + (-7046029254386353131 : Int64)) + (-7046029254386353131 : Int64))), .second, lv (own_dr (own_mix (qs + (-7046029254386353131 : Int64)))), .second, lv (own_dr (own_mix ((qs + (-7046029254386353131 : Int64)) + (-7046029254386353131 : Int64)))), .second, lv rem, .second, lv (own_lf bn), .second, iv (((own_dr (own_mix ((qs + (-7046029254386353131 : Int64)) + (-7046029254386353131 : Int64)))) - ((own_dr (own_mix ((qs + (-7046029254386353131 : Int64)) + (-7046029254386353131 : Int64)))) / (bn.toInt64)) * (bn.toInt64)).toInt32), u_, u_]) rfl ?_
            show Steps p.tables e below (T25.setTop (mkF m 126 #[lv q0, .second, lv q1, .second, iv p2, iv p3, iv bn, rv w_REMOVAL, rv b16, rv b18, lv (own_mix (qs + (-7046029254386353131 : Int64))), .second, lv (own_mix ((qs + (-7046029254386353131 : Int64)) + (-7046029254386353131 : Int64))), .second, lv (own_mix (((qs + (-7046029254386353131 : Int64)) + (-7046029254386353131 : Int64)) + (-7046029254386353131 : Int64))), .second, lv (own_dr (own_mix (qs + (-7046029254386353131 : Int64)))), .second, lv (own_dr (own_mix ((qs + (-7046029254386353131 : Int64)) + (-7046029254386353131 : Int64)))), .second, lv rem, .second, lv (own_lf bn), .second, iv (((own_dr (own_mix ((qs + (-7046029254386353131 : Int64)) + (-7046029254386353131 : Int64)))) - ((own_dr (own_mix ((qs + (-7046029254386353131 : Int64)) + (-7046029254386353131 : Int64)))) / (bn.toInt64)) * (bn.toInt64)).toInt32), u_, u_] [])) _
            refine XS.aload X25.here hx rfl (hb hby at_126) rfl rfl ?_
            exact k
          obtain ⟨cq26, kq26, q26a, q26b, q26c⟩ := isOf hZ (Eq.refl T25.heap) E_b16
          obtain ⟨_, _, ⟨T26, L26, k26, n26⟩, -, X26, ⟨Lc26, hQ26, l26, y26, z26⟩, st26⟩ := X25.virtualBack hx (y := (⟨"org/ninefold/service/SeededRandom", "nextLong", "()J"⟩ : MethodName)) (z := (⟨"org/ninefold/service/SeededRandom", "nextLong", "()J"⟩ : MethodName)) hown (mvT hZ (own_w hw 23 rfl)) (mvT hZ (own_w hw 24 rfl)) (notFace_of_selects (args := #[]) (mvT hZ (own_w hw 26 rfl))) (mvT hZ (own_w hw 26 rfl)) (mvT hZ (own_w hw 25 rfl)) (by decide) (backOf (W := 0) (rmNL l Z a0 hw [] b16 ((qs + (-7046029254386353131 : Int64)) + (-7046029254386353131 : Int64)) T25.heap n0 O E_b16 F_25 (by assumption)) hZ (own_w hw 27 rfl) (own_w hw 6 rfl) (by decide) (by decide)) q26a q26c (g := (mkF m 128 #[lv q0, .second, lv q1, .second, iv p2, iv p3, iv bn, rv w_REMOVAL, rv b16, rv b18, lv (own_mix (qs + (-7046029254386353131 : Int64))), .second, lv (own_mix ((qs + (-7046029254386353131 : Int64)) + (-7046029254386353131 : Int64))), .second, lv (own_mix (((qs + (-7046029254386353131 : Int64)) + (-7046029254386353131 : Int64)) + (-7046029254386353131 : Int64))), .second, lv (own_dr (own_mix (qs + (-7046029254386353131 : Int64)))), .second, lv (own_dr (own_mix ((qs + (-7046029254386353131 : Int64)) + (-7046029254386353131 : Int64)))), .second, lv rem, .second, lv (own_lf bn), .second, iv (((own_dr (own_mix ((qs + (-7046029254386353131 : Int64)) + (-7046029254386353131 : Int64)))) - ((own_dr (own_mix ((qs + (-7046029254386353131 : Int64)) + (-7046029254386353131 : Int64)))) / (bn.toInt64)) * (bn.toInt64)).toInt32), u_, u_] [(.ref b16)])) rfl (by rw [hml]; rfl) (Steps.refl _) (argsL := []) (rest := []) (lenOf pd__28_29J rfl) rfl (by show 2 * 0 + _ ≤ _; exact Nat.le_of_eq rfl) (hb hby at_128) (fun _ _ => ⟨rfl, (Eq.refl T25.heap), (by decide : 2 + 0 ≤ _), (by decide : 2 + 0 ≤ _)⟩)
          dsimp only [Pt.U, Pt.locs, Pt.cells, Pt.slots] at X26 l26 y26 z26 st26 hQ26
          subst l26 y26 z26
          obtain ⟨rfl, Nq26, K26, P26_E, P26_F⟩ := hQ26
          have N26 := Fr.app N25 Nq26
          have O := O.keep K26 (allS g_b16 all0)
          have K := K.trans K26 (allS (Or.inr sz_b16) all0)
          have E_b16 := E_b16.keep K26
          have E_17 := E_17.keep K26
          have E_b18 := E_b18.keep K26
          have E_19 := E_19.keep K26
          have E_20 := E_20.keep K26
          have E_21 := E_21.keep K26
          have E_22 := E_22.keep K26
          have F_22 := F_22.keep K26 (ninS (Ne.symm ne_b16_b18) nin0)
          have E_25 := E_25.keep K26
          have E_26 := P26_E
          have F_26 := P26_F
          refine Go.step (fun t k => st26.trans k) ?_
          show Go p e below _ (T26.setTop (mkF m 131 #[lv q0, .second, lv q1, .second, iv p2, iv p3, iv bn, rv w_REMOVAL, rv b16, rv b18, lv (own_mix (qs + (-7046029254386353131 : Int64))), .second, lv (own_mix ((qs + (-7046029254386353131 : Int64)) + (-7046029254386353131 : Int64))), .second, lv (own_mix (((qs + (-7046029254386353131 : Int64)) + (-7046029254386353131 : Int64)) + (-7046029254386353131 : Int64))), .second, lv (own_dr (own_mix (qs + (-7046029254386353131 : Int64)))), .second, lv (own_dr (own_mix ((qs + (-7046029254386353131 : Int64)) + (-7046029254386353131 : Int64)))), .second, lv rem, .second, lv (own_lf bn), .second, iv (((own_dr (own_mix ((qs + (-7046029254386353131 : Int64)) + (-7046029254386353131 : Int64)))) - ((own_dr (own_mix ((qs + (-7046029254386353131 : Int64)) + (-7046029254386353131 : Int64)))) / (bn.toInt64)) * (bn.toInt64)).toInt32), u_, u_] [(.long (own_mix (((qs + (-7046029254386353131 : Int64)) + (-7046029254386353131 : Int64)) + (-7046029254386353131 : Int64))))]))
          refine Go.step (S' := T26.setTop (mkF m 200 #[lv q0, .second, lv q1, .second, iv p2, iv p3, iv bn, rv w_REMOVAL, rv b16, rv b18, lv (own_mix (qs + (-7046029254386353131 : Int64))), .second, lv (own_mix ((qs + (-7046029254386353131 : Int64)) + (-7046029254386353131 : Int64))), .second, lv (own_mix (((qs + (-7046029254386353131 : Int64)) + (-7046029254386353131 : Int64)) + (-7046029254386353131 : Int64))), .second, lv (own_dr (own_mix (qs + (-7046029254386353131 : Int64)))), .second, lv (own_dr (own_mix ((qs + (-7046029254386353131 : Int64)) + (-7046029254386353131 : Int64)))), .second, lv rem, .second, lv (own_lf bn), .second, iv (((own_dr (own_mix ((qs + (-7046029254386353131 : Int64)) + (-7046029254386353131 : Int64)))) - ((own_dr (own_mix ((qs + (-7046029254386353131 : Int64)) + (-7046029254386353131 : Int64)))) / (bn.toInt64)) * (bn.toInt64)).toInt32), lv (own_mix (((qs + (-7046029254386353131 : Int64)) + (-7046029254386353131 : Int64)) + (-7046029254386353131 : Int64))), .second] [(.int (1 : Int32))])) (fun t k => ?_) ?_
          · show Steps p.tables e below (T26.setTop (mkF m 131 #[lv q0, .second, lv q1, .second, iv p2, iv p3, iv bn, rv w_REMOVAL, rv b16, rv b18, lv (own_mix (qs + (-7046029254386353131 : Int64))), .second, lv (own_mix ((qs + (-7046029254386353131 : Int64)) + (-7046029254386353131 : Int64))), .second, lv (own_mix (((qs + (-7046029254386353131 : Int64)) + (-7046029254386353131 : Int64)) + (-7046029254386353131 : Int64))), .second, lv (own_dr (own_mix (qs + (-7046029254386353131 : Int64)))), .second, lv (own_dr (own_mix ((qs + (-7046029254386353131 : Int64)) + (-7046029254386353131 : Int64)))), .second, lv rem, .second, lv (own_lf bn), .second, iv (((own_dr (own_mix ((qs + (-7046029254386353131 : Int64)) + (-7046029254386353131 : Int64)))) - ((own_dr (own_mix ((qs + (-7046029254386353131 : Int64)) + (-7046029254386353131 : Int64)))) / (bn.toInt64)) * (bn.toInt64)).toInt32), u_, u_] [(.long (own_mix (((qs + (-7046029254386353131 : Int64)) + (-7046029254386353131 : Int64)) + (-7046029254386353131 : Int64))))])) _
            refine XS.lstore X26.here hx rfl (hb hby at_131) rfl (l' := #[lv q0, .second, lv q1, .second, iv p2, iv p3, iv bn, rv w_REMOVAL, rv b16, rv b18, lv (own_mix (qs + (-7046029254386353131 : Int64))), .second, lv (own_mix ((qs + (-7046029254386353131 : Int64)) + (-7046029254386353131 : Int64))), .second, lv (own_mix (((qs + (-7046029254386353131 : Int64)) + (-7046029254386353131 : Int64)) + (-7046029254386353131 : Int64))), .second, lv (own_dr (own_mix (qs + (-7046029254386353131 : Int64)))), .second, lv (own_dr (own_mix ((qs + (-7046029254386353131 : Int64)) + (-7046029254386353131 : Int64)))), .second, lv rem, .second, lv (own_lf bn), .second, iv (((own_dr (own_mix ((qs + (-7046029254386353131 : Int64)) + (-7046029254386353131 : Int64)))) - ((own_dr (own_mix ((qs + (-7046029254386353131 : Int64)) + (-7046029254386353131 : Int64)))) / (bn.toInt64)) * (bn.toInt64)).toInt32), lv (own_mix (((qs + (-7046029254386353131 : Int64)) + (-7046029254386353131 : Int64)) + (-7046029254386353131 : Int64))), .second]) rfl ?_
            show Steps p.tables e below (T26.setTop (mkF m 133 #[lv q0, .second, lv q1, .second, iv p2, iv p3, iv bn, rv w_REMOVAL, rv b16, rv b18, lv (own_mix (qs + (-7046029254386353131 : Int64))), .second, lv (own_mix ((qs + (-7046029254386353131 : Int64)) + (-7046029254386353131 : Int64))), .second, lv (own_mix (((qs + (-7046029254386353131 : Int64)) + (-7046029254386353131 : Int64)) + (-7046029254386353131 : Int64))), .second, lv (own_dr (own_mix (qs + (-7046029254386353131 : Int64)))), .second, lv (own_dr (own_mix ((qs + (-7046029254386353131 : Int64)) + (-7046029254386353131 : Int64)))), .second, lv rem, .second, lv (own_lf bn), .second, iv (((own_dr (own_mix ((qs + (-7046029254386353131 : Int64)) + (-7046029254386353131 : Int64)))) - ((own_dr (own_mix ((qs + (-7046029254386353131 : Int64)) + (-7046029254386353131 : Int64)))) / (bn.toInt64)) * (bn.toInt64)).toInt32), lv (own_mix (((qs + (-7046029254386353131 : Int64)) + (-7046029254386353131 : Int64)) + (-7046029254386353131 : Int64))), .second] [])) _
            refine XS.lload X26.here hx rfl (hb hby at_133) rfl ?_
            show Steps p.tables e below (T26.setTop (mkF m 135 #[lv q0, .second, lv q1, .second, iv p2, iv p3, iv bn, rv w_REMOVAL, rv b16, rv b18, lv (own_mix (qs + (-7046029254386353131 : Int64))), .second, lv (own_mix ((qs + (-7046029254386353131 : Int64)) + (-7046029254386353131 : Int64))), .second, lv (own_mix (((qs + (-7046029254386353131 : Int64)) + (-7046029254386353131 : Int64)) + (-7046029254386353131 : Int64))), .second, lv (own_dr (own_mix (qs + (-7046029254386353131 : Int64)))), .second, lv (own_dr (own_mix ((qs + (-7046029254386353131 : Int64)) + (-7046029254386353131 : Int64)))), .second, lv rem, .second, lv (own_lf bn), .second, iv (((own_dr (own_mix ((qs + (-7046029254386353131 : Int64)) + (-7046029254386353131 : Int64)))) - ((own_dr (own_mix ((qs + (-7046029254386353131 : Int64)) + (-7046029254386353131 : Int64)))) / (bn.toInt64)) * (bn.toInt64)).toInt32), lv (own_mix (((qs + (-7046029254386353131 : Int64)) + (-7046029254386353131 : Int64)) + (-7046029254386353131 : Int64))), .second] [(.long (own_dr (own_mix (qs + (-7046029254386353131 : Int64)))))])) _
            refine XS.lload X26.here hx rfl (hb hby at_135) rfl ?_
            show Steps p.tables e below (T26.setTop (mkF m 137 #[lv q0, .second, lv q1, .second, iv p2, iv p3, iv bn, rv w_REMOVAL, rv b16, rv b18, lv (own_mix (qs + (-7046029254386353131 : Int64))), .second, lv (own_mix ((qs + (-7046029254386353131 : Int64)) + (-7046029254386353131 : Int64))), .second, lv (own_mix (((qs + (-7046029254386353131 : Int64)) + (-7046029254386353131 : Int64)) + (-7046029254386353131 : Int64))), .second, lv (own_dr (own_mix (qs + (-7046029254386353131 : Int64)))), .second, lv (own_dr (own_mix ((qs + (-7046029254386353131 : Int64)) + (-7046029254386353131 : Int64)))), .second, lv rem, .second, lv (own_lf bn), .second, iv (((own_dr (own_mix ((qs + (-7046029254386353131 : Int64)) + (-7046029254386353131 : Int64)))) - ((own_dr (own_mix ((qs + (-7046029254386353131 : Int64)) + (-7046029254386353131 : Int64)))) / (bn.toInt64)) * (bn.toInt64)).toInt32), lv (own_mix (((qs + (-7046029254386353131 : Int64)) + (-7046029254386353131 : Int64)) + (-7046029254386353131 : Int64))), .second] [(.long (own_lf bn)), (.long (own_dr (own_mix (qs + (-7046029254386353131 : Int64)))))])) _
            refine XS.lcmp X26.here hx rfl (hb hby at_137) rfl ?_
            show Steps p.tables e below (T26.setTop (mkF m 138 #[lv q0, .second, lv q1, .second, iv p2, iv p3, iv bn, rv w_REMOVAL, rv b16, rv b18, lv (own_mix (qs + (-7046029254386353131 : Int64))), .second, lv (own_mix ((qs + (-7046029254386353131 : Int64)) + (-7046029254386353131 : Int64))), .second, lv (own_mix (((qs + (-7046029254386353131 : Int64)) + (-7046029254386353131 : Int64)) + (-7046029254386353131 : Int64))), .second, lv (own_dr (own_mix (qs + (-7046029254386353131 : Int64)))), .second, lv (own_dr (own_mix ((qs + (-7046029254386353131 : Int64)) + (-7046029254386353131 : Int64)))), .second, lv rem, .second, lv (own_lf bn), .second, iv (((own_dr (own_mix ((qs + (-7046029254386353131 : Int64)) + (-7046029254386353131 : Int64)))) - ((own_dr (own_mix ((qs + (-7046029254386353131 : Int64)) + (-7046029254386353131 : Int64)))) / (bn.toInt64)) * (bn.toInt64)).toInt32), lv (own_mix (((qs + (-7046029254386353131 : Int64)) + (-7046029254386353131 : Int64)) + (-7046029254386353131 : Int64))), .second] [(.int (lcmpW (own_dr (own_mix (qs + (-7046029254386353131 : Int64)))) (own_lf bn)))])) _
            refine XS.ifYes X26.here hx rfl (pc0 := 138) (pc' := 167) rfl (hb hby at_138) rfl ((if0 _ _).trans (tlt ((lw_gt (own_dr (own_mix (qs + (-7046029254386353131 : Int64)))) (own_lf bn)).mpr hA)).2.2.1) (by decide) (by decide) ?_
            show Steps p.tables e below (T26.setTop (mkF m 167 #[lv q0, .second, lv q1, .second, iv p2, iv p3, iv bn, rv w_REMOVAL, rv b16, rv b18, lv (own_mix (qs + (-7046029254386353131 : Int64))), .second, lv (own_mix ((qs + (-7046029254386353131 : Int64)) + (-7046029254386353131 : Int64))), .second, lv (own_mix (((qs + (-7046029254386353131 : Int64)) + (-7046029254386353131 : Int64)) + (-7046029254386353131 : Int64))), .second, lv (own_dr (own_mix (qs + (-7046029254386353131 : Int64)))), .second, lv (own_dr (own_mix ((qs + (-7046029254386353131 : Int64)) + (-7046029254386353131 : Int64)))), .second, lv rem, .second, lv (own_lf bn), .second, iv (((own_dr (own_mix ((qs + (-7046029254386353131 : Int64)) + (-7046029254386353131 : Int64)))) - ((own_dr (own_mix ((qs + (-7046029254386353131 : Int64)) + (-7046029254386353131 : Int64)))) / (bn.toInt64)) * (bn.toInt64)).toInt32), lv (own_mix (((qs + (-7046029254386353131 : Int64)) + (-7046029254386353131 : Int64)) + (-7046029254386353131 : Int64))), .second] [])) _
            refine XS.lload X26.here hx rfl (hb hby at_167) rfl ?_
            show Steps p.tables e below (T26.setTop (mkF m 169 #[lv q0, .second, lv q1, .second, iv p2, iv p3, iv bn, rv w_REMOVAL, rv b16, rv b18, lv (own_mix (qs + (-7046029254386353131 : Int64))), .second, lv (own_mix ((qs + (-7046029254386353131 : Int64)) + (-7046029254386353131 : Int64))), .second, lv (own_mix (((qs + (-7046029254386353131 : Int64)) + (-7046029254386353131 : Int64)) + (-7046029254386353131 : Int64))), .second, lv (own_dr (own_mix (qs + (-7046029254386353131 : Int64)))), .second, lv (own_dr (own_mix ((qs + (-7046029254386353131 : Int64)) + (-7046029254386353131 : Int64)))), .second, lv rem, .second, lv (own_lf bn), .second, iv (((own_dr (own_mix ((qs + (-7046029254386353131 : Int64)) + (-7046029254386353131 : Int64)))) - ((own_dr (own_mix ((qs + (-7046029254386353131 : Int64)) + (-7046029254386353131 : Int64)))) / (bn.toInt64)) * (bn.toInt64)).toInt32), lv (own_mix (((qs + (-7046029254386353131 : Int64)) + (-7046029254386353131 : Int64)) + (-7046029254386353131 : Int64))), .second] [(.long (own_dr (own_mix ((qs + (-7046029254386353131 : Int64)) + (-7046029254386353131 : Int64)))))])) _
            refine XS.lload X26.here hx rfl (hb hby at_169) rfl ?_
            show Steps p.tables e below (T26.setTop (mkF m 171 #[lv q0, .second, lv q1, .second, iv p2, iv p3, iv bn, rv w_REMOVAL, rv b16, rv b18, lv (own_mix (qs + (-7046029254386353131 : Int64))), .second, lv (own_mix ((qs + (-7046029254386353131 : Int64)) + (-7046029254386353131 : Int64))), .second, lv (own_mix (((qs + (-7046029254386353131 : Int64)) + (-7046029254386353131 : Int64)) + (-7046029254386353131 : Int64))), .second, lv (own_dr (own_mix (qs + (-7046029254386353131 : Int64)))), .second, lv (own_dr (own_mix ((qs + (-7046029254386353131 : Int64)) + (-7046029254386353131 : Int64)))), .second, lv rem, .second, lv (own_lf bn), .second, iv (((own_dr (own_mix ((qs + (-7046029254386353131 : Int64)) + (-7046029254386353131 : Int64)))) - ((own_dr (own_mix ((qs + (-7046029254386353131 : Int64)) + (-7046029254386353131 : Int64)))) / (bn.toInt64)) * (bn.toInt64)).toInt32), lv (own_mix (((qs + (-7046029254386353131 : Int64)) + (-7046029254386353131 : Int64)) + (-7046029254386353131 : Int64))), .second] [(.long (own_lf bn)), (.long (own_dr (own_mix ((qs + (-7046029254386353131 : Int64)) + (-7046029254386353131 : Int64)))))])) _
            refine XS.lcmp X26.here hx rfl (hb hby at_171) rfl ?_
            show Steps p.tables e below (T26.setTop (mkF m 172 #[lv q0, .second, lv q1, .second, iv p2, iv p3, iv bn, rv w_REMOVAL, rv b16, rv b18, lv (own_mix (qs + (-7046029254386353131 : Int64))), .second, lv (own_mix ((qs + (-7046029254386353131 : Int64)) + (-7046029254386353131 : Int64))), .second, lv (own_mix (((qs + (-7046029254386353131 : Int64)) + (-7046029254386353131 : Int64)) + (-7046029254386353131 : Int64))), .second, lv (own_dr (own_mix (qs + (-7046029254386353131 : Int64)))), .second, lv (own_dr (own_mix ((qs + (-7046029254386353131 : Int64)) + (-7046029254386353131 : Int64)))), .second, lv rem, .second, lv (own_lf bn), .second, iv (((own_dr (own_mix ((qs + (-7046029254386353131 : Int64)) + (-7046029254386353131 : Int64)))) - ((own_dr (own_mix ((qs + (-7046029254386353131 : Int64)) + (-7046029254386353131 : Int64)))) / (bn.toInt64)) * (bn.toInt64)).toInt32), lv (own_mix (((qs + (-7046029254386353131 : Int64)) + (-7046029254386353131 : Int64)) + (-7046029254386353131 : Int64))), .second] [(.int (lcmpW (own_dr (own_mix ((qs + (-7046029254386353131 : Int64)) + (-7046029254386353131 : Int64)))) (own_lf bn)))])) _
            refine XS.ifNo X26.here hx rfl (hb hby at_172) rfl ((if0 _ _).trans (flt (fun zq => absurd ((lw_gt (own_dr (own_mix ((qs + (-7046029254386353131 : Int64)) + (-7046029254386353131 : Int64)))) (own_lf bn)).mp zq) hC)).2.2.1) ?_
            show Steps p.tables e below (T26.setTop (mkF m 175 #[lv q0, .second, lv q1, .second, iv p2, iv p3, iv bn, rv w_REMOVAL, rv b16, rv b18, lv (own_mix (qs + (-7046029254386353131 : Int64))), .second, lv (own_mix ((qs + (-7046029254386353131 : Int64)) + (-7046029254386353131 : Int64))), .second, lv (own_mix (((qs + (-7046029254386353131 : Int64)) + (-7046029254386353131 : Int64)) + (-7046029254386353131 : Int64))), .second, lv (own_dr (own_mix (qs + (-7046029254386353131 : Int64)))), .second, lv (own_dr (own_mix ((qs + (-7046029254386353131 : Int64)) + (-7046029254386353131 : Int64)))), .second, lv rem, .second, lv (own_lf bn), .second, iv (((own_dr (own_mix ((qs + (-7046029254386353131 : Int64)) + (-7046029254386353131 : Int64)))) - ((own_dr (own_mix ((qs + (-7046029254386353131 : Int64)) + (-7046029254386353131 : Int64)))) / (bn.toInt64)) * (bn.toInt64)).toInt32), lv (own_mix (((qs + (-7046029254386353131 : Int64)) + (-7046029254386353131 : Int64)) + (-7046029254386353131 : Int64))), .second] [])) _
            refine XS.iload X26.here hx rfl (hb hby at_175) rfl ?_
            show Steps p.tables e below (T26.setTop (mkF m 177 #[lv q0, .second, lv q1, .second, iv p2, iv p3, iv bn, rv w_REMOVAL, rv b16, rv b18, lv (own_mix (qs + (-7046029254386353131 : Int64))), .second, lv (own_mix ((qs + (-7046029254386353131 : Int64)) + (-7046029254386353131 : Int64))), .second, lv (own_mix (((qs + (-7046029254386353131 : Int64)) + (-7046029254386353131 : Int64)) + (-7046029254386353131 : Int64))), .second, lv (own_dr (own_mix (qs + (-7046029254386353131 : Int64)))), .second, lv (own_dr (own_mix ((qs + (-7046029254386353131 : Int64)) + (-7046029254386353131 : Int64)))), .second, lv rem, .second, lv (own_lf bn), .second, iv (((own_dr (own_mix ((qs + (-7046029254386353131 : Int64)) + (-7046029254386353131 : Int64)))) - ((own_dr (own_mix ((qs + (-7046029254386353131 : Int64)) + (-7046029254386353131 : Int64)))) / (bn.toInt64)) * (bn.toInt64)).toInt32), lv (own_mix (((qs + (-7046029254386353131 : Int64)) + (-7046029254386353131 : Int64)) + (-7046029254386353131 : Int64))), .second] [(.int (((own_dr (own_mix ((qs + (-7046029254386353131 : Int64)) + (-7046029254386353131 : Int64)))) - ((own_dr (own_mix ((qs + (-7046029254386353131 : Int64)) + (-7046029254386353131 : Int64)))) / (bn.toInt64)) * (bn.toInt64)).toInt32))])) _
            refine XS.lload X26.here hx rfl (hb hby at_177) rfl ?_
            show Steps p.tables e below (T26.setTop (mkF m 179 #[lv q0, .second, lv q1, .second, iv p2, iv p3, iv bn, rv w_REMOVAL, rv b16, rv b18, lv (own_mix (qs + (-7046029254386353131 : Int64))), .second, lv (own_mix ((qs + (-7046029254386353131 : Int64)) + (-7046029254386353131 : Int64))), .second, lv (own_mix (((qs + (-7046029254386353131 : Int64)) + (-7046029254386353131 : Int64)) + (-7046029254386353131 : Int64))), .second, lv (own_dr (own_mix (qs + (-7046029254386353131 : Int64)))), .second, lv (own_dr (own_mix ((qs + (-7046029254386353131 : Int64)) + (-7046029254386353131 : Int64)))), .second, lv rem, .second, lv (own_lf bn), .second, iv (((own_dr (own_mix ((qs + (-7046029254386353131 : Int64)) + (-7046029254386353131 : Int64)))) - ((own_dr (own_mix ((qs + (-7046029254386353131 : Int64)) + (-7046029254386353131 : Int64)))) / (bn.toInt64)) * (bn.toInt64)).toInt32), lv (own_mix (((qs + (-7046029254386353131 : Int64)) + (-7046029254386353131 : Int64)) + (-7046029254386353131 : Int64))), .second] [(.long (own_dr (own_mix ((qs + (-7046029254386353131 : Int64)) + (-7046029254386353131 : Int64))))), (.int (((own_dr (own_mix ((qs + (-7046029254386353131 : Int64)) + (-7046029254386353131 : Int64)))) - ((own_dr (own_mix ((qs + (-7046029254386353131 : Int64)) + (-7046029254386353131 : Int64)))) / (bn.toInt64)) * (bn.toInt64)).toInt32))])) _
            refine XS.iload X26.here hx rfl (hb hby at_179) rfl ?_
            show Steps p.tables e below (T26.setTop (mkF m 181 #[lv q0, .second, lv q1, .second, iv p2, iv p3, iv bn, rv w_REMOVAL, rv b16, rv b18, lv (own_mix (qs + (-7046029254386353131 : Int64))), .second, lv (own_mix ((qs + (-7046029254386353131 : Int64)) + (-7046029254386353131 : Int64))), .second, lv (own_mix (((qs + (-7046029254386353131 : Int64)) + (-7046029254386353131 : Int64)) + (-7046029254386353131 : Int64))), .second, lv (own_dr (own_mix (qs + (-7046029254386353131 : Int64)))), .second, lv (own_dr (own_mix ((qs + (-7046029254386353131 : Int64)) + (-7046029254386353131 : Int64)))), .second, lv rem, .second, lv (own_lf bn), .second, iv (((own_dr (own_mix ((qs + (-7046029254386353131 : Int64)) + (-7046029254386353131 : Int64)))) - ((own_dr (own_mix ((qs + (-7046029254386353131 : Int64)) + (-7046029254386353131 : Int64)))) / (bn.toInt64)) * (bn.toInt64)).toInt32), lv (own_mix (((qs + (-7046029254386353131 : Int64)) + (-7046029254386353131 : Int64)) + (-7046029254386353131 : Int64))), .second] [(.int bn), (.long (own_dr (own_mix ((qs + (-7046029254386353131 : Int64)) + (-7046029254386353131 : Int64))))), (.int (((own_dr (own_mix ((qs + (-7046029254386353131 : Int64)) + (-7046029254386353131 : Int64)))) - ((own_dr (own_mix ((qs + (-7046029254386353131 : Int64)) + (-7046029254386353131 : Int64)))) / (bn.toInt64)) * (bn.toInt64)).toInt32))])) _
            refine XS.i2l X26.here hx rfl (hb hby at_181) rfl ?_
            show Steps p.tables e below (T26.setTop (mkF m 182 #[lv q0, .second, lv q1, .second, iv p2, iv p3, iv bn, rv w_REMOVAL, rv b16, rv b18, lv (own_mix (qs + (-7046029254386353131 : Int64))), .second, lv (own_mix ((qs + (-7046029254386353131 : Int64)) + (-7046029254386353131 : Int64))), .second, lv (own_mix (((qs + (-7046029254386353131 : Int64)) + (-7046029254386353131 : Int64)) + (-7046029254386353131 : Int64))), .second, lv (own_dr (own_mix (qs + (-7046029254386353131 : Int64)))), .second, lv (own_dr (own_mix ((qs + (-7046029254386353131 : Int64)) + (-7046029254386353131 : Int64)))), .second, lv rem, .second, lv (own_lf bn), .second, iv (((own_dr (own_mix ((qs + (-7046029254386353131 : Int64)) + (-7046029254386353131 : Int64)))) - ((own_dr (own_mix ((qs + (-7046029254386353131 : Int64)) + (-7046029254386353131 : Int64)))) / (bn.toInt64)) * (bn.toInt64)).toInt32), lv (own_mix (((qs + (-7046029254386353131 : Int64)) + (-7046029254386353131 : Int64)) + (-7046029254386353131 : Int64))), .second] [(.long (bn.toInt64)), (.long (own_dr (own_mix ((qs + (-7046029254386353131 : Int64)) + (-7046029254386353131 : Int64))))), (.int (((own_dr (own_mix ((qs + (-7046029254386353131 : Int64)) + (-7046029254386353131 : Int64)))) - ((own_dr (own_mix ((qs + (-7046029254386353131 : Int64)) + (-7046029254386353131 : Int64)))) / (bn.toInt64)) * (bn.toInt64)).toInt32))])) _
            refine XS.lrem X26.here hx rfl (hb hby at_182) rfl (own_nz hpos) ?_
            show Steps p.tables e below (T26.setTop (mkF m 183 #[lv q0, .second, lv q1, .second, iv p2, iv p3, iv bn, rv w_REMOVAL, rv b16, rv b18, lv (own_mix (qs + (-7046029254386353131 : Int64))), .second, lv (own_mix ((qs + (-7046029254386353131 : Int64)) + (-7046029254386353131 : Int64))), .second, lv (own_mix (((qs + (-7046029254386353131 : Int64)) + (-7046029254386353131 : Int64)) + (-7046029254386353131 : Int64))), .second, lv (own_dr (own_mix (qs + (-7046029254386353131 : Int64)))), .second, lv (own_dr (own_mix ((qs + (-7046029254386353131 : Int64)) + (-7046029254386353131 : Int64)))), .second, lv rem, .second, lv (own_lf bn), .second, iv (((own_dr (own_mix ((qs + (-7046029254386353131 : Int64)) + (-7046029254386353131 : Int64)))) - ((own_dr (own_mix ((qs + (-7046029254386353131 : Int64)) + (-7046029254386353131 : Int64)))) / (bn.toInt64)) * (bn.toInt64)).toInt32), lv (own_mix (((qs + (-7046029254386353131 : Int64)) + (-7046029254386353131 : Int64)) + (-7046029254386353131 : Int64))), .second] [(.long ((own_dr (own_mix ((qs + (-7046029254386353131 : Int64)) + (-7046029254386353131 : Int64)))) - ((own_dr (own_mix ((qs + (-7046029254386353131 : Int64)) + (-7046029254386353131 : Int64)))) / (bn.toInt64)) * (bn.toInt64))), (.int (((own_dr (own_mix ((qs + (-7046029254386353131 : Int64)) + (-7046029254386353131 : Int64)))) - ((own_dr (own_mix ((qs + (-7046029254386353131 : Int64)) + (-7046029254386353131 : Int64)))) / (bn.toInt64)) * (bn.toInt64)).toInt32))])) _
            refine XS.l2i X26.here hx rfl (hb hby at_183) rfl ?_
            show Steps p.tables e below (T26.setTop (mkF m 184 #[lv q0, .second, lv q1, .second, iv p2, iv p3, iv bn, rv w_REMOVAL, rv b16, rv b18, lv (own_mix (qs + (-7046029254386353131 : Int64))), .second, lv (own_mix ((qs + (-7046029254386353131 : Int64)) + (-7046029254386353131 : Int64))), .second, lv (own_mix (((qs + (-7046029254386353131 : Int64)) + (-7046029254386353131 : Int64)) + (-7046029254386353131 : Int64))), .second, lv (own_dr (own_mix (qs + (-7046029254386353131 : Int64)))), .second, lv (own_dr (own_mix ((qs + (-7046029254386353131 : Int64)) + (-7046029254386353131 : Int64)))), .second, lv rem, .second, lv (own_lf bn), .second, iv (((own_dr (own_mix ((qs + (-7046029254386353131 : Int64)) + (-7046029254386353131 : Int64)))) - ((own_dr (own_mix ((qs + (-7046029254386353131 : Int64)) + (-7046029254386353131 : Int64)))) / (bn.toInt64)) * (bn.toInt64)).toInt32), lv (own_mix (((qs + (-7046029254386353131 : Int64)) + (-7046029254386353131 : Int64)) + (-7046029254386353131 : Int64))), .second] [(.int (((own_dr (own_mix ((qs + (-7046029254386353131 : Int64)) + (-7046029254386353131 : Int64)))) - ((own_dr (own_mix ((qs + (-7046029254386353131 : Int64)) + (-7046029254386353131 : Int64)))) / (bn.toInt64)) * (bn.toInt64)).toInt32)), (.int (((own_dr (own_mix ((qs + (-7046029254386353131 : Int64)) + (-7046029254386353131 : Int64)))) - ((own_dr (own_mix ((qs + (-7046029254386353131 : Int64)) + (-7046029254386353131 : Int64)))) / (bn.toInt64)) * (bn.toInt64)).toInt32))])) _
            refine XS.icmpNo X26.here hx rfl (hb hby at_184) rfl (teq (rfl : (((own_dr (own_mix ((qs + (-7046029254386353131 : Int64)) + (-7046029254386353131 : Int64)))) - ((own_dr (own_mix ((qs + (-7046029254386353131 : Int64)) + (-7046029254386353131 : Int64)))) / (bn.toInt64)) * (bn.toInt64)).toInt32) = (((own_dr (own_mix ((qs + (-7046029254386353131 : Int64)) + (-7046029254386353131 : Int64)))) - ((own_dr (own_mix ((qs + (-7046029254386353131 : Int64)) + (-7046029254386353131 : Int64)))) / (bn.toInt64)) * (bn.toInt64)).toInt32))).2 ?_
            show Steps p.tables e below (T26.setTop (mkF m 187 #[lv q0, .second, lv q1, .second, iv p2, iv p3, iv bn, rv w_REMOVAL, rv b16, rv b18, lv (own_mix (qs + (-7046029254386353131 : Int64))), .second, lv (own_mix ((qs + (-7046029254386353131 : Int64)) + (-7046029254386353131 : Int64))), .second, lv (own_mix (((qs + (-7046029254386353131 : Int64)) + (-7046029254386353131 : Int64)) + (-7046029254386353131 : Int64))), .second, lv (own_dr (own_mix (qs + (-7046029254386353131 : Int64)))), .second, lv (own_dr (own_mix ((qs + (-7046029254386353131 : Int64)) + (-7046029254386353131 : Int64)))), .second, lv rem, .second, lv (own_lf bn), .second, iv (((own_dr (own_mix ((qs + (-7046029254386353131 : Int64)) + (-7046029254386353131 : Int64)))) - ((own_dr (own_mix ((qs + (-7046029254386353131 : Int64)) + (-7046029254386353131 : Int64)))) / (bn.toInt64)) * (bn.toInt64)).toInt32), lv (own_mix (((qs + (-7046029254386353131 : Int64)) + (-7046029254386353131 : Int64)) + (-7046029254386353131 : Int64))), .second] [])) _
            refine XS.lload X26.here hx rfl (hb hby at_187) rfl ?_
            show Steps p.tables e below (T26.setTop (mkF m 189 #[lv q0, .second, lv q1, .second, iv p2, iv p3, iv bn, rv w_REMOVAL, rv b16, rv b18, lv (own_mix (qs + (-7046029254386353131 : Int64))), .second, lv (own_mix ((qs + (-7046029254386353131 : Int64)) + (-7046029254386353131 : Int64))), .second, lv (own_mix (((qs + (-7046029254386353131 : Int64)) + (-7046029254386353131 : Int64)) + (-7046029254386353131 : Int64))), .second, lv (own_dr (own_mix (qs + (-7046029254386353131 : Int64)))), .second, lv (own_dr (own_mix ((qs + (-7046029254386353131 : Int64)) + (-7046029254386353131 : Int64)))), .second, lv rem, .second, lv (own_lf bn), .second, iv (((own_dr (own_mix ((qs + (-7046029254386353131 : Int64)) + (-7046029254386353131 : Int64)))) - ((own_dr (own_mix ((qs + (-7046029254386353131 : Int64)) + (-7046029254386353131 : Int64)))) / (bn.toInt64)) * (bn.toInt64)).toInt32), lv (own_mix (((qs + (-7046029254386353131 : Int64)) + (-7046029254386353131 : Int64)) + (-7046029254386353131 : Int64))), .second] [(.long (own_mix (((qs + (-7046029254386353131 : Int64)) + (-7046029254386353131 : Int64)) + (-7046029254386353131 : Int64))))])) _
            refine XS.lload X26.here hx rfl (hb hby at_189) rfl ?_
            show Steps p.tables e below (T26.setTop (mkF m 191 #[lv q0, .second, lv q1, .second, iv p2, iv p3, iv bn, rv w_REMOVAL, rv b16, rv b18, lv (own_mix (qs + (-7046029254386353131 : Int64))), .second, lv (own_mix ((qs + (-7046029254386353131 : Int64)) + (-7046029254386353131 : Int64))), .second, lv (own_mix (((qs + (-7046029254386353131 : Int64)) + (-7046029254386353131 : Int64)) + (-7046029254386353131 : Int64))), .second, lv (own_dr (own_mix (qs + (-7046029254386353131 : Int64)))), .second, lv (own_dr (own_mix ((qs + (-7046029254386353131 : Int64)) + (-7046029254386353131 : Int64)))), .second, lv rem, .second, lv (own_lf bn), .second, iv (((own_dr (own_mix ((qs + (-7046029254386353131 : Int64)) + (-7046029254386353131 : Int64)))) - ((own_dr (own_mix ((qs + (-7046029254386353131 : Int64)) + (-7046029254386353131 : Int64)))) / (bn.toInt64)) * (bn.toInt64)).toInt32), lv (own_mix (((qs + (-7046029254386353131 : Int64)) + (-7046029254386353131 : Int64)) + (-7046029254386353131 : Int64))), .second] [(.long (own_mix (((qs + (-7046029254386353131 : Int64)) + (-7046029254386353131 : Int64)) + (-7046029254386353131 : Int64)))), (.long (own_mix (((qs + (-7046029254386353131 : Int64)) + (-7046029254386353131 : Int64)) + (-7046029254386353131 : Int64))))])) _
            refine XS.lcmp X26.here hx rfl (hb hby at_191) rfl ?_
            show Steps p.tables e below (T26.setTop (mkF m 192 #[lv q0, .second, lv q1, .second, iv p2, iv p3, iv bn, rv w_REMOVAL, rv b16, rv b18, lv (own_mix (qs + (-7046029254386353131 : Int64))), .second, lv (own_mix ((qs + (-7046029254386353131 : Int64)) + (-7046029254386353131 : Int64))), .second, lv (own_mix (((qs + (-7046029254386353131 : Int64)) + (-7046029254386353131 : Int64)) + (-7046029254386353131 : Int64))), .second, lv (own_dr (own_mix (qs + (-7046029254386353131 : Int64)))), .second, lv (own_dr (own_mix ((qs + (-7046029254386353131 : Int64)) + (-7046029254386353131 : Int64)))), .second, lv rem, .second, lv (own_lf bn), .second, iv (((own_dr (own_mix ((qs + (-7046029254386353131 : Int64)) + (-7046029254386353131 : Int64)))) - ((own_dr (own_mix ((qs + (-7046029254386353131 : Int64)) + (-7046029254386353131 : Int64)))) / (bn.toInt64)) * (bn.toInt64)).toInt32), lv (own_mix (((qs + (-7046029254386353131 : Int64)) + (-7046029254386353131 : Int64)) + (-7046029254386353131 : Int64))), .second] [(.int (lcmpW (own_mix (((qs + (-7046029254386353131 : Int64)) + (-7046029254386353131 : Int64)) + (-7046029254386353131 : Int64))) (own_mix (((qs + (-7046029254386353131 : Int64)) + (-7046029254386353131 : Int64)) + (-7046029254386353131 : Int64)))))])) _
            refine XS.ifNo X26.here hx rfl (hb hby at_192) rfl ((if0 _ _).trans (teq ((lw_eq (own_mix (((qs + (-7046029254386353131 : Int64)) + (-7046029254386353131 : Int64)) + (-7046029254386353131 : Int64))) (own_mix (((qs + (-7046029254386353131 : Int64)) + (-7046029254386353131 : Int64)) + (-7046029254386353131 : Int64)))).mpr rfl)).2) ?_
            show Steps p.tables e below (T26.setTop (mkF m 195 #[lv q0, .second, lv q1, .second, iv p2, iv p3, iv bn, rv w_REMOVAL, rv b16, rv b18, lv (own_mix (qs + (-7046029254386353131 : Int64))), .second, lv (own_mix ((qs + (-7046029254386353131 : Int64)) + (-7046029254386353131 : Int64))), .second, lv (own_mix (((qs + (-7046029254386353131 : Int64)) + (-7046029254386353131 : Int64)) + (-7046029254386353131 : Int64))), .second, lv (own_dr (own_mix (qs + (-7046029254386353131 : Int64)))), .second, lv (own_dr (own_mix ((qs + (-7046029254386353131 : Int64)) + (-7046029254386353131 : Int64)))), .second, lv rem, .second, lv (own_lf bn), .second, iv (((own_dr (own_mix ((qs + (-7046029254386353131 : Int64)) + (-7046029254386353131 : Int64)))) - ((own_dr (own_mix ((qs + (-7046029254386353131 : Int64)) + (-7046029254386353131 : Int64)))) / (bn.toInt64)) * (bn.toInt64)).toInt32), lv (own_mix (((qs + (-7046029254386353131 : Int64)) + (-7046029254386353131 : Int64)) + (-7046029254386353131 : Int64))), .second] [])) _
            refine XS.iconst X26.here hx rfl (hb hby at_195) ?_
            show Steps p.tables e below (T26.setTop (mkF m 196 #[lv q0, .second, lv q1, .second, iv p2, iv p3, iv bn, rv w_REMOVAL, rv b16, rv b18, lv (own_mix (qs + (-7046029254386353131 : Int64))), .second, lv (own_mix ((qs + (-7046029254386353131 : Int64)) + (-7046029254386353131 : Int64))), .second, lv (own_mix (((qs + (-7046029254386353131 : Int64)) + (-7046029254386353131 : Int64)) + (-7046029254386353131 : Int64))), .second, lv (own_dr (own_mix (qs + (-7046029254386353131 : Int64)))), .second, lv (own_dr (own_mix ((qs + (-7046029254386353131 : Int64)) + (-7046029254386353131 : Int64)))), .second, lv rem, .second, lv (own_lf bn), .second, iv (((own_dr (own_mix ((qs + (-7046029254386353131 : Int64)) + (-7046029254386353131 : Int64)))) - ((own_dr (own_mix ((qs + (-7046029254386353131 : Int64)) + (-7046029254386353131 : Int64)))) / (bn.toInt64)) * (bn.toInt64)).toInt32), lv (own_mix (((qs + (-7046029254386353131 : Int64)) + (-7046029254386353131 : Int64)) + (-7046029254386353131 : Int64))), .second] [(.int (1 : Int32))])) _
            refine XS.goto X26.here hx rfl (pc0 := 196) (pc' := 200) rfl (hb hby at_196) (by decide) (by decide) ?_
            exact k
          obtain ⟨fs, hr, hrun, hended, hW, hsame⟩ := X26.leave (v := some (.int (1 : Int32))) (fun h => by rw [Bd.returns] at h; cases h)
          refine Go.fin (S' := T26.setFrames fs) ?_ hrun hended ⟨_, _, rfl, ?_, ⟨_, rfl⟩, hW, hsame.mono (by decide) (by decide)⟩
          · exact retOut X26 hx Bd.returns (by decide) (Or.inl ⟨rfl, Or.inr (Or.inl rfl), _, rfl⟩) (hb hby at_200) hr
          · show Q_rm0 Z q0 q1 p2 p3 w_GRID w_REMOVAL h0 n0 (some (.int (1 : Int32))) T26.heap _
            exact ⟨rfl, N26, K⟩
      · skip
        obtain ⟨cq27, kq27, q27a, q27b, q27c⟩ := isOf hZ (Eq.refl T22.heap) E_b16
        obtain ⟨_, _, ⟨T27, L27, k27, n27⟩, -, X27, ⟨Lc27, hQ27, l27, y27, z27⟩, st27⟩ := X22.virtualBack hx (y := (⟨"org/ninefold/service/SeededRandom", "nextInt", "(I)I"⟩ : MethodName)) (z := (⟨"org/ninefold/service/SeededRandom", "nextInt", "(I)I"⟩ : MethodName)) hown (mvT hZ (own_w hw 31 rfl)) (mvT hZ (own_w hw 32 rfl)) (notFace_of_selects (args := #[]) (mvT hZ (own_w hw 34 rfl))) (mvT hZ (own_w hw 34 rfl)) (mvT hZ (own_w hw 33 rfl)) (by decide) (backOf (W := 0) (rmNI1 l Z a0 hw [] b16 bn qs T22.heap n0 O E_b16 F_17 (by assumption) hpos hA) hZ (own_w hw 35 rfl) (own_w hw 6 rfl) (by decide) (by decide)) q27a q27c (g := (mkF m 121 #[lv q0, .second, lv q1, .second, iv p2, iv p3, iv bn, rv w_REMOVAL, rv b16, rv b18, lv (own_mix (qs + (-7046029254386353131 : Int64))), .second, lv (own_mix ((qs + (-7046029254386353131 : Int64)) + (-7046029254386353131 : Int64))), .second, lv (own_mix (((qs + (-7046029254386353131 : Int64)) + (-7046029254386353131 : Int64)) + (-7046029254386353131 : Int64))), .second, lv (own_dr (own_mix (qs + (-7046029254386353131 : Int64)))), .second, lv (own_dr (own_mix ((qs + (-7046029254386353131 : Int64)) + (-7046029254386353131 : Int64)))), .second, lv rem, .second, lv (own_lf bn), .second, u_, u_, u_] [(.int bn), (.ref b16)])) rfl (by rw [hml]; rfl) (Steps.refl _) (argsL := [(.int bn)]) (rest := []) (lenOf pd__28I_29I rfl) rfl (by show 2 * 0 + _ ≤ _; exact Nat.le_of_eq rfl) (hb hby at_121) (fun _ _ => ⟨rfl, (Eq.refl T22.heap), (by decide : 2 + 0 ≤ _), (by decide : 2 + 0 ≤ _)⟩)
        dsimp only [Pt.U, Pt.locs, Pt.cells, Pt.slots] at X27 l27 y27 z27 st27 hQ27
        subst l27 y27 z27
        obtain ⟨rfl, Nq27, K27, P27_E, P27_F⟩ := hQ27
        have N27 := Fr.app N22 Nq27
        have O := O.keep K27 (allS g_b16 all0)
        have K := K.trans K27 (allS (Or.inr sz_b16) all0)
        have E_b16 := E_b16.keep K27
        have E_17 := E_17.keep K27
        have E_b18 := E_b18.keep K27
        have E_19 := E_19.keep K27
        have E_20 := E_20.keep K27
        have E_21 := E_21.keep K27
        have E_22 := E_22.keep K27
        have F_22 := F_22.keep K27 (ninS (Ne.symm ne_b16_b18) nin0)
        have E_27 := P27_E
        have F_27 := P27_F
        refine Go.step (fun t k => st27.trans k) ?_
        show Go p e below _ (T27.setTop (mkF m 124 #[lv q0, .second, lv q1, .second, iv p2, iv p3, iv bn, rv w_REMOVAL, rv b16, rv b18, lv (own_mix (qs + (-7046029254386353131 : Int64))), .second, lv (own_mix ((qs + (-7046029254386353131 : Int64)) + (-7046029254386353131 : Int64))), .second, lv (own_mix (((qs + (-7046029254386353131 : Int64)) + (-7046029254386353131 : Int64)) + (-7046029254386353131 : Int64))), .second, lv (own_dr (own_mix (qs + (-7046029254386353131 : Int64)))), .second, lv (own_dr (own_mix ((qs + (-7046029254386353131 : Int64)) + (-7046029254386353131 : Int64)))), .second, lv rem, .second, lv (own_lf bn), .second, u_, u_, u_] [(.int (((own_dr (own_mix (qs + (-7046029254386353131 : Int64)))) - ((own_dr (own_mix (qs + (-7046029254386353131 : Int64)))) / (bn.toInt64)) * (bn.toInt64)).toInt32))]))
        refine Go.step (S' := T27.setTop (mkF m 128 #[lv q0, .second, lv q1, .second, iv p2, iv p3, iv bn, rv w_REMOVAL, rv b16, rv b18, lv (own_mix (qs + (-7046029254386353131 : Int64))), .second, lv (own_mix ((qs + (-7046029254386353131 : Int64)) + (-7046029254386353131 : Int64))), .second, lv (own_mix (((qs + (-7046029254386353131 : Int64)) + (-7046029254386353131 : Int64)) + (-7046029254386353131 : Int64))), .second, lv (own_dr (own_mix (qs + (-7046029254386353131 : Int64)))), .second, lv (own_dr (own_mix ((qs + (-7046029254386353131 : Int64)) + (-7046029254386353131 : Int64)))), .second, lv rem, .second, lv (own_lf bn), .second, iv (((own_dr (own_mix (qs + (-7046029254386353131 : Int64)))) - ((own_dr (own_mix (qs + (-7046029254386353131 : Int64)))) / (bn.toInt64)) * (bn.toInt64)).toInt32), u_, u_] [(.ref b16)])) (fun t k => ?_) ?_
        · show Steps p.tables e below (T27.setTop (mkF m 124 #[lv q0, .second, lv q1, .second, iv p2, iv p3, iv bn, rv w_REMOVAL, rv b16, rv b18, lv (own_mix (qs + (-7046029254386353131 : Int64))), .second, lv (own_mix ((qs + (-7046029254386353131 : Int64)) + (-7046029254386353131 : Int64))), .second, lv (own_mix (((qs + (-7046029254386353131 : Int64)) + (-7046029254386353131 : Int64)) + (-7046029254386353131 : Int64))), .second, lv (own_dr (own_mix (qs + (-7046029254386353131 : Int64)))), .second, lv (own_dr (own_mix ((qs + (-7046029254386353131 : Int64)) + (-7046029254386353131 : Int64)))), .second, lv rem, .second, lv (own_lf bn), .second, u_, u_, u_] [(.int (((own_dr (own_mix (qs + (-7046029254386353131 : Int64)))) - ((own_dr (own_mix (qs + (-7046029254386353131 : Int64)))) / (bn.toInt64)) * (bn.toInt64)).toInt32))])) _
          refine XS.istore X27.here hx rfl (hb hby at_124) rfl (l' := #[lv q0, .second, lv q1, .second, iv p2, iv p3, iv bn, rv w_REMOVAL, rv b16, rv b18, lv (own_mix (qs + (-7046029254386353131 : Int64))), .second, lv (own_mix ((qs + (-7046029254386353131 : Int64)) + (-7046029254386353131 : Int64))), .second, lv (own_mix (((qs + (-7046029254386353131 : Int64)) + (-7046029254386353131 : Int64)) + (-7046029254386353131 : Int64))), .second, lv (own_dr (own_mix (qs + (-7046029254386353131 : Int64)))), .second, lv (own_dr (own_mix ((qs + (-7046029254386353131 : Int64)) + (-7046029254386353131 : Int64)))), .second, lv rem, .second, lv (own_lf bn), .second, iv (((own_dr (own_mix (qs + (-7046029254386353131 : Int64)))) - ((own_dr (own_mix (qs + (-7046029254386353131 : Int64)))) / (bn.toInt64)) * (bn.toInt64)).toInt32), u_, u_]) rfl ?_
          show Steps p.tables e below (T27.setTop (mkF m 126 #[lv q0, .second, lv q1, .second, iv p2, iv p3, iv bn, rv w_REMOVAL, rv b16, rv b18, lv (own_mix (qs + (-7046029254386353131 : Int64))), .second, lv (own_mix ((qs + (-7046029254386353131 : Int64)) + (-7046029254386353131 : Int64))), .second, lv (own_mix (((qs + (-7046029254386353131 : Int64)) + (-7046029254386353131 : Int64)) + (-7046029254386353131 : Int64))), .second, lv (own_dr (own_mix (qs + (-7046029254386353131 : Int64)))), .second, lv (own_dr (own_mix ((qs + (-7046029254386353131 : Int64)) + (-7046029254386353131 : Int64)))), .second, lv rem, .second, lv (own_lf bn), .second, iv (((own_dr (own_mix (qs + (-7046029254386353131 : Int64)))) - ((own_dr (own_mix (qs + (-7046029254386353131 : Int64)))) / (bn.toInt64)) * (bn.toInt64)).toInt32), u_, u_] [])) _
          refine XS.aload X27.here hx rfl (hb hby at_126) rfl rfl ?_
          exact k
        obtain ⟨cq28, kq28, q28a, q28b, q28c⟩ := isOf hZ (Eq.refl T27.heap) E_b16
        obtain ⟨_, _, ⟨T28, L28, k28, n28⟩, -, X28, ⟨Lc28, hQ28, l28, y28, z28⟩, st28⟩ := X27.virtualBack hx (y := (⟨"org/ninefold/service/SeededRandom", "nextLong", "()J"⟩ : MethodName)) (z := (⟨"org/ninefold/service/SeededRandom", "nextLong", "()J"⟩ : MethodName)) hown (mvT hZ (own_w hw 23 rfl)) (mvT hZ (own_w hw 24 rfl)) (notFace_of_selects (args := #[]) (mvT hZ (own_w hw 26 rfl))) (mvT hZ (own_w hw 26 rfl)) (mvT hZ (own_w hw 25 rfl)) (by decide) (backOf (W := 0) (rmNL l Z a0 hw [] b16 (qs + (-7046029254386353131 : Int64)) T27.heap n0 O E_b16 F_27 (by assumption)) hZ (own_w hw 27 rfl) (own_w hw 6 rfl) (by decide) (by decide)) q28a q28c (g := (mkF m 128 #[lv q0, .second, lv q1, .second, iv p2, iv p3, iv bn, rv w_REMOVAL, rv b16, rv b18, lv (own_mix (qs + (-7046029254386353131 : Int64))), .second, lv (own_mix ((qs + (-7046029254386353131 : Int64)) + (-7046029254386353131 : Int64))), .second, lv (own_mix (((qs + (-7046029254386353131 : Int64)) + (-7046029254386353131 : Int64)) + (-7046029254386353131 : Int64))), .second, lv (own_dr (own_mix (qs + (-7046029254386353131 : Int64)))), .second, lv (own_dr (own_mix ((qs + (-7046029254386353131 : Int64)) + (-7046029254386353131 : Int64)))), .second, lv rem, .second, lv (own_lf bn), .second, iv (((own_dr (own_mix (qs + (-7046029254386353131 : Int64)))) - ((own_dr (own_mix (qs + (-7046029254386353131 : Int64)))) / (bn.toInt64)) * (bn.toInt64)).toInt32), u_, u_] [(.ref b16)])) rfl (by rw [hml]; rfl) (Steps.refl _) (argsL := []) (rest := []) (lenOf pd__28_29J rfl) rfl (by show 2 * 0 + _ ≤ _; exact Nat.le_of_eq rfl) (hb hby at_128) (fun _ _ => ⟨rfl, (Eq.refl T27.heap), (by decide : 2 + 0 ≤ _), (by decide : 2 + 0 ≤ _)⟩)
        dsimp only [Pt.U, Pt.locs, Pt.cells, Pt.slots] at X28 l28 y28 z28 st28 hQ28
        subst l28 y28 z28
        obtain ⟨rfl, Nq28, K28, P28_E, P28_F⟩ := hQ28
        have N28 := Fr.app N27 Nq28
        have O := O.keep K28 (allS g_b16 all0)
        have K := K.trans K28 (allS (Or.inr sz_b16) all0)
        have E_b16 := E_b16.keep K28
        have E_17 := E_17.keep K28
        have E_b18 := E_b18.keep K28
        have E_19 := E_19.keep K28
        have E_20 := E_20.keep K28
        have E_21 := E_21.keep K28
        have E_22 := E_22.keep K28
        have F_22 := F_22.keep K28 (ninS (Ne.symm ne_b16_b18) nin0)
        have E_27 := E_27.keep K28
        have E_28 := P28_E
        have F_28 := P28_F
        refine Go.step (fun t k => st28.trans k) ?_
        show Go p e below _ (T28.setTop (mkF m 131 #[lv q0, .second, lv q1, .second, iv p2, iv p3, iv bn, rv w_REMOVAL, rv b16, rv b18, lv (own_mix (qs + (-7046029254386353131 : Int64))), .second, lv (own_mix ((qs + (-7046029254386353131 : Int64)) + (-7046029254386353131 : Int64))), .second, lv (own_mix (((qs + (-7046029254386353131 : Int64)) + (-7046029254386353131 : Int64)) + (-7046029254386353131 : Int64))), .second, lv (own_dr (own_mix (qs + (-7046029254386353131 : Int64)))), .second, lv (own_dr (own_mix ((qs + (-7046029254386353131 : Int64)) + (-7046029254386353131 : Int64)))), .second, lv rem, .second, lv (own_lf bn), .second, iv (((own_dr (own_mix (qs + (-7046029254386353131 : Int64)))) - ((own_dr (own_mix (qs + (-7046029254386353131 : Int64)))) / (bn.toInt64)) * (bn.toInt64)).toInt32), u_, u_] [(.long (own_mix ((qs + (-7046029254386353131 : Int64)) + (-7046029254386353131 : Int64))))]))
        refine Go.step (S' := T28.setTop (mkF m 166 #[lv q0, .second, lv q1, .second, iv p2, iv p3, iv bn, rv w_REMOVAL, rv b16, rv b18, lv (own_mix (qs + (-7046029254386353131 : Int64))), .second, lv (own_mix ((qs + (-7046029254386353131 : Int64)) + (-7046029254386353131 : Int64))), .second, lv (own_mix (((qs + (-7046029254386353131 : Int64)) + (-7046029254386353131 : Int64)) + (-7046029254386353131 : Int64))), .second, lv (own_dr (own_mix (qs + (-7046029254386353131 : Int64)))), .second, lv (own_dr (own_mix ((qs + (-7046029254386353131 : Int64)) + (-7046029254386353131 : Int64)))), .second, lv rem, .second, lv (own_lf bn), .second, iv (((own_dr (own_mix (qs + (-7046029254386353131 : Int64)))) - ((own_dr (own_mix (qs + (-7046029254386353131 : Int64)))) / (bn.toInt64)) * (bn.toInt64)).toInt32), lv (own_mix ((qs + (-7046029254386353131 : Int64)) + (-7046029254386353131 : Int64))), .second] [(.int (1 : Int32))])) (fun t k => ?_) ?_
        · show Steps p.tables e below (T28.setTop (mkF m 131 #[lv q0, .second, lv q1, .second, iv p2, iv p3, iv bn, rv w_REMOVAL, rv b16, rv b18, lv (own_mix (qs + (-7046029254386353131 : Int64))), .second, lv (own_mix ((qs + (-7046029254386353131 : Int64)) + (-7046029254386353131 : Int64))), .second, lv (own_mix (((qs + (-7046029254386353131 : Int64)) + (-7046029254386353131 : Int64)) + (-7046029254386353131 : Int64))), .second, lv (own_dr (own_mix (qs + (-7046029254386353131 : Int64)))), .second, lv (own_dr (own_mix ((qs + (-7046029254386353131 : Int64)) + (-7046029254386353131 : Int64)))), .second, lv rem, .second, lv (own_lf bn), .second, iv (((own_dr (own_mix (qs + (-7046029254386353131 : Int64)))) - ((own_dr (own_mix (qs + (-7046029254386353131 : Int64)))) / (bn.toInt64)) * (bn.toInt64)).toInt32), u_, u_] [(.long (own_mix ((qs + (-7046029254386353131 : Int64)) + (-7046029254386353131 : Int64))))])) _
          refine XS.lstore X28.here hx rfl (hb hby at_131) rfl (l' := #[lv q0, .second, lv q1, .second, iv p2, iv p3, iv bn, rv w_REMOVAL, rv b16, rv b18, lv (own_mix (qs + (-7046029254386353131 : Int64))), .second, lv (own_mix ((qs + (-7046029254386353131 : Int64)) + (-7046029254386353131 : Int64))), .second, lv (own_mix (((qs + (-7046029254386353131 : Int64)) + (-7046029254386353131 : Int64)) + (-7046029254386353131 : Int64))), .second, lv (own_dr (own_mix (qs + (-7046029254386353131 : Int64)))), .second, lv (own_dr (own_mix ((qs + (-7046029254386353131 : Int64)) + (-7046029254386353131 : Int64)))), .second, lv rem, .second, lv (own_lf bn), .second, iv (((own_dr (own_mix (qs + (-7046029254386353131 : Int64)))) - ((own_dr (own_mix (qs + (-7046029254386353131 : Int64)))) / (bn.toInt64)) * (bn.toInt64)).toInt32), lv (own_mix ((qs + (-7046029254386353131 : Int64)) + (-7046029254386353131 : Int64))), .second]) rfl ?_
          show Steps p.tables e below (T28.setTop (mkF m 133 #[lv q0, .second, lv q1, .second, iv p2, iv p3, iv bn, rv w_REMOVAL, rv b16, rv b18, lv (own_mix (qs + (-7046029254386353131 : Int64))), .second, lv (own_mix ((qs + (-7046029254386353131 : Int64)) + (-7046029254386353131 : Int64))), .second, lv (own_mix (((qs + (-7046029254386353131 : Int64)) + (-7046029254386353131 : Int64)) + (-7046029254386353131 : Int64))), .second, lv (own_dr (own_mix (qs + (-7046029254386353131 : Int64)))), .second, lv (own_dr (own_mix ((qs + (-7046029254386353131 : Int64)) + (-7046029254386353131 : Int64)))), .second, lv rem, .second, lv (own_lf bn), .second, iv (((own_dr (own_mix (qs + (-7046029254386353131 : Int64)))) - ((own_dr (own_mix (qs + (-7046029254386353131 : Int64)))) / (bn.toInt64)) * (bn.toInt64)).toInt32), lv (own_mix ((qs + (-7046029254386353131 : Int64)) + (-7046029254386353131 : Int64))), .second] [])) _
          refine XS.lload X28.here hx rfl (hb hby at_133) rfl ?_
          show Steps p.tables e below (T28.setTop (mkF m 135 #[lv q0, .second, lv q1, .second, iv p2, iv p3, iv bn, rv w_REMOVAL, rv b16, rv b18, lv (own_mix (qs + (-7046029254386353131 : Int64))), .second, lv (own_mix ((qs + (-7046029254386353131 : Int64)) + (-7046029254386353131 : Int64))), .second, lv (own_mix (((qs + (-7046029254386353131 : Int64)) + (-7046029254386353131 : Int64)) + (-7046029254386353131 : Int64))), .second, lv (own_dr (own_mix (qs + (-7046029254386353131 : Int64)))), .second, lv (own_dr (own_mix ((qs + (-7046029254386353131 : Int64)) + (-7046029254386353131 : Int64)))), .second, lv rem, .second, lv (own_lf bn), .second, iv (((own_dr (own_mix (qs + (-7046029254386353131 : Int64)))) - ((own_dr (own_mix (qs + (-7046029254386353131 : Int64)))) / (bn.toInt64)) * (bn.toInt64)).toInt32), lv (own_mix ((qs + (-7046029254386353131 : Int64)) + (-7046029254386353131 : Int64))), .second] [(.long (own_dr (own_mix (qs + (-7046029254386353131 : Int64)))))])) _
          refine XS.lload X28.here hx rfl (hb hby at_135) rfl ?_
          show Steps p.tables e below (T28.setTop (mkF m 137 #[lv q0, .second, lv q1, .second, iv p2, iv p3, iv bn, rv w_REMOVAL, rv b16, rv b18, lv (own_mix (qs + (-7046029254386353131 : Int64))), .second, lv (own_mix ((qs + (-7046029254386353131 : Int64)) + (-7046029254386353131 : Int64))), .second, lv (own_mix (((qs + (-7046029254386353131 : Int64)) + (-7046029254386353131 : Int64)) + (-7046029254386353131 : Int64))), .second, lv (own_dr (own_mix (qs + (-7046029254386353131 : Int64)))), .second, lv (own_dr (own_mix ((qs + (-7046029254386353131 : Int64)) + (-7046029254386353131 : Int64)))), .second, lv rem, .second, lv (own_lf bn), .second, iv (((own_dr (own_mix (qs + (-7046029254386353131 : Int64)))) - ((own_dr (own_mix (qs + (-7046029254386353131 : Int64)))) / (bn.toInt64)) * (bn.toInt64)).toInt32), lv (own_mix ((qs + (-7046029254386353131 : Int64)) + (-7046029254386353131 : Int64))), .second] [(.long (own_lf bn)), (.long (own_dr (own_mix (qs + (-7046029254386353131 : Int64)))))])) _
          refine XS.lcmp X28.here hx rfl (hb hby at_137) rfl ?_
          show Steps p.tables e below (T28.setTop (mkF m 138 #[lv q0, .second, lv q1, .second, iv p2, iv p3, iv bn, rv w_REMOVAL, rv b16, rv b18, lv (own_mix (qs + (-7046029254386353131 : Int64))), .second, lv (own_mix ((qs + (-7046029254386353131 : Int64)) + (-7046029254386353131 : Int64))), .second, lv (own_mix (((qs + (-7046029254386353131 : Int64)) + (-7046029254386353131 : Int64)) + (-7046029254386353131 : Int64))), .second, lv (own_dr (own_mix (qs + (-7046029254386353131 : Int64)))), .second, lv (own_dr (own_mix ((qs + (-7046029254386353131 : Int64)) + (-7046029254386353131 : Int64)))), .second, lv rem, .second, lv (own_lf bn), .second, iv (((own_dr (own_mix (qs + (-7046029254386353131 : Int64)))) - ((own_dr (own_mix (qs + (-7046029254386353131 : Int64)))) / (bn.toInt64)) * (bn.toInt64)).toInt32), lv (own_mix ((qs + (-7046029254386353131 : Int64)) + (-7046029254386353131 : Int64))), .second] [(.int (lcmpW (own_dr (own_mix (qs + (-7046029254386353131 : Int64)))) (own_lf bn)))])) _
          refine XS.ifNo X28.here hx rfl (hb hby at_138) rfl ((if0 _ _).trans (flt (fun zq => absurd ((lw_gt (own_dr (own_mix (qs + (-7046029254386353131 : Int64)))) (own_lf bn)).mp zq) hA)).2.2.1) ?_
          show Steps p.tables e below (T28.setTop (mkF m 141 #[lv q0, .second, lv q1, .second, iv p2, iv p3, iv bn, rv w_REMOVAL, rv b16, rv b18, lv (own_mix (qs + (-7046029254386353131 : Int64))), .second, lv (own_mix ((qs + (-7046029254386353131 : Int64)) + (-7046029254386353131 : Int64))), .second, lv (own_mix (((qs + (-7046029254386353131 : Int64)) + (-7046029254386353131 : Int64)) + (-7046029254386353131 : Int64))), .second, lv (own_dr (own_mix (qs + (-7046029254386353131 : Int64)))), .second, lv (own_dr (own_mix ((qs + (-7046029254386353131 : Int64)) + (-7046029254386353131 : Int64)))), .second, lv rem, .second, lv (own_lf bn), .second, iv (((own_dr (own_mix (qs + (-7046029254386353131 : Int64)))) - ((own_dr (own_mix (qs + (-7046029254386353131 : Int64)))) / (bn.toInt64)) * (bn.toInt64)).toInt32), lv (own_mix ((qs + (-7046029254386353131 : Int64)) + (-7046029254386353131 : Int64))), .second] [])) _
          refine XS.iload X28.here hx rfl (hb hby at_141) rfl ?_
          show Steps p.tables e below (T28.setTop (mkF m 143 #[lv q0, .second, lv q1, .second, iv p2, iv p3, iv bn, rv w_REMOVAL, rv b16, rv b18, lv (own_mix (qs + (-7046029254386353131 : Int64))), .second, lv (own_mix ((qs + (-7046029254386353131 : Int64)) + (-7046029254386353131 : Int64))), .second, lv (own_mix (((qs + (-7046029254386353131 : Int64)) + (-7046029254386353131 : Int64)) + (-7046029254386353131 : Int64))), .second, lv (own_dr (own_mix (qs + (-7046029254386353131 : Int64)))), .second, lv (own_dr (own_mix ((qs + (-7046029254386353131 : Int64)) + (-7046029254386353131 : Int64)))), .second, lv rem, .second, lv (own_lf bn), .second, iv (((own_dr (own_mix (qs + (-7046029254386353131 : Int64)))) - ((own_dr (own_mix (qs + (-7046029254386353131 : Int64)))) / (bn.toInt64)) * (bn.toInt64)).toInt32), lv (own_mix ((qs + (-7046029254386353131 : Int64)) + (-7046029254386353131 : Int64))), .second] [(.int (((own_dr (own_mix (qs + (-7046029254386353131 : Int64)))) - ((own_dr (own_mix (qs + (-7046029254386353131 : Int64)))) / (bn.toInt64)) * (bn.toInt64)).toInt32))])) _
          refine XS.lload X28.here hx rfl (hb hby at_143) rfl ?_
          show Steps p.tables e below (T28.setTop (mkF m 145 #[lv q0, .second, lv q1, .second, iv p2, iv p3, iv bn, rv w_REMOVAL, rv b16, rv b18, lv (own_mix (qs + (-7046029254386353131 : Int64))), .second, lv (own_mix ((qs + (-7046029254386353131 : Int64)) + (-7046029254386353131 : Int64))), .second, lv (own_mix (((qs + (-7046029254386353131 : Int64)) + (-7046029254386353131 : Int64)) + (-7046029254386353131 : Int64))), .second, lv (own_dr (own_mix (qs + (-7046029254386353131 : Int64)))), .second, lv (own_dr (own_mix ((qs + (-7046029254386353131 : Int64)) + (-7046029254386353131 : Int64)))), .second, lv rem, .second, lv (own_lf bn), .second, iv (((own_dr (own_mix (qs + (-7046029254386353131 : Int64)))) - ((own_dr (own_mix (qs + (-7046029254386353131 : Int64)))) / (bn.toInt64)) * (bn.toInt64)).toInt32), lv (own_mix ((qs + (-7046029254386353131 : Int64)) + (-7046029254386353131 : Int64))), .second] [(.long (own_dr (own_mix (qs + (-7046029254386353131 : Int64))))), (.int (((own_dr (own_mix (qs + (-7046029254386353131 : Int64)))) - ((own_dr (own_mix (qs + (-7046029254386353131 : Int64)))) / (bn.toInt64)) * (bn.toInt64)).toInt32))])) _
          refine XS.iload X28.here hx rfl (hb hby at_145) rfl ?_
          show Steps p.tables e below (T28.setTop (mkF m 147 #[lv q0, .second, lv q1, .second, iv p2, iv p3, iv bn, rv w_REMOVAL, rv b16, rv b18, lv (own_mix (qs + (-7046029254386353131 : Int64))), .second, lv (own_mix ((qs + (-7046029254386353131 : Int64)) + (-7046029254386353131 : Int64))), .second, lv (own_mix (((qs + (-7046029254386353131 : Int64)) + (-7046029254386353131 : Int64)) + (-7046029254386353131 : Int64))), .second, lv (own_dr (own_mix (qs + (-7046029254386353131 : Int64)))), .second, lv (own_dr (own_mix ((qs + (-7046029254386353131 : Int64)) + (-7046029254386353131 : Int64)))), .second, lv rem, .second, lv (own_lf bn), .second, iv (((own_dr (own_mix (qs + (-7046029254386353131 : Int64)))) - ((own_dr (own_mix (qs + (-7046029254386353131 : Int64)))) / (bn.toInt64)) * (bn.toInt64)).toInt32), lv (own_mix ((qs + (-7046029254386353131 : Int64)) + (-7046029254386353131 : Int64))), .second] [(.int bn), (.long (own_dr (own_mix (qs + (-7046029254386353131 : Int64))))), (.int (((own_dr (own_mix (qs + (-7046029254386353131 : Int64)))) - ((own_dr (own_mix (qs + (-7046029254386353131 : Int64)))) / (bn.toInt64)) * (bn.toInt64)).toInt32))])) _
          refine XS.i2l X28.here hx rfl (hb hby at_147) rfl ?_
          show Steps p.tables e below (T28.setTop (mkF m 148 #[lv q0, .second, lv q1, .second, iv p2, iv p3, iv bn, rv w_REMOVAL, rv b16, rv b18, lv (own_mix (qs + (-7046029254386353131 : Int64))), .second, lv (own_mix ((qs + (-7046029254386353131 : Int64)) + (-7046029254386353131 : Int64))), .second, lv (own_mix (((qs + (-7046029254386353131 : Int64)) + (-7046029254386353131 : Int64)) + (-7046029254386353131 : Int64))), .second, lv (own_dr (own_mix (qs + (-7046029254386353131 : Int64)))), .second, lv (own_dr (own_mix ((qs + (-7046029254386353131 : Int64)) + (-7046029254386353131 : Int64)))), .second, lv rem, .second, lv (own_lf bn), .second, iv (((own_dr (own_mix (qs + (-7046029254386353131 : Int64)))) - ((own_dr (own_mix (qs + (-7046029254386353131 : Int64)))) / (bn.toInt64)) * (bn.toInt64)).toInt32), lv (own_mix ((qs + (-7046029254386353131 : Int64)) + (-7046029254386353131 : Int64))), .second] [(.long (bn.toInt64)), (.long (own_dr (own_mix (qs + (-7046029254386353131 : Int64))))), (.int (((own_dr (own_mix (qs + (-7046029254386353131 : Int64)))) - ((own_dr (own_mix (qs + (-7046029254386353131 : Int64)))) / (bn.toInt64)) * (bn.toInt64)).toInt32))])) _
          refine XS.lrem X28.here hx rfl (hb hby at_148) rfl (own_nz hpos) ?_
          show Steps p.tables e below (T28.setTop (mkF m 149 #[lv q0, .second, lv q1, .second, iv p2, iv p3, iv bn, rv w_REMOVAL, rv b16, rv b18, lv (own_mix (qs + (-7046029254386353131 : Int64))), .second, lv (own_mix ((qs + (-7046029254386353131 : Int64)) + (-7046029254386353131 : Int64))), .second, lv (own_mix (((qs + (-7046029254386353131 : Int64)) + (-7046029254386353131 : Int64)) + (-7046029254386353131 : Int64))), .second, lv (own_dr (own_mix (qs + (-7046029254386353131 : Int64)))), .second, lv (own_dr (own_mix ((qs + (-7046029254386353131 : Int64)) + (-7046029254386353131 : Int64)))), .second, lv rem, .second, lv (own_lf bn), .second, iv (((own_dr (own_mix (qs + (-7046029254386353131 : Int64)))) - ((own_dr (own_mix (qs + (-7046029254386353131 : Int64)))) / (bn.toInt64)) * (bn.toInt64)).toInt32), lv (own_mix ((qs + (-7046029254386353131 : Int64)) + (-7046029254386353131 : Int64))), .second] [(.long ((own_dr (own_mix (qs + (-7046029254386353131 : Int64)))) - ((own_dr (own_mix (qs + (-7046029254386353131 : Int64)))) / (bn.toInt64)) * (bn.toInt64))), (.int (((own_dr (own_mix (qs + (-7046029254386353131 : Int64)))) - ((own_dr (own_mix (qs + (-7046029254386353131 : Int64)))) / (bn.toInt64)) * (bn.toInt64)).toInt32))])) _
          refine XS.l2i X28.here hx rfl (hb hby at_149) rfl ?_
          show Steps p.tables e below (T28.setTop (mkF m 150 #[lv q0, .second, lv q1, .second, iv p2, iv p3, iv bn, rv w_REMOVAL, rv b16, rv b18, lv (own_mix (qs + (-7046029254386353131 : Int64))), .second, lv (own_mix ((qs + (-7046029254386353131 : Int64)) + (-7046029254386353131 : Int64))), .second, lv (own_mix (((qs + (-7046029254386353131 : Int64)) + (-7046029254386353131 : Int64)) + (-7046029254386353131 : Int64))), .second, lv (own_dr (own_mix (qs + (-7046029254386353131 : Int64)))), .second, lv (own_dr (own_mix ((qs + (-7046029254386353131 : Int64)) + (-7046029254386353131 : Int64)))), .second, lv rem, .second, lv (own_lf bn), .second, iv (((own_dr (own_mix (qs + (-7046029254386353131 : Int64)))) - ((own_dr (own_mix (qs + (-7046029254386353131 : Int64)))) / (bn.toInt64)) * (bn.toInt64)).toInt32), lv (own_mix ((qs + (-7046029254386353131 : Int64)) + (-7046029254386353131 : Int64))), .second] [(.int (((own_dr (own_mix (qs + (-7046029254386353131 : Int64)))) - ((own_dr (own_mix (qs + (-7046029254386353131 : Int64)))) / (bn.toInt64)) * (bn.toInt64)).toInt32)), (.int (((own_dr (own_mix (qs + (-7046029254386353131 : Int64)))) - ((own_dr (own_mix (qs + (-7046029254386353131 : Int64)))) / (bn.toInt64)) * (bn.toInt64)).toInt32))])) _
          refine XS.icmpNo X28.here hx rfl (hb hby at_150) rfl (teq (rfl : (((own_dr (own_mix (qs + (-7046029254386353131 : Int64)))) - ((own_dr (own_mix (qs + (-7046029254386353131 : Int64)))) / (bn.toInt64)) * (bn.toInt64)).toInt32) = (((own_dr (own_mix (qs + (-7046029254386353131 : Int64)))) - ((own_dr (own_mix (qs + (-7046029254386353131 : Int64)))) / (bn.toInt64)) * (bn.toInt64)).toInt32))).2 ?_
          show Steps p.tables e below (T28.setTop (mkF m 153 #[lv q0, .second, lv q1, .second, iv p2, iv p3, iv bn, rv w_REMOVAL, rv b16, rv b18, lv (own_mix (qs + (-7046029254386353131 : Int64))), .second, lv (own_mix ((qs + (-7046029254386353131 : Int64)) + (-7046029254386353131 : Int64))), .second, lv (own_mix (((qs + (-7046029254386353131 : Int64)) + (-7046029254386353131 : Int64)) + (-7046029254386353131 : Int64))), .second, lv (own_dr (own_mix (qs + (-7046029254386353131 : Int64)))), .second, lv (own_dr (own_mix ((qs + (-7046029254386353131 : Int64)) + (-7046029254386353131 : Int64)))), .second, lv rem, .second, lv (own_lf bn), .second, iv (((own_dr (own_mix (qs + (-7046029254386353131 : Int64)))) - ((own_dr (own_mix (qs + (-7046029254386353131 : Int64)))) / (bn.toInt64)) * (bn.toInt64)).toInt32), lv (own_mix ((qs + (-7046029254386353131 : Int64)) + (-7046029254386353131 : Int64))), .second] [])) _
          refine XS.lload X28.here hx rfl (hb hby at_153) rfl ?_
          show Steps p.tables e below (T28.setTop (mkF m 155 #[lv q0, .second, lv q1, .second, iv p2, iv p3, iv bn, rv w_REMOVAL, rv b16, rv b18, lv (own_mix (qs + (-7046029254386353131 : Int64))), .second, lv (own_mix ((qs + (-7046029254386353131 : Int64)) + (-7046029254386353131 : Int64))), .second, lv (own_mix (((qs + (-7046029254386353131 : Int64)) + (-7046029254386353131 : Int64)) + (-7046029254386353131 : Int64))), .second, lv (own_dr (own_mix (qs + (-7046029254386353131 : Int64)))), .second, lv (own_dr (own_mix ((qs + (-7046029254386353131 : Int64)) + (-7046029254386353131 : Int64)))), .second, lv rem, .second, lv (own_lf bn), .second, iv (((own_dr (own_mix (qs + (-7046029254386353131 : Int64)))) - ((own_dr (own_mix (qs + (-7046029254386353131 : Int64)))) / (bn.toInt64)) * (bn.toInt64)).toInt32), lv (own_mix ((qs + (-7046029254386353131 : Int64)) + (-7046029254386353131 : Int64))), .second] [(.long (own_mix ((qs + (-7046029254386353131 : Int64)) + (-7046029254386353131 : Int64))))])) _
          refine XS.lload X28.here hx rfl (hb hby at_155) rfl ?_
          show Steps p.tables e below (T28.setTop (mkF m 157 #[lv q0, .second, lv q1, .second, iv p2, iv p3, iv bn, rv w_REMOVAL, rv b16, rv b18, lv (own_mix (qs + (-7046029254386353131 : Int64))), .second, lv (own_mix ((qs + (-7046029254386353131 : Int64)) + (-7046029254386353131 : Int64))), .second, lv (own_mix (((qs + (-7046029254386353131 : Int64)) + (-7046029254386353131 : Int64)) + (-7046029254386353131 : Int64))), .second, lv (own_dr (own_mix (qs + (-7046029254386353131 : Int64)))), .second, lv (own_dr (own_mix ((qs + (-7046029254386353131 : Int64)) + (-7046029254386353131 : Int64)))), .second, lv rem, .second, lv (own_lf bn), .second, iv (((own_dr (own_mix (qs + (-7046029254386353131 : Int64)))) - ((own_dr (own_mix (qs + (-7046029254386353131 : Int64)))) / (bn.toInt64)) * (bn.toInt64)).toInt32), lv (own_mix ((qs + (-7046029254386353131 : Int64)) + (-7046029254386353131 : Int64))), .second] [(.long (own_mix ((qs + (-7046029254386353131 : Int64)) + (-7046029254386353131 : Int64)))), (.long (own_mix ((qs + (-7046029254386353131 : Int64)) + (-7046029254386353131 : Int64))))])) _
          refine XS.lcmp X28.here hx rfl (hb hby at_157) rfl ?_
          show Steps p.tables e below (T28.setTop (mkF m 158 #[lv q0, .second, lv q1, .second, iv p2, iv p3, iv bn, rv w_REMOVAL, rv b16, rv b18, lv (own_mix (qs + (-7046029254386353131 : Int64))), .second, lv (own_mix ((qs + (-7046029254386353131 : Int64)) + (-7046029254386353131 : Int64))), .second, lv (own_mix (((qs + (-7046029254386353131 : Int64)) + (-7046029254386353131 : Int64)) + (-7046029254386353131 : Int64))), .second, lv (own_dr (own_mix (qs + (-7046029254386353131 : Int64)))), .second, lv (own_dr (own_mix ((qs + (-7046029254386353131 : Int64)) + (-7046029254386353131 : Int64)))), .second, lv rem, .second, lv (own_lf bn), .second, iv (((own_dr (own_mix (qs + (-7046029254386353131 : Int64)))) - ((own_dr (own_mix (qs + (-7046029254386353131 : Int64)))) / (bn.toInt64)) * (bn.toInt64)).toInt32), lv (own_mix ((qs + (-7046029254386353131 : Int64)) + (-7046029254386353131 : Int64))), .second] [(.int (lcmpW (own_mix ((qs + (-7046029254386353131 : Int64)) + (-7046029254386353131 : Int64))) (own_mix ((qs + (-7046029254386353131 : Int64)) + (-7046029254386353131 : Int64)))))])) _
          refine XS.ifNo X28.here hx rfl (hb hby at_158) rfl ((if0 _ _).trans (teq ((lw_eq (own_mix ((qs + (-7046029254386353131 : Int64)) + (-7046029254386353131 : Int64))) (own_mix ((qs + (-7046029254386353131 : Int64)) + (-7046029254386353131 : Int64)))).mpr rfl)).2) ?_
          show Steps p.tables e below (T28.setTop (mkF m 161 #[lv q0, .second, lv q1, .second, iv p2, iv p3, iv bn, rv w_REMOVAL, rv b16, rv b18, lv (own_mix (qs + (-7046029254386353131 : Int64))), .second, lv (own_mix ((qs + (-7046029254386353131 : Int64)) + (-7046029254386353131 : Int64))), .second, lv (own_mix (((qs + (-7046029254386353131 : Int64)) + (-7046029254386353131 : Int64)) + (-7046029254386353131 : Int64))), .second, lv (own_dr (own_mix (qs + (-7046029254386353131 : Int64)))), .second, lv (own_dr (own_mix ((qs + (-7046029254386353131 : Int64)) + (-7046029254386353131 : Int64)))), .second, lv rem, .second, lv (own_lf bn), .second, iv (((own_dr (own_mix (qs + (-7046029254386353131 : Int64)))) - ((own_dr (own_mix (qs + (-7046029254386353131 : Int64)))) / (bn.toInt64)) * (bn.toInt64)).toInt32), lv (own_mix ((qs + (-7046029254386353131 : Int64)) + (-7046029254386353131 : Int64))), .second] [])) _
          refine XS.iconst X28.here hx rfl (hb hby at_161) ?_
          show Steps p.tables e below (T28.setTop (mkF m 162 #[lv q0, .second, lv q1, .second, iv p2, iv p3, iv bn, rv w_REMOVAL, rv b16, rv b18, lv (own_mix (qs + (-7046029254386353131 : Int64))), .second, lv (own_mix ((qs + (-7046029254386353131 : Int64)) + (-7046029254386353131 : Int64))), .second, lv (own_mix (((qs + (-7046029254386353131 : Int64)) + (-7046029254386353131 : Int64)) + (-7046029254386353131 : Int64))), .second, lv (own_dr (own_mix (qs + (-7046029254386353131 : Int64)))), .second, lv (own_dr (own_mix ((qs + (-7046029254386353131 : Int64)) + (-7046029254386353131 : Int64)))), .second, lv rem, .second, lv (own_lf bn), .second, iv (((own_dr (own_mix (qs + (-7046029254386353131 : Int64)))) - ((own_dr (own_mix (qs + (-7046029254386353131 : Int64)))) / (bn.toInt64)) * (bn.toInt64)).toInt32), lv (own_mix ((qs + (-7046029254386353131 : Int64)) + (-7046029254386353131 : Int64))), .second] [(.int (1 : Int32))])) _
          refine XS.goto X28.here hx rfl (pc0 := 162) (pc' := 166) rfl (hb hby at_162) (by decide) (by decide) ?_
          exact k
        obtain ⟨fs, hr, hrun, hended, hW, hsame⟩ := X28.leave (v := some (.int (1 : Int32))) (fun h => by rw [Bd.returns] at h; cases h)
        refine Go.fin (S' := T28.setFrames fs) ?_ hrun hended ⟨_, _, rfl, ?_, ⟨_, rfl⟩, hW, hsame.mono (by decide) (by decide)⟩
        · exact retOut X28 hx Bd.returns (by decide) (Or.inl ⟨rfl, Or.inr (Or.inl rfl), _, rfl⟩) (hb hby at_166) hr
        · show Q_rm0 Z q0 q1 p2 p3 w_GRID w_REMOVAL h0 n0 (some (.int (1 : Int32))) T28.heap _
          exact ⟨rfl, N28, K⟩
  refine Go.step (S' := s₁.setTop (mkF m 9 #[lv q0, .second, lv q1, .second, iv p2, iv p3, iv (p3 &&& (2147483647 : Int32)), u_, u_, u_, u_, u_, u_, u_, u_, u_, u_, u_, u_, u_, u_, u_, u_, u_, u_, u_, u_] [(.int (p3 &&& (2147483647 : Int32)))])) (fun t k => ?_) ?_
  · show Steps p.tables e below (s₁.setTop (mkF m 0 #[lv q0, .second, lv q1, .second, iv p2, iv p3, u_, u_, u_, u_, u_, u_, u_, u_, u_, u_, u_, u_, u_, u_, u_, u_, u_, u_, u_, u_, u_] [])) _
    refine XS.iload X0.here hx rfl (hb hby at_0) rfl ?_
    show Steps p.tables e below (s₁.setTop (mkF m 2 #[lv q0, .second, lv q1, .second, iv p2, iv p3, u_, u_, u_, u_, u_, u_, u_, u_, u_, u_, u_, u_, u_, u_, u_, u_, u_, u_, u_, u_, u_] [(.int p3)])) _
    refine X0.ldcInt hx hown (mvT hZ (own_w hw 0 rfl)) (g := (mkF m 2 #[lv q0, .second, lv q1, .second, iv p2, iv p3, u_, u_, u_, u_, u_, u_, u_, u_, u_, u_, u_, u_, u_, u_, u_, u_, u_, u_, u_, u_, u_] [(.int p3)])) rfl (hb hby at_2) _ ?_
    show Steps p.tables e below (s₁.setTop (mkF m 4 #[lv q0, .second, lv q1, .second, iv p2, iv p3, u_, u_, u_, u_, u_, u_, u_, u_, u_, u_, u_, u_, u_, u_, u_, u_, u_, u_, u_, u_, u_] [(.int (2147483647 : Int32)), (.int p3)])) _
    refine XS.iand X0.here hx rfl (hb hby at_4) rfl ?_
    show Steps p.tables e below (s₁.setTop (mkF m 5 #[lv q0, .second, lv q1, .second, iv p2, iv p3, u_, u_, u_, u_, u_, u_, u_, u_, u_, u_, u_, u_, u_, u_, u_, u_, u_, u_, u_, u_, u_] [(.int (p3 &&& (2147483647 : Int32)))])) _
    refine XS.istore X0.here hx rfl (hb hby at_5) rfl (l' := #[lv q0, .second, lv q1, .second, iv p2, iv p3, iv (p3 &&& (2147483647 : Int32)), u_, u_, u_, u_, u_, u_, u_, u_, u_, u_, u_, u_, u_, u_, u_, u_, u_, u_, u_, u_]) rfl ?_
    show Steps p.tables e below (s₁.setTop (mkF m 7 #[lv q0, .second, lv q1, .second, iv p2, iv p3, iv (p3 &&& (2147483647 : Int32)), u_, u_, u_, u_, u_, u_, u_, u_, u_, u_, u_, u_, u_, u_, u_, u_, u_, u_, u_, u_] [])) _
    refine XS.iload X0.here hx rfl (hb hby at_7) rfl ?_
    exact k
  by_cases hc9 : (p3 &&& (2147483647 : Int32)) = (0 : Int32)
  · skip
    refine Go.step (S' := s₁.setTop (mkF m 15 #[lv q0, .second, lv q1, .second, iv p2, iv p3, iv (1 : Int32), u_, u_, u_, u_, u_, u_, u_, u_, u_, u_, u_, u_, u_, u_, u_, u_, u_, u_, u_, u_] [])) (fun t k => ?_) ?_
    · show Steps p.tables e below (s₁.setTop (mkF m 9 #[lv q0, .second, lv q1, .second, iv p2, iv p3, iv (p3 &&& (2147483647 : Int32)), u_, u_, u_, u_, u_, u_, u_, u_, u_, u_, u_, u_, u_, u_, u_, u_, u_, u_, u_, u_] [(.int (p3 &&& (2147483647 : Int32)))])) _
      refine XS.ifNo X0.here hx rfl (hb hby at_9) rfl ((if0 _ _).trans (teq (hc9 : (p3 &&& (2147483647 : Int32)) = (0 : Int32))).2) ?_
      show Steps p.tables e below (s₁.setTop (mkF m 12 #[lv q0, .second, lv q1, .second, iv p2, iv p3, iv (p3 &&& (2147483647 : Int32)), u_, u_, u_, u_, u_, u_, u_, u_, u_, u_, u_, u_, u_, u_, u_, u_, u_, u_, u_, u_] [])) _
      refine XS.iconst X0.here hx rfl (hb hby at_12) ?_
      show Steps p.tables e below (s₁.setTop (mkF m 13 #[lv q0, .second, lv q1, .second, iv p2, iv p3, iv (p3 &&& (2147483647 : Int32)), u_, u_, u_, u_, u_, u_, u_, u_, u_, u_, u_, u_, u_, u_, u_, u_, u_, u_, u_, u_] [(.int (1 : Int32))])) _
      refine XS.istore X0.here hx rfl (hb hby at_13) rfl (l' := #[lv q0, .second, lv q1, .second, iv p2, iv p3, iv (1 : Int32), u_, u_, u_, u_, u_, u_, u_, u_, u_, u_, u_, u_, u_, u_, u_, u_, u_, u_, u_, u_]) rfl ?_
      exact k
    exact tail _ (by decide)
  · skip
    refine Go.step (S' := s₁.setTop (mkF m 15 #[lv q0, .second, lv q1, .second, iv p2, iv p3, iv (p3 &&& (2147483647 : Int32)), u_, u_, u_, u_, u_, u_, u_, u_, u_, u_, u_, u_, u_, u_, u_, u_, u_, u_, u_, u_] [])) (fun t k => ?_) ?_
    · show Steps p.tables e below (s₁.setTop (mkF m 9 #[lv q0, .second, lv q1, .second, iv p2, iv p3, iv (p3 &&& (2147483647 : Int32)), u_, u_, u_, u_, u_, u_, u_, u_, u_, u_, u_, u_, u_, u_, u_, u_, u_, u_, u_, u_] [(.int (p3 &&& (2147483647 : Int32)))])) _
      refine XS.ifYes X0.here hx rfl (pc0 := 9) (pc' := 15) rfl (hb hby at_9) rfl ((if0 _ _).trans (feq (hc9 : ¬ ((p3 &&& (2147483647 : Int32)) = (0 : Int32)))).2) (by decide) (by decide) ?_
      exact k
    exact tail _ (own_pos hc9)
set_option maxRecDepth 65536 in
set_option maxHeartbeats 4000000 in
theorem comes_1 {Post : Tables → Env → Array Value → State → Outcome → State → Prop} (hpost : ∀ tb e args s v u, (limb_1_1.after args s (.returned v) u = true ∧ limb_1_2.after args s (.returned v) u = true ∧ True) → FrameEnd s (.returned v) u (Jvm.fieldLocs frame_1_writes args s ++ Jvm.arrayLocs frame_1_arrays args s ++ Jvm.staticLocs frame_1_statics s) 16 128 → Post tb e args s (.returned v) u) :
    ArmFor flags0 classFile x code maxLocals ret World_1 tables_1 room_1 Calls_1 rest_1 Pre_1 Post := by
  intro l hfl _ _ p e ha hc hk s m args below hf hA hF happ hP
  obtain ⟨hcalls, hrest, hpre⟩ := hP
  obtain ⟨-, -, -, hnamed, -, -, -, hat⟩ := (Spec.applies_iff hf).mp happ
  obtain ⟨hg, hn⟩ := and_e (Cond.before_iff.mp (show (Jvm.Cond.and given_1 narrow_1).before args s = true from hpre))
  obtain ⟨hgl, hgr⟩ := and_e hg
  obtain ⟨hgrl, hgrr⟩ := and_e hgr
  obtain ⟨hgrrl, hgrrr⟩ := and_e hgrr
  obtain ⟨hgrrrl, hgrrrr⟩ := and_e hgrrr
  obtain ⟨w0, w1, w2, w3, rfl⟩ : ∃ w0 w1 w2 w3 : Value, args = #[w0, w1, w2, w3] := by
    have hs : args.size = 4 := by simpa [Cond.value, given_1] using hgl
    obtain ⟨L⟩ := args
    match L, hs with
    | [w0, w1, w2, w3], _ => exact ⟨w0, w1, w2, w3, rfl⟩
  have hw := fun d (hd : d ∈ tables_1) => atoms_spec (ws := Jvm.Cond.code x code maxLocals ret :: tables_1) hat d (List.mem_cons_of_mem _ hd)
  have hfit : Fit s := fun {y c} hc i hi => by
    obtain ⟨ha, rfl⟩ := Array.getElem?_eq_some_iff.mp hc
    have q := List.all_eq_true.mp ((Array.all_eq_true_iff_forall_mem.mp hF) _ (Array.getElem_mem ha)) i (List.mem_range.mpr hi)
    simpa [Array.getElem?_eq_getElem hi] using q
  obtain ⟨i0, ei0⟩ := isL_v hgrl
  obtain rfl : w0 = (.long i0) := Option.some.inj ei0
  obtain ⟨i1, ei1⟩ := isL_v hgrrl
  obtain rfl : w1 = (.long i1) := Option.some.inj ei1
  obtain ⟨i2, ei2⟩ := is_v hgrrrl
  obtain rfl : w2 = (.int i2) := Option.some.inj ei2
  obtain ⟨i3, ei3⟩ := is_v hgrrrr
  obtain rfl : w3 = (.int i3) := Option.some.inj ei3
  obtain ⟨hna, hnb⟩ := and_e hn
  obtain ⟨w_GRID, ev_GRID⟩ := exa_v hna
  have E_GRID := Exa.start ev_GRID hna
  have S_GRID := Sta.start ev_GRID (Or.inr ⟨(own_w hw 2 rfl), (own_w hw 3 rfl)⟩)
  obtain ⟨hnba, hnbb⟩ := and_e hnb
  obtain ⟨hnbba, hnbbb⟩ := and_e hnbb
  obtain ⟨w_REMOVAL, ev_REMOVAL⟩ := exa_v hnbba
  have E_REMOVAL := Exa.start ev_REMOVAL hnbba
  have S_REMOVAL := Sta.start ev_REMOVAL (Or.inr ⟨(own_w hw 2 rfl), (own_w hw 39 rfl)⟩)
  have F_key_GRID := Fld.start ((fld_at ev_GRID).symm.trans (own_eqJ hnba))
  have F_key_REMOVAL := Fld.start ((fld_at ev_REMOVAL).symm.trans (own_eqJ hnbbb))
  obtain ⟨n, o, h1, h2, h3, _, L, rfl, ⟨rfl, N, -⟩, hq⟩ := rm0 l s _ hw tables_1 i0 i1 i2 i3 w_GRID w_REMOVAL s.heap s.heap.size (Old.start s) S_GRID F_key_GRID S_REMOVAL F_key_REMOVAL p e ha hc hk s m _ below hf ((Spec.applies_iff_loose hf).mp happ).1 ⟨rfl, State.Warmed39.refl s, rfl⟩ trivial
  refine ⟨n, _, h1, h2, h3, hpost _ _ _ _ _ _ ⟨Cond.after_iff.mpr rfl, Cond.after_iff.mpr (eq_i res_at (Term.int_eval (1)) rfl), trivial⟩ ⟨hq.1, hq.2.1, (hq.2.2.sift fun y hy => Or.inr (N y hy)).mono (by decide) (by decide)⟩⟩
theorem main_1_1 : Claimed_1_1 := comes_1 fun _ _ _ _ _ _ h hF => ⟨h.1, hF⟩
theorem main_1_2 : Claimed_1_2 := comes_1 fun _ _ _ _ _ _ h hF => ⟨h.2.1, hF⟩
end Jvm.Pilot.@@N@@
namespace Jvm.Pilot.@@N@@
open Jvm Jvm.ClassFile Sem Op Lib Jvm.Free Jvm.Stand Jvm.Pilot.@@N@@.Jvm.D
/-! MADE BY PROGRAM (witnessworld.py) out of the Statement's table words and the real class files: 13 classes; the members and pool entries that the words name. The judged class is class 1, her method 1. -/
namespace start1
open Jvm.ClassFile
def u (s : String) : CpInfo := .utf8 (stringToUtf16 s)
/-- a pool by its gaps: so many unusable entries, then the entry; so many at the end -/
def gap : Nat → List CpInfo → List CpInfo
  | 0, r => r
  | n + 1, r => .unusable :: gap n r
def poolList (es : List (Nat × CpInfo)) (last : Nat) : List CpInfo := es.foldr (fun e r => gap e.1 (e.2 :: r)) (gap last [])
def pool (es : List (Nat × CpInfo)) (last : Nat) : Array CpInfo := ⟨poolList es last⟩
def fileOf (pool : Array CpInfo) (this : Nat) (attrs : Array Attribute := #[]) (ms : Array MethodInfo := #[]) (fl : Nat := 33) (sup : Nat := 0) (ifs : Array Nat := #[]) (fds : Array FieldInfo := #[]) : ClassFile where
  minorVersion := 0
  majorVersion := 65
  constantPool := pool
  accessFlags := fl
  thisClass := this
  superClass := sup
  interfaces := ifs
  fields := fds
  methods := ms
  attributes := attrs
def plain (name : String) (sup : Option ClassId) : Class where
  name := name
  kind := .ordinary
  loader := none
  accessFlags := 33
  super := sup
  interfaces := #[]
  cf := none
  fields := #[]
  methods := #[]
  instanceTypes := #[]
  staticTypes := #[]
  resolved := #[]
  callSites := []
  init := .initialized
  statics := none
  mirror := none

def pool0 : Array CpInfo := pool [(5, u "<init>"), (0, u "()V"), (1, .class_ 10), (1, u "java/lang/Object")] 113

def k0c0 : Code := { maxStack := 0, maxLocals := 1, code := object_method_1_code, exceptionTable := #[], attributes := #[] }
def k0m0 : Method := { name := "<init>", desc := "()V", sig := { parameters := [], returnType := none }, accessFlags := 1, code := some k0c0 }
/-- java/lang/Object -/
def k0 : Class := { plain "java/lang/Object" none with
  accessFlags := 33
  interfaces := #[]
  cf := some (fileOf pool0 8 #[] #[{ accessFlags := 1, nameIndex := 5, descriptorIndex := 6, attributes := #[] }] 33 0 #[] #[])
  fields := #[]
  methods := #[k0m0]
  instanceTypes := #[]
  staticTypes := #[]
  resolved := Array.replicate 124 none
  statics := none }

def pool1 : Array CpInfo := pool [(2, .class_ 4), (1, u "java/lang/Object"), (0, u "<init>"), (0, u "()V"), (0, .integer 2147483647), (0, .fieldref 9 10), (0, .class_ 11), (0, .nameAndType 12 13), (0, u "org/ninefold/service/SeededRandom$Purpose"), (0, u "GRID"), (0, u "Lorg/ninefold/service/SeededRandom$Purpose;"), (0, .fieldref 9 15), (0, .nameAndType 16 13), (0, u "REMOVAL"), (0, .class_ 18), (0, u "org/ninefold/service/SeededRandom"), (0, .methodref 17 20), (0, .nameAndType 5 21), (0, u "(JJLorg/ninefold/service/SeededRandom$Purpose;)V"), (0, .methodref 17 23), (0, .nameAndType 24 25), (0, u "nextLong"), (0, u "()J"), (0, .long 4611686018427387904), (1, .long 2), (3, .long 9223372036854775807), (1, .methodref 17 35), (0, .nameAndType 36 37), (0, u "nextInt"), (0, u "(I)I"), (0, .class_ 39), (0, u "org/ninefold/service/SeededRandomNextIntPinLaw"), (2, u "law"), (0, u "(JJII)Z")] 5

def k1m0 : Method := { name := "<init>", desc := "()V", sig := { parameters := [], returnType := none }, accessFlags := 1, code := none }
def k1c1 : Code := { maxStack := 7, maxLocals := 27, code := code, exceptionTable := #[], attributes := #[] }
def k1m1 : Method := { name := "law", desc := "(JJII)Z", sig := { parameters := [.long, .long, .int, .int], returnType := some .boolean }, accessFlags := 9, code := some k1c1 }
/-- org/ninefold/service/SeededRandomNextIntPinLaw -/
def k1 : Class := { plain "org/ninefold/service/SeededRandomNextIntPinLaw" (some 0) with
  accessFlags := 49
  interfaces := #[]
  cf := some (fileOf pool1 38 #[] #[{ accessFlags := 1, nameIndex := 5, descriptorIndex := 6, attributes := #[] }, { accessFlags := 9, nameIndex := 42, descriptorIndex := 43, attributes := #[] }] 49 2 #[] #[])
  fields := #[]
  methods := #[k1m0, k1m1]
  instanceTypes := #[]
  staticTypes := #[]
  resolved := Array.replicate 49 none
  statics := none }

def pool2 : Array CpInfo := pool [(1, .class_ 2), (0, u "java/lang/constant/Constable"), (0, .class_ 4), (0, u "java/lang/Object")] 6

/-- java/lang/constant/Constable -/
def k2 : Class := { plain "java/lang/constant/Constable" (some 0) with
  accessFlags := 1537
  interfaces := #[]
  cf := some (fileOf pool2 1 #[] #[] 1537 3 #[] #[])
  fields := #[]
  methods := #[]
  instanceTypes := #[]
  staticTypes := #[]
  resolved := Array.replicate 11 none
  statics := none }

def pool3 : Array CpInfo := pool [(1, .class_ 2), (0, u "java/lang/Comparable"), (0, .class_ 4), (0, u "java/lang/Object")] 7

/-- java/lang/Comparable -/
def k3 : Class := { plain "java/lang/Comparable" (some 0) with
  accessFlags := 1537
  interfaces := #[]
  cf := some (fileOf pool3 1 #[] #[] 1537 3 #[] #[])
  fields := #[]
  methods := #[]
  instanceTypes := #[]
  staticTypes := #[]
  resolved := Array.replicate 12 none
  statics := none }

def pool4 : Array CpInfo := pool [(1, .class_ 2), (0, u "java/io/Serializable"), (0, .class_ 4), (0, u "java/lang/Object")] 2

/-- java/io/Serializable -/
def k4 : Class := { plain "java/io/Serializable" (some 0) with
  accessFlags := 1537
  interfaces := #[]
  cf := some (fileOf pool4 1 #[] #[] 1537 3 #[] #[])
  fields := #[]
  methods := #[]
  instanceTypes := #[]
  staticTypes := #[]
  resolved := Array.replicate 7 none
  statics := none }

def pool5 : Array CpInfo := pool [(2, .class_ 4), (1, u "java/lang/Enum"), (0, u "name"), (0, u "Ljava/lang/String;"), (2, u "ordinal"), (0, u "I"), (1, .class_ 14), (1, u "java/lang/Object"), (4, u "hash"), (86, .class_ 108), (1, u "java/lang/Enum$EnumDesc"), (2, .class_ 112), (0, u "java/lang/constant/Constable"), (0, .class_ 114), (0, u "java/lang/Comparable"), (0, .class_ 116), (0, u "java/io/Serializable")] 87

/-- java/lang/Enum -/
def k5 : Class := { plain "java/lang/Enum" (some 0) with
  accessFlags := 1057
  interfaces := #[2, 3, 4]
  cf := some (fileOf pool5 2 #[.nestMembers #[106]] #[] 1057 12 #[111, 113, 115] #[{ accessFlags := 18, nameIndex := 5, descriptorIndex := 6, attributes := #[] }, { accessFlags := 18, nameIndex := 9, descriptorIndex := 10, attributes := #[] }, { accessFlags := 2, nameIndex := 19, descriptorIndex := 10, attributes := #[] }])
  fields := #[{ name := "name", type := (.object "java/lang/String"), accessFlags := 18, slot := 0, constantValue := 0 }, { name := "ordinal", type := .int, accessFlags := 18, slot := 1, constantValue := 0 }, { name := "hash", type := .int, accessFlags := 2, slot := 2, constantValue := 0 }]
  methods := #[]
  instanceTypes := #[(.object "java/lang/String"), .int, .int]
  staticTypes := #[]
  resolved := Array.replicate 204 none
  statics := none }

def pool6 : Array CpInfo := pool [(1, .class_ 2), (0, u "org/ninefold/service/SeededRandom$Purpose"), (2, u "GRID"), (0, u "Lorg/ninefold/service/SeededRandom$Purpose;"), (2, u "REMOVAL"), (2, u "$VALUES"), (0, u "[Lorg/ninefold/service/SeededRandom$Purpose;"), (6, .class_ 22), (1, u "java/lang/Enum"), (7, .class_ 32), (1, u "org/ninefold/service/SeededRandom"), (4, u "key"), (0, u "J")] 24

/-- org/ninefold/service/SeededRandom$Purpose -/
def k6 : Class := { plain "org/ninefold/service/SeededRandom$Purpose" (some 5) with
  accessFlags := 16432
  interfaces := #[]
  cf := some (fileOf pool6 1 #[.nestHost 30] #[] 16432 20 #[] #[{ accessFlags := 16409, nameIndex := 5, descriptorIndex := 6, attributes := #[] }, { accessFlags := 16409, nameIndex := 9, descriptorIndex := 6, attributes := #[] }, { accessFlags := 18, nameIndex := 37, descriptorIndex := 38, attributes := #[] }, { accessFlags := 4122, nameIndex := 12, descriptorIndex := 13, attributes := #[] }])
  fields := #[{ name := "GRID", type := (.object "org/ninefold/service/SeededRandom$Purpose"), accessFlags := 16409, slot := 0, constantValue := 0 }, { name := "REMOVAL", type := (.object "org/ninefold/service/SeededRandom$Purpose"), accessFlags := 16409, slot := 1, constantValue := 0 }, { name := "key", type := .long, accessFlags := 18, slot := 3, constantValue := 0 }, { name := "$VALUES", type := (.array (.object "org/ninefold/service/SeededRandom$Purpose")), accessFlags := 4122, slot := 2, constantValue := 0 }]
  methods := #[]
  instanceTypes := #[(.object "java/lang/String"), .int, .int, .long]
  staticTypes := #[(.object "org/ninefold/service/SeededRandom$Purpose"), (.object "org/ninefold/service/SeededRandom$Purpose"), (.array (.object "org/ninefold/service/SeededRandom$Purpose"))]
  resolved := Array.replicate 63 none
  statics := some 0 }

def pool7 : Array CpInfo := pool [(1, .methodref 2 3), (0, .class_ 4), (0, .nameAndType 5 6), (0, u "java/lang/Object"), (0, u "<init>"), (0, u "()V"), (0, .methodref 8 9), (0, .class_ 10), (0, .nameAndType 11 12), (0, u "org/ninefold/service/SeededRandom"), (0, u "mix"), (0, u "(J)J"), (0, .fieldref 14 15), (0, .class_ 16), (0, .nameAndType 17 18), (0, u "org/ninefold/service/SeededRandom$Purpose"), (0, u "key"), (0, u "J"), (0, .long 11400714819323198485), (1, .fieldref 8 22), (0, .nameAndType 23 18), (0, u "state"), (2, .long 9223372036854775807), (1, .methodref 8 29), (0, .nameAndType 30 31), (0, u "nextLong"), (0, u "()J"), (0, .long 13787848793156543929), (1, .long 10723151780598845931), (1, u "GOLDEN_GAMMA"), (1, u "(JJLorg/ninefold/service/SeededRandom$Purpose;)V"), (2, u "nextInt"), (0, u "(I)I")] 6

def k7c0 : Code := { maxStack := 7, maxLocals := 6, code := prog_27_method_1_code, exceptionTable := #[], attributes := #[] }
def k7m0 : Method := { name := "<init>", desc := "(JJLorg/ninefold/service/SeededRandom$Purpose;)V", sig := { parameters := [.long, .long, (.object "org/ninefold/service/SeededRandom$Purpose")], returnType := none }, accessFlags := 0, code := some k7c0 }
def k7c1 : Code := { maxStack := 5, maxLocals := 1, code := prog_27_method_2_code, exceptionTable := #[], attributes := #[] }
def k7m1 : Method := { name := "nextLong", desc := "()J", sig := { parameters := [], returnType := some .long }, accessFlags := 0, code := some k7c1 }
def k7c2 : Code := { maxStack := 6, maxLocals := 6, code := prog_27_method_3_code, exceptionTable := #[], attributes := #[] }
def k7m2 : Method := { name := "nextInt", desc := "(I)I", sig := { parameters := [.int], returnType := some .int }, accessFlags := 0, code := some k7c2 }
def k7c3 : Code := { maxStack := 5, maxLocals := 2, code := prog_27_method_4_code, exceptionTable := #[], attributes := #[] }
def k7m3 : Method := { name := "mix", desc := "(J)J", sig := { parameters := [.long], returnType := some .long }, accessFlags := 10, code := some k7c3 }
/-- org/ninefold/service/SeededRandom -/
def k7 : Class := { plain "org/ninefold/service/SeededRandom" (some 0) with
  accessFlags := 48
  interfaces := #[]
  cf := some (fileOf pool7 8 #[.nestMembers #[14]] #[{ accessFlags := 0, nameIndex := 5, descriptorIndex := 38, attributes := #[] }, { accessFlags := 0, nameIndex := 30, descriptorIndex := 31, attributes := #[] }, { accessFlags := 0, nameIndex := 41, descriptorIndex := 42, attributes := #[] }, { accessFlags := 10, nameIndex := 11, descriptorIndex := 12, attributes := #[] }] 48 2 #[] #[{ accessFlags := 26, nameIndex := 36, descriptorIndex := 18, attributes := #[] }, { accessFlags := 2, nameIndex := 23, descriptorIndex := 18, attributes := #[] }])
  fields := #[{ name := "GOLDEN_GAMMA", type := .long, accessFlags := 26, slot := 0, constantValue := 0 }, { name := "state", type := .long, accessFlags := 2, slot := 0, constantValue := 0 }]
  methods := #[k7m0, k7m1, k7m2, k7m3]
  instanceTypes := #[.long]
  staticTypes := #[.long]
  resolved := (Array.replicate 49 none).setIfInBounds 13 (some (.field 6 2))
  statics := none }

def pool8 : Array CpInfo := pool [(1, u "java/lang/Cloneable"), (0, .class_ 1), (0, u "java/lang/Object"), (0, .class_ 3)] 3

/-- java/lang/Cloneable -/
def k8 : Class := { plain "java/lang/Cloneable" (some 0) with
  accessFlags := 1537
  interfaces := #[]
  cf := some (fileOf pool8 2 #[] #[] 1537 4 #[] #[])
  fields := #[]
  methods := #[]
  instanceTypes := #[]
  staticTypes := #[]
  resolved := Array.replicate 8 none
  statics := none }

/-- the primitive byte -/
def k9 : Class := { plain "byte" none with kind := .primitive 'B', accessFlags := 0x411 }
/-- [B -/
def k10 : Class := { plain "[B" (some 0) with kind := .array 9 .byte, interfaces := #[8, 4], accessFlags := 1041 }

/-- the primitive int -/
def k11 : Class := { plain "int" none with kind := .primitive 'I', accessFlags := 0x411 }
/-- [I -/
def k12 : Class := { plain "[I" (some 0) with kind := .array 11 .int, interfaces := #[8, 4], accessFlags := 1041 }

def heap : Heap := #[{ cls := 6, slots := #[.ref 1, .ref 2, .null], vm := .statics 6 },
  { cls := 6, slots := #[.null, .int 0, .int 0, .long 0], vm := .none },
  { cls := 6, slots := #[.null, .int 0, .int 0, .long 6238072747940578789], vm := .none }]
def classes : Array Class := #[k0, k1, k2, k3, k4, k5, k6, k7, k8, k9, k10, k11, k12]
def interned : List (Array UInt16 × Addr) := []
def slotsUsed : Nat := 11
def theMethod : MethodId := ⟨1, 1⟩
def args0 : Array Value := #[.long 5, .long 6, .int 1, .int 10]
def aboutOver (below : List Frame) : State where
  vm := { classes := classes, interned := interned.toArray }
  heap := heap
  slotsUsed := slotsUsed
  threads := #[{ frames := .invoking theMethod args0 :: below }]
def below0 : List Frame := [.native { method := ⟨0, 0⟩, args := #[] }]
def about1 : State := aboutOver below0
def p0 : Program := .bare "" "" ""
def e0 : Env := launch0.env 0 0 0
theorem w_frames : about1.frames = Frame.invoking theMethod args0 :: below0 := rfl
set_option maxRecDepth 65536 in
theorem w_args : argsFit about1.vm theMethod args0 = true := by decide +kernel
set_option maxRecDepth 65536 in
theorem w_heap : heapFits about1 = true := by decide +kernel
set_option maxRecDepth 65536 in
theorem w_runnable : about1.curStatus? = some .runnable := by decide +kernel
set_option maxRecDepth 65536 in
theorem w_alone : about1.alone = true := by decide +kernel
set_option maxRecDepth 65536 in
theorem w_named : about1.methodNamed? x = some theMethod := by decide +kernel
set_option maxRecDepth 65536 in
theorem w_hears : about1.hears theMethod below0 = true := by decide +kernel
set_option maxRecDepth 65536 in
theorem w_ripe : about1.ripe theMethod args0 below0 = true := by decide +kernel
theorem w_running : about1.status = .running := rfl
set_option maxRecDepth 65536 in
theorem w_room : about1.hasRoom e0.platform room_1 = true :=
  launch0.hasRoom_least _ room_1 (by decide +kernel) (by decide +kernel) (by decide +kernel) (by decide +kernel) (by decide +kernel) (by decide +kernel)
theorem allAtoms_all (ts : List Jvm.Cond) (a : Array Jvm.Value) (st : Jvm.State) : (allAtoms ts).before a st = ts.all (fun c => c.before a st) := by
  induction ts with
  | nil => rfl
  | cons c t ih =>
    show (Jvm.Cond.and c (allAtoms t)).before a st = _
    rw [Jvm.Cond.before_and, ih, List.all_cons]
def words1 : List Jvm.Cond := Jvm.Cond.code x code maxLocals ret :: tables_1
/-- a 'code' word, met by the world's own term for the bytes: nothing is compared byte by byte -/
theorem code_word {y : MethodName} {bytes : ByteArray} {mx : Nat} {rt : Option FieldType} {a : Array Value} {s : State} {m : MethodId} {meth : Method} {c : Code} (h1 : s.methodNamed? y = some m) (h2 : s.vm.method? m = some meth) (h3 : meth.code = some c) (h4 : c.code = bytes)
    (h5 : (c.maxLocals == mx && c.exceptionTable.isEmpty && decide (c.maxStack ≤ mostOperands) && decide (meth.sig.returnType = rt) && !meth.locks && decide (parseMethodDescriptor y.desc = some meth.sig)) = true) : (Jvm.Cond.code y bytes mx rt).before a s = true := by
  simp only [Bool.and_eq_true, beq_iff_eq, Bool.not_eq_true', decide_eq_true_eq] at h5
  obtain ⟨⟨⟨⟨⟨g1, g2⟩, g3⟩, g4⟩, g5⟩, g6⟩ := h5
  simp [Cond.before, Cond.holds, Cond.value, h1, h2, h3, h4, g1, g2, g3, g4, g5, g6]
def isCode : Jvm.Cond → Bool
  | .code _ _ _ _ => true
  | _ => false
theorem all_split {L : List Jvm.Cond} {P : Jvm.Cond → Bool} (h1 : L.all (fun c => isCode c || P c) = true) (h2 : ∀ c ∈ L.filter isCode, P c = true) : L.all P = true := by
  refine List.all_eq_true.mpr fun c hc => ?_
  have h := List.all_eq_true.mp h1 c hc
  rcases Bool.eq_false_or_eq_true (isCode c) with hi | hi
  · exact h2 c (List.mem_filter.mpr ⟨hc, hi⟩)
  · simpa [hi] using h
set_option maxRecDepth 65536 in
theorem w_c0 : (Jvm.Cond.code x code maxLocals ret).before args0 about1 = true := code_word (m := ⟨1, 1⟩) (meth := k1m1) (c := k1c1) (by decide +kernel) rfl rfl rfl (by decide +kernel)
set_option maxRecDepth 65536 in
theorem w_c1 : (Jvm.Cond.code ({ cls := "org/ninefold/service/SeededRandom", name := "<init>", desc := "(JJLorg/ninefold/service/SeededRandom$Purpose;)V" } : Jvm.MethodName) prog_27_method_1_code (6 : Nat) (Option.none : Option Jvm.ClassFile.FieldType)).before args0 about1 = true := code_word (m := ⟨7, 0⟩) (meth := k7m0) (c := k7c0) (by decide +kernel) rfl rfl rfl (by decide +kernel)
set_option maxRecDepth 65536 in
theorem w_c2 : (Jvm.Cond.code ({ cls := "java/lang/Object", name := "<init>", desc := "()V" } : Jvm.MethodName) object_method_1_code (1 : Nat) (Option.none : Option Jvm.ClassFile.FieldType)).before args0 about1 = true := code_word (m := ⟨0, 0⟩) (meth := k0m0) (c := k0c0) (by decide +kernel) rfl rfl rfl (by decide +kernel)
set_option maxRecDepth 65536 in
theorem w_c3 : (Jvm.Cond.code ({ cls := "org/ninefold/service/SeededRandom", name := "mix", desc := "(J)J" } : Jvm.MethodName) prog_27_method_4_code (2 : Nat) (Option.some Jvm.ClassFile.FieldType.long)).before args0 about1 = true := code_word (m := ⟨7, 3⟩) (meth := k7m3) (c := k7c3) (by decide +kernel) rfl rfl rfl (by decide +kernel)
set_option maxRecDepth 65536 in
theorem w_c4 : (Jvm.Cond.code ({ cls := "org/ninefold/service/SeededRandom", name := "nextLong", desc := "()J" } : Jvm.MethodName) prog_27_method_2_code (1 : Nat) (Option.some Jvm.ClassFile.FieldType.long)).before args0 about1 = true := code_word (m := ⟨7, 1⟩) (meth := k7m1) (c := k7c1) (by decide +kernel) rfl rfl rfl (by decide +kernel)
set_option maxRecDepth 65536 in
theorem w_c5 : (Jvm.Cond.code ({ cls := "org/ninefold/service/SeededRandom", name := "nextInt", desc := "(I)I" } : Jvm.MethodName) prog_27_method_3_code (6 : Nat) (Option.some Jvm.ClassFile.FieldType.int)).before args0 about1 = true := code_word (m := ⟨7, 2⟩) (meth := k7m2) (c := k7c2) (by decide +kernel) rfl rfl rfl (by decide +kernel)
def codes1 : List Jvm.Cond := [Jvm.Cond.code x code maxLocals ret, Jvm.Cond.code ({ cls := "org/ninefold/service/SeededRandom", name := "<init>", desc := "(JJLorg/ninefold/service/SeededRandom$Purpose;)V" } : Jvm.MethodName) prog_27_method_1_code (6 : Nat) (Option.none : Option Jvm.ClassFile.FieldType), Jvm.Cond.code ({ cls := "java/lang/Object", name := "<init>", desc := "()V" } : Jvm.MethodName) object_method_1_code (1 : Nat) (Option.none : Option Jvm.ClassFile.FieldType), Jvm.Cond.code ({ cls := "org/ninefold/service/SeededRandom", name := "mix", desc := "(J)J" } : Jvm.MethodName) prog_27_method_4_code (2 : Nat) (Option.some Jvm.ClassFile.FieldType.long), Jvm.Cond.code ({ cls := "org/ninefold/service/SeededRandom", name := "nextLong", desc := "()J" } : Jvm.MethodName) prog_27_method_2_code (1 : Nat) (Option.some Jvm.ClassFile.FieldType.long), Jvm.Cond.code ({ cls := "org/ninefold/service/SeededRandom", name := "nextInt", desc := "(I)I" } : Jvm.MethodName) prog_27_method_3_code (6 : Nat) (Option.some Jvm.ClassFile.FieldType.int)]
set_option maxRecDepth 65536 in
theorem codes_eq : words1.filter isCode = codes1 := rfl
theorem w_codes : ∀ c ∈ words1.filter isCode, c.before args0 about1 = true := by
  rw [codes_eq]
  intro c hc
  simp only [codes1, List.mem_cons, List.not_mem_nil, or_false] at hc
  rcases hc with rfl | rfl | rfl | rfl | rfl | rfl
  · exact w_c0
  · exact w_c1
  · exact w_c2
  · exact w_c3
  · exact w_c4
  · exact w_c5
set_option maxRecDepth 65536 in
theorem w_t1 : (words1.take 24).all (fun c => isCode c || c.before args0 about1) = true := by decide +kernel
set_option maxRecDepth 65536 in
theorem w_t2 : (words1.drop 24).all (fun c => isCode c || c.before args0 about1) = true := by decide +kernel
theorem w_tables : (allAtoms (Jvm.Cond.code x code maxLocals ret :: tables_1)).before args0 about1 = true := by
  rw [allAtoms_all]
  show words1.all (fun c => c.before args0 about1) = true
  refine all_split ?_ w_codes
  rw [← List.take_append_drop 24 words1, List.all_append, w_t1, w_t2]
  rfl
set_option maxRecDepth 65536 in
theorem w_case : (Jvm.Cond.and given_1 narrow_1).before args0 about1 = true := by decide +kernel
theorem w_applies : (headSpec (Jvm.Cond.code x code maxLocals ret :: tables_1) room_1).applies x e0.platform about1 = true :=
  (Spec.applies_iff w_frames).mpr ⟨w_running, w_runnable, w_alone, w_named, w_hears, w_ripe, w_room, w_tables⟩
theorem atStart : AtStart classFile x code maxLocals ret World_1 tables_1 room_1 Calls_1 rest_1 Pre_1 launch0 p0 e0 about1 theMethod args0 below0 :=
  ⟨lists_1, trivial, launch0.admits_env _ _ _, launch0.least_env, fairChoices_fair.cas, fairChoices_fair.clock, w_frames, w_args, w_heap, w_applies, trivial, trivial, w_case⟩
end start1
theorem witness_1 : WitnessClaimed_1 := ⟨start1.p0, start1.e0, start1.about1, start1.theMethod, start1.args0, start1.below0, start1.atStart⟩
end Jvm.Pilot.@@N@@
