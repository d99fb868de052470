import JvmDerived
import JvmDerived.Pilot.@@N@@Statement
import JvmDerived.Pilot.@@N@@Code
set_option linter.unusedVariables false
set_option linter.unusedSimpArgs false
/- laws to paste: Road.backV (cut by pick.py; bodies as the Statement names them) -/
namespace Jvm.Pilot.@@N@@
namespace StrChars
open Jvm Sem ClassFile Op Lib Jvm.Stand Jvm.Free.XT Jvm.Free.ALB Jvm.Free.JM Jvm.Free
open Jvm.Lib.Cold (StaticIs)
/-- a char array whose places are chars -/
def Ch (a : Addr) (A : Cell) (U : State) : Prop := Arr .char a A U ∧ Typed .char A
theorem Ch.mv {a : Addr} {A : Cell} {U U' : State} (h : Ch a A U) (hal : U.vm.Alike U'.vm) (hh : U'.heap = U.heap) : Ch a A U' := ⟨h.1.mv hal hh, h.2⟩
theorem Ch.keep {a : Addr} {A : Cell} {U U' : State} (h : Ch a A U) (hal : U.vm.Alike U'.vm) (hk : U'.heap[a]? = some A) : Ch a A U' := ⟨h.1.keep hal hk, h.2⟩
/-- what place i of a char[]'s cell holds -/
def cv (A : Cell) (i : Nat) : Int32 := match A.slots[i]? with | some (.int x) => x | _ => 0
theorem Ch.get {a : Addr} {A : Cell} {U : State} (h : Ch a A U) {i : Nat} (hi : i < A.slots.size) : A.slots[i]? = some (.int (cv A i)) := by
  have e := Array.getElem?_eq_getElem hi
  have f := h.2 i _ e
  unfold cv; rw [e]
  generalize A.slots[i] = v at f
  cases v <;> simp [fits] at f ⊢
/-- the byte that i2b leaves of a char -/
def lo8 (x : Int32) : Int32 := x.toInt8.toInt32
theorem fits_lo8 (y : Int32) : fits .byte (.int (lo8 y)) = true := by
  have h1 := y.toInt8.le_toInt
  have h2 := y.toInt8.toInt_lt
  simp only [lo8, fits, Bool.and_eq_true, decide_eq_true_eq, Int32.le_iff_toInt_le, Int8.toInt_toInt32, show (-128 : Int32).toInt = -128 from by decide, show (127 : Int32).toInt = 127 from by decide]
  omega
/-- A' is A but that each place j of lo .. hi - 1 holds f j -/
def Laid (A A' : Cell) (lo hi : Nat) (f : Nat → Value) : Prop := A'.cls = A.cls ∧ A'.vm = A.vm ∧ A'.slots.size = A.slots.size ∧ ∀ i, A'.slots[i]? = if lo ≤ i ∧ i < hi then some (f i) else A.slots[i]?
theorem Laid.zero (A : Cell) (lo : Nat) (f : Nat → Value) : Laid A A lo (lo + 0) f := ⟨rfl, rfl, rfl, fun i => by rw [if_neg (by omega)]⟩
theorem Laid.step {A Ak : Cell} {lo k : Nat} {f : Nat → Value} {v : Value} (h : Laid A Ak lo k f) (hlo : lo ≤ k) (hk : k < Ak.slots.size) (hv : v = f k) : Laid A (Ak.setSlot k v) lo (k + 1) f := by
  refine ⟨h.1, h.2.1, by simpa [Cell.setSlot] using h.2.2.1, fun i => ?_⟩
  by_cases e : k = i
  · subst e; rw [Cell.slots_setSlot_self v hk, if_pos (by omega), hv]
  · rw [Cell.slots_setSlot_ne v e, h.2.2.2 i]
    by_cases q : lo ≤ i ∧ i < k
    · rw [if_pos q, if_pos (by omega)]
    · rw [if_neg q, if_neg (by omega)]
def U16 : String := "java/lang/StringUTF16"
namespace Cmp5
def yN : MethodName := ⟨"java/lang/StringUTF16", "compress", "([CI[BII)I"⟩
abbrev yB : ByteArray := jdk_52_method_21_code
theorem d0 : decode yB 0 = .ok (.iconst 0, 1) := by decide +kernel
theorem d1 : decode yB 1 = .ok (.istore 5, 2) := by decide +kernel
theorem d3 : decode yB 3 = .ok (.iload 5, 2) := by decide +kernel
theorem d5 : decode yB 5 = .ok (.iload 4, 2) := by decide +kernel
theorem d7 : decode yB 7 = .ok (.if_icmp (.ge) 37, 3) := by decide +kernel
theorem d10 : decode yB 10 = .ok (.aload_n 0, 1) := by decide +kernel
theorem d11 : decode yB 11 = .ok (.iload_n 1, 1) := by decide +kernel
theorem d12 : decode yB 12 = .ok (.caload, 1) := by decide +kernel
theorem d13 : decode yB 13 = .ok (.istore 6, 2) := by decide +kernel
theorem d15 : decode yB 15 = .ok (.iload 6, 2) := by decide +kernel
theorem d17 : decode yB 17 = .ok (.sipush 255, 3) := by decide +kernel
theorem d20 : decode yB 20 = .ok (.if_icmp (.le) 6, 3) := by decide +kernel
theorem d26 : decode yB 26 = .ok (.aload_n 2, 1) := by decide +kernel
theorem d27 : decode yB 27 = .ok (.iload_n 3, 1) := by decide +kernel
theorem d28 : decode yB 28 = .ok (.iload 6, 2) := by decide +kernel
theorem d30 : decode yB 30 = .ok (.i2b, 1) := by decide +kernel
theorem d31 : decode yB 31 = .ok (.bastore, 1) := by decide +kernel
theorem d32 : decode yB 32 = .ok (.iinc 1 1, 3) := by decide +kernel
theorem d35 : decode yB 35 = .ok (.iinc 3 1, 3) := by decide +kernel
theorem d38 : decode yB 38 = .ok (.iinc 5 1, 3) := by decide +kernel
theorem d41 : decode yB 41 = .ok (.goto (-38), 3) := by decide +kernel
theorem d44 : decode yB 44 = .ok (.iload 4, 2) := by decide +kernel
theorem d46 : decode yB 46 = .ok (.ireturn, 1) := by decide +kernel
def site : List Cond := []
def tab : Cond := tabOf yN yB 7 (some .int) site
def P (b : Addr) (A : Cell) (d : Addr) (B : Cell) (o q len : Nat) (args : Array Value) (s : State) : Prop := args = #[.ref b, .int (Int32.ofNat o), .ref d, .int (Int32.ofNat q), .int (Int32.ofNat len)] ∧ Ch b A s ∧ Arr .byte d B s ∧ b ≠ d ∧ o + len ≤ A.slots.size ∧ q + len ≤ B.slots.size ∧ ∀ i, i < len → ¬ 255 < cv A (o + i)
def E (b : Addr) (A : Cell) (d : Addr) (B : Cell) (o q len : Nat) (r : Option Value) (s u : State) : Prop := r = some (.int (Int32.ofNat len)) ∧ ∃ B', Put d B' s u ∧ Laid B B' q (q + len) (fun j => Value.int (lo8 (cv A (o + (j - q)))))
/-- no char of the range above 255: len; the places written hold each char's low byte -/
theorem law (l : Launch) (b : Addr) (A : Cell) (d : Addr) (B : Cell) (o q len : Nat) : Law l yN 5 5 0 0 yB 7 (some .int) site (P b A d B o q len) (E b A d B o q len) (copyLocs d q len) 0 0 := by
  refine Law.of_walk (plainFor_of_name (by decide +kernel)) (by decide +kernel) (by decide +kernel) (by decide) (fun _ _ h => by rw [h.1]; rfl) (fun _ U U' hal hh h => ⟨h.1, h.2.1.mv hal hh, h.2.2.1.mv hal hh, h.2.2.2⟩) (fun r U U' V V' h1 hal h2 h => ⟨h.1, h.2.elim fun B' q => ⟨B', q.1.mv h1 h2, q.2⟩⟩) ?_
  intro p e s m args below meth c s₁ X0 hexec hbytes hml hret hlk hnm hown hh0 W hP
  obtain ⟨rfl, hA, hB, hne, l1, l2, hp⟩ := hP
  have c1 : Steps p.tables e below (s₁.setTop (entryFrame m #[.ref b, .int (Int32.ofNat o), .ref d, .int (Int32.ofNat q), .int (Int32.ofNat len)] 7)) (s₁.setTop (mkF m 0 #[.val (.ref b), .val (.int (Int32.ofNat o)), .val (.ref d), .val (.int (Int32.ofNat q)), .val (.int (Int32.ofNat len)), .unset, .unset] [])) := entry rfl
  have hA0 := hA.1.mv X0.warmed.alike hh0
  have hB0 := hB.mv X0.warmed.alike hh0
  have a31 := hA.1.2.2.2
  have c2 : Steps p.tables e below (s₁.setTop (entryFrame m #[.ref b, .int (Int32.ofNat o), .ref d, .int (Int32.ofNat q), .int (Int32.ofNat len)] 7)) (s₁.setTop (mkF m 3 #[.val (.ref b), .val (.int (Int32.ofNat o)), .val (.ref d), .val (.int (Int32.ofNat q)), .val (.int (Int32.ofNat len)), .val (.int 0), .unset] [])) := c1.trans (by
    refine iconstV X0.here hexec rfl 0 (hb hbytes d0) (by decide) ?_
    refine XS.istore X0.here hexec rfl (hb hbytes d1) rfl rfl ?_
    exact Steps.refl _)
  have loop : ∀ (r i : Nat), i + r = len → ∀ (z : Slot), (z = .unset ∨ ∃ w, z = .val w ∧ w.category = 1) → ∀ (Tl : State) (Bk : Cell), Stand p l e { frames := 0, locals := 0, cells := 0, slots := 0 } s m #[.ref b, .int (Int32.ofNat o), .ref d, .int (Int32.ofNat q), .int (Int32.ofNat len)] below meth c Tl ([] ++ copyLocs d q i) 0 0 → Put d Bk s₁ Tl → Laid B Bk q (q + i) (fun j => Value.int (lo8 (cv A (o + (j - q))))) →
      Steps p.tables e below (s₁.setTop (entryFrame m #[.ref b, .int (Int32.ofNat o), .ref d, .int (Int32.ofNat q), .int (Int32.ofNat len)] 7)) (Tl.setTop (mkF m 3 #[.val (.ref b), .val (.int (Int32.ofNat (o + i))), .val (.ref d), .val (.int (Int32.ofNat (q + i))), .val (.int (Int32.ofNat len)), .val (.int (Int32.ofNat i)), z] [])) → ∃ (T' : State) (B' : Cell) (z' : Slot), Stand p l e { frames := 0, locals := 0, cells := 0, slots := 0 } s m #[.ref b, .int (Int32.ofNat o), .ref d, .int (Int32.ofNat q), .int (Int32.ofNat len)] below meth c T' ([] ++ copyLocs d q len) 0 0 ∧ Put d B' s₁ T' ∧ Laid B B' q (q + len) (fun j => Value.int (lo8 (cv A (o + (j - q))))) ∧
      Steps p.tables e below (s₁.setTop (entryFrame m #[.ref b, .int (Int32.ofNat o), .ref d, .int (Int32.ofNat q), .int (Int32.ofNat len)] 7)) (T'.setTop (mkF m 3 #[.val (.ref b), .val (.int (Int32.ofNat (o + len))), .val (.ref d), .val (.int (Int32.ofNat (q + len))), .val (.int (Int32.ofNat len)), .val (.int (Int32.ofNat len)), z'] [])) := by
    intro r
    induction r with
    | zero =>
      intro i hi z hz Tl Bk Xl pl fl cl
      have hil : i = len := by omega
      rw [hil] at Xl fl cl
      exact ⟨Tl, Bk, z, Xl, pl, fl, cl⟩
    | succ r ih =>
      intro i hi z hz Tl Bk Xl pl fl cl
      have all := X0.warmed.alike.symm.trans Xl.warmed.alike
      have hAl := hA0.keep all (pl.other hne hA0.1)
      have hBk := hB0.like all pl.1 fl.1 fl.2.1 fl.2.2.1
      have hlt : q + i < Bk.slots.size := by rw [fl.2.2.1]; omega
      have c3 : Steps p.tables e below (s₁.setTop (entryFrame m #[.ref b, .int (Int32.ofNat o), .ref d, .int (Int32.ofNat q), .int (Int32.ofNat len)] 7)) (Tl.setTop (mkF m 12 #[.val (.ref b), .val (.int (Int32.ofNat (o + i))), .val (.ref d), .val (.int (Int32.ofNat (q + i))), .val (.int (Int32.ofNat len)), .val (.int (Int32.ofNat i)), z] [.int (Int32.ofNat (o + i)), .ref b])) := cl.trans (by
        refine XS.iload Xl.here hexec rfl (hb hbytes d3) rfl ?_
        refine XS.iload Xl.here hexec rfl (hb hbytes d5) rfl ?_
        refine XS.icmpNo Xl.here hexec rfl (hb hbytes d7) rfl (ii_ge_f (lt32 (by omega) (by omega))) ?_
        refine XS.aloadN Xl.here hexec rfl (hb hbytes d10) rfl rfl ?_
        refine XS.iloadN Xl.here hexec rfl (hb hbytes d11) rfl ?_
        exact Steps.refl _)
      have c4 : Steps p.tables e below (s₁.setTop (entryFrame m #[.ref b, .int (Int32.ofNat o), .ref d, .int (Int32.ofNat q), .int (Int32.ofNat len)] 7)) (Tl.setTop (mkF m 13 #[.val (.ref b), .val (.int (Int32.ofNat (o + i))), .val (.ref d), .val (.int (Int32.ofNat (q + i))), .val (.int (Int32.ofNat len)), .val (.int (Int32.ofNat i)), z] [.int (cv A (o + i))])) := c3.trans (by
        refine Xl.aget hexec hAl rfl (hA.get (i := o + i) (by omega)) rfl rfl (hb hbytes d12) ?_
        exact Steps.refl _)
      have c5 : Steps p.tables e below (s₁.setTop (entryFrame m #[.ref b, .int (Int32.ofNat o), .ref d, .int (Int32.ofNat q), .int (Int32.ofNat len)] 7)) (Tl.setTop (mkF m 15 #[.val (.ref b), .val (.int (Int32.ofNat (o + i))), .val (.ref d), .val (.int (Int32.ofNat (q + i))), .val (.int (Int32.ofNat len)), .val (.int (Int32.ofNat i)), .val (.int (cv A (o + i)))] [])) := c4.trans (by
        refine XS.istoreS Xl.here hexec rfl (hb hbytes d13) rfl rfl hz ?_
        exact Steps.refl _)
      have c6 : Steps p.tables e below (s₁.setTop (entryFrame m #[.ref b, .int (Int32.ofNat o), .ref d, .int (Int32.ofNat q), .int (Int32.ofNat len)] 7)) (Tl.setTop (mkF m 31 #[.val (.ref b), .val (.int (Int32.ofNat (o + i))), .val (.ref d), .val (.int (Int32.ofNat (q + i))), .val (.int (Int32.ofNat len)), .val (.int (Int32.ofNat i)), .val (.int (cv A (o + i)))] [.int (lo8 (cv A (o + i))), .int (Int32.ofNat (q + i)), .ref d])) := c5.trans (by
        refine XS.iload Xl.here hexec rfl (hb hbytes d15) rfl ?_
        refine sipushV Xl.here hexec rfl 255 (hb hbytes d17) (by decide) ?_
        refine XS.icmpYes Xl.here hexec rfl (pc0 := 20) rfl (hb hbytes d20) rfl (ii_le_t (hp i (by omega))) (by decide) rfl ?_
        refine XS.aloadN Xl.here hexec rfl (hb hbytes d26) rfl rfl ?_
        refine XS.iloadN Xl.here hexec rfl (hb hbytes d27) rfl ?_
        refine XS.iload Xl.here hexec rfl (hb hbytes d28) rfl ?_
        refine i2b Xl.here hexec rfl (hb hbytes d30) rfl ?_
        exact Steps.refl _)
      obtain ⟨T7, X7, p7, st7⟩ := Xl.aput hexec hBk rfl hlt rfl (fits_lo8 (cv A (o + i))) (g := (mkF m 31 #[.val (.ref b), .val (.int (Int32.ofNat (o + i))), .val (.ref d), .val (.int (Int32.ofNat (q + i))), .val (.int (Int32.ofNat len)), .val (.int (Int32.ofNat i)), .val (.int (cv A (o + i)))] [.int (lo8 (cv A (o + i))), .int (Int32.ofNat (q + i)), .ref d])) rfl (rest := []) rfl (hb hbytes d31)
      have c8 : Steps p.tables e below (s₁.setTop (entryFrame m #[.ref b, .int (Int32.ofNat o), .ref d, .int (Int32.ofNat q), .int (Int32.ofNat len)] 7)) (T7.setTop (mkF m 32 #[.val (.ref b), .val (.int (Int32.ofNat (o + i))), .val (.ref d), .val (.int (Int32.ofNat (q + i))), .val (.int (Int32.ofNat len)), .val (.int (Int32.ofNat i)), .val (.int (cv A (o + i)))] [])) := c6.trans (st7 _ (Steps.refl _))
      have c9 : Steps p.tables e below (s₁.setTop (entryFrame m #[.ref b, .int (Int32.ofNat o), .ref d, .int (Int32.ofNat q), .int (Int32.ofNat len)] 7)) (T7.setTop (mkF m 3 #[.val (.ref b), .val (.int (Int32.ofNat (o + i) + 1)), .val (.ref d), .val (.int (Int32.ofNat (q + i) + 1)), .val (.int (Int32.ofNat len)), .val (.int (Int32.ofNat i + 1)), .val (.int (cv A (o + i)))] [])) := c8.trans (by
        refine iincV X7.here hexec rfl 1 (hb hbytes d32) (by decide) rfl rfl ?_
        refine iincV X7.here hexec rfl 1 (hb hbytes d35) (by decide) rfl rfl ?_
        refine iincV X7.here hexec rfl 1 (hb hbytes d38) (by decide) rfl rfl ?_
        refine XS.goto X7.here hexec rfl (pc0 := 41) rfl (hb hbytes d41) (by decide) rfl ?_
        exact Steps.refl _)
      have c10 : Steps p.tables e below (s₁.setTop (entryFrame m #[.ref b, .int (Int32.ofNat o), .ref d, .int (Int32.ofNat q), .int (Int32.ofNat len)] 7)) (T7.setTop (mkF m 3 #[.val (.ref b), .val (.int (Int32.ofNat (o + (i + 1)))), .val (.ref d), .val (.int (Int32.ofNat (q + (i + 1)))), .val (.int (Int32.ofNat len)), .val (.int (Int32.ofNat (i + 1))), .val (.int (cv A (o + i)))] [])) := by
        have := c9
        rw [succ32, succ32, succ32] at this
        exact this
      exact ih (i + 1) (by omega) _ (Or.inr ⟨_, rfl, rfl⟩) T7 _ (by rw [copyLocs_step, ← List.append_assoc]; exact X7) (pl.trans p7) (fl.step (by omega) hlt (by simp)) c10
  obtain ⟨T9, B9, z9, X9, p9, f9, g9⟩ := loop len 0 (by omega) .unset (Or.inl rfl) s₁ B (by simpa [copyLocs] using X0) ⟨hB0.1, fun _ _ => rfl, rfl⟩ (Laid.zero _ _ _) c2
  have c11 : Steps p.tables e below (s₁.setTop (entryFrame m #[.ref b, .int (Int32.ofNat o), .ref d, .int (Int32.ofNat q), .int (Int32.ofNat len)] 7)) (T9.setTop (mkF m 46 #[.val (.ref b), .val (.int (Int32.ofNat (o + len))), .val (.ref d), .val (.int (Int32.ofNat (q + len))), .val (.int (Int32.ofNat len)), .val (.int (Int32.ofNat len)), z9] [.int (Int32.ofNat len)])) := g9.trans (by
    refine XS.iload X9.here hexec rfl (hb hbytes d3) rfl ?_
    refine XS.iload X9.here hexec rfl (hb hbytes d5) rfl ?_
    refine XS.icmpYes X9.here hexec rfl (pc0 := 7) rfl (hb hbytes d7) rfl (ii_ge_t (nlt32 (by omega) (Nat.le_refl _))) (by decide) rfl ?_
    refine XS.iload X9.here hexec rfl (hb hbytes d44) rfl ?_
    exact Steps.refl _)
  exact ⟨T9, some (.int (Int32.ofNat len)), _, _, _, X9, by simp, rfl, rfl, (fun h => by cases h), ⟨rfl, B9, p9.from hh0, f9⟩, fun fs hl => c11.trans (X9.ireturnOut hexec hret rfl (Or.inl rfl) (hb hbytes d46) hl)⟩
end Cmp5
namespace Cmp3
def yN : MethodName := ⟨"java/lang/StringUTF16", "compress", "([CII)[B"⟩
abbrev yB : ByteArray := jdk_52_method_16_code
theorem d0 : decode yB 0 = .ok (.iload_n 2, 1) := by decide +kernel
theorem d1 : decode yB 1 = .ok (.newarray .byte, 2) := by decide +kernel
theorem d3 : decode yB 3 = .ok (.astore_n 3, 1) := by decide +kernel
theorem d4 : decode yB 4 = .ok (.aload_n 0, 1) := by decide +kernel
theorem d5 : decode yB 5 = .ok (.iload_n 1, 1) := by decide +kernel
theorem d6 : decode yB 6 = .ok (.aload_n 3, 1) := by decide +kernel
theorem d7 : decode yB 7 = .ok (.iconst 0, 1) := by decide +kernel
theorem d8 : decode yB 8 = .ok (.iload_n 2, 1) := by decide +kernel
theorem d9 : decode yB 9 = .ok (.invokestatic 115, 3) := by decide +kernel
theorem d12 : decode yB 12 = .ok (.istore 4, 2) := by decide +kernel
theorem d14 : decode yB 14 = .ok (.iload 4, 2) := by decide +kernel
theorem d16 : decode yB 16 = .ok (.iload_n 2, 1) := by decide +kernel
theorem d17 : decode yB 17 = .ok (.if_icmp (.eq) 40, 3) := by decide +kernel
theorem d57 : decode yB 57 = .ok (.aload_n 3, 1) := by decide +kernel
theorem d58 : decode yB 58 = .ok (.areturn, 1) := by decide +kernel
def site : List Cond := [.arrayClass .byte, Cmp5.tab] ++ staticW U16 115 Cmp5.yN
def tab : Cond := tabOf yN yB 6 (some (.array .byte)) site
def P (b : Addr) (A : Cell) (o len : Nat) (args : Array Value) (s : State) : Prop := args = #[.ref b, .int (Int32.ofNat o), .int (Int32.ofNat len)] ∧ Ch b A s ∧ o + len ≤ A.slots.size ∧ len ≤ 536870912 ∧ ∀ i, i < len → ¬ 255 < cv A (o + i)
def E (b : Addr) (A : Cell) (o len : Nat) (r : Option Value) (s u : State) : Prop := NewArr .byte "[B" len (fun j => .int (lo8 (cv A (o + j)))) r s u ∧ u.heap.size = s.heap.size + 1
/-- no char of the range above 255: a new byte[] of their low bytes -/
theorem law (l : Launch) (b : Addr) (A : Cell) (o len : Nat) : Law l yN 3 3 1 18 yB 6 (some (.array .byte)) site (P b A o len) (E b A o len) [] 1 len := by
  refine Law.of_walk (plainFor_of_name (by decide +kernel)) (by decide +kernel) (by decide +kernel) (by decide) (fun _ _ h => by rw [h.1]; rfl) (fun _ U U' hal hh h => ⟨h.1, h.2.1.mv hal hh, h.2.2⟩) (fun r U U' V V' h1 hal h2 h => ⟨NewArr.mv r U U' V V' h1 hal h2 h.1, by rw [h1, h2]; exact h.2⟩) ?_
  intro p e s m args below meth c s₁ X0 hexec hbytes hml hret hlk hnm hown hh0 W hP
  obtain ⟨rfl, hA, l1, l2, hp⟩ := hP
  have a31 := hA.1.2.2.2
  have c1 : Steps p.tables e below (s₁.setTop (entryFrame m #[.ref b, .int (Int32.ofNat o), .int (Int32.ofNat len)] 6)) (s₁.setTop (mkF m 0 #[.val (.ref b), .val (.int (Int32.ofNat o)), .val (.int (Int32.ofNat len)), .unset, .unset, .unset] [])) := entry rfl
  have c2 : Steps p.tables e below (s₁.setTop (entryFrame m #[.ref b, .int (Int32.ofNat o), .int (Int32.ofNat len)] 6)) (s₁.setTop (mkF m 1 #[.val (.ref b), .val (.int (Int32.ofNat o)), .val (.int (Int32.ofNat len)), .unset, .unset, .unset] [.int (Int32.ofNat len)])) := c1.trans (by
    refine XS.iloadN X0.here hexec rfl (hb hbytes d0) rfl ?_
    exact Steps.refl _)
  obtain ⟨T3, B3, X3, ba3, bs3, bv3, bh3, bf3, st3⟩ := X0.anew hexec (atype := .byte) (wk W (.arrayClass .byte)) rfl (by show len * 1 ≤ _; omega) (by omega) (g := (mkF m 1 #[.val (.ref b), .val (.int (Int32.ofNat o)), .val (.int (Int32.ofNat len)), .unset, .unset, .unset] [.int (Int32.ofNat len)])) rfl (hb hbytes d1) (rest := []) rfl (Nat.le_refl _) (by show 0 + len ≤ len; omega)
  rw [hh0] at ba3 st3
  have kp3 : XT.Kept s T3 := (XT.Kept.of_eq hh0).push bh3
  have hA3 := hA.keep X3.warmed.alike (kp3 _ _ hA.1.1)
  have hne : b ≠ s.heap.size := hA.1.ne
  have c4 : Steps p.tables e below (s₁.setTop (entryFrame m #[.ref b, .int (Int32.ofNat o), .int (Int32.ofNat len)] 6)) (T3.setTop (mkF m 3 #[.val (.ref b), .val (.int (Int32.ofNat o)), .val (.int (Int32.ofNat len)), .unset, .unset, .unset] [.ref s.heap.size])) := c2.trans (st3 _ (Steps.refl _))
  have c5 : Steps p.tables e below (s₁.setTop (entryFrame m #[.ref b, .int (Int32.ofNat o), .int (Int32.ofNat len)] 6)) (T3.setTop (mkF m 9 #[.val (.ref b), .val (.int (Int32.ofNat o)), .val (.int (Int32.ofNat len)), .val (.ref s.heap.size), .unset, .unset] [.int (Int32.ofNat len), .int 0, .ref s.heap.size, .int (Int32.ofNat o), .ref b])) := c4.trans (by
    refine XS.astoreN X3.here hexec rfl (hb hbytes d3) rfl rfl rfl ?_
    refine XS.aloadN X3.here hexec rfl (hb hbytes d4) rfl rfl ?_
    refine XS.iloadN X3.here hexec rfl (hb hbytes d5) rfl ?_
    refine XS.aloadN X3.here hexec rfl (hb hbytes d6) rfl rfl ?_
    refine iconstV X3.here hexec rfl 0 (hb hbytes d7) (by decide) ?_
    refine XS.iloadN X3.here hexec rfl (hb hbytes d8) rfl ?_
    exact Steps.refl _)
  obtain ⟨v6, T6, X6, E6, g6⟩ := X3.callS hexec (Cmp5.law l b A s.heap.size B3 o 0 len) hown (wks W (staticW U16 115 Cmp5.yN)) (wk W Cmp5.tab) (W := 0) (Nat.le_of_ble_eq_true rfl) (Nat.le_of_ble_eq_true rfl) (Nat.le_refl _) (by show 0 + len + 0 ≤ len; omega) (g := (mkF m 9 #[.val (.ref b), .val (.int (Int32.ofNat o)), .val (.int (Int32.ofNat len)), .val (.ref s.heap.size), .unset, .unset] [.int (Int32.ofNat len), .int (Int32.ofNat 0), .ref s.heap.size, .int (Int32.ofNat o), .ref b])) rfl (by rw [hml]; rfl) c5 (argsL := [.ref b, .int (Int32.ofNat o), .ref s.heap.size, .int (Int32.ofNat 0), .int (Int32.ofNat len)]) (rest := []) rfl rfl (by show 2 * 0 + 0 ≤ _; decide) (hb hbytes d9) (⟨rfl, hA3, ba3, hne, l1, by rw [bs3]; simp, hp⟩)
  obtain ⟨rfl, B6, p6, f6⟩ := E6
  have c7 : Steps p.tables e below (s₁.setTop (entryFrame m #[.ref b, .int (Int32.ofNat o), .int (Int32.ofNat len)] 6)) (T6.setTop (mkF m 12 #[.val (.ref b), .val (.int (Int32.ofNat o)), .val (.int (Int32.ofNat len)), .val (.ref s.heap.size), .unset, .unset] [.int (Int32.ofNat len)])) := g6
  have c8 : Steps p.tables e below (s₁.setTop (entryFrame m #[.ref b, .int (Int32.ofNat o), .int (Int32.ofNat len)] 6)) (T6.setTop (mkF m 58 #[.val (.ref b), .val (.int (Int32.ofNat o)), .val (.int (Int32.ofNat len)), .val (.ref s.heap.size), .val (.int (Int32.ofNat len)), .unset] [.ref s.heap.size])) := c7.trans (by
    refine XS.istore X6.here hexec rfl (hb hbytes d12) rfl rfl ?_
    refine XS.iload X6.here hexec rfl (hb hbytes d14) rfl ?_
    refine XS.iloadN X6.here hexec rfl (hb hbytes d16) rfl ?_
    refine XS.icmpYes X6.here hexec rfl (pc0 := 17) rfl (hb hbytes d17) rfl (ii_eq_t rfl) (by decide) rfl ?_
    refine XS.aloadN X6.here hexec rfl (hb hbytes d57) rfl rfl ?_
    exact Steps.refl _)
  have X8 := X6.wide (L' := []) (cells' := 1) (slots' := len) (fun x hx hlt => by
    simp only [List.nil_append, copyLocs, List.mem_map, List.mem_range] at hx
    obtain ⟨i, -, rfl⟩ := hx
    exact absurd hlt (Nat.lt_irrefl _)) (Nat.le_refl _) (by omega)
  exact ⟨T6, some (.ref s.heap.size), _, _, _, X8, rfl, rfl, rfl, (fun h => by cases h), ⟨⟨rfl, B6, ba3.like (X3.warmed.alike.symm.trans X6.warmed.alike) p6.1 f6.1 f6.2.1 f6.2.2.1, f6.2.1.trans bv3, by rw [X6.warmed.alike.findClass, f6.1]; exact bf3, by rw [f6.2.2.1, bs3]; simp, fun j hj => by rw [f6.2.2.2 j, if_pos (by omega)]; rfl, kp3.put p6 (Nat.le_refl _)⟩, by rw [p6.2.2, bh3, hh0]; simp⟩, fun fs hl => c8.trans (X8.areturnOut hexec rfl hret rfl (hb hbytes d58) hl)⟩
end Cmp3
namespace CodL
def yN : MethodName := ⟨"java/lang/StringUTF16", "coderFromArrayLen", "([BI)B"⟩
abbrev yB : ByteArray := jdk_52_method_15_code
theorem d0 : decode yB 0 = .ok (.iload_n 1, 1) := by decide +kernel
theorem d1 : decode yB 1 = .ok (.aload_n 0, 1) := by decide +kernel
theorem d2 : decode yB 2 = .ok (.arraylength, 1) := by decide +kernel
theorem d3 : decode yB 3 = .ok (.isub, 1) := by decide +kernel
theorem d4 : decode yB 4 = .ok (.bipush 31, 2) := by decide +kernel
theorem d6 : decode yB 6 = .ok (.iushr, 1) := by decide +kernel
theorem d7 : decode yB 7 = .ok (.i2b, 1) := by decide +kernel
theorem d8 : decode yB 8 = .ok (.ireturn, 1) := by decide +kernel
def site : List Cond := []
def tab : Cond := tabOf yN yB 2 (some .byte) site
def P (d : Addr) (B : Cell) (args : Array Value) (s : State) : Prop := args = #[.ref d, .int (Int32.ofNat B.slots.size)] ∧ Arr .byte d B s
def E (r : Option Value) (s u : State) : Prop := XT.PureE (some (.int 0)) r s u
/-- an array as long as the number of chars: LATIN1 -/
theorem law (l : Launch) (d : Addr) (B : Cell) : Law l yN 2 2 0 0 yB 2 (some .byte) site (P d B) E [] 0 0 := by
  refine Law.of_walk (plainFor_of_name (by decide +kernel)) (by decide +kernel) (by decide +kernel) (by decide) (fun _ _ h => by rw [h.1]; rfl) (fun _ U U' hal hh h => ⟨h.1, h.2.mv hal hh⟩) (fun r U U' V V' h1 hal h2 h => XT.PureE.mv r U U' V V' h1 hal h2 h) ?_
  intro p e s m args below meth c s₁ X0 hexec hbytes hml hret hlk hnm hown hh0 W hP
  obtain ⟨rfl, hB⟩ := hP
  have hB0 := hB.mv X0.warmed.alike hh0
  have c1 : Steps p.tables e below (s₁.setTop (entryFrame m #[.ref d, .int (Int32.ofNat B.slots.size)] 2)) (s₁.setTop (mkF m 0 #[.val (.ref d), .val (.int (Int32.ofNat B.slots.size))] [])) := entry rfl
  have c2 : Steps p.tables e below (s₁.setTop (entryFrame m #[.ref d, .int (Int32.ofNat B.slots.size)] 2)) (s₁.setTop (mkF m 2 #[.val (.ref d), .val (.int (Int32.ofNat B.slots.size))] [.ref d, .int (Int32.ofNat B.slots.size)])) := c1.trans (by
    refine XS.iloadN X0.here hexec rfl (hb hbytes d0) rfl ?_
    refine XS.aloadN X0.here hexec rfl (hb hbytes d1) rfl rfl ?_
    exact Steps.refl _)
  have c3 : Steps p.tables e below (s₁.setTop (entryFrame m #[.ref d, .int (Int32.ofNat B.slots.size)] 2)) (s₁.setTop (mkF m 8 #[.val (.ref d), .val (.int (Int32.ofNat B.slots.size))] [.int (lo8 (ushr (Int32.ofNat B.slots.size - Int32.ofNat B.slots.size) 31))])) := c2.trans (by
    refine X0.alen hexec hB0 rfl rfl (hb hbytes d2) ?_
    refine XS.isub X0.here hexec rfl (hb hbytes d3) rfl ?_
    refine bipushV X0.here hexec rfl 31 (hb hbytes d4) (by decide) ?_
    refine iushr X0.here hexec rfl (hb hbytes d6) rfl ?_
    refine i2b X0.here hexec rfl (hb hbytes d7) rfl ?_
    exact Steps.refl _)
  have e0 : lo8 (ushr (Int32.ofNat B.slots.size - Int32.ofNat B.slots.size) 31) = 0 := by rw [Int32.sub_self]; decide
  rw [e0] at c3
  exact ⟨s₁, some (.int 0), _, _, _, X0, rfl, rfl, rfl, (fun h => by cases h), ⟨rfl, hh0⟩, fun fs hl => c3.trans (X0.ireturnOut hexec hret rfl (Or.inr (Or.inr (Or.inl rfl))) (hb hbytes d8) hl)⟩
end CodL
/-- the String at a is Latin-1 over a new byte[] (the heap's one new cell): the low bytes of the len chars of A from o on; every cell but a is kept -/
def Got (a : Addr) (D : Cell) (fV fC : Field) (A : Cell) (o len : Nat) (r : Option Value) (s u : State) : Prop := r = none ∧ ∃ D' V : Cell, Blank "java/lang/String" a D' u ∧ Same D D' [fV.slot, fC.slot] ∧ D'.slots[fV.slot]? = some (.ref s.heap.size) ∧ D'.slots[fC.slot]? = some (.int 0) ∧ Arr .byte s.heap.size V u ∧ V.vm = .none ∧ u.vm.findClass "[B" = some V.cls ∧ V.slots.size = len ∧ (∀ j, j < len → V.slots[j]? = some (.int (lo8 (cv A (o + j))))) ∧ (∀ (y : Addr) (c : Cell), y ≠ a → s.heap[y]? = some c → u.heap[y]? = some c) ∧ u.heap.size = s.heap.size + 1
theorem Got.mv {a : Addr} {D A : Cell} {fV fC : Field} {o len : Nat} : ∀ r (U U' V V' : State), U'.heap = U.heap → V.vm.Alike V'.vm → V'.heap = V.heap → Got a D fV fC A o len r U V → Got a D fV fC A o len r U' V' :=
  fun r U U' V V' h1 hal h2 ⟨e0, D', X, a1, a2, a3, a4, a5, a6, a7, a8, a9, a10, a11⟩ => ⟨e0, D', X, a1.mv hal h2, a2, by rw [h1]; exact a3, a4, by rw [h1]; exact a5.mv hal h2, a6, by rw [hal.findClass]; exact a7, a8, a9, by rw [h1, h2]; exact a10, by rw [h1, h2]; exact a11⟩
namespace New4
def yN : MethodName := ⟨"java/lang/String", "<init>", "([CIILjava/lang/Void;)V"⟩
abbrev yB : ByteArray := jdk_42_method_149_code
theorem d0 : decode yB 0 = .ok (.aload_n 0, 1) := by decide +kernel
theorem d1 : decode yB 1 = .ok (.invokespecial 1, 3) := by decide +kernel
theorem d4 : decode yB 4 = .ok (.iload_n 3, 1) := by decide +kernel
theorem d5 : decode yB 5 = .ok (.ifCond (.ne) 22, 3) := by decide +kernel
theorem d27 : decode yB 27 = .ok (.getstatic 38, 3) := by decide +kernel
theorem d30 : decode yB 30 = .ok (.ifCond (.eq) 28, 3) := by decide +kernel
theorem d33 : decode yB 33 = .ok (.aload_n 1, 1) := by decide +kernel
theorem d34 : decode yB 34 = .ok (.iload_n 2, 1) := by decide +kernel
theorem d35 : decode yB 35 = .ok (.iload_n 3, 1) := by decide +kernel
theorem d36 : decode yB 36 = .ok (.invokestatic 177, 3) := by decide +kernel
theorem d39 : decode yB 39 = .ok (.astore 5, 2) := by decide +kernel
theorem d41 : decode yB 41 = .ok (.aload_n 0, 1) := by decide +kernel
theorem d42 : decode yB 42 = .ok (.aload 5, 2) := by decide +kernel
theorem d44 : decode yB 44 = .ok (.iload_n 3, 1) := by decide +kernel
theorem d45 : decode yB 45 = .ok (.invokestatic 47, 3) := by decide +kernel
theorem d48 : decode yB 48 = .ok (.putfield 15, 3) := by decide +kernel
theorem d51 : decode yB 51 = .ok (.aload_n 0, 1) := by decide +kernel
theorem d52 : decode yB 52 = .ok (.aload 5, 2) := by decide +kernel
theorem d54 : decode yB 54 = .ok (.putfield 9, 3) := by decide +kernel
theorem d57 : decode yB 57 = .ok (.return_, 1) := by decide +kernel
def site : List Cond := [.fieldLink "java/lang/String" 38 "java/lang/String" "COMPACT_STRINGS" "Z", Cmp3.tab, CodL.tab, .laysFinal "java/lang/String" "java/lang/String" "value" "[B", .fieldLink "java/lang/String" 9 "java/lang/String" "value" "[B", .laysFinal "java/lang/String" "java/lang/String" "coder" "B", .fieldLink "java/lang/String" 15 "java/lang/String" "coder" "B"] ++ objW "java/lang/String" 1 ++ staticW "java/lang/String" 177 Cmp3.yN ++ staticW "java/lang/String" 47 CodL.yN
def tab : Cond := tabOf yN yB 6 none site
def P (a : Addr) (D : Cell) (fV fC : Field) (b : Addr) (A : Cell) (z : Int32) (o len : Nat) (args : Array Value) (s : State) : Prop := args = #[.ref a, .ref b, .int (Int32.ofNat o), .int (Int32.ofNat len), .null] ∧ Blank "java/lang/String" a D s ∧ Found "java/lang/String" "value" "[B" fV s ∧ Found "java/lang/String" "coder" "B" fC s ∧ Ch b A s ∧ StaticIs s "java/lang/String" "COMPACT_STRINGS" "Z" (.int z) ∧ ¬ z = 0 ∧ 0 < len ∧ o + len ≤ A.slots.size ∧ len ≤ 536870912 ∧ ∀ i, i < len → ¬ 255 < cv A (o + i)
def E (a : Addr) (D : Cell) (fV fC : Field) (A : Cell) (o len : Nat) (r : Option Value) (s u : State) : Prop := Got a D fV fC A o len r s u
/-- len > 0, no char of the range above 255: a Latin-1 String of their low bytes -/
theorem law (l : Launch) (a : Addr) (D : Cell) (fV fC : Field) (b : Addr) (A : Cell) (z : Int32) (o len : Nat) : Law l yN 5 4 2 35 yB 6 none site (P a D fV fC b A z o len) (E a D fV fC A o len) [⟨a, fC.slot⟩, ⟨a, fV.slot⟩] 1 len := by
  refine Law.of_walk (plainFor_of_name (by decide +kernel)) (by decide +kernel) (by decide +kernel) (by decide) (fun _ _ h => by rw [h.1]; rfl) (fun _ U U' hal hh h => ⟨h.1, h.2.1.mv hal hh, h.2.2.1.al hal, h.2.2.2.1.al hal, h.2.2.2.2.1.mv hal hh, h.2.2.2.2.2.1.there hal hh, h.2.2.2.2.2.2⟩) (fun r U U' V V' h1 hal h2 h => Got.mv r U U' V V' h1 hal h2 h) ?_
  intro p e s m args below meth c s₁ X0 hexec hbytes hml hret hlk hnm hown hh0 W hP
  obtain ⟨rfl, hB, f1, f2, hA, s1, hz, l0, l1, l2, hp⟩ := hP
  have a31 := hA.1.2.2.2
  have c1 : Steps p.tables e below (s₁.setTop (entryFrame m #[.ref a, .ref b, .int (Int32.ofNat o), .int (Int32.ofNat len), .null] 6)) (s₁.setTop (mkF m 0 #[.val (.ref a), .val (.ref b), .val (.int (Int32.ofNat o)), .val (.int (Int32.ofNat len)), .val .null, .unset] [])) := entry rfl
  have c2 : Steps p.tables e below (s₁.setTop (entryFrame m #[.ref a, .ref b, .int (Int32.ofNat o), .int (Int32.ofNat len), .null] 6)) (s₁.setTop (mkF m 1 #[.val (.ref a), .val (.ref b), .val (.int (Int32.ofNat o)), .val (.int (Int32.ofNat len)), .val .null, .unset] [.ref a])) := c1.trans (by
    refine XS.aloadN X0.here hexec rfl (hb hbytes d0) rfl rfl ?_
    exact Steps.refl _)
  obtain ⟨T3, X3, q3, st3⟩ := X0.oinit hexec hown (wks W (objW "java/lang/String" 1)) (g := (mkF m 1 #[.val (.ref a), .val (.ref b), .val (.int (Int32.ofNat o)), .val (.int (Int32.ofNat len)), .val .null, .unset] [.ref a])) rfl (by rw [hml]; rfl) (rest := []) rfl (hb hbytes d1) (W := 0) (by show 2 * 0 + 0 ≤ _; decide) (Nat.le_of_ble_eq_true rfl) (Nat.le_of_ble_eq_true rfl)
  have hh3 := q3.trans hh0
  have c4 : Steps p.tables e below (s₁.setTop (entryFrame m #[.ref a, .ref b, .int (Int32.ofNat o), .int (Int32.ofNat len), .null] 6)) (T3.setTop (mkF m 27 #[.val (.ref a), .val (.ref b), .val (.int (Int32.ofNat o)), .val (.int (Int32.ofNat len)), .val .null, .unset] [])) := (c2.trans (st3 _ (Steps.refl _))).trans (by
    refine XS.iloadN X3.here hexec rfl (hb hbytes d4) rfl ?_
    refine XS.ifYes X3.here hexec rfl (pc0 := 5) rfl (hb hbytes d5) rfl (i0_ne_t (nz32 (by omega) l0)) (by decide) rfl ?_
    exact Steps.refl _)
  obtain ⟨T5, X5, q5, st5⟩ := X3.sget hexec hown (wk W (.fieldLink "java/lang/String" 38 "java/lang/String" "COMPACT_STRINGS" "Z")) s1 (fun _ _ h => by rw [hh3]; exact h) (g := (mkF m 27 #[.val (.ref a), .val (.ref b), .val (.int (Int32.ofNat o)), .val (.int (Int32.ofNat len)), .val .null, .unset] [])) rfl (hb hbytes d27)
  have hh5 := q5.trans hh3
  have c6 : Steps p.tables e below (s₁.setTop (entryFrame m #[.ref a, .ref b, .int (Int32.ofNat o), .int (Int32.ofNat len), .null] 6)) (T5.setTop (mkF m 30 #[.val (.ref a), .val (.ref b), .val (.int (Int32.ofNat o)), .val (.int (Int32.ofNat len)), .val .null, .unset] [.int z])) := c4.trans (st5 _ (Steps.refl _))
  have c7 : Steps p.tables e below (s₁.setTop (entryFrame m #[.ref a, .ref b, .int (Int32.ofNat o), .int (Int32.ofNat len), .null] 6)) (T5.setTop (mkF m 36 #[.val (.ref a), .val (.ref b), .val (.int (Int32.ofNat o)), .val (.int (Int32.ofNat len)), .val .null, .unset] [.int (Int32.ofNat len), .int (Int32.ofNat o), .ref b])) := c6.trans (by
    refine XS.ifNo X5.here hexec rfl (hb hbytes d30) rfl (i0_eq_f hz) ?_
    refine XS.aloadN X5.here hexec rfl (hb hbytes d33) rfl rfl ?_
    refine XS.iloadN X5.here hexec rfl (hb hbytes d34) rfl ?_
    refine XS.iloadN X5.here hexec rfl (hb hbytes d35) rfl ?_
    exact Steps.refl _)
  obtain ⟨v8, T8, X8, E8, g8⟩ := X5.callS hexec (Cmp3.law l b A o len) hown (wks W (staticW "java/lang/String" 177 Cmp3.yN)) (wk W Cmp3.tab) (W := 0) (Nat.le_of_ble_eq_true rfl) (Nat.le_of_ble_eq_true rfl) (Nat.le_refl _) (by show 0 + len ≤ len; omega) (g := (mkF m 36 #[.val (.ref a), .val (.ref b), .val (.int (Int32.ofNat o)), .val (.int (Int32.ofNat len)), .val .null, .unset] [.int (Int32.ofNat len), .int (Int32.ofNat o), .ref b])) rfl (by rw [hml]; rfl) c7 (argsL := [.ref b, .int (Int32.ofNat o), .int (Int32.ofNat len)]) (rest := []) rfl rfl (by show 2 * 0 + 0 ≤ _; decide) (hb hbytes d36) (⟨rfl, hA.mv X5.warmed.alike hh5, l1, l2, hp⟩)
  obtain ⟨e8, z8⟩ := E8
  obtain ⟨rfl, N, n1, n2, n3, n4, n5, n6⟩ := NewArr.mv _ T5 s _ _ hh5.symm (Vm.Alike.refl _) rfl e8
  rw [hh5] at z8
  have hB1 := hB.keep X8.warmed.alike (n6 _ _ hB.1)
  have hne : s.heap.size ≠ a := (Nat.ne_of_lt (Array.getElem?_eq_some_iff.mp hB.1).1).symm
  have c9 : Steps p.tables e below (s₁.setTop (entryFrame m #[.ref a, .ref b, .int (Int32.ofNat o), .int (Int32.ofNat len), .null] 6)) (T8.setTop (mkF m 39 #[.val (.ref a), .val (.ref b), .val (.int (Int32.ofNat o)), .val (.int (Int32.ofNat len)), .val .null, .unset] [.ref s.heap.size])) := g8
  have c10 : Steps p.tables e below (s₁.setTop (entryFrame m #[.ref a, .ref b, .int (Int32.ofNat o), .int (Int32.ofNat len), .null] 6)) (T8.setTop (mkF m 45 #[.val (.ref a), .val (.ref b), .val (.int (Int32.ofNat o)), .val (.int (Int32.ofNat len)), .val .null, .val (.ref s.heap.size)] [.int (Int32.ofNat N.slots.size), .ref s.heap.size, .ref a])) := by
    have hc : Steps p.tables e below (s₁.setTop (entryFrame m #[.ref a, .ref b, .int (Int32.ofNat o), .int (Int32.ofNat len), .null] 6)) (T8.setTop (mkF m 45 #[.val (.ref a), .val (.ref b), .val (.int (Int32.ofNat o)), .val (.int (Int32.ofNat len)), .val .null, .val (.ref s.heap.size)] [.int (Int32.ofNat len), .ref s.heap.size, .ref a])) := c9.trans (by
      refine XS.astore X8.here hexec rfl (hb hbytes d39) rfl rfl rfl ?_
      refine XS.aloadN X8.here hexec rfl (hb hbytes d41) rfl rfl ?_
      refine XS.aload X8.here hexec rfl (hb hbytes d42) rfl rfl ?_
      refine XS.iloadN X8.here hexec rfl (hb hbytes d44) rfl ?_
      exact Steps.refl _)
    rw [n4]; exact hc
  obtain ⟨v11, T11, X11, E11, g11⟩ := X8.callS hexec (CodL.law l s.heap.size N) hown (wks W (staticW "java/lang/String" 47 CodL.yN)) (wk W CodL.tab) (W := 1) (Nat.le_of_ble_eq_true rfl) (Nat.le_of_ble_eq_true rfl) (Nat.le_refl _) (by show 0 + len + 0 ≤ len; omega) (g := (mkF m 45 #[.val (.ref a), .val (.ref b), .val (.int (Int32.ofNat o)), .val (.int (Int32.ofNat len)), .val .null, .val (.ref s.heap.size)] [.int (Int32.ofNat N.slots.size), .ref s.heap.size, .ref a])) rfl (by rw [hml]; rfl) c10 (argsL := [.ref s.heap.size, .int (Int32.ofNat N.slots.size)]) (rest := [.ref a]) rfl rfl (by show 2 * 0 + (1 + 0) ≤ _; decide) (hb hbytes d45) (⟨rfl, n1⟩)
  obtain ⟨rfl, q11⟩ := E11
  have hB11 := hB1.mv (X8.warmed.alike.symm.trans X11.warmed.alike) q11
  have c12 : Steps p.tables e below (s₁.setTop (entryFrame m #[.ref a, .ref b, .int (Int32.ofNat o), .int (Int32.ofNat len), .null] 6)) (T11.setTop (mkF m 48 #[.val (.ref a), .val (.ref b), .val (.int (Int32.ofNat o)), .val (.int (Int32.ofNat len)), .val .null, .val (.ref s.heap.size)] [.int 0, .ref a])) := g11
  obtain ⟨T13, X13, p13, bl13, sl13, st13⟩ := X11.finit hexec hown (wk W (.fieldLink "java/lang/String" 15 "java/lang/String" "coder" "B")) (Or.inr ⟨_, (wk W (.laysFinal "java/lang/String" "java/lang/String" "coder" "B"))⟩) (Or.inl ⟨rfl, hnm⟩) f2 (Or.inl rfl) hB11 (t := .byte) (by decide +kernel) rfl (g := (mkF m 48 #[.val (.ref a), .val (.ref b), .val (.int (Int32.ofNat o)), .val (.int (Int32.ofNat len)), .val .null, .val (.ref s.heap.size)] [.int 0, .ref a])) rfl (rest := []) rfl (hb hbytes d48)
  have c14 : Steps p.tables e below (s₁.setTop (entryFrame m #[.ref a, .ref b, .int (Int32.ofNat o), .int (Int32.ofNat len), .null] 6)) (T13.setTop (mkF m 54 #[.val (.ref a), .val (.ref b), .val (.int (Int32.ofNat o)), .val (.int (Int32.ofNat len)), .val .null, .val (.ref s.heap.size)] [.ref s.heap.size, .ref a])) := (c12.trans (st13 _ (Steps.refl _))).trans (by
    refine XS.aloadN X13.here hexec rfl (hb hbytes d51) rfl rfl ?_
    refine XS.aload X13.here hexec rfl (hb hbytes d52) rfl rfl ?_
    exact Steps.refl _)
  obtain ⟨T15, X15, p15, bl15, sl15, st15⟩ := X13.finit hexec hown (wk W (.fieldLink "java/lang/String" 9 "java/lang/String" "value" "[B")) (Or.inr ⟨_, (wk W (.laysFinal "java/lang/String" "java/lang/String" "value" "[B"))⟩) (Or.inl ⟨rfl, hnm⟩) f1 (Or.inl rfl) bl13 (t := (.array .byte)) (by decide +kernel) rfl (g := (mkF m 54 #[.val (.ref a), .val (.ref b), .val (.int (Int32.ofNat o)), .val (.int (Int32.ofNat len)), .val .null, .val (.ref s.heap.size)] [.ref s.heap.size, .ref a])) rfl (rest := []) rfl (hb hbytes d54)
  have c16 : Steps p.tables e below (s₁.setTop (entryFrame m #[.ref a, .ref b, .int (Int32.ofNat o), .int (Int32.ofNat len), .null] 6)) (T15.setTop (mkF m 57 #[.val (.ref a), .val (.ref b), .val (.int (Int32.ofNat o)), .val (.int (Int32.ofNat len)), .val .null, .val (.ref s.heap.size)] [])) := c14.trans (st15 _ (Steps.refl _))
  have ap := apart (Or.inr ⟨_, (wk W (.laysFinal "java/lang/String" "java/lang/String" "value" "[B"))⟩) (Or.inr ⟨_, (wk W (.laysFinal "java/lang/String" "java/lang/String" "coder" "B"))⟩) f1 f2 (t₁ := .array .byte) (t₂ := .byte) (by decide +kernel) (by decide +kernel) (by decide)
  have al := X8.warmed.alike.symm.trans X15.warmed.alike
  have n7 : T11.heap[s.heap.size]? = some N := by rw [q11]; exact n1.1
  exact ⟨T15, none, _, _, _, X15, by simp, rfl, by omega, (fun _ => rfl), ⟨rfl, _, N, bl15, ((Same.refl D _).set _ (by simp)).set _ (by simp), sl15, (Cell.slots_setSlot_ne _ ap).trans sl13, n1.keep al (p15.other hne (p13.other hne n7)), n2, by rw [al.findClass]; exact n3, n4, n5, fun y c h1 h2 => p15.other h1 (p13.other h1 (by rw [q11]; exact n6 y c h2)), by rw [p15.2.2, p13.2.2, q11]; exact z8⟩, fun fs hl => c16.trans (X15.returnOut hexec hret (hb hbytes d57) hl)⟩
end New4
namespace New1
def yN : MethodName := ⟨"java/lang/String", "<init>", "([C)V"⟩
abbrev yB : ByteArray := jdk_42_method_3_code
theorem d0 : decode yB 0 = .ok (.aload_n 0, 1) := by decide +kernel
theorem d1 : decode yB 1 = .ok (.aload_n 1, 1) := by decide +kernel
theorem d2 : decode yB 2 = .ok (.iconst 0, 1) := by decide +kernel
theorem d3 : decode yB 3 = .ok (.aload_n 1, 1) := by decide +kernel
theorem d4 : decode yB 4 = .ok (.arraylength, 1) := by decide +kernel
theorem d5 : decode yB 5 = .ok (.aconst_null, 1) := by decide +kernel
theorem d6 : decode yB 6 = .ok (.invokespecial 27, 3) := by decide +kernel
theorem d9 : decode yB 9 = .ok (.return_, 1) := by decide +kernel
def site : List Cond := [New4.tab] ++ initW "java/lang/String" 27 New4.yN
def tab : Cond := tabOf yN yB 2 none site
def P (a : Addr) (D : Cell) (fV fC : Field) (b : Addr) (A : Cell) (z : Int32) (args : Array Value) (s : State) : Prop := args = #[.ref a, .ref b] ∧ Blank "java/lang/String" a D s ∧ Found "java/lang/String" "value" "[B" fV s ∧ Found "java/lang/String" "coder" "B" fC s ∧ Ch b A s ∧ StaticIs s "java/lang/String" "COMPACT_STRINGS" "Z" (.int z) ∧ ¬ z = 0 ∧ 0 < A.slots.size ∧ A.slots.size ≤ 536870912 ∧ ∀ i, i < A.slots.size → ¬ 255 < cv A i
def E (a : Addr) (D : Cell) (fV fC : Field) (A : Cell) (r : Option Value) (s u : State) : Prop := Got a D fV fC A 0 A.slots.size r s u
/-- new String(chars), not empty, no char above 255: a Latin-1 String of their low bytes -/
theorem law (l : Launch) (a : Addr) (D : Cell) (fV fC : Field) (b : Addr) (A : Cell) (z : Int32) : Law l yN 2 1 3 52 yB 2 none site (P a D fV fC b A z) (E a D fV fC A) [⟨a, fC.slot⟩, ⟨a, fV.slot⟩] 1 A.slots.size := by
  refine Law.of_walk (plainFor_of_name (by decide +kernel)) (by decide +kernel) (by decide +kernel) (by decide) (fun _ _ h => by rw [h.1]; rfl) (fun _ U U' hal hh h => ⟨h.1, h.2.1.mv hal hh, h.2.2.1.al hal, h.2.2.2.1.al hal, h.2.2.2.2.1.mv hal hh, h.2.2.2.2.2.1.there hal hh, h.2.2.2.2.2.2⟩) (fun r U U' V V' h1 hal h2 h => Got.mv r U U' V V' h1 hal h2 h) ?_
  intro p e s m args below meth c s₁ X0 hexec hbytes hml hret hlk hnm hown hh0 W hP
  obtain ⟨rfl, hB, f1, f2, hA, s1, hz, l0, l2, hp⟩ := hP
  have c1 : Steps p.tables e below (s₁.setTop (entryFrame m #[.ref a, .ref b] 2)) (s₁.setTop (mkF m 0 #[.val (.ref a), .val (.ref b)] [])) := entry rfl
  have c2 : Steps p.tables e below (s₁.setTop (entryFrame m #[.ref a, .ref b] 2)) (s₁.setTop (mkF m 6 #[.val (.ref a), .val (.ref b)] [.null, .int (Int32.ofNat A.slots.size), .int 0, .ref b, .ref a])) := c1.trans (by
    refine XS.aloadN X0.here hexec rfl (hb hbytes d0) rfl rfl ?_
    refine XS.aloadN X0.here hexec rfl (hb hbytes d1) rfl rfl ?_
    refine iconstV X0.here hexec rfl 0 (hb hbytes d2) (by decide) ?_
    refine XS.aloadN X0.here hexec rfl (hb hbytes d3) rfl rfl ?_
    refine X0.alen hexec (hA.1.mv X0.warmed.alike hh0) rfl rfl (hb hbytes d4) ?_
    refine XS.aconstNull X0.here hexec rfl (hb hbytes d5) ?_
    exact Steps.refl _)
  obtain ⟨v3, T3, X3, E3, g3⟩ := X0.callN hexec (New4.law l a D fV fC b A z 0 A.slots.size) rfl hown (wks W (initW "java/lang/String" 27 New4.yN)) (W New4.tab (by simp only [site, List.mem_cons, List.mem_append, true_or, or_true])) (W := 0) (Nat.le_of_ble_eq_true rfl) (Nat.le_of_ble_eq_true rfl) (Nat.le_refl _) (by show 0 + A.slots.size ≤ A.slots.size; omega) (g := (mkF m 6 #[.val (.ref a), .val (.ref b)] [.null, .int (Int32.ofNat A.slots.size), .int (Int32.ofNat 0), .ref b, .ref a])) rfl (by rw [hml]; rfl) c2 (argsL := [.ref b, .int (Int32.ofNat 0), .int (Int32.ofNat A.slots.size), .null]) (rest := []) rfl rfl (by show 2 * 0 + 0 ≤ _; decide) (hb hbytes d6) (⟨rfl, hB.mv X0.warmed.alike hh0, f1.al X0.warmed.alike, f2.al X0.warmed.alike, hA.mv X0.warmed.alike hh0, s1.there X0.warmed.alike hh0, hz, l0, by omega, l2, fun i hi => by rw [Nat.zero_add]; exact hp i hi⟩)
  have e0 := Got.mv _ s₁ s _ _ hh0.symm (Vm.Alike.refl _) rfl E3
  obtain rfl := e0.1
  have c4 : Steps p.tables e below (s₁.setTop (entryFrame m #[.ref a, .ref b] 2)) (T3.setTop (mkF m 9 #[.val (.ref a), .val (.ref b)] [])) := g3
  exact ⟨T3, none, _, _, _, X3, by simp, rfl, by omega, (fun _ => rfl), e0, fun fs hl => c4.trans (X3.returnOut hexec hret (hb hbytes d9) hl)⟩
theorem pays {l : Launch} {R : Room} {p : Program} {e : Env} {below : List Frame} {s : State} {sargs : Array Value} {len W : Nat} (a : Addr) (D : Cell) (fV fC : Field) (b : Addr) (A : Cell) (z : Int32) (htab : tab.before sargs s = true) (hfr : 4 ≤ R.frames) (hlo : W + 65 ≤ R.locals) :
    Back l R p e below s sargs yN len W (fun A₁ a₁ => A₁.cells + 1 ≤ R.cells ∧ A₁.slots + A.slots.size ≤ R.slots ∧ P a D fV fC b A z a₁ A₁.U) (fun A₁ _ v₁ B₁ => E a D fV fC A v₁ A₁.U B₁.U ∧ B₁.locs = A₁.locs ++ [⟨a, fC.slot⟩, ⟨a, fV.slot⟩] ∧ B₁.cells = A₁.cells + 1 ∧ B₁.slots = A₁.slots + A.slots.size) :=
  (law l a D fV fC b A z).pays htab hfr (by omega)
end New1
end StrChars
namespace StrChars.Road
open Jvm Sem ClassFile Op Lib Jvm.Stand Jvm.Free Jvm.Free.XT
open Jvm.Lib.Cold (StaticIs)
abbrev ST : String := "java/lang/String"
/-- every table word that New1's law asks, flat -/
abbrev words : List Jvm.Cond := [.code New1.yN New1.yB 2 none, .initialized ST, .methodLink ST 27 New4.yN, .instanceMethod New4.yN,
  .code New4.yN New4.yB 6 none, .fieldLink ST 38 ST "COMPACT_STRINGS" "Z", .laysFinal ST ST "value" "[B", .fieldLink ST 9 ST "value" "[B", .laysFinal ST ST "coder" "B", .fieldLink ST 15 ST "coder" "B",
  .methodLink ST 1 Lib.objectInit, .instanceMethod Lib.objectInit, .code Lib.objectInit ⟨#[0xb1]⟩ 1 none, .methodLink ST 177 Cmp3.yN, .static Cmp3.yN, .methodLink ST 47 CodL.yN, .static CodL.yN,
  .code Cmp3.yN Cmp3.yB 6 (some (.array .byte)), .initialized U16, .arrayClass .byte, .methodLink U16 115 Cmp5.yN, .static Cmp5.yN, .code Cmp5.yN Cmp5.yB 7 (some .int), .code CodL.yN CodL.yB 2 (some .byte)]
theorem tab_of {a : Array Value} {s : State} (h : ∀ w ∈ words, w.before a s = true) : New1.tab.before a s = true := by
  have h5 : Cmp5.tab.before a s = true := unparts (wk h (.code Cmp5.yN Cmp5.yB 7 (some .int))) (wks h (.initialized Cmp5.yN.cls :: Cmp5.site))
  have hc : CodL.tab.before a s = true := unparts (wk h (.code CodL.yN CodL.yB 2 (some .byte))) (wks h (.initialized CodL.yN.cls :: CodL.site))
  have q5 : ∀ w ∈ Cmp5.tab :: words, w.before a s = true := fun w hw => (List.mem_cons.mp hw).elim (fun e => e ▸ h5) (h w)
  have h3 : Cmp3.tab.before a s = true := unparts (wk q5 (.code Cmp3.yN Cmp3.yB 6 (some (.array .byte)))) (wks q5 (.initialized Cmp3.yN.cls :: Cmp3.site))
  have q3 : ∀ w ∈ Cmp3.tab :: CodL.tab :: words, w.before a s = true := fun w hw => (List.mem_cons.mp hw).elim (fun e => e ▸ h3) fun hw => (List.mem_cons.mp hw).elim (fun e => e ▸ hc) (h w)
  have h4 : New4.tab.before a s = true := unparts (wk q3 (.code New4.yN New4.yB 6 none)) (wks q3 (.initialized New4.yN.cls :: New4.site))
  have q4 : ∀ w ∈ New4.tab :: words, w.before a s = true := fun w hw => (List.mem_cons.mp hw).elim (fun e => e ▸ h4) (h w)
  exact unparts (wk q4 (.code New1.yN New1.yB 2 none)) (wks q4 (.initialized New1.yN.cls :: New1.site))
/-- the words ride from the start Z to the walk's own state -/
theorem moved {Z s : State} {a0 args : Array Value} (hZ : Z.Warmed39 s.vm) (hw : ∀ d ∈ words, d.before a0 Z = true) : ∀ d ∈ words, d.before args s = true := fun d hd => by
  have q := hw d hd
  have t : ∀ d ∈ words, d = .arrayClass .byte ∨ (d.onTables && d.keepsFace) = true := by decide +kernel
  rcases t d hd with rfl | t
  · exact RoadKit.mvA hZ q
  · exact RoadKit.mv hZ q t
/-- WHAT COMES BACK, over the tables of the start Z: h the heap at the call, h' behind it -/
def Q (Z : State) (x : Addr) (A : Cell) (h : Heap) (v : Option Value) (h' : Heap) (L : List Loc) : Prop := v = none ∧ (∀ y ∈ L, y.base = x) ∧ RoadKit.Keep h h' [x] ∧ h'.size = h.size + 1 ∧ RoadKit.Exa Z h' x ST ∧ RoadKit.Fld Z h' x ST "value" "[B" (.ref h.size) ∧ RoadKit.Fld Z h' x ST "coder" "B" (.int 0) ∧
  (∃ V : Cell, RoadKit.Arr Z h' h.size V .byte ∧ V.vm = .none ∧ Z.vm.findClass "[B" = some V.cls ∧ V.slots.size = A.slots.size ∧ ∀ j, j < A.slots.size → V.slots[j]? = some (.int (lo8 (cv A j)))) ∧
  ∀ (O n d : String) (w : Value), RoadKit.Fld Z h x O n d w → RoadKit.slotOf Z O n d ≠ RoadKit.slotOf Z ST "value" "[B" → RoadKit.slotOf Z O n d ≠ RoadKit.slotOf Z ST "coder" "B" → RoadKit.Fld Z h' x O n d w
/-- **new String(chars) AT A CALL, IN THE ROAD'S FORM**: for specialBack behind newO: x the fresh String, b the char[] with the cell A -/
theorem back {p : Program} {l : Launch} {e : Env} {R : Room} {s : State} {args : Array Value} {below : List Frame} {len W : Nat} {Z : State} {a0 : Array Value} {h : Heap} (hZ : Z.Warmed39 s.vm) (hw : ∀ d ∈ words, d.before a0 Z = true) {kI : Nat} (wi : (Jvm.Cond.instantiable ST kI).before a0 Z = true)
    {x b : Addr} {A : Cell} {z : Int32} {v0 c0 : Value} (E : RoadKit.Exa Z h x ST) (V : RoadKit.Fld Z h x ST "value" "[B" v0) (C : RoadKit.Fld Z h x ST "coder" "B" c0) (K : RoadKit.Arr Z h b A .char) (hty : Typed .char A) (S : RoadKit.Sta Z h ST "COMPACT_STRINGS" "Z" (.int z)) (hz : ¬ z = 0)
    (l0 : 0 < A.slots.size) (l2 : A.slots.size ≤ 536870912) (hp : ∀ i, i < A.slots.size → ¬ 255 < cv A i) (hfr : 4 ≤ R.frames) (hlo : W + 65 ≤ R.locals) :
    Back l R p e below s args New1.yN len W (fun P a => a = #[.ref x, .ref b] ∧ P.U.heap = h ∧ P.cells + 1 ≤ R.cells ∧ P.slots + A.slots.size ≤ R.slots)
      (fun P _ v B => ∃ L, Q Z x A h v B.U.heap L ∧ B.locs = P.locs ++ L ∧ B.cells = P.cells + 1 ∧ B.slots = P.slots + A.slots.size) := by
  intro m meth c P g ig mk a X hg hsize hdg hW hn hp'
  obtain ⟨rfl, rfl, r1, r2⟩ := hp'
  have al : Z.vm.Alike P.U.vm := hZ.alike.trans X.warmed.alike
  obtain ⟨D, cfV, kV, iV, fV, hD, gV, stV, knV, obV, asV, slV⟩ := id V
  obtain ⟨D', cfC, kC, iC, fC, hD', gC, stC, -, -, asC, slC⟩ := id C
  cases hD.symm.trans hD'
  obtain ⟨D2, kD, e1, e2, e3, e4, e5⟩ := id E
  cases hD.symm.trans e1
  obtain ⟨c2, k2, i1, i2, i3, -⟩ := Cond.instantiable_spec wi
  cases e2.symm.trans i1
  cases e3.symm.trans i2
  obtain ⟨kU, u1, u2⟩ := al.2.2 _ _ e3
  have hB : Blank ST x D P.U := ⟨hD, ⟨knV, fun q hq => by rw [hq] at obV; cases obV⟩, by rw [al.findClass]; exact e2, kU, u1, by rw [u2]; exact i3, by rw [u2]; exact e5 i3⟩
  have F1 : Found ST "value" "[B" fV P.U := ⟨SBG.found_only al ⟨cfV, kV, iV, gV⟩, stV⟩
  have F2 : Found ST "coder" "B" fC P.U := ⟨SBG.found_only al ⟨cfC, kC, iC, gC⟩, stC⟩
  have hA : Ch b A P.U := ⟨⟨K.1, State.isArrayOf_alike al K.2.1, K.2.2, by omega⟩, hty⟩
  have hS : StaticIs P.U ST "COMPACT_STRINGS" "Z" (.int z) := by
    obtain ⟨cfS, iS, kS, fS, st, cS, t1, t2, t3, t4, t5, t6, t7⟩ := S
    exact StaticIs.there (s := { Z with heap := P.U.heap }) ⟨cfS, iS, kS, fS, st, cS, t1, t2, t3, t4, t5, (fun q => by rw [q] at t6; cases t6), t7⟩ al rfl
  obtain ⟨v, B, X', ⟨⟨hv, E', V', q1, q2, q3, q4, q5, q6, q7, q8, q9, q10, q11⟩, hl, hc, hs⟩, st⟩ := New1.pays x D fV fC b A z (tab_of (moved hZ hw)) hfr hlo m meth c P g ig mk _ X hg hsize hdg hW hn ⟨r1, r2, rfl, hB, F1, F2, hA, hS, hz, l0, l2, hp⟩
  have al' : Z.vm.Alike B.U.vm := hZ.alike.trans X'.warmed.alike
  have hsz : E'.slots.size = D.slots.size := by
    obtain ⟨-, -, -, kB, w1, w2, w3⟩ := q1
    obtain ⟨kB', y1, y2⟩ := al'.2.2 _ _ e3
    rw [q2.2.1] at w1
    cases w1.symm.trans y1
    rw [w3, e5 i3, y2]
  refine ⟨v, B, X', ⟨_, ⟨hv, ?_, ⟨by omega, fun y cy hy hn' => q10 y cy (by simpa using hn') hy, fun y cy hy => ?_⟩, q11, ⟨E', _, q1.1, by rw [q2.2.1]; exact e2, by rw [q2.2.1]; exact e3, by rw [q2.1]; exact obV, fun _ => by rw [hsz]; exact e5 i3⟩,
    ⟨E', cfV, kV, iV, fV, q1.1, gV, stV, by rw [q2.1]; exact knV, by rw [q2.1]; exact obV, by rw [q2.2.1]; exact asV, q3⟩, ⟨E', cfC, kC, iC, fC, q1.1, gC, stC, by rw [q2.1]; exact knV, by rw [q2.1]; exact obV, by rw [q2.2.1]; exact asC, q4⟩,
    ⟨V', ⟨q5.1, State.isArrayOf_alike al'.symm q5.2.1, q5.2.2.1⟩, q6, by rw [← al'.findClass]; exact q7, q8, fun j hj => by have := q9 j hj; rwa [Nat.zero_add] at this⟩, fun O n d w F n1 n2 => ?_⟩, hl, hc, hs⟩, st⟩
  · intro y hy
    simp only [List.mem_cons, List.not_mem_nil, or_false] at hy
    rcases hy with rfl | rfl <;> rfl
  · by_cases q : y = x
    · subst q
      cases hD.symm.trans hy
      exact ⟨E', q1.1, q2.2.1, q2.1, hsz⟩
    · exact ⟨cy, q10 y cy q hy, rfl, rfl, rfl⟩
  · obtain ⟨D3, cf, k, i, f, g1, g2, g3, g4, g5, g6, g7⟩ := F
    cases hD.symm.trans g1
    simp only [RoadKit.slotOf, g2, gV, gC, Option.map_some, Option.getD_some] at n1 n2
    exact ⟨E', cf, k, i, f, q1.1, g2, g3, by rw [q2.1]; exact g4, by rw [q2.1]; exact g5, by rw [q2.2.1]; exact g6, by rw [q2.2.2 f.slot (by simp [n1, n2])]; exact g7⟩
end StrChars.Road
namespace StrChars.Road
open Jvm Sem ClassFile Op Lib Jvm.Stand Jvm.Free Jvm.Free.XT
/-- WHAT COMES BACK, the byte[] as a list of values -/
def QA (Z : State) (x : Addr) (zn : Int32) (cs : List Int32) (h : Heap) (v : Option Value) (h' : Heap) (L : List Loc) : Prop := v = none ∧ (∀ y ∈ L, y.base = x) ∧ RoadKit.Keep h h' [x] ∧ h'.size = h.size + 1 ∧ RoadKit.Exa Z h' x ST ∧ RoadKit.Fld Z h' x ST "value" "[B" (.ref h.size) ∧ RoadKit.Fld Z h' x ST "coder" "B" (.int 0) ∧
  (∃ kb, Z.vm.findClass "[B" = some kb ∧ RoadKit.Arv Z h' h.size kb .byte zn (cs.map fun c => .int (lo8 c)) (.int 0)) ∧
  ∀ (O n d : String) (w : Value), RoadKit.Fld Z h x O n d w → RoadKit.slotOf Z O n d ≠ RoadKit.slotOf Z ST "value" "[B" → RoadKit.slotOf Z O n d ≠ RoadKit.slotOf Z ST "coder" "B" → RoadKit.Fld Z h' x O n d w
/-- **new String(chars) AT A CALL, THE ARRAYS AS LISTS**: the char[] at b holds cs, not empty, no char above 255 -/
theorem backArv {p : Program} {l : Launch} {e : Env} {R : Room} {s : State} {args : Array Value} {below : List Frame} {len W : Nat} {Z : State} {a0 : Array Value} {h : Heap} (hZ : Z.Warmed39 s.vm) (hw : ∀ d ∈ words, d.before a0 Z = true) {kI : Nat} (wi : (Jvm.Cond.instantiable ST kI).before a0 Z = true)
    {x b : Addr} {k : ClassId} {zn z : Int32} {cs : List Int32} {dv v0 c0 : Value} (E : RoadKit.Exa Z h x ST) (V : RoadKit.Fld Z h x ST "value" "[B" v0) (C : RoadKit.Fld Z h x ST "coder" "B" c0) (K : RoadKit.Arv Z h b k .char zn (cs.map Value.int) dv) (S : RoadKit.Sta Z h ST "COMPACT_STRINGS" "Z" (.int z)) (hz : ¬ z = 0)
    (hlen : zn.toNatClampNeg = cs.length) (h0 : 0 < cs.length) (hbig : cs.length ≤ 536870912) (hall : ∀ c ∈ cs, ¬ 255 < c) (hfr : 4 ≤ R.frames) (hlo : W + 65 ≤ R.locals) :
    Back l R p e below s args New1.yN len W (fun P a => a = #[.ref x, .ref b] ∧ P.U.heap = h ∧ P.cells + 1 ≤ R.cells ∧ P.slots + cs.length ≤ R.slots)
      (fun P _ v B => ∃ L, QA Z x zn cs h v B.U.heap L ∧ B.locs = P.locs ++ L ∧ B.cells = P.cells + 1 ∧ B.slots = P.slots + cs.length) := by
  obtain ⟨A, K1, K2, K3, K4, K5, K6⟩ := K
  have e : A.slots.size = cs.length := K3.trans hlen
  have hat : ∀ (i : Nat) (hi : i < cs.length), A.slots[i]? = some (.int cs[i]) := fun i hi => by rw [K5 i (by omega)]; simp [List.getD_eq_getElem?_getD, hi]
  have hcv : ∀ (i : Nat) (hi : i < cs.length), cv A i = cs[i] := fun i hi => by unfold cv; rw [hat i hi]
  have hty : Typed .char A := fun i v hv => by
    have hi : i < A.slots.size := (Array.getElem?_eq_some_iff.mp hv).1
    have q := K5 i hi
    rw [hv] at q
    rw [Option.some.inj q]
    exact K6 i hi
  refine Back.mono (back hZ hw wi E V C K1 hty S hz (by omega) (by omega) (fun i hi => by rw [hcv i (by omega)]; exact hall _ (List.getElem_mem _)) hfr hlo) (fun P a hp => ⟨hp.1, hp.2.1, hp.2.2.1, by rw [e]; exact hp.2.2.2⟩) (fun P a v B hp hq => ?_)
  obtain ⟨L, ⟨q1, q2, q3, q4, q5, q6, q7, ⟨V', v1, v2, v3, v4, v5⟩, q9⟩, hl, hc, hs⟩ := hq
  refine ⟨L, ⟨q1, q2, q3, q4, q5, q6, q7, ⟨V'.cls, v3, V', v1, rfl, by rw [v4, e, hlen], K4, fun i hi => ?_, fun i hi => ?_⟩, q9⟩, hl, hc, by rw [hs, e]⟩
  · have hi' : i < cs.length := by omega
    rw [v5 i (by omega), hcv i hi']; simp [List.getD_eq_getElem?_getD, hi']
  · have hi' : i < cs.length := by omega
    simp only [List.getD_eq_getElem?_getD, List.getElem?_map, List.getElem?_eq_getElem hi', Option.map_some, Option.getD_some]
    exact fits_lo8 _
end StrChars.Road
namespace StrChars.Road
open Jvm Sem ClassFile Op Lib Jvm.Stand Jvm.Free Jvm.Free.XT
/-- WHAT COMES BACK, in the writer's own shape -/
def QV (Z : State) (x : Addr) (N : Int32) (bs : List Int32) (h : Heap) (n0 : Nat) (v : Option Value) (h' : Heap) (L : List Loc) : Prop := v = none ∧ RoadKit.Fr n0 L ∧ RoadKit.Keep h h' [x] ∧ RoadKit.Exa Z h' x ST ∧ RoadKit.Fld Z h' x ST "coder" "B" (.int 0) ∧
  ∃ (t : Addr) (kb : ClassId), n0 ≤ t ∧ h.size ≤ t ∧ ¬ t = x ∧ RoadKit.Fld Z h' x ST "value" "[B" (.ref t) ∧ RoadKit.Arv Z h' t kb .byte N (bs.map Value.int) (.int 0)
/-- **new String(chars) AT A CALL, FOR THE WRITER**: a char[] of n known ints, each 0 to 255 -/
theorem backV {p : Program} {l : Launch} {e : Env} {R : Room} {s : State} {args : Array Value} {below : List Frame} {len W : Nat} {Z : State} {a0 : Array Value} {h : Heap} (hZ : Z.Warmed39 s.vm) (hw : ∀ d ∈ words, d.before a0 Z = true) {kI : Nat} (wi : (Jvm.Cond.instantiable ST kI).before a0 Z = true)
    {x b : Addr} {kC : ClassId} {cs bs : List Int32} {d v0 c0 : Value} {z N : Int32} {n n0 : Nat} (hx0 : n0 ≤ x) (hh0 : n0 ≤ h.size) (E : RoadKit.Exa Z h x ST) (V : RoadKit.Fld Z h x ST "value" "[B" v0) (C : RoadKit.Fld Z h x ST "coder" "B" c0) (K : RoadKit.Arv Z h b kC .char N (cs.map Value.int) d) (S : RoadKit.Sta Z h ST "COMPACT_STRINGS" "Z" (.int z)) (hz : ¬ z = 0)
    (hn : cs.length = n) (hN : N = Int32.ofNat n) (l0 : 0 < n) (l2 : n ≤ 4000) (hp : ∀ c ∈ cs, ¬ c < 0 ∧ ¬ (255 : Int32) < c) (hb : bs = cs.map (fun c => c.toInt8.toInt32)) (hfr : 4 ≤ R.frames) (hlo : W + 65 ≤ R.locals) :
    Back l R p e below s args (⟨"java/lang/String", "<init>", "([C)V"⟩ : MethodName) len W (fun P a => a = #[.ref x, .ref b] ∧ P.U.heap = h ∧ P.cells + 1 ≤ R.cells ∧ P.slots + n ≤ R.slots)
      (fun P _ v B => ∃ L, QV Z x N bs h n0 v B.U.heap L ∧ B.locs = P.locs ++ L ∧ B.cells = P.cells + 1 ∧ B.slots = P.slots + n) := by
  subst hn hN hb
  refine Back.mono (backArv hZ hw wi E V C K S hz (n32 (by omega)) l0 (by omega) (fun c hc => (hp c hc).2) hfr hlo) (fun P a hp => hp) (fun P a v B hp hq => ?_)
  obtain ⟨L, ⟨q1, q2, q3, q4, q5, q6, q7, ⟨kb, v1, v2⟩, q9⟩, hl, hc, hs⟩ := hq
  exact ⟨L, ⟨q1, fun y hy => by rw [q2 y hy]; exact hx0, q3, q5, q7, h.size, kb, hh0, Nat.le_refl _, Nat.ne_of_gt E.lt, q6, by rw [List.map_map]; exact v2⟩, hl, hc, hs⟩
end StrChars.Road
end Jvm.Pilot.@@N@@
namespace Jvm.Pilot.@@N@@
open Jvm Jvm.ClassFile Sem Op Lib Jvm.Free Jvm.Stand Jvm.LawKit Jvm.RoadKit Bundle Jvm.Pilot.@@N@@.Jvm.D
/-- from the state S the body comes to its end, and there G holds -/
def Go (p : Program) (e : Env) (below : List Frame) (G : Outcome → State → Prop) (S : State) : Prop := ∃ s₂ o, Steps p.tables e below S s₂ ∧ s₂.status = .running ∧ Ended s₂ below o ∧ G o s₂
theorem Go.step {p : Program} {e : Env} {below : List Frame} {G : Outcome → State → Prop} {S S' : State} (k : ∀ t, Steps p.tables e below S' t → Steps p.tables e below S t) (g : Go p e below G S') : Go p e below G S := by
  obtain ⟨s₂, o, h, r⟩ := g
  exact ⟨s₂, o, k _ h, r⟩
theorem Go.fin {p : Program} {e : Env} {below : List Frame} {G : Outcome → State → Prop} {S S' : State} {o : Outcome} (h : Steps p.tables e below S S') (h1 : S'.status = .running) (h2 : Ended S' below o) (h3 : G o S') : Go p e below G S := ⟨_, _, h, h1, h2, h3⟩
abbrev lv (x : Int64) : Slot := .val (.long x)
abbrev u_ : Slot := .unset
theorem own_w {Z : State} {a0 : Array Value} (hw : ∀ d ∈ tables_1, d.before a0 Z = true) (k : Nat) {d : Jvm.Cond} (h : tables_1[k]? = some d) : d.before a0 Z = true := hw d (List.mem_of_getElem? h)
theorem old_le {Z : State} {n0 : Nat} {h : Heap} (O : Old Z n0 h) : n0 ≤ h.size := O.1 ▸ O.2.1
theorem own_getR {p : Program} {l : Launch} {e : Env} {R : Room} {s : State} {m : MethodId} {args : Array Value} {below : List Frame} {meth : Method} {c : Code} {T : State} {locs : List Loc} {cells slots : Nat} {Z : State} {a0 : Array Value} {h : Heap}
    (X : Stand p l e R s m args below meth c T locs cells slots) (hx : p.tables.exec = Jvm.exec) (hZ : Z.Warmed39 s.vm) {own R0 n d : String} {index : Nat} (hown : s.vm.findClass own = some m.cls) (w : (Jvm.Cond.fieldRef own index R0 n d).before a0 Z = true)
    (eT : T.heap = h) {a : Addr} {v : Value} (F : Fld Z h a R0 n d v) {g : JFrame} (hg : g.method = m) {rest : List Value} (hs : g.stack = .ref a :: rest) (hd : decode c.code g.pc = .ok (.getfield index, 3)) : ∀ target, Steps p.tables e below (T.setTop { g with pc := g.pc + 3, stack := v :: rest }) target → Steps p.tables e below (T.setTop g) target := by
  obtain ⟨cell, cf, k, i, f, h1, h2, h3, h4, -, -, h7⟩ := F
  have hT : Z.Warmed39 T.vm := wtrans hZ X.warmed
  have w' := Cond.fieldRef_warmed39 hT w
  have ho : (Z.setVm T.vm).vm.findClass own = some m.cls := by show T.vm.findClass own = _; rw [X.warmed.alike.findClass]; exact hown
  obtain ⟨c1, k1, i1, f1, e1, hr⟩ := Cond.fieldRef_spec ho w'
  obtain ⟨k', hi, -⟩ := State.fieldFound?_setVm (s := Z) hT.alike h2
  cases e1.symm.trans hi
  intro target kk
  exact (X.getfieldR hx hg hr h3 hs (by rw [eT]; exact h1) h4 h7 hd (Steps.refl _)).trans kk
theorem own_selP {Z s : State} {a0 args : Array Value} {y : MethodName} {n : Nat} (hZ : Z.Warmed39 s.vm) (wi : (Jvm.Cond.instantiable y.cls n).before a0 Z = true) (wn : (Jvm.Cond.instanceMethod y).before a0 Z = true) (wp : (Jvm.Cond.privateMethod y).before a0 Z = true)
    (hy : y.cls ≠ "java/lang/invoke/MethodHandle" ∧ y.cls ≠ "java/lang/invoke/VarHandle") : (Jvm.Cond.selects y.cls y y).before args s = true := by
  have wi' : (Jvm.Cond.instantiable y.cls n).before args s = true := mv hZ wi
  obtain ⟨c, k, h1, h2, -, h4, -⟩ := Cond.instantiable_spec wi'
  exact Stand.selects_self_of_private h1 h2 (by simp only [Bool.or_eq_false_iff] at h4; exact h4.1) (Cond.privateMethod_at (args := args) (mvP hZ wp)) (mvT hZ wn) hy
theorem own_eqI {t : Term} {n : Int32} {args : Array Value} {s : State} (h : (Jvm.Cond.eq t (.int n)).value args s none s [] = some true) : t.eval args s none [] s = some (.int n) := by
  have hn : (Term.int n).eval args s none [] s = some (.int n) := rfl
  cases ht : t.eval args s none [] s with
  | none => simp [Cond.value, ht] at h
  | some v => cases v <;> simp [Cond.value, ht, hn] at h ⊢; exact h
theorem own_eqJ {t : Term} {n : Int64} {args : Array Value} {s : State} (h : (Jvm.Cond.eq t (.long n)).value args s none s [] = some true) : t.eval args s none [] s = some (.long n) := by
  have hn : (Term.long n).eval args s none [] s = some (.long n) := rfl
  cases ht : t.eval args s none [] s with
  | none => simp [Cond.value, ht] at h
  | some v => cases v <;> simp [Cond.value, ht, hn] at h ⊢; exact h
abbrev HW (a0 : Array Value) (Z : State) : Prop := ∀ d ∈ tables_1, d.before a0 Z = true
abbrev Gq (Q : Option Value → Heap → List Loc → Prop) (s : State) (rc rs : Nat) : Outcome → State → Prop := fun o U' => ∃ v L, o = .returned v ∧ Q v U'.heap L ∧ FrameEnd s o U' L rc rs
abbrev Mt (l : Launch) (Z : State) (y : MethodName) (bytes : ByteArray) (k : Nat) (rt : Option FieldType) (ws : List Jvm.Cond) (rm : Room) (A : Array Value) (h0 : Heap) (Q : Option Value → Heap → List Loc → Prop) : Prop :=
  MetFree l y (head1 (Jvm.Cond.code y bytes k rt :: ws) rm) (fun a U => a = A ∧ Z.Warmed39 U.vm ∧ U.heap = h0) (fun _ _ _ _ _ => True) (fun _ U o U' => ∃ v L, o = .returned v ∧ Q v U'.heap L ∧ FrameEnd U o U' L rm.cells rm.slots)
theorem own_met {l : Launch} {Z : State} {y : MethodName} {bytes : ByteArray} {k : Nat} {rt : Option FieldType} {ws : List Jvm.Cond} {rm : Room} {A : Array Value} {h0 : Heap} {Q : Option Value → Heap → List Loc → Prop} (own : String) (hp : plainFor y = true) (ls : Array Slot) (ef : ∀ m, entryFrame m A k = mkF m 0 ls [])
    (H : ∀ (p : Program) (e : Env) (s : State) (m : MethodId) (below : List Frame) (meth : Method) (c : Code) (s₁ : State), BodyLoose p l y (head1 (Jvm.Cond.code y bytes k rt :: ws) rm) bytes k rt e s m A below meth c s₁ → p.tables.exec = Jvm.exec → c.code = bytes → c.maxLocals = k → Z.Warmed39 s.vm → s.vm.findClass own = some m.cls → meth.name = y.name → Stand p l e rm s m A below meth c s₁ [] 0 0 → s₁.heap = h0 → Go p e below (Gq Q s rm.cells rm.slots) (s₁.setTop (mkF m 0 ls []))) (hy : y.cls = own := by rfl) : Mt l Z y bytes k rt ws rm A h0 Q := by
  refine MetFree.of_bodySF hp hisR ?_
  intro p e s m args below meth c s₁ Bd hml hP hK
  obtain ⟨rfl, hZ, hh⟩ := hP
  subst hy
  have e0 : s₁.heap = h0 := by rw [← hh, Bd.state]; rfl
  have g := H p e s m below meth c s₁ Bd Bd.exec Bd.bytes hml hZ (findClass_of_methodNamed Bd.named) (name_of_methodNamed Bd.named Bd.method).1 (Stand.of_body Bd) e0
  rw [← ef] at g
  exact g
theorem Go.cS {p : Program} {l : Launch} {e : Env} {R : Room} {s : State} {m : MethodId} {args : Array Value} {below : List Frame} {meth : Method} {c : Code} {T : State} {locs : List Loc} {cells slots : Nat} {G : Outcome → State → Prop} {Z : State} {a0 : Array Value} {h : Heap} {own : String} {index n : Nat} {y : MethodName} {bytes : ByteArray} {maxL : Nat} {rt : Option FieldType} {rm : Room} {argsL : List Value} {Q : Option Value → Heap → List Loc → Prop} (X : Stand p l e R s m args below meth c T locs cells slots) (hx : p.tables.exec = Jvm.exec) (hml : c.maxLocals = n) (hown : s.vm.findClass own = some m.cls) (hZ : Z.Warmed39 s.vm) (w1 : (Jvm.Cond.methodLink own index y).before a0 Z = true) (w2 : (Jvm.Cond.static y).before a0 Z = true) (w3 : (Jvm.Cond.initialized y.cls).before a0 Z = true) (w4 : (Jvm.Cond.code y bytes maxL rt).before a0 Z = true)
    (hM : Mt l Z y bytes maxL rt [] rm argsL.toArray h Q) (W : Nat) {pc : Nat} {Ls : Array Slot} {stk : List Value} (rest : List Value)
    {ps : List FieldType} {r : Option FieldType} (pd : parseMethodDescriptor y.desc = some ⟨ps, r⟩)
    (hd : decode c.code pc = .ok (.invokestatic index, 3)) (eT : T.heap = h)
    (K : ∀ v T' L, Stand p l e R s m args below meth c T' (locs ++ L) (cells + rm.cells) (slots + rm.slots) → Q v T'.heap L → Go p e below G (T'.setTop (mkF m (pc + 3) Ls (v.toList ++ rest))))
    (hf : rm.frames + 1 ≤ R.frames := by decide) (hl : W + (maxL + 11) + rm.locals ≤ R.locals := by decide) (hy : y.cls ≠ "java/lang/invoke/MethodHandle" ∧ y.cls ≠ "java/lang/invoke/VarHandle" := by decide) (hn : argsL.length = ps.length := by rfl) (hs : stk = argsL.reverse ++ rest := by rfl)
    (hsz : Ls.size = n := by rfl) (hW : 2 * (mkF m pc Ls stk).monitorRoom + (rest.map fun v => v.category).sum ≤ W := by exact Nat.le_of_eq rfl) (h1 : cells + rm.cells ≤ R.cells := by decide) (h2 : slots + rm.slots ≤ R.slots := by decide) : Go p e below G (T.setTop (mkF m pc Ls stk)) := by
  obtain ⟨_, _, ⟨T1, L1, k1, n1⟩, -, X1, ⟨Lc1, hQ1, l1, y1, z1⟩, st1⟩ := Jvm.LawKit.callS X hx (y := y) hown (mvT hZ w1) (mvT hZ w2) (mvT hZ w3) (mvT hZ w4) hy (backOf (W := W) hM hZ w4 w3 hf hl) (g := mkF m pc Ls stk) rfl (hsz.trans hml.symm) (argsL := argsL) (rest := rest) (lenOf pd hn) hs hW hd (fun _ _ => ⟨rfl, eT, h1, h2⟩)
  dsimp only [Pt.U, Pt.locs, Pt.cells, Pt.slots] at X1 l1 y1 z1 st1 hQ1
  subst l1 y1 z1
  exact Go.step st1 (K _ _ _ X1 hQ1)
theorem Go.cI {p : Program} {l : Launch} {e : Env} {R : Room} {s : State} {m : MethodId} {args : Array Value} {below : List Frame} {meth : Method} {c : Code} {T : State} {locs : List Loc} {cells slots : Nat} {G : Outcome → State → Prop} {Z : State} {a0 : Array Value} {h : Heap} {own : String} {index n : Nat} {y : MethodName} {bytes : ByteArray} {maxL : Nat} {rm : Room} {argsL : List Value} {Q : Option Value → Heap → List Loc → Prop} {a : Addr} (X : Stand p l e R s m args below meth c T locs cells slots) (hx : p.tables.exec = Jvm.exec) (hml : c.maxLocals = n) (hown : s.vm.findClass own = some m.cls) (hZ : Z.Warmed39 s.vm) (w1 : (Jvm.Cond.methodLink own index y).before a0 Z = true) (w2 : (Jvm.Cond.instanceMethod y).before a0 Z = true) (w3 : (Jvm.Cond.initialized y.cls).before a0 Z = true) (w4 : (Jvm.Cond.code y bytes maxL none).before a0 Z = true)
    (hM : Mt l Z y bytes maxL none [] rm (.ref a :: argsL).toArray h Q) (W : Nat) {pc : Nat} {Ls : Array Slot} {stk : List Value} (rest : List Value)
    {ps : List FieldType} {r : Option FieldType} (pd : parseMethodDescriptor y.desc = some ⟨ps, r⟩)
    (hd : decode c.code pc = .ok (.invokespecial index, 3)) (eT : T.heap = h)
    (K : ∀ v T' L, Stand p l e R s m args below meth c T' (locs ++ L) (cells + rm.cells) (slots + rm.slots) → Q v T'.heap L → Go p e below G (T'.setTop (mkF m (pc + 3) Ls (v.toList ++ rest))))
    (hf : rm.frames + 1 ≤ R.frames := by decide) (hl : W + (maxL + 11) + rm.locals ≤ R.locals := by decide) (hy : y.cls ≠ "java/lang/invoke/MethodHandle" ∧ y.cls ≠ "java/lang/invoke/VarHandle" := by decide) (hn : argsL.length = ps.length := by rfl) (hs : stk = argsL.reverse ++ .ref a :: rest := by rfl)
    (hsz : Ls.size = n := by rfl) (hW : 2 * (mkF m pc Ls stk).monitorRoom + (rest.map fun v => v.category).sum ≤ W := by exact Nat.le_of_eq rfl) (h1 : cells + rm.cells ≤ R.cells := by decide) (h2 : slots + rm.slots ≤ R.slots := by decide) (hy1 : y.name = "<init>" := by rfl) : Go p e below G (T.setTop (mkF m pc Ls stk)) := by
  obtain ⟨_, _, ⟨T1, L1, k1, n1⟩, -, X1, ⟨Lc1, hQ1, l1, y1, z1⟩, st1⟩ := X.specialBack hx (y := y) hy1 hown (mvT hZ w1) (mvT hZ w2) (mvT hZ w4) hy (backOf (W := W) hM hZ w4 w3 hf hl) (g := mkF m pc Ls stk) rfl (hsz.trans hml.symm) (Steps.refl _) (a := a) (argsL := argsL) (rest := rest) (lenOf pd hn) hs hW hd (fun _ _ => ⟨rfl, eT, h1, h2⟩)
  dsimp only [Pt.U, Pt.locs, Pt.cells, Pt.slots] at X1 l1 y1 z1 st1 hQ1
  subst l1 y1 z1
  exact Go.step (fun _ k => st1.trans k) (K _ _ _ X1 hQ1)
theorem Go.cV {p : Program} {l : Launch} {e : Env} {R : Room} {s : State} {m : MethodId} {args : Array Value} {below : List Frame} {meth : Method} {c : Code} {T : State} {locs : List Loc} {cells slots : Nat} {G : Outcome → State → Prop} {Z : State} {a0 : Array Value} {h : Heap} {own : String} {index n : Nat} {y : MethodName} {bytes : ByteArray} {maxL : Nat} {rt : Option FieldType} {rm : Room} {argsL : List Value} {Q : Option Value → Heap → List Loc → Prop} {a : Addr} {C : String} (X : Stand p l e R s m args below meth c T locs cells slots) (hx : p.tables.exec = Jvm.exec) (hml : c.maxLocals = n) (hown : s.vm.findClass own = some m.cls) (hZ : Z.Warmed39 s.vm) (w1 : (Jvm.Cond.methodLink own index y).before a0 Z = true) (w2 : (Jvm.Cond.declares y).before a0 Z = true) (w5 : (Jvm.Cond.selects C y y).before a0 Z = true) (w6 : (Jvm.Cond.instanceMethod y).before a0 Z = true) (w3 : (Jvm.Cond.initialized y.cls).before a0 Z = true) (w4 : (Jvm.Cond.code y bytes maxL rt).before a0 Z = true) (E : Exa Z h a C)
    (hM : Mt l Z y bytes maxL rt [] rm (.ref a :: argsL).toArray h Q) (W : Nat) {pc : Nat} {Ls : Array Slot} {stk : List Value} (rest : List Value)
    {ps : List FieldType} {r : Option FieldType} (pd : parseMethodDescriptor y.desc = some ⟨ps, r⟩)
    (hd : decode c.code pc = .ok (.invokevirtual index, 3)) (eT : T.heap = h)
    (K : ∀ v T' L, Stand p l e R s m args below meth c T' (locs ++ L) (cells + rm.cells) (slots + rm.slots) → Q v T'.heap L → Go p e below G (T'.setTop (mkF m (pc + 3) Ls (v.toList ++ rest))))
    (hf : rm.frames + 1 ≤ R.frames := by decide) (hl : W + (maxL + 11) + rm.locals ≤ R.locals := by decide) (hy : y.cls ≠ "java/lang/invoke/MethodHandle" ∧ y.cls ≠ "java/lang/invoke/VarHandle" := by decide) (hn : argsL.length = ps.length := by rfl) (hs : stk = argsL.reverse ++ .ref a :: rest := by rfl)
    (hsz : Ls.size = n := by rfl) (hW : 2 * (mkF m pc Ls stk).monitorRoom + (rest.map fun v => v.category).sum ≤ W := by exact Nat.le_of_eq rfl) (h1 : cells + rm.cells ≤ R.cells := by decide) (h2 : slots + rm.slots ≤ R.slots := by decide) : Go p e below G (T.setTop (mkF m pc Ls stk)) := by
  obtain ⟨cq1, kq1, q1a, q1b, q1c⟩ := isOf hZ eT E
  obtain ⟨_, _, ⟨T1, L1, k1, n1⟩, -, X1, ⟨Lc1, hQ1, l1, y1, z1⟩, st1⟩ := X.virtualBack hx (y := y) (z := y) hown (mvT hZ w1) (mvT hZ w2) (notFace_of_selects (args := #[]) (mvT hZ w5)) (mvT hZ w5) (mvT hZ w6) hy (backOf (W := W) hM hZ w4 w3 hf hl) q1a q1c (g := mkF m pc Ls stk) rfl (hsz.trans hml.symm) (Steps.refl _) (argsL := argsL) (rest := rest) (lenOf pd hn) hs hW hd (fun _ _ => ⟨rfl, eT, h1, h2⟩)
  dsimp only [Pt.U, Pt.locs, Pt.cells, Pt.slots] at X1 l1 y1 z1 st1 hQ1
  subst l1 y1 z1
  exact Go.step (fun _ k => st1.trans k) (K _ _ _ X1 hQ1)
theorem Go.rt {p : Program} {l : Launch} {e : Env} {R : Room} {s : State} {m : MethodId} {args : Array Value} {below : List Frame} {meth : Method} {c : Code} {T : State} {locs : List Loc} {cells slots : Nat} {Q : Option Value → Heap → List Loc → Prop} {y : MethodName} {S : Spec} {bytes : ByteArray} {k pc rc rs : Nat} {t : FieldType} {A : Array Value} {s₁ : State} {Ls : Array Slot} {w : Value} {rest : List Value} {i : Instr} (X : Stand p l e R s m args below meth c T locs cells slots) (hx : p.tables.exec = Jvm.exec) (Bd : BodyLoose p l y S bytes k (some t) e s m A below meth c s₁) (hn : narrow t w = w)
    (hi : (i = .ireturn ∧ (t = .int ∨ t = .boolean ∨ t = .byte ∨ t = .char ∨ t = .short) ∧ ∃ z, w = .int z) ∨ (i = .lreturn ∧ t = .long ∧ ∃ z, w = .long z) ∨ (i = .dreturn ∧ t = .double ∧ ∃ z, w = .double z) ∨ (i = .freturn ∧ t = .float ∧ ∃ z, w = .float z) ∨ (i = .areturn ∧ t.isReference = true ∧ w.isRef = true))
    (hd : decode c.code pc = .ok (i, 1)) {h : Heap} (eT : T.heap = h) (hq : Q (some w) h locs) (h1 : cells ≤ rc := by decide) (h2 : slots ≤ rs := by decide) : Go p e below (Gq Q s rc rs) (T.setTop (mkF m pc Ls (w :: rest))) := by
  subst eT
  obtain ⟨fs, hr, hrun, hended, hW, hsame⟩ := X.leave (v := some w) (fun h => by rw [Bd.returns] at h; cases h) Bd.notSynchronized
  exact Go.fin (S' := T.setFrames fs) (retOut X hx Bd.returns hn hi hd hr) hrun hended ⟨_, _, rfl, hq, ⟨_, rfl⟩, hW, hsame.mono h1 h2⟩
theorem Go.rv {p : Program} {l : Launch} {e : Env} {R : Room} {s : State} {m : MethodId} {args : Array Value} {below : List Frame} {meth : Method} {c : Code} {T : State} {locs : List Loc} {cells slots : Nat} {Q : Option Value → Heap → List Loc → Prop} {y : MethodName} {S : Spec} {bytes : ByteArray} {k pc rc rs : Nat} {A : Array Value} {s₁ : State} {Ls : Array Slot} (X : Stand p l e R s m args below meth c T locs cells slots) (hx : p.tables.exec = Jvm.exec) (Bd : BodyLoose p l y S bytes k none e s m A below meth c s₁)
    (hd : decode c.code pc = .ok (.return_, 1)) {h : Heap} (eT : T.heap = h) (hq : Q none h locs) (h1 : cells ≤ rc := by decide) (h2 : slots ≤ rs := by decide) : Go p e below (Gq Q s rc rs) (T.setTop (mkF m pc Ls [])) := by
  subst eT
  obtain ⟨fs, hr, hrun, hended, hW, hsame⟩ := X.leave (v := none) (fun _ => rfl) Bd.notSynchronized
  exact Go.fin (S' := T.setFrames fs) (X.returnOut hx Bd.returns hd hr) hrun hended ⟨_, _, rfl, hq, ⟨_, rfl⟩, hW, hsame.mono h1 h2⟩
theorem Go.gS {p : Program} {l : Launch} {e : Env} {R : Room} {s : State} {m : MethodId} {args : Array Value} {below : List Frame} {meth : Method} {c : Code} {T : State} {locs : List Loc} {cells slots : Nat} {G : Outcome → State → Prop} {Z : State} {a0 : Array Value} {h : Heap} {own R0 O n d host : String} {index pc : Nat} {Ls : Array Slot} {stk : List Value} {v : Value} (X : Stand p l e R s m args below meth c T locs cells slots) (hx : p.tables.exec = Jvm.exec) (hZ : Z.Warmed39 s.vm) (hown : s.vm.findClass own = some m.cls) (w : (Jvm.Cond.fieldLink own index R0 n d).before a0 Z = true ∨ (Jvm.Cond.fieldLinkNest own index R0 n d host).before a0 Z = true) (via : Via Z R0 O n d)
    (eT : T.heap = h) (F : Sta Z h O n d v) (hd : decode c.code pc = .ok (.getstatic index, 3)) (K : ∀ T', Stand p l e R s m args below meth c T' locs cells slots → T'.heap = h → Go p e below G (T'.setTop (mkF m (pc + 3) Ls (v :: stk)))) : Go p e below G (T.setTop (mkF m pc Ls stk)) := by
  obtain ⟨T1, X1, e1, st1⟩ := getS2 X hx hZ hown w via eT F (g := mkF m pc Ls stk) rfl hd
  exact Go.step st1 (K _ X1 e1)
theorem Go.gF {p : Program} {l : Launch} {e : Env} {R : Room} {s : State} {m : MethodId} {args : Array Value} {below : List Frame} {meth : Method} {c : Code} {T : State} {locs : List Loc} {cells slots : Nat} {G : Outcome → State → Prop} {Z : State} {a0 : Array Value} {h : Heap} {own R0 O n d host : String} {index pc : Nat} {Ls : Array Slot} {stk : List Value} {v : Value} {a : Addr} (X : Stand p l e R s m args below meth c T locs cells slots) (hx : p.tables.exec = Jvm.exec) (hZ : Z.Warmed39 s.vm) (hown : s.vm.findClass own = some m.cls) (w : (Jvm.Cond.fieldLink own index R0 n d).before a0 Z = true ∨ (Jvm.Cond.fieldLinkNest own index R0 n d host).before a0 Z = true) (via : Via Z R0 O n d)
    (eT : T.heap = h) (F : Fld Z h a O n d v) (hd : decode c.code pc = .ok (.getfield index, 3)) (K : ∀ T', Stand p l e R s m args below meth c T' locs cells slots → T'.heap = h → Go p e below G (T'.setTop (mkF m (pc + 3) Ls (v :: stk)))) : Go p e below G (T.setTop (mkF m pc Ls (.ref a :: stk))) := by
  obtain ⟨T1, X1, e1, st1⟩ := getF X hx hZ hown w via eT F (g := mkF m pc Ls (.ref a :: stk)) rfl rfl hd
  exact Go.step st1 (K _ X1 e1)
theorem Go.bal {p : Program} {l : Launch} {e : Env} {R : Room} {s : State} {m : MethodId} {args : Array Value} {below : List Frame} {meth : Method} {c : Code} {T : State} {locs : List Loc} {cells slots : Nat} {G : Outcome → State → Prop} {Z : State} {h : Heap} {pc : Nat} {Ls : Array Slot} {stk vs : List Value} {v d : Value} {a : Addr} {k : ClassId} {n j : Int32} (X : Stand p l e R s m args below meth c T locs cells slots) (hx : p.tables.exec = Jvm.exec) (hZ : Z.Warmed39 s.vm)
    (eT : T.heap = h) (F : Arv Z h a k .byte n vs d) (hd : decode c.code pc = .ok (.baload, 1)) (hv : vs.getD j.toNatClampNeg d = v) (K : Go p e below G (T.setTop (mkF m (pc + 1) Ls (v :: stk)))) (q : ¬ j < 0 ∧ j < n := by decide) : Go p e below G (T.setTop (mkF m pc Ls (.int j :: .ref a :: stk))) := by
  subst eT
  obtain ⟨cl, Ar, -, S, -, H, -⟩ := F
  exact Go.step (fun t k => X.baloadBytes hx Ar.1 (State.isArrayOf_alike hZ.alike Ar.2.1) Ar.2.2 (inb_of S q) (H.at (inb_of S q) hv) (g := mkF m pc Ls (.int j :: .ref a :: stk)) rfl rfl hd _ k) K
theorem Go.cal {p : Program} {l : Launch} {e : Env} {R : Room} {s : State} {m : MethodId} {args : Array Value} {below : List Frame} {meth : Method} {c : Code} {T : State} {locs : List Loc} {cells slots : Nat} {G : Outcome → State → Prop} {Z : State} {h : Heap} {pc : Nat} {Ls : Array Slot} {stk vs : List Value} {v d : Value} {a : Addr} {k : ClassId} {n j : Int32} (X : Stand p l e R s m args below meth c T locs cells slots) (hx : p.tables.exec = Jvm.exec) (hZ : Z.Warmed39 s.vm)
    (eT : T.heap = h) (F : Arv Z h a k .char n vs d) (hd : decode c.code pc = .ok (.caload, 1)) (hv : vs.getD j.toNatClampNeg d = v) (K : Go p e below G (T.setTop (mkF m (pc + 1) Ls (v :: stk)))) (q : ¬ j < 0 ∧ j < n := by decide) : Go p e below G (T.setTop (mkF m pc Ls (.int j :: .ref a :: stk))) := by
  subst eT
  obtain ⟨cl, Ar, -, S, -, H, -⟩ := F
  exact Go.step (fun t k => X.caload hx Ar.1 (State.isArrayOf_alike hZ.alike Ar.2.1) Ar.2.2 (inb_of S q) (H.at (inb_of S q) hv) (g := mkF m pc Ls (.int j :: .ref a :: stk)) rfl rfl hd _ k) K
theorem Go.len {p : Program} {l : Launch} {e : Env} {R : Room} {s : State} {m : MethodId} {args : Array Value} {below : List Frame} {meth : Method} {c : Code} {T : State} {locs : List Loc} {cells slots : Nat} {G : Outcome → State → Prop} {Z : State} {h : Heap} {pc : Nat} {Ls : Array Slot} {stk vs : List Value} {d : Value} {a : Addr} {k : ClassId} {ty : FieldType} {n : Int32} (X : Stand p l e R s m args below meth c T locs cells slots) (hx : p.tables.exec = Jvm.exec) (hZ : Z.Warmed39 s.vm)
    (eT : T.heap = h) (F : Arv Z h a k ty n vs d) (hd : decode c.code pc = .ok (.arraylength, 1)) (K : Go p e below G (T.setTop (mkF m (pc + 1) Ls (.int n :: stk)))) : Go p e below G (T.setTop (mkF m pc Ls (.ref a :: stk))) := by
  subst eT
  obtain ⟨cl, Ar, -, S, N, -, -⟩ := F
  rw [← len_of S N] at K
  exact Go.step (fun t k => X.arraylength hx Ar.1 (State.isArrayOf_alike hZ.alike Ar.2.1) (g := mkF m pc Ls (.ref a :: stk)) rfl rfl hd _ k) K

theorem Go.bst {p : Program} {l : Launch} {e : Env} {R : Room} {s : State} {m : MethodId} {args : Array Value} {below : List Frame} {meth : Method} {c : Code} {T : State} {locs : List Loc} {cells slots : Nat} {G : Outcome → State → Prop} {Z : State} {h : Heap} {pc : Nat} {Ls : Array Slot} {stk vs : List Value} {d : Value} {a : Addr} {k : ClassId} {n j x : Int32} (X : Stand p l e R s m args below meth c T locs cells slots) (hx : p.tables.exec = Jvm.exec) (hZ : Z.Warmed39 s.vm)
    (eT : T.heap = h) (F : Arv Z h a k .byte n vs d) (hd : decode c.code pc = .ok (.bastore, 1)) (q : ¬ j < 0 ∧ j < n) (hi : j.toNatClampNeg < vs.length) (K : ∀ T' h', Stand p l e R s m args below meth c T' (locs ++ [⟨a, j.toNatClampNeg⟩]) cells slots → T'.heap = h' → Wr h h' a j.toNatClampNeg (.int (nar .byte x)) → Arv Z h' a k .byte n (vs.set j.toNatClampNeg (.int (nar .byte x))) d → Go p e below G (T'.setTop (mkF m (pc + 1) Ls stk))) : Go p e below G (T.setTop (mkF m pc Ls (.int x :: .int j :: .ref a :: stk))) := by
  obtain ⟨cl, Ar, q1, S, N, H, Gf⟩ := F
  obtain ⟨T1, h1, X1, e1, W1, st1⟩ := stB X hx hZ eT Ar (inb_of S q) (g := mkF m pc Ls (.int x :: .int j :: .ref a :: stk)) rfl rfl hd
  exact Go.step st1 (K _ _ X1 e1 W1 (Arv.set Ar q1 S N H Gf (fits_nar_byte _) W1 _ rfl hi))

theorem Go.cst {p : Program} {l : Launch} {e : Env} {R : Room} {s : State} {m : MethodId} {args : Array Value} {below : List Frame} {meth : Method} {c : Code} {T : State} {locs : List Loc} {cells slots : Nat} {G : Outcome → State → Prop} {Z : State} {h : Heap} {pc : Nat} {Ls : Array Slot} {stk vs : List Value} {d : Value} {a : Addr} {k : ClassId} {n j x : Int32} (X : Stand p l e R s m args below meth c T locs cells slots) (hx : p.tables.exec = Jvm.exec) (hZ : Z.Warmed39 s.vm)
    (eT : T.heap = h) (F : Arv Z h a k .char n vs d) (hd : decode c.code pc = .ok (.castore, 1)) (q : ¬ j < 0 ∧ j < n) (hi : j.toNatClampNeg < vs.length) (K : ∀ T' h', Stand p l e R s m args below meth c T' (locs ++ [⟨a, j.toNatClampNeg⟩]) cells slots → T'.heap = h' → Wr h h' a j.toNatClampNeg (.int (nar .char x)) → Arv Z h' a k .char n (vs.set j.toNatClampNeg (.int (nar .char x))) d → Go p e below G (T'.setTop (mkF m (pc + 1) Ls stk))) : Go p e below G (T.setTop (mkF m pc Ls (.int x :: .int j :: .ref a :: stk))) := by
  obtain ⟨cl, Ar, q1, S, N, H, Gf⟩ := F
  obtain ⟨T1, h1, X1, e1, W1, st1⟩ := stC X hx hZ eT Ar (inb_of S q) (g := mkF m pc Ls (.int x :: .int j :: .ref a :: stk)) rfl rfl hd
  exact Go.step st1 (K _ _ X1 e1 W1 (Arv.set Ar q1 S N H Gf (fits_nar_char _) W1 _ rfl hi))

theorem Go.ist {p : Program} {l : Launch} {e : Env} {R : Room} {s : State} {m : MethodId} {args : Array Value} {below : List Frame} {meth : Method} {c : Code} {T : State} {locs : List Loc} {cells slots : Nat} {G : Outcome → State → Prop} {Z : State} {h : Heap} {pc : Nat} {Ls : Array Slot} {stk vs : List Value} {d : Value} {a : Addr} {k : ClassId} {n j x : Int32} (X : Stand p l e R s m args below meth c T locs cells slots) (hx : p.tables.exec = Jvm.exec) (hZ : Z.Warmed39 s.vm)
    (eT : T.heap = h) (F : Arv Z h a k .int n vs d) (hd : decode c.code pc = .ok (.iastore, 1)) (q : ¬ j < 0 ∧ j < n) (hi : j.toNatClampNeg < vs.length) (K : ∀ T' h', Stand p l e R s m args below meth c T' (locs ++ [⟨a, j.toNatClampNeg⟩]) cells slots → T'.heap = h' → Wr h h' a j.toNatClampNeg (.int (x)) → Arv Z h' a k .int n (vs.set j.toNatClampNeg (.int (x))) d → Go p e below G (T'.setTop (mkF m (pc + 1) Ls stk))) : Go p e below G (T.setTop (mkF m pc Ls (.int x :: .int j :: .ref a :: stk))) := by
  obtain ⟨cl, Ar, q1, S, N, H, Gf⟩ := F
  obtain ⟨T1, h1, X1, e1, W1, st1⟩ := stI X hx hZ eT Ar (inb_of S q) (g := mkF m pc Ls (.int x :: .int j :: .ref a :: stk)) rfl rfl hd
  exact Go.step st1 (K _ _ X1 e1 W1 (Arv.set Ar q1 S N H Gf rfl W1 _ rfl hi))

theorem Go.ial {p : Program} {l : Launch} {e : Env} {R : Room} {s : State} {m : MethodId} {args : Array Value} {below : List Frame} {meth : Method} {c : Code} {T : State} {locs : List Loc} {cells slots : Nat} {G : Outcome → State → Prop} {Z : State} {h : Heap} {pc : Nat} {Ls : Array Slot} {stk vs : List Value} {v d : Value} {a : Addr} {k : ClassId} {n j : Int32} (X : Stand p l e R s m args below meth c T locs cells slots) (hx : p.tables.exec = Jvm.exec) (hZ : Z.Warmed39 s.vm)
    (eT : T.heap = h) (F : Arv Z h a k .int n vs d) (hd : decode c.code pc = .ok (.iaload, 1)) (hv : vs.getD j.toNatClampNeg d = v) (K : Go p e below G (T.setTop (mkF m (pc + 1) Ls (v :: stk)))) (q : ¬ j < 0 ∧ j < n := by decide) : Go p e below G (T.setTop (mkF m pc Ls (.int j :: .ref a :: stk))) := by
  subst eT
  obtain ⟨cl, Ar, -, S, -, H, -⟩ := F
  exact Go.step (fun t k => X.iaload hx Ar.1 (State.isArrayOf_alike hZ.alike Ar.2.1) Ar.2.2 (inb_of S q) (H.at (inb_of S q) hv) (g := mkF m pc Ls (.int j :: .ref a :: stk)) rfl rfl hd _ k) K
theorem Go.cln {p : Program} {l : Launch} {e : Env} {R : Room} {s : State} {m : MethodId} {args : Array Value} {below : List Frame} {meth : Method} {c : Code} {T : State} {locs : List Loc} {cells slots : Nat} {G : Outcome → State → Prop} {Z : State} {a0 : Array Value} {h : Heap} {own ad : String} {index n pc : Nat} {Ls : Array Slot} {vs : List Value} {d : Value} {a : Addr} {k : ClassId} {ty : FieldType} {z : Int32} (X : Stand p l e R s m args below meth c T locs cells slots) (hx : p.tables.exec = Jvm.exec) (hml : c.maxLocals = n) (hown : s.vm.findClass own = some m.cls) (hZ : Z.Warmed39 s.vm)
    (w1 : (Jvm.Cond.methodLink own index ⟨ad, "clone", "()Ljava/lang/Object;"⟩).before a0 Z = true) (w2 : (Jvm.Cond.sameMethod ad "java/lang/Object" "clone" "()Ljava/lang/Object;").before a0 Z = true) (w3 : (Jvm.Cond.native ⟨"java/lang/Object", "clone", "()Ljava/lang/Object;"⟩).before a0 Z = true) (w4 : (Jvm.Cond.instanceMethod ⟨"java/lang/Object", "clone", "()Ljava/lang/Object;"⟩).before a0 Z = true) (w5 : (Jvm.Cond.selects ad ⟨ad, "clone", "()Ljava/lang/Object;"⟩ ⟨"java/lang/Object", "clone", "()Ljava/lang/Object;"⟩).before a0 Z = true) (w6 : (Jvm.Cond.castable ad "java/lang/Cloneable").before a0 Z = true)
    (eT : T.heap = h) (F : Arv Z h a k ty z vs d) (E : Exa Z h a ad) (W cap : Nat) (rest : List Value) (hd : decode c.code pc = .ok (.invokevirtual index, 3))
    (K : ∀ T' h', Stand p l e R s m args below meth c T' locs (cells + 1) (slots + cap) → T'.heap = h' → Ext h h' → Arv Z h' h.size k ty z vs d → Exa Z h' h.size ad → Go p e below G (T'.setTop (mkF m (pc + 3) Ls (.ref h.size :: rest))))
    (hf : 1 ≤ R.frames := by decide) (hl : W + 14 ≤ R.locals := by decide) (hcap : z.toNatClampNeg ≤ cap := by decide) (hc : cells + 1 ≤ R.cells := by decide) (hsl : slots + cap ≤ R.slots := by decide) (hsz : Ls.size = n := by rfl) (hW : 2 * (mkF m pc Ls (.ref a :: rest)).monitorRoom + (rest.map fun v => v.category).sum ≤ W := by exact Nat.le_of_eq rfl) : Go p e below G (T.setTop (mkF m pc Ls (.ref a :: rest))) := by
  obtain ⟨cl, A, q1, S, q3, H, Gf⟩ := F
  have FC : FitC Z cl := fitC_of A fun i hi v hv => by rw [H i hi] at hv; cases hv; exact Gf i hi
  obtain ⟨T', h', X', e', ex, A', E', st⟩ := cloneA X hx hZ hown w1 w2 w3 w4 w5 w6 eT A E FC (g := mkF m pc Ls (.ref a :: rest)) rfl (hsz.trans hml.symm) rfl hd hf hW hl (by rw [S]; exact hcap) hc hsl
  exact Go.step st (K _ _ X' e' ex ⟨cloneOf cl, A', q1, S, q3, H, Gf⟩ E')
set_option maxRecDepth 65536
set_option maxHeartbeats 4000000
abbrev Sa_0 (Z : State) (v : Value) : Prop := Sta Z Z.heap "java/lang/String" "COMPACT_STRINGS" "Z" v
abbrev Sa_1 (Z : State) (v : Value) : Prop := Sta Z Z.heap "jdk/internal/util/Preconditions" "SIOOBE_FORMATTER" "Ljava/util/function/BiFunction;" v
abbrev Fd_2 (Z : State) (h : Heap) (a : Addr) (v : Value) : Prop := Fld Z h a "java/lang/String" "coder" "B" v
abbrev Fd_3 (Z : State) (h : Heap) (a : Addr) (v : Value) : Prop := Fld Z h a "java/lang/String" "value" "[B" v
abbrev Fd_4 (Z : State) (h : Heap) (a : Addr) (v : Value) : Prop := Fld Z h a "org/ninefold/model/PuzzleText" "cells" "[B" v
abbrev Fd_5 (Z : State) (h : Heap) (a : Addr) (v : Value) : Prop := Fld Z h a "org/ninefold/model/PuzzleText" "length" "J" v
abbrev Fd_6 (Z : State) (h : Heap) (a : Addr) (v : Value) : Prop := Fld Z h a "org/ninefold/model/PuzzleText" "unexpectedColumn" "J" v
abbrev Fd_7 (Z : State) (h : Heap) (a : Addr) (v : Value) : Prop := Fld Z h a "org/ninefold/model/Grid" "digits" "[B" v
theorem own_wS {Z : State} {a0 : Array Value} (hw : ∀ d ∈ tables_1, d.before a0 Z = true) : ∀ a ∈ Bundle.stringAtoms, a.before a0 Z = true := by
  intro a ha
  simp only [Bundle.stringAtoms, List.mem_cons, List.not_mem_nil, or_false] at ha
  rcases ha with rfl | rfl | rfl | rfl | rfl | rfl | rfl
  · exact (own_w hw 39 rfl)
  · exact (own_w hw 38 rfl)
  · exact (own_w hw 9 rfl)
  · exact (own_w hw 62 rfl)
  · exact (own_w hw 60 rfl)
  · exact (own_w hw 68 rfl)
  · exact (own_w hw 69 rfl)
theorem own_b2 (x : Int32) : ((x.toInt8.toInt32).toInt8.toInt32) = (x.toInt8.toInt32) := by
  rw [← Int32.toInt_inj]
  have h1 := c_i2b x
  have h2 := c_i2b x.toInt8.toInt32
  omega
theorem own_i2c {x : Int32} (h0 : ¬ (x < (0 : Int32))) (h1 : ¬ ((255 : Int32) < x)) : (x.toUInt32.toUInt16.toUInt32.toInt32) = x := by
  rw [← Int32.toInt_inj]
  have := c_i2c x
  simp only [Int32.lt_iff_toInt_lt, show (0 : Int32).toInt = 0 from rfl, show (255 : Int32).toInt = 255 from rfl] at h0 h1
  omega
def own_dg (x : Int32) : Int32 := if x = 46 then 0 else if x = 48 then 0 else x - 48
theorem own_dg1 {x : Int32} (h : x = 46) : own_dg x = 0 := by simp [own_dg, h]
theorem own_dg2 {x : Int32} (h : x = 48) : own_dg x = 0 := by simp [own_dg, h]
theorem own_dg3 {x : Int32} (h : ¬ (x = 46)) (h' : ¬ (x = 48)) : own_dg x = x - 48 := by simp [own_dg, h, h']
abbrev own_ok (x : Int32) : Prop := x = 46 ∨ (¬ (x < 48) ∧ ¬ ((57 : Int32) < x))
theorem own_ok1 {x : Int32} (h : own_ok x) (h1 : ¬ (x = 46)) (h2 : ¬ (x = 48)) : ¬ (x < 49) := fun q => by
  rcases h with h | ⟨h, -⟩
  · exact h1 h
  · rw [← Int32.toInt_inj] at h2
    simp only [Int32.lt_iff_toInt_lt, show (48 : Int32).toInt = 48 from rfl, show (49 : Int32).toInt = 49 from rfl] at *
    omega
theorem own_ok2 {x : Int32} (h : own_ok x) (h1 : ¬ (x = 46)) : ¬ ((57 : Int32) < x) := (h.resolve_left h1).2
theorem own_dgr {x : Int32} (h : own_ok x) : ¬ (own_dg x < 0) ∧ own_dg x < 10 := by
  unfold own_dg
  by_cases h1 : x = 46
  · rw [if_pos h1]; decide
  · rw [if_neg h1]
    by_cases h2 : x = 48
    · rw [if_pos h2]; decide
    · rw [if_neg h2]
      obtain ⟨a, b⟩ := h.resolve_left h1
      have e := Int32.toInt_sub x 48
      simp only [Int32.lt_iff_toInt_lt, show (48 : Int32).toInt = 48 from rfl, show (57 : Int32).toInt = 57 from rfl, show (0 : Int32).toInt = 0 from rfl, show (10 : Int32).toInt = 10 from rfl] at *
      rw [e]
      simp only [Int.bmod_def, show (48 : Int32).toInt = 48 from rfl]
      omega
theorem own_i2b {x : Int32} (h : ¬ (x < 0) ∧ x < 10) : x.toInt8.toInt32 = x := by
  rw [← Int32.toInt_inj]
  have := c_i2b x
  obtain ⟨a, b⟩ := h
  simp only [Int32.lt_iff_toInt_lt, show (0 : Int32).toInt = 0 from rfl, show (10 : Int32).toInt = 10 from rfl] at a b
  omega
abbrev y_0 : MethodName := ⟨"java/lang/String", "coder", "()B"⟩
theorem pn_java_lang_String : plainName "java/lang/String" = true := by first | (simp [plainName, overriddenIn]; done) | decide +kernel
theorem d15_0 : decode jdk_42_method_152_code 0 = .ok (.getstatic 38, 3) := by decide +kernel
theorem d15_3 : decode jdk_42_method_152_code 3 = .ok (.ifCond .eq 10, 3) := by decide +kernel
theorem d15_6 : decode jdk_42_method_152_code 6 = .ok (.aload_n 0, 1) := by decide +kernel
theorem d15_7 : decode jdk_42_method_152_code 7 = .ok (.getfield 15, 3) := by decide +kernel
theorem d15_10 : decode jdk_42_method_152_code 10 = .ok (.goto 4, 3) := by decide +kernel
theorem d15_14 : decode jdk_42_method_152_code 14 = .ok (.ireturn, 1) := by decide +kernel
abbrev rm_rmCod : Room := ({ frames := 0, cells := 0, slots := 0, locals := 0 } : Room)
def Q_rmCod (Z : State) (so : Addr) (cs : Int32) (h0 : Heap) (n0 : Nat) (v : Option Value) (h : Heap) (L : List Loc) : Prop := (v = some (.int 0)) ∧ (Fr n0 L) ∧ (h = h0)
theorem rmCod (l : Launch) (Z : State) (a0 : Array Value) (hw : HW a0 Z) (ws : List Jvm.Cond) (so : Addr) (cs : Int32) (h0 : Heap) (n0 : Nat) (O : Old Z n0 h0) (S_CS : Sa_0 Z (.int cs)) (F_c : Fd_2 Z h0 so (.int 0)) (hcs : ¬ (cs = (0 : Int32))) :
    Mt l Z y_0 jdk_42_method_152_code 1 (some .byte) ws rm_rmCod #[(.ref so)] h0 (Q_rmCod Z so cs h0 n0) := by
 refine own_met "java/lang/String" (plainFor_of_name pn_java_lang_String) #[rv so] (fun m => rfl) (fun p e s m below meth c s₁ Bd hx hby hml hZ hown hnm X0 e0 => ?_)
 have N0 := Fr.nil n0
 refine Go.gS X0 hx hZ hown (host := "") (Or.inl (own_w hw 48 rfl)) Via.refl e0 (S_CS.ext O.2) (hb hby d15_0) (fun T1 X1 e1 => ?_)
 refine Go.step (S' := T1.setTop (mkF m 7 #[rv so] [(.ref so)])) (fun t k => ?_) ?_
 · refine XS.ifNo X1.here hx rfl (hb hby d15_3) rfl ((if0 _ _).trans (feq (hcs : ¬ (cs = (0 : Int32)))).1) ?_
   refine XS.aloadN X1.here hx rfl (hb hby d15_6) rfl rfl ?_
   exact k
 refine Go.gF X1 hx hZ hown (host := "") (Or.inl (own_w hw 59 rfl)) Via.refl e1 F_c (hb hby d15_7) (fun T2 X2 e2 => ?_)
 refine Go.step (S' := T2.setTop (mkF m 14 #[rv so] [(.int 0)])) (fun t k => ?_) ?_
 · refine XS.goto X2.here hx rfl (pc0 := 10) (pc' := 14) rfl (hb hby d15_10) (by decide) (by decide) ?_
   exact k
 exact Go.rt X2 hx Bd (w := (.int 0)) (by decide) (Or.inl ⟨rfl, Or.inr (Or.inr (Or.inl rfl)), _, rfl⟩) (hb hby d15_14) e2 ⟨rfl, N0, rfl⟩
abbrev y_1 : MethodName := ⟨"java/lang/String", "isLatin1", "()Z"⟩
theorem d17_0 : decode jdk_42_method_154_code 0 = .ok (.getstatic 38, 3) := by decide +kernel
theorem d17_3 : decode jdk_42_method_154_code 3 = .ok (.ifCond .eq 14, 3) := by decide +kernel
theorem d17_6 : decode jdk_42_method_154_code 6 = .ok (.aload_n 0, 1) := by decide +kernel
theorem d17_7 : decode jdk_42_method_154_code 7 = .ok (.getfield 15, 3) := by decide +kernel
theorem d17_10 : decode jdk_42_method_154_code 10 = .ok (.ifCond .ne 7, 3) := by decide +kernel
theorem d17_13 : decode jdk_42_method_154_code 13 = .ok (.iconst 1, 1) := by decide +kernel
theorem d17_14 : decode jdk_42_method_154_code 14 = .ok (.goto 4, 3) := by decide +kernel
theorem d17_18 : decode jdk_42_method_154_code 18 = .ok (.ireturn, 1) := by decide +kernel
abbrev rm_rmLat : Room := ({ frames := 0, cells := 0, slots := 0, locals := 0 } : Room)
def Q_rmLat (Z : State) (so : Addr) (cs : Int32) (h0 : Heap) (n0 : Nat) (v : Option Value) (h : Heap) (L : List Loc) : Prop := (v = some (.int 1)) ∧ (Fr n0 L) ∧ (h = h0)
theorem rmLat (l : Launch) (Z : State) (a0 : Array Value) (hw : HW a0 Z) (ws : List Jvm.Cond) (so : Addr) (cs : Int32) (h0 : Heap) (n0 : Nat) (O : Old Z n0 h0) (S_CS : Sa_0 Z (.int cs)) (F_c : Fd_2 Z h0 so (.int 0)) (hcs : ¬ (cs = (0 : Int32))) :
    Mt l Z y_1 jdk_42_method_154_code 1 (some .boolean) ws rm_rmLat #[(.ref so)] h0 (Q_rmLat Z so cs h0 n0) := by
 refine own_met "java/lang/String" (plainFor_of_name pn_java_lang_String) #[rv so] (fun m => rfl) (fun p e s m below meth c s₁ Bd hx hby hml hZ hown hnm X0 e0 => ?_)
 have N0 := Fr.nil n0
 refine Go.gS X0 hx hZ hown (host := "") (Or.inl (own_w hw 48 rfl)) Via.refl e0 (S_CS.ext O.2) (hb hby d17_0) (fun T1 X1 e1 => ?_)
 refine Go.step (S' := T1.setTop (mkF m 7 #[rv so] [(.ref so)])) (fun t k => ?_) ?_
 · refine XS.ifNo X1.here hx rfl (hb hby d17_3) rfl ((if0 _ _).trans (feq (hcs : ¬ (cs = (0 : Int32)))).1) ?_
   refine XS.aloadN X1.here hx rfl (hb hby d17_6) rfl rfl ?_
   exact k
 refine Go.gF X1 hx hZ hown (host := "") (Or.inl (own_w hw 59 rfl)) Via.refl e1 F_c (hb hby d17_7) (fun T2 X2 e2 => ?_)
 refine Go.step (S' := T2.setTop (mkF m 18 #[rv so] [(.int 1)])) (fun t k => ?_) ?_
 · refine XS.ifNo X2.here hx rfl (hb hby d17_10) rfl ((if0 _ _).trans (teq ((by decide) : (0 : Int32) = (0 : Int32))).2) ?_
   refine XS.iconst X2.here hx rfl (hb hby d17_13) ?_
   refine XS.goto X2.here hx rfl (pc0 := 14) (pc' := 18) rfl (hb hby d17_14) (by decide) (by decide) ?_
   exact k
 exact Go.rt X2 hx Bd (w := (.int 1)) (by decide) (Or.inl ⟨rfl, Or.inr (Or.inl rfl), _, rfl⟩) (hb hby d17_18) e2 ⟨rfl, N0, rfl⟩
abbrev y_2 : MethodName := ⟨"java/lang/String", "length", "()I"⟩
theorem d14_0 : decode jdk_42_method_54_code 0 = .ok (.aload_n 0, 1) := by decide +kernel
theorem d14_1 : decode jdk_42_method_54_code 1 = .ok (.getfield 9, 3) := by decide +kernel
theorem d14_4 : decode jdk_42_method_54_code 4 = .ok (.arraylength, 1) := by decide +kernel
theorem d14_5 : decode jdk_42_method_54_code 5 = .ok (.aload_n 0, 1) := by decide +kernel
theorem d14_6 : decode jdk_42_method_54_code 6 = .ok (.invokevirtual 335, 3) := by decide +kernel
theorem pd__28_29B : parseMethodDescriptor "()B" = some ⟨[], some .byte⟩ := by decide +kernel
theorem d14_9 : decode jdk_42_method_54_code 9 = .ok (.ishr, 1) := by decide +kernel
theorem d14_10 : decode jdk_42_method_54_code 10 = .ok (.ireturn, 1) := by decide +kernel
abbrev rm_rmLen : Room := ({ frames := 1, cells := 0, slots := 0, locals := 13 } : Room)
def Q_rmLen (Z : State) (so : Addr) (tb : Addr) (kb : ClassId) (vs : List Value) (cs : Int32) (h0 : Heap) (n0 : Nat) (v : Option Value) (h : Heap) (L : List Loc) : Prop := (v = some (.int 81)) ∧ (Fr n0 L) ∧ (h = h0)
theorem rmLen (l : Launch) (Z : State) (a0 : Array Value) (hw : HW a0 Z) (ws : List Jvm.Cond) (so : Addr) (tb : Addr) (kb : ClassId) (vs : List Value) (cs : Int32) (h0 : Heap) (n0 : Nat) (O : Old Z n0 h0) (S_CS : Sa_0 Z (.int cs)) (E_so : Exa Z h0 so "java/lang/String") (F_value_so : Fd_3 Z h0 so (.ref tb)) (F_coder_so : Fd_2 Z h0 so (.int 0)) (V_tb : Arv Z h0 tb kb .byte (81 : Int32) vs (.int 0)) (hcs : ¬ (cs = (0 : Int32))) :
    Mt l Z y_2 jdk_42_method_54_code 1 (some .int) ws rm_rmLen #[(.ref so)] h0 (Q_rmLen Z so tb kb vs cs h0 n0) := by
 refine own_met "java/lang/String" (plainFor_of_name pn_java_lang_String) #[rv so] (fun m => rfl) (fun p e s m below meth c s₁ Bd hx hby hml hZ hown hnm X0 e0 => ?_)
 have N0 := Fr.nil n0
 refine Go.step (S' := s₁.setTop (mkF m 1 #[rv so] [(.ref so)])) (fun t k => ?_) ?_
 · refine XS.aloadN X0.here hx rfl (hb hby d14_0) rfl rfl ?_
   exact k
 refine Go.gF X0 hx hZ hown (host := "") (Or.inl (own_w hw 61 rfl)) Via.refl e0 F_value_so (hb hby d14_1) (fun T1 X1 e1 => ?_)
 refine Go.len X1 hx hZ e1 V_tb (hb hby d14_4) ?_
 refine Go.step (S' := T1.setTop (mkF m 6 #[rv so] [(.ref so), (.int 81)])) (fun t k => ?_) ?_
 · refine XS.aloadN X1.here hx rfl (hb hby d14_5) rfl rfl ?_
   exact k
 refine Go.cV X1 hx hml hown hZ (own_w hw 85 rfl) (own_w hw 86 rfl) (own_w hw 88 rfl) (own_w hw 87 rfl) (own_w hw 39 rfl) (own_w hw 89 rfl) E_so (rmCod l Z a0 hw [] so cs h0 n0 O S_CS F_coder_so hcs) 1 [(.int 81)] pd__28_29B (hb hby d14_6) e1 (fun _ T2 L2 X2 hQ2 => ?_)
 obtain ⟨rfl, Nq2, e2⟩ := hQ2
 have N2 := Fr.app N0 Nq2
 refine Go.step (S' := T2.setTop (mkF m 10 #[rv so] [(.int 81)])) (fun t k => ?_) ?_
 · refine XS.ishr X2.here hx rfl (hb hby d14_9) rfl ?_
   exact k
 exact Go.rt X2 hx Bd (w := (.int 81)) rfl (Or.inl ⟨rfl, Or.inl rfl, _, rfl⟩) (hb hby d14_10) e2 ⟨rfl, N2, rfl⟩
abbrev y_3 : MethodName := ⟨"jdk/internal/util/Preconditions", "checkIndex", "(IILjava/util/function/BiFunction;)I"⟩
theorem pn_jdk_internal_util_Preconditions : plainName "jdk/internal/util/Preconditions" = true := by first | (simp [plainName, overriddenIn]; done) | decide +kernel
theorem d20_0 : decode jdk_41_method_11_code 0 = .ok (.iload_n 0, 1) := by decide +kernel
theorem d20_1 : decode jdk_41_method_11_code 1 = .ok (.ifCond .lt 8, 3) := by decide +kernel
theorem d20_4 : decode jdk_41_method_11_code 4 = .ok (.iload_n 0, 1) := by decide +kernel
theorem d20_5 : decode jdk_41_method_11_code 5 = .ok (.iload_n 1, 1) := by decide +kernel
theorem d20_6 : decode jdk_41_method_11_code 6 = .ok (.if_icmp .lt 10, 3) := by decide +kernel
theorem d20_16 : decode jdk_41_method_11_code 16 = .ok (.iload_n 0, 1) := by decide +kernel
theorem d20_17 : decode jdk_41_method_11_code 17 = .ok (.ireturn, 1) := by decide +kernel
abbrev rm_rmPn : Room := ({ frames := 0, cells := 0, slots := 0, locals := 0 } : Room)
def Q_rmPn (Z : State) (ix : Int32) (h0 : Heap) (n0 : Nat) (v : Option Value) (h : Heap) (L : List Loc) : Prop := (v = some (.int ix)) ∧ (Fr n0 L) ∧ (h = h0)
theorem rmPn (l : Launch) (Z : State) (a0 : Array Value) (hw : HW a0 Z) (ws : List Jvm.Cond) (ix : Int32) (h0 : Heap) (n0 : Nat) (O : Old Z n0 h0) (ia : ¬ (ix < (0 : Int32))) (ib : ix < (81 : Int32)) :
    Mt l Z y_3 jdk_41_method_11_code 3 (some .int) ws rm_rmPn #[(.int ix), (.int 81), .null] h0 (Q_rmPn Z ix h0 n0) := by
 refine own_met "jdk/internal/util/Preconditions" (plainFor_of_name pn_jdk_internal_util_Preconditions) #[iv ix, iv 81, .val .null] (fun m => rfl) (fun p e s m below meth c s₁ Bd hx hby hml hZ hown hnm X0 e0 => ?_)
 have N0 := Fr.nil n0
 refine Go.step (S' := s₁.setTop (mkF m 17 #[iv ix, iv 81, .val .null] [(.int ix)])) (fun t k => ?_) ?_
 · refine XS.iloadN X0.here hx rfl (hb hby d20_0) rfl ?_
   refine XS.ifNo X0.here hx rfl (hb hby d20_1) rfl ((if0 _ _).trans (flt (ia : ¬ (ix < (0 : Int32)))).1) ?_
   refine XS.iloadN X0.here hx rfl (hb hby d20_4) rfl ?_
   refine XS.iloadN X0.here hx rfl (hb hby d20_5) rfl ?_
   refine XS.icmpYes X0.here hx rfl (pc0 := 6) (pc' := 16) rfl (hb hby d20_6) rfl (tlt (ib : ix < (81 : Int32))).1 (by decide) (by decide) ?_
   refine XS.iloadN X0.here hx rfl (hb hby d20_16) rfl ?_
   exact k
 exact Go.rt X0 hx Bd (w := (.int ix)) rfl (Or.inl ⟨rfl, Or.inl rfl, _, rfl⟩) (hb hby d20_17) e0 ⟨rfl, N0, rfl⟩
abbrev rm_rmPr : Room := ({ frames := 0, cells := 0, slots := 0, locals := 0 } : Room)
def Q_rmPr (Z : State) (ix : Int32) (f : Addr) (h0 : Heap) (n0 : Nat) (v : Option Value) (h : Heap) (L : List Loc) : Prop := (v = some (.int ix)) ∧ (Fr n0 L) ∧ (h = h0)
theorem rmPr (l : Launch) (Z : State) (a0 : Array Value) (hw : HW a0 Z) (ws : List Jvm.Cond) (ix : Int32) (f : Addr) (h0 : Heap) (n0 : Nat) (O : Old Z n0 h0) (ia : ¬ (ix < (0 : Int32))) (ib : ix < (81 : Int32)) :
    Mt l Z y_3 jdk_41_method_11_code 3 (some .int) ws rm_rmPr #[(.int ix), (.int 81), (.ref f)] h0 (Q_rmPr Z ix f h0 n0) := by
 refine own_met "jdk/internal/util/Preconditions" (plainFor_of_name pn_jdk_internal_util_Preconditions) #[iv ix, iv 81, rv f] (fun m => rfl) (fun p e s m below meth c s₁ Bd hx hby hml hZ hown hnm X0 e0 => ?_)
 have N0 := Fr.nil n0
 refine Go.step (S' := s₁.setTop (mkF m 17 #[iv ix, iv 81, rv f] [(.int ix)])) (fun t k => ?_) ?_
 · refine XS.iloadN X0.here hx rfl (hb hby d20_0) rfl ?_
   refine XS.ifNo X0.here hx rfl (hb hby d20_1) rfl ((if0 _ _).trans (flt (ia : ¬ (ix < (0 : Int32)))).1) ?_
   refine XS.iloadN X0.here hx rfl (hb hby d20_4) rfl ?_
   refine XS.iloadN X0.here hx rfl (hb hby d20_5) rfl ?_
   refine XS.icmpYes X0.here hx rfl (pc0 := 6) (pc' := 16) rfl (hb hby d20_6) rfl (tlt (ib : ix < (81 : Int32))).1 (by decide) (by decide) ?_
   refine XS.iloadN X0.here hx rfl (hb hby d20_16) rfl ?_
   exact k
 exact Go.rt X0 hx Bd (w := (.int ix)) rfl (Or.inl ⟨rfl, Or.inl rfl, _, rfl⟩) (hb hby d20_17) e0 ⟨rfl, N0, rfl⟩
abbrev y_4 : MethodName := ⟨"java/lang/String", "checkIndex", "(II)V"⟩
theorem d19_0 : decode jdk_42_method_155_code 0 = .ok (.iload_n 0, 1) := by decide +kernel
theorem d19_1 : decode jdk_42_method_155_code 1 = .ok (.iload_n 1, 1) := by decide +kernel
theorem d19_2 : decode jdk_42_method_155_code 2 = .ok (.getstatic 1053, 3) := by decide +kernel
theorem d19_5 : decode jdk_42_method_155_code 5 = .ok (.invokestatic 1059, 3) := by decide +kernel
theorem pd__28IILjava_2futil_2ffunction_2fBiFunction_3b_29I : parseMethodDescriptor "(IILjava/util/function/BiFunction;)I" = some ⟨[.int, .int, (.object "java/util/function/BiFunction")], some .int⟩ := by decide +kernel
theorem d19_8 : decode jdk_42_method_155_code 8 = .ok (.pop, 1) := by decide +kernel
theorem d19_9 : decode jdk_42_method_155_code 9 = .ok (.return_, 1) := by decide +kernel
abbrev rm_rmCk : Room := ({ frames := 1, cells := 0, slots := 0, locals := 14 } : Room)
def Q_rmCk (Z : State) (ix : Int32) (sf : Value) (h0 : Heap) (n0 : Nat) (v : Option Value) (h : Heap) (L : List Loc) : Prop := (v = none) ∧ (Fr n0 L) ∧ (h = h0)
theorem rmCk (l : Launch) (Z : State) (a0 : Array Value) (hw : HW a0 Z) (ws : List Jvm.Cond) (ix : Int32) (sf : Value) (h0 : Heap) (n0 : Nat) (O : Old Z n0 h0) (S_FM : Sa_1 Z sf) (hsf : sf.isRef = true) (ia : ¬ (ix < (0 : Int32))) (ib : ix < (81 : Int32)) :
    Mt l Z y_4 jdk_42_method_155_code 2 none ws rm_rmCk #[(.int ix), (.int 81)] h0 (Q_rmCk Z ix sf h0 n0) := by
 refine own_met "java/lang/String" (plainFor_of_name pn_java_lang_String) #[iv ix, iv 81] (fun m => rfl) (fun p e s m below meth c s₁ Bd hx hby hml hZ hown hnm X0 e0 => ?_)
 have N0 := Fr.nil n0
 rcases ref_cases hsf with hsn | ⟨wf, hsn⟩
 ·skip
  rw [hsn] at S_FM
  refine Go.step (S' := s₁.setTop (mkF m 2 #[iv ix, iv 81] [(.int 81), (.int ix)])) (fun t k => ?_) ?_
  · refine XS.iloadN X0.here hx rfl (hb hby d19_0) rfl ?_
    refine XS.iloadN X0.here hx rfl (hb hby d19_1) rfl ?_
    exact k
  refine Go.gS X0 hx hZ hown (host := "") (Or.inl (own_w hw 110 rfl)) Via.refl e0 (S_FM.ext O.2) (hb hby d19_2) (fun T1 X1 e1 => ?_)
  refine Go.cS X1 hx hml hown hZ (own_w hw 112 rfl) (own_w hw 113 rfl) (own_w hw 111 rfl) (own_w hw 114 rfl) (rmPn l Z a0 hw [] ix h0 n0 O ia ib) 0 [] pd__28IILjava_2futil_2ffunction_2fBiFunction_3b_29I (hb hby d19_5) e1 (fun _ T2 L2 X2 hQ2 => ?_)
  obtain ⟨rfl, Nq2, e2⟩ := hQ2
  have N2 := Fr.app N0 Nq2
  refine Go.step (S' := T2.setTop (mkF m 9 #[iv ix, iv 81] [])) (fun t k => ?_) ?_
  · refine XS.pop X2.here hx rfl (hb hby d19_8) rfl rfl ?_
    exact k
  exact Go.rv X2 hx Bd (hb hby d19_9) e2 ⟨rfl, N2, rfl⟩
 ·skip
  rw [hsn] at S_FM
  refine Go.step (S' := s₁.setTop (mkF m 2 #[iv ix, iv 81] [(.int 81), (.int ix)])) (fun t k => ?_) ?_
  · refine XS.iloadN X0.here hx rfl (hb hby d19_0) rfl ?_
    refine XS.iloadN X0.here hx rfl (hb hby d19_1) rfl ?_
    exact k
  refine Go.gS X0 hx hZ hown (host := "") (Or.inl (own_w hw 110 rfl)) Via.refl e0 (S_FM.ext O.2) (hb hby d19_2) (fun T3 X3 e3 => ?_)
  refine Go.cS X3 hx hml hown hZ (own_w hw 112 rfl) (own_w hw 113 rfl) (own_w hw 111 rfl) (own_w hw 114 rfl) (rmPr l Z a0 hw [] ix wf h0 n0 O ia ib) 0 [] pd__28IILjava_2futil_2ffunction_2fBiFunction_3b_29I (hb hby d19_5) e3 (fun _ T4 L4 X4 hQ4 => ?_)
  obtain ⟨rfl, Nq4, e4⟩ := hQ4
  have N4 := Fr.app N0 Nq4
  refine Go.step (S' := T4.setTop (mkF m 9 #[iv ix, iv 81] [])) (fun t k => ?_) ?_
  · refine XS.pop X4.here hx rfl (hb hby d19_8) rfl rfl ?_
    exact k
  exact Go.rv X4 hx Bd (hb hby d19_9) e4 ⟨rfl, N4, rfl⟩
abbrev y_5 : MethodName := ⟨"java/lang/StringLatin1", "charAt", "([BI)C"⟩
theorem pn_java_lang_StringLatin1 : plainName "java/lang/StringLatin1" = true := by first | (simp [plainName, overriddenIn]; done) | decide +kernel
theorem d18_0 : decode jdk_43_method_2_code 0 = .ok (.iload_n 1, 1) := by decide +kernel
theorem d18_1 : decode jdk_43_method_2_code 1 = .ok (.aload_n 0, 1) := by decide +kernel
theorem d18_2 : decode jdk_43_method_2_code 2 = .ok (.arraylength, 1) := by decide +kernel
theorem d18_3 : decode jdk_43_method_2_code 3 = .ok (.invokestatic 9, 3) := by decide +kernel
theorem pd__28II_29V : parseMethodDescriptor "(II)V" = some ⟨[.int, .int], none⟩ := by decide +kernel
theorem d18_6 : decode jdk_43_method_2_code 6 = .ok (.aload_n 0, 1) := by decide +kernel
theorem d18_7 : decode jdk_43_method_2_code 7 = .ok (.iload_n 1, 1) := by decide +kernel
theorem d18_8 : decode jdk_43_method_2_code 8 = .ok (.baload, 1) := by decide +kernel
theorem d18_9 : decode jdk_43_method_2_code 9 = .ok (.sipush 255, 3) := by decide +kernel
theorem d18_12 : decode jdk_43_method_2_code 12 = .ok (.iand, 1) := by decide +kernel
theorem d18_13 : decode jdk_43_method_2_code 13 = .ok (.i2c, 1) := by decide +kernel
theorem d18_14 : decode jdk_43_method_2_code 14 = .ok (.ireturn, 1) := by decide +kernel
abbrev rm_rmLc : Room := ({ frames := 2, cells := 0, slots := 0, locals := 27 } : Room)
def Q_rmLc (Z : State) (tb : Addr) (ix : Int32) (kb : ClassId) (vs : List Value) (sf : Value) (bv : Int32) (xc : Int32) (h0 : Heap) (n0 : Nat) (v : Option Value) (h : Heap) (L : List Loc) : Prop := (v = some (.int xc)) ∧ (Fr n0 L) ∧ (h = h0)
theorem rmLc (l : Launch) (Z : State) (a0 : Array Value) (hw : HW a0 Z) (ws : List Jvm.Cond) (tb : Addr) (ix : Int32) (kb : ClassId) (vs : List Value) (sf : Value) (bv : Int32) (xc : Int32) (h0 : Heap) (n0 : Nat) (O : Old Z n0 h0) (S_FM : Sa_1 Z sf) (V_tb : Arv Z h0 tb kb .byte (81 : Int32) vs (.int 0)) (hsf : sf.isRef = true) (ia : ¬ (ix < (0 : Int32))) (ib : ix < (81 : Int32)) (hbv : vs.getD ix.toNatClampNeg (.int 0) = .int bv) (hch : ((bv &&& (255 : Int32)).toUInt32.toUInt16.toUInt32.toInt32) = xc) :
    Mt l Z y_5 jdk_43_method_2_code 2 (some .char) ws rm_rmLc #[(.ref tb), (.int ix)] h0 (Q_rmLc Z tb ix kb vs sf bv xc h0 n0) := by
 refine own_met "java/lang/StringLatin1" (plainFor_of_name pn_java_lang_StringLatin1) #[rv tb, iv ix] (fun m => rfl) (fun p e s m below meth c s₁ Bd hx hby hml hZ hown hnm X0 e0 => ?_)
 have N0 := Fr.nil n0
 refine Go.step (S' := s₁.setTop (mkF m 2 #[rv tb, iv ix] [(.ref tb), (.int ix)])) (fun t k => ?_) ?_
 · refine XS.iloadN X0.here hx rfl (hb hby d18_0) rfl ?_
   refine XS.aloadN X0.here hx rfl (hb hby d18_1) rfl rfl ?_
   exact k
 refine Go.len X0 hx hZ e0 V_tb (hb hby d18_2) ?_
 refine Go.cS X0 hx hml hown hZ (own_w hw 107 rfl) (own_w hw 108 rfl) (own_w hw 39 rfl) (own_w hw 109 rfl) (rmCk l Z a0 hw [] ix sf h0 n0 O S_FM hsf ia ib) 0 [] pd__28II_29V (hb hby d18_3) e0 (fun _ T1 L1 X1 hQ1 => ?_)
 obtain ⟨rfl, Nq1, e1⟩ := hQ1
 have N1 := Fr.app N0 Nq1
 refine Go.step (S' := T1.setTop (mkF m 8 #[rv tb, iv ix] [(.int ix), (.ref tb)])) (fun t k => ?_) ?_
 · refine XS.aloadN X1.here hx rfl (hb hby d18_6) rfl rfl ?_
   refine XS.iloadN X1.here hx rfl (hb hby d18_7) rfl ?_
   exact k
 refine Go.bal X1 hx hZ e1 V_tb (hb hby d18_8) (v := (.int bv)) hbv ?_ ⟨ia, ib⟩
 refine Go.step (S' := T1.setTop (mkF m 14 #[rv tb, iv ix] [(.int ((bv &&& (255 : Int32)).toUInt32.toUInt16.toUInt32.toInt32))])) (fun t k => ?_) ?_
 · refine XS.sipush X1.here hx rfl (hb hby d18_9) ?_
   refine XS.iand X1.here hx rfl (hb hby d18_12) rfl ?_
   refine XS.i2c X1.here hx rfl (hb hby d18_13) rfl ?_
   exact k
 exact Go.rt X1 hx Bd (w := (.int ((bv &&& (255 : Int32)).toUInt32.toUInt16.toUInt32.toInt32))) (Jvm.Free.XT.narrow_c _) (Or.inl ⟨rfl, Or.inr (Or.inr (Or.inr (Or.inl rfl))), _, rfl⟩) (hb hby d18_14) e1 ⟨(congrArg (fun z => some (Value.int z)) hch), N1, rfl⟩
abbrev y_6 : MethodName := ⟨"java/lang/String", "charAt", "(I)C"⟩
theorem d16_0 : decode jdk_42_method_56_code 0 = .ok (.aload_n 0, 1) := by decide +kernel
theorem d16_1 : decode jdk_42_method_56_code 1 = .ok (.invokevirtual 492, 3) := by decide +kernel
theorem pd__28_29Z : parseMethodDescriptor "()Z" = some ⟨[], some .boolean⟩ := by decide +kernel
theorem d16_4 : decode jdk_42_method_56_code 4 = .ok (.ifCond .eq 12, 3) := by decide +kernel
theorem d16_7 : decode jdk_42_method_56_code 7 = .ok (.aload_n 0, 1) := by decide +kernel
theorem d16_8 : decode jdk_42_method_56_code 8 = .ok (.getfield 9, 3) := by decide +kernel
theorem d16_11 : decode jdk_42_method_56_code 11 = .ok (.iload_n 1, 1) := by decide +kernel
theorem d16_12 : decode jdk_42_method_56_code 12 = .ok (.invokestatic 495, 3) := by decide +kernel
theorem pd__28_5bBI_29C : parseMethodDescriptor "([BI)C" = some ⟨[(.array .byte), .int], some .char⟩ := by decide +kernel
theorem d16_15 : decode jdk_42_method_56_code 15 = .ok (.ireturn, 1) := by decide +kernel
abbrev rm_rmCh : Room := ({ frames := 3, cells := 0, slots := 0, locals := 40 } : Room)
def Q_rmCh (Z : State) (so : Addr) (ix : Int32) (tb : Addr) (kb : ClassId) (vs : List Value) (cs : Int32) (sf : Value) (bv : Int32) (xc : Int32) (h0 : Heap) (n0 : Nat) (v : Option Value) (h : Heap) (L : List Loc) : Prop := (v = some (.int xc)) ∧ (Fr n0 L) ∧ (h = h0)
theorem rmCh (l : Launch) (Z : State) (a0 : Array Value) (hw : HW a0 Z) (ws : List Jvm.Cond) (so : Addr) (ix : Int32) (tb : Addr) (kb : ClassId) (vs : List Value) (cs : Int32) (sf : Value) (bv : Int32) (xc : Int32) (h0 : Heap) (n0 : Nat) (O : Old Z n0 h0) (S_CS : Sa_0 Z (.int cs)) (E_so : Exa Z h0 so "java/lang/String") (F_value_so : Fd_3 Z h0 so (.ref tb)) (F_coder_so : Fd_2 Z h0 so (.int 0)) (V_tb : Arv Z h0 tb kb .byte (81 : Int32) vs (.int 0)) (S_FM : Sa_1 Z sf) (hcs : ¬ (cs = (0 : Int32))) (hsf : sf.isRef = true) (ia : ¬ (ix < (0 : Int32))) (ib : ix < (81 : Int32)) (hbv : vs.getD ix.toNatClampNeg (.int 0) = .int bv) (hch : ((bv &&& (255 : Int32)).toUInt32.toUInt16.toUInt32.toInt32) = xc) :
    Mt l Z y_6 jdk_42_method_56_code 2 (some .char) ws rm_rmCh #[(.ref so), (.int ix)] h0 (Q_rmCh Z so ix tb kb vs cs sf bv xc h0 n0) := by
 refine own_met "java/lang/String" (plainFor_of_name pn_java_lang_String) #[rv so, iv ix] (fun m => rfl) (fun p e s m below meth c s₁ Bd hx hby hml hZ hown hnm X0 e0 => ?_)
 have N0 := Fr.nil n0
 refine Go.step (S' := s₁.setTop (mkF m 1 #[rv so, iv ix] [(.ref so)])) (fun t k => ?_) ?_
 · refine XS.aloadN X0.here hx rfl (hb hby d16_0) rfl rfl ?_
   exact k
 refine Go.cV X0 hx hml hown hZ (own_w hw 98 rfl) (own_w hw 99 rfl) (own_w hw 101 rfl) (own_w hw 100 rfl) (own_w hw 39 rfl) (own_w hw 102 rfl) E_so (rmLat l Z a0 hw [] so cs h0 n0 O S_CS F_coder_so hcs) 0 [] pd__28_29Z (hb hby d16_1) e0 (fun _ T1 L1 X1 hQ1 => ?_)
 obtain ⟨rfl, Nq1, e1⟩ := hQ1
 have N1 := Fr.app N0 Nq1
 refine Go.step (S' := T1.setTop (mkF m 8 #[rv so, iv ix] [(.ref so)])) (fun t k => ?_) ?_
 · refine XS.ifNo X1.here hx rfl (hb hby d16_4) rfl ((if0 _ _).trans (feq ((by decide) : ¬ ((1 : Int32) = (0 : Int32)))).1) ?_
   refine XS.aloadN X1.here hx rfl (hb hby d16_7) rfl rfl ?_
   exact k
 refine Go.gF X1 hx hZ hown (host := "") (Or.inl (own_w hw 61 rfl)) Via.refl e1 F_value_so (hb hby d16_8) (fun T2 X2 e2 => ?_)
 refine Go.step (S' := T2.setTop (mkF m 12 #[rv so, iv ix] [(.int ix), (.ref tb)])) (fun t k => ?_) ?_
 · refine XS.iloadN X2.here hx rfl (hb hby d16_11) rfl ?_
   exact k
 refine Go.cS X2 hx hml hown hZ (own_w hw 103 rfl) (own_w hw 104 rfl) (own_w hw 105 rfl) (own_w hw 106 rfl) (rmLc l Z a0 hw [] tb ix kb vs sf bv xc h0 n0 O S_FM V_tb hsf ia ib hbv hch) 0 [] pd__28_5bBI_29C (hb hby d16_12) e2 (fun _ T3 L3 X3 hQ3 => ?_)
 obtain ⟨rfl, Nq3, e3⟩ := hQ3
 have N3 := Fr.app N1 Nq3
 exact Go.rt X3 hx Bd (w := (.int xc)) (by rw [← hch]; exact Jvm.Free.XT.narrow_c _) (Or.inl ⟨rfl, Or.inr (Or.inr (Or.inr (Or.inl rfl))), _, rfl⟩) (hb hby d16_15) e3 ⟨rfl, N3, rfl⟩
abbrev y_7 : MethodName := ⟨"org/ninefold/model/PuzzleText", "<init>", "()V"⟩
theorem pn_org_ninefold_model_PuzzleText : plainName "org/ninefold/model/PuzzleText" = true := by first | (simp [plainName, overriddenIn]; done) | decide +kernel
theorem d1_0 : decode prog_12_method_1_code 0 = .ok (.aload_n 0, 1) := by decide +kernel
theorem d1_1 : decode prog_12_method_1_code 1 = .ok (.invokespecial 1, 3) := by decide +kernel
theorem d1_4 : decode prog_12_method_1_code 4 = .ok (.aload_n 0, 1) := by decide +kernel
theorem d1_5 : decode prog_12_method_1_code 5 = .ok (.bipush 81, 2) := by decide +kernel
theorem d1_7 : decode prog_12_method_1_code 7 = .ok (.newarray .byte, 2) := by decide +kernel
theorem d1_9 : decode prog_12_method_1_code 9 = .ok (.putfield 9, 3) := by decide +kernel
theorem d1_12 : decode prog_12_method_1_code 12 = .ok (.return_, 1) := by decide +kernel
abbrev rm_rmPI : Room := ({ frames := 1, cells := 1, slots := 81, locals := 12 } : Room)
def Q_rmPI (Z : State) (po : Addr) (h0 : Heap) (n0 : Nat) (v : Option Value) (h : Heap) (L : List Loc) : Prop := ∃ cb : Addr, ∃ kb : ClassId, (v = none) ∧ (Fr n0 L) ∧ (Keep h0 h [po]) ∧ (Exa Z h po "org/ninefold/model/PuzzleText") ∧ (Fd_4 Z h po (.ref cb)) ∧ (Fd_5 Z h po (.long (0 : Int64))) ∧ (Fd_6 Z h po (.long (0 : Int64))) ∧ (Arv Z h cb kb .byte (81 : Int32) (List.replicate 81 (.int 0)) (.int 0)) ∧ (Exa Z h cb "[B") ∧ (n0 ≤ cb) ∧ (h0.size ≤ cb)
theorem rmPI (l : Launch) (Z : State) (a0 : Array Value) (hw : HW a0 Z) (ws : List Jvm.Cond) (po : Addr) (h0 : Heap) (n0 : Nat) (O : Old Z n0 h0) (E_po : Exa Z h0 po "org/ninefold/model/PuzzleText") (F_c : Fd_4 Z h0 po .null) (F_l : Fd_5 Z h0 po (.long (0 : Int64))) (F_u : Fd_6 Z h0 po (.long (0 : Int64))) (g_po : n0 ≤ po) :
    Mt l Z y_7 prog_12_method_1_code 1 none ws rm_rmPI #[(.ref po)] h0 (Q_rmPI Z po h0 n0) := by
 refine own_met "org/ninefold/model/PuzzleText" (plainFor_of_name pn_org_ninefold_model_PuzzleText) #[rv po] (fun m => rfl) (fun p e s m below meth c s₁ Bd hx hby hml hZ hown hnm X0 e0 => ?_)
 have N0 := Fr.nil n0
 have K := Keep.refl h0 [po]
 refine Go.step (S' := s₁.setTop (mkF m 1 #[rv po] [(.ref po)])) (fun t k => ?_) ?_
 · refine XS.aloadN X0.here hx rfl (hb hby d1_0) rfl rfl ?_
   exact k
 obtain ⟨T1, X1, e1, st1⟩ := initO X0 hx hZ hown (own_w hw 6 rfl) (own_w hw 7 rfl) (own_w hw 8 rfl) e0 (g := (mkF m 1 #[rv po] [(.ref po)])) rfl (by rw [hml]; rfl) rfl (hb hby d1_1) (by decide) (W := 0) (by show 2 * 0 + _ ≤ _; exact Nat.le_of_eq rfl) (by decide)
 refine Go.step st1 ?_
 refine Go.step (S' := T1.setTop (mkF m 7 #[rv po] [(.int 81), (.ref po)])) (fun t k => ?_) ?_
 · refine XS.aloadN X1.here hx rfl (hb hby d1_4) rfl rfl ?_
   refine XS.bipush X1.here hx rfl (hb hby d1_5) ?_
   exact k
 obtain ⟨T2, h2, k2, X2, e2, E2, A2, Q2, st2⟩ := newPE X1 hx hZ (own_w hw 9 rfl) e1 (g := (mkF m 7 #[rv po] [(.int 81), (.ref po)])) rfl (hb hby d1_7) rfl (by decide) (cap := 81) (by decide) (by decide) (by decide) (by decide) (ad := "[B") rfl
 obtain ⟨b2, g2⟩ : ∃ z, z = Array.size h0 := ⟨_, rfl⟩
 have g_b2 : n0 ≤ b2 := Nat.le_trans (old_le O) (Nat.le_of_eq g2.symm)
 have sz_b2 : h0.size ≤ b2 := Nat.le_trans K.1 (Nat.le_of_eq g2.symm)
 have ne_po_b2 : po ≠ b2 := Nat.ne_of_lt (Nat.lt_of_lt_of_le E_po.lt (Nat.le_of_eq g2.symm))
 rw [← g2] at A2 Q2 st2
 have O := O.ext E2
 have E_po := E_po.ext E2
 have F_c := F_c.ext E2
 have F_l := F_l.ext E2
 have F_u := F_u.ext E2
 have K := K.ext E2
 have V_b2 : Arv Z h2 b2 k2 .byte (81 : Int32) (List.replicate 81 (.int 0)) (.int 0) := (Arv.new A2 (by decide)).pad (pad_rep [] (.int 0) 81)
 have E_b2 := Q2
 refine Go.step st2 ?_
 obtain ⟨T3, h3, X3, e3, W3, st3⟩ := putF X2 hx hZ hown (host := "") (Or.inl (own_w hw 10 rfl)) Via.refl e2 F_c E_po (Or.inr ⟨(own_w hw 11 rfl), rfl, hnm⟩) (own_w hw 1 rfl) (ty := (.array .byte)) (by decide) rfl rfl (g := (mkF m 9 #[rv po] [(.ref b2), (.ref po)])) rfl rfl (hb hby d1_9)
 have O := O.wr W3 g_po
 have E_po := E_po.wr W3
 have F_c := F_c.same W3
 have F_l := F_l.other W3 (Or.inr (slot_ne (Or.inl (own_w hw 18 rfl)) (Or.inr (own_w hw 11 rfl)) (by decide) (t := .long) (t' := (.array .byte)) (by decide) (by decide)))
 have F_u := F_u.other W3 (Or.inr (slot_ne (Or.inl (own_w hw 28 rfl)) (Or.inr (own_w hw 11 rfl)) (by decide) (t := .long) (t' := (.array .byte)) (by decide) (by decide)))
 have K := K.wr W3 (Or.inl (List.mem_of_getElem? (i := 0) rfl))
 have V_b2 := V_b2.other W3 (Ne.symm ne_po_b2)
 have E_b2 := E_b2.wr W3
 have N3 := Fr.snoc X3 N0 g_po
 refine Go.step st3 ?_
 exact Go.rv X3 hx Bd (hb hby d1_12) e3 ⟨b2, k2, rfl, N3, K, E_po, F_c, F_l, F_u, V_b2, E_b2, g_b2, sz_b2⟩
abbrev y_8 : MethodName := ⟨"org/ninefold/model/PuzzleText", "length", "()J"⟩
theorem d3_0 : decode prog_12_method_3_code 0 = .ok (.aload_n 0, 1) := by decide +kernel
theorem d3_1 : decode prog_12_method_3_code 1 = .ok (.getfield 23, 3) := by decide +kernel
theorem d3_4 : decode prog_12_method_3_code 4 = .ok (.lreturn, 1) := by decide +kernel
abbrev rm_rmPL : Room := ({ frames := 0, cells := 0, slots := 0, locals := 0 } : Room)
def Q_rmPL (Z : State) (po : Addr) (ln : Int64) (h0 : Heap) (n0 : Nat) (v : Option Value) (h : Heap) (L : List Loc) : Prop := (v = some (.long ln)) ∧ (Fr n0 L) ∧ (h = h0)
theorem rmPL (l : Launch) (Z : State) (a0 : Array Value) (hw : HW a0 Z) (ws : List Jvm.Cond) (po : Addr) (ln : Int64) (h0 : Heap) (n0 : Nat) (O : Old Z n0 h0) (F_l : Fd_5 Z h0 po (.long ln)) :
    Mt l Z y_8 prog_12_method_3_code 1 (some .long) ws rm_rmPL #[(.ref po)] h0 (Q_rmPL Z po ln h0 n0) := by
 refine own_met "org/ninefold/model/PuzzleText" (plainFor_of_name pn_org_ninefold_model_PuzzleText) #[rv po] (fun m => rfl) (fun p e s m below meth c s₁ Bd hx hby hml hZ hown hnm X0 e0 => ?_)
 have N0 := Fr.nil n0
 refine Go.step (S' := s₁.setTop (mkF m 1 #[rv po] [(.ref po)])) (fun t k => ?_) ?_
 · refine XS.aloadN X0.here hx rfl (hb hby d3_0) rfl rfl ?_
   exact k
 refine Go.gF X0 hx hZ hown (host := "") (Or.inl (own_w hw 17 rfl)) Via.refl e0 F_l (hb hby d3_1) (fun T1 X1 e1 => ?_)
 exact Go.rt X1 hx Bd (w := (.long ln)) rfl (Or.inr (Or.inl ⟨rfl, rfl, _, rfl⟩)) (hb hby d3_4) e1 ⟨rfl, N0, rfl⟩
abbrev y_9 : MethodName := ⟨"org/ninefold/model/PuzzleText", "digitOf", "(C)I"⟩
theorem d5_0 : decode prog_12_method_6_code 0 = .ok (.iload_n 0, 1) := by decide +kernel
theorem d5_1 : decode prog_12_method_6_code 1 = .ok (.bipush 46, 2) := by decide +kernel
theorem d5_3 : decode prog_12_method_6_code 3 = .ok (.if_icmp .eq 9, 3) := by decide +kernel
theorem d5_12 : decode prog_12_method_6_code 12 = .ok (.iconst 0, 1) := by decide +kernel
theorem d5_13 : decode prog_12_method_6_code 13 = .ok (.ireturn, 1) := by decide +kernel
theorem d5_6 : decode prog_12_method_6_code 6 = .ok (.iload_n 0, 1) := by decide +kernel
theorem d5_7 : decode prog_12_method_6_code 7 = .ok (.bipush 48, 2) := by decide +kernel
theorem d5_9 : decode prog_12_method_6_code 9 = .ok (.if_icmp .ne 5, 3) := by decide +kernel
theorem d5_14 : decode prog_12_method_6_code 14 = .ok (.iload_n 0, 1) := by decide +kernel
theorem d5_15 : decode prog_12_method_6_code 15 = .ok (.bipush 49, 2) := by decide +kernel
theorem d5_17 : decode prog_12_method_6_code 17 = .ok (.if_icmp .lt 16, 3) := by decide +kernel
theorem d5_20 : decode prog_12_method_6_code 20 = .ok (.iload_n 0, 1) := by decide +kernel
theorem d5_21 : decode prog_12_method_6_code 21 = .ok (.bipush 57, 2) := by decide +kernel
theorem d5_23 : decode prog_12_method_6_code 23 = .ok (.if_icmp .gt 10, 3) := by decide +kernel
theorem d5_26 : decode prog_12_method_6_code 26 = .ok (.iload_n 0, 1) := by decide +kernel
theorem d5_27 : decode prog_12_method_6_code 27 = .ok (.bipush 48, 2) := by decide +kernel
theorem d5_29 : decode prog_12_method_6_code 29 = .ok (.isub, 1) := by decide +kernel
theorem d5_30 : decode prog_12_method_6_code 30 = .ok (.goto 4, 3) := by decide +kernel
theorem d5_34 : decode prog_12_method_6_code 34 = .ok (.ireturn, 1) := by decide +kernel
abbrev rm_rmDg : Room := ({ frames := 0, cells := 0, slots := 0, locals := 0 } : Room)
def Q_rmDg (Z : State) (xc : Int32) (dg : Int32) (h0 : Heap) (n0 : Nat) (v : Option Value) (h : Heap) (L : List Loc) : Prop := (v = some (.int dg)) ∧ (Fr n0 L) ∧ (h = h0)
theorem rmDg (l : Launch) (Z : State) (a0 : Array Value) (hw : HW a0 Z) (ws : List Jvm.Cond) (xc : Int32) (dg : Int32) (h0 : Heap) (n0 : Nat) (O : Old Z n0 h0) (hok : own_ok xc) (hdg : own_dg xc = dg) :
    Mt l Z y_9 prog_12_method_6_code 1 (some .int) ws rm_rmDg #[(.int xc)] h0 (Q_rmDg Z xc dg h0 n0) := by
 refine own_met "org/ninefold/model/PuzzleText" (plainFor_of_name pn_org_ninefold_model_PuzzleText) #[iv xc] (fun m => rfl) (fun p e s m below meth c s₁ Bd hx hby hml hZ hown hnm X0 e0 => ?_)
 have N0 := Fr.nil n0
 refine Go.step (S' := s₁.setTop (mkF m 3 #[iv xc] [(.int 46), (.int xc)])) (fun t k => ?_) ?_
 · refine XS.iloadN X0.here hx rfl (hb hby d5_0) rfl ?_
   refine XS.bipush X0.here hx rfl (hb hby d5_1) ?_
   exact k
 by_cases hc3 : xc = (46 : Int32)
 ·skip
  refine Go.step (S' := s₁.setTop (mkF m 13 #[iv xc] [(.int 0)])) (fun t k => ?_) ?_
  · refine XS.icmpYes X0.here hx rfl (pc0 := 3) (pc' := 12) rfl (hb hby d5_3) rfl (teq (hc3 : xc = (46 : Int32))).1 (by decide) (by decide) ?_
    refine XS.iconst X0.here hx rfl (hb hby d5_12) ?_
    exact k
  exact Go.rt X0 hx Bd (w := (.int 0)) rfl (Or.inl ⟨rfl, Or.inl rfl, _, rfl⟩) (hb hby d5_13) e0 ⟨(congrArg (fun z => some (Value.int z)) ((own_dg1 hc3).symm.trans hdg)), N0, rfl⟩
 ·skip
  refine Go.step (S' := s₁.setTop (mkF m 9 #[iv xc] [(.int 48), (.int xc)])) (fun t k => ?_) ?_
  · refine XS.icmpNo X0.here hx rfl (hb hby d5_3) rfl (feq (hc3 : ¬ (xc = (46 : Int32)))).1 ?_
    refine XS.iloadN X0.here hx rfl (hb hby d5_6) rfl ?_
    refine XS.bipush X0.here hx rfl (hb hby d5_7) ?_
    exact k
  by_cases hc9 : xc = (48 : Int32)
  ·skip
   refine Go.step (S' := s₁.setTop (mkF m 13 #[iv xc] [(.int 0)])) (fun t k => ?_) ?_
   · refine XS.icmpNo X0.here hx rfl (hb hby d5_9) rfl (teq (hc9 : xc = (48 : Int32))).2 ?_
     refine XS.iconst X0.here hx rfl (hb hby d5_12) ?_
     exact k
   exact Go.rt X0 hx Bd (w := (.int 0)) rfl (Or.inl ⟨rfl, Or.inl rfl, _, rfl⟩) (hb hby d5_13) e0 ⟨(congrArg (fun z => some (Value.int z)) ((own_dg2 hc9).symm.trans hdg)), N0, rfl⟩
  ·skip
   refine Go.step (S' := s₁.setTop (mkF m 17 #[iv xc] [(.int 49), (.int xc)])) (fun t k => ?_) ?_
   · refine XS.icmpYes X0.here hx rfl (pc0 := 9) (pc' := 14) rfl (hb hby d5_9) rfl (feq (hc9 : ¬ (xc = (48 : Int32)))).2 (by decide) (by decide) ?_
     refine XS.iloadN X0.here hx rfl (hb hby d5_14) rfl ?_
     refine XS.bipush X0.here hx rfl (hb hby d5_15) ?_
     exact k
   by_cases hc17 : xc < (49 : Int32)
   ·skip
    exact absurd hc17 (own_ok1 hok hc3 hc9)
   ·skip
    refine Go.step (S' := s₁.setTop (mkF m 23 #[iv xc] [(.int 57), (.int xc)])) (fun t k => ?_) ?_
    · refine XS.icmpNo X0.here hx rfl (hb hby d5_17) rfl (flt (hc17 : ¬ (xc < (49 : Int32)))).1 ?_
      refine XS.iloadN X0.here hx rfl (hb hby d5_20) rfl ?_
      refine XS.bipush X0.here hx rfl (hb hby d5_21) ?_
      exact k
    by_cases hc23 : (57 : Int32) < xc
    ·skip
     exact absurd hc23 (own_ok2 hok hc3)
    ·skip
     refine Go.step (S' := s₁.setTop (mkF m 34 #[iv xc] [(.int (xc - (48 : Int32)))])) (fun t k => ?_) ?_
     · refine XS.icmpNo X0.here hx rfl (hb hby d5_23) rfl (flt (hc23 : ¬ ((57 : Int32) < xc))).2.2.1 ?_
       refine XS.iloadN X0.here hx rfl (hb hby d5_26) rfl ?_
       refine XS.bipush X0.here hx rfl (hb hby d5_27) ?_
       refine XS.isub X0.here hx rfl (hb hby d5_29) rfl ?_
       refine XS.goto X0.here hx rfl (pc0 := 30) (pc' := 34) rfl (hb hby d5_30) (by decide) (by decide) ?_
       exact k
     exact Go.rt X0 hx Bd (w := (.int (xc - (48 : Int32)))) rfl (Or.inl ⟨rfl, Or.inl rfl, _, rfl⟩) (hb hby d5_34) e0 ⟨(congrArg (fun z => some (Value.int z)) ((own_dg3 hc3 hc9).symm.trans hdg)), N0, rfl⟩
theorem d5_33 : decode prog_12_method_6_code 33 = .ok (.iconst (-1), 1) := by decide +kernel
abbrev rm_rmDa : Room := ({ frames := 0, cells := 0, slots := 0, locals := 0 } : Room)
def Q_rmDa (Z : State) (xc : Int32) (h0 : Heap) (n0 : Nat) (v : Option Value) (h : Heap) (L : List Loc) : Prop := ∃ r : Int32, (v = some (.int r)) ∧ (Fr n0 L) ∧ (h = h0)
theorem rmDa (l : Launch) (Z : State) (a0 : Array Value) (hw : HW a0 Z) (ws : List Jvm.Cond) (xc : Int32) (h0 : Heap) (n0 : Nat) (O : Old Z n0 h0) :
    Mt l Z y_9 prog_12_method_6_code 1 (some .int) ws rm_rmDa #[(.int xc)] h0 (Q_rmDa Z xc h0 n0) := by
 refine own_met "org/ninefold/model/PuzzleText" (plainFor_of_name pn_org_ninefold_model_PuzzleText) #[iv xc] (fun m => rfl) (fun p e s m below meth c s₁ Bd hx hby hml hZ hown hnm X0 e0 => ?_)
 have N0 := Fr.nil n0
 refine Go.step (S' := s₁.setTop (mkF m 3 #[iv xc] [(.int 46), (.int xc)])) (fun t k => ?_) ?_
 · refine XS.iloadN X0.here hx rfl (hb hby d5_0) rfl ?_
   refine XS.bipush X0.here hx rfl (hb hby d5_1) ?_
   exact k
 by_cases hc3 : xc = (46 : Int32)
 ·skip
  refine Go.step (S' := s₁.setTop (mkF m 13 #[iv xc] [(.int 0)])) (fun t k => ?_) ?_
  · refine XS.icmpYes X0.here hx rfl (pc0 := 3) (pc' := 12) rfl (hb hby d5_3) rfl (teq (hc3 : xc = (46 : Int32))).1 (by decide) (by decide) ?_
    refine XS.iconst X0.here hx rfl (hb hby d5_12) ?_
    exact k
  exact Go.rt X0 hx Bd (w := (.int 0)) rfl (Or.inl ⟨rfl, Or.inl rfl, _, rfl⟩) (hb hby d5_13) e0 ⟨(0 : Int32), rfl, N0, rfl⟩
 ·skip
  refine Go.step (S' := s₁.setTop (mkF m 9 #[iv xc] [(.int 48), (.int xc)])) (fun t k => ?_) ?_
  · refine XS.icmpNo X0.here hx rfl (hb hby d5_3) rfl (feq (hc3 : ¬ (xc = (46 : Int32)))).1 ?_
    refine XS.iloadN X0.here hx rfl (hb hby d5_6) rfl ?_
    refine XS.bipush X0.here hx rfl (hb hby d5_7) ?_
    exact k
  by_cases hc9 : xc = (48 : Int32)
  ·skip
   refine Go.step (S' := s₁.setTop (mkF m 13 #[iv xc] [(.int 0)])) (fun t k => ?_) ?_
   · refine XS.icmpNo X0.here hx rfl (hb hby d5_9) rfl (teq (hc9 : xc = (48 : Int32))).2 ?_
     refine XS.iconst X0.here hx rfl (hb hby d5_12) ?_
     exact k
   exact Go.rt X0 hx Bd (w := (.int 0)) rfl (Or.inl ⟨rfl, Or.inl rfl, _, rfl⟩) (hb hby d5_13) e0 ⟨(0 : Int32), rfl, N0, rfl⟩
  ·skip
   refine Go.step (S' := s₁.setTop (mkF m 17 #[iv xc] [(.int 49), (.int xc)])) (fun t k => ?_) ?_
   · refine XS.icmpYes X0.here hx rfl (pc0 := 9) (pc' := 14) rfl (hb hby d5_9) rfl (feq (hc9 : ¬ (xc = (48 : Int32)))).2 (by decide) (by decide) ?_
     refine XS.iloadN X0.here hx rfl (hb hby d5_14) rfl ?_
     refine XS.bipush X0.here hx rfl (hb hby d5_15) ?_
     exact k
   by_cases hc17 : xc < (49 : Int32)
   ·skip
    refine Go.step (S' := s₁.setTop (mkF m 34 #[iv xc] [(.int (-1))])) (fun t k => ?_) ?_
    · refine XS.icmpYes X0.here hx rfl (pc0 := 17) (pc' := 33) rfl (hb hby d5_17) rfl (tlt (hc17 : xc < (49 : Int32))).1 (by decide) (by decide) ?_
      refine XS.iconst X0.here hx rfl (hb hby d5_33) ?_
      exact k
    exact Go.rt X0 hx Bd (w := (.int (-1))) rfl (Or.inl ⟨rfl, Or.inl rfl, _, rfl⟩) (hb hby d5_34) e0 ⟨(-1 : Int32), rfl, N0, rfl⟩
   ·skip
    refine Go.step (S' := s₁.setTop (mkF m 23 #[iv xc] [(.int 57), (.int xc)])) (fun t k => ?_) ?_
    · refine XS.icmpNo X0.here hx rfl (hb hby d5_17) rfl (flt (hc17 : ¬ (xc < (49 : Int32)))).1 ?_
      refine XS.iloadN X0.here hx rfl (hb hby d5_20) rfl ?_
      refine XS.bipush X0.here hx rfl (hb hby d5_21) ?_
      exact k
    by_cases hc23 : (57 : Int32) < xc
    ·skip
     refine Go.step (S' := s₁.setTop (mkF m 34 #[iv xc] [(.int (-1))])) (fun t k => ?_) ?_
     · refine XS.icmpYes X0.here hx rfl (pc0 := 23) (pc' := 33) rfl (hb hby d5_23) rfl (tlt (hc23 : (57 : Int32) < xc)).2.2.1 (by decide) (by decide) ?_
       refine XS.iconst X0.here hx rfl (hb hby d5_33) ?_
       exact k
     exact Go.rt X0 hx Bd (w := (.int (-1))) rfl (Or.inl ⟨rfl, Or.inl rfl, _, rfl⟩) (hb hby d5_34) e0 ⟨(-1 : Int32), rfl, N0, rfl⟩
    ·skip
     refine Go.step (S' := s₁.setTop (mkF m 34 #[iv xc] [(.int (xc - (48 : Int32)))])) (fun t k => ?_) ?_
     · refine XS.icmpNo X0.here hx rfl (hb hby d5_23) rfl (flt (hc23 : ¬ ((57 : Int32) < xc))).2.2.1 ?_
       refine XS.iloadN X0.here hx rfl (hb hby d5_26) rfl ?_
       refine XS.bipush X0.here hx rfl (hb hby d5_27) ?_
       refine XS.isub X0.here hx rfl (hb hby d5_29) rfl ?_
       refine XS.goto X0.here hx rfl (pc0 := 30) (pc' := 34) rfl (hb hby d5_30) (by decide) (by decide) ?_
       exact k
     exact Go.rt X0 hx Bd (w := (.int (xc - (48 : Int32)))) rfl (Or.inl ⟨rfl, Or.inl rfl, _, rfl⟩) (hb hby d5_34) e0 ⟨(xc - (48 : Int32)), rfl, N0, rfl⟩
abbrev y_10 : MethodName := ⟨"org/ninefold/model/PuzzleText", "append", "(C)Lorg/ninefold/model/PuzzleText;"⟩
theorem d4_0 : decode prog_12_method_2_code 0 = .ok (.iload_n 1, 1) := by decide +kernel
theorem d4_1 : decode prog_12_method_2_code 1 = .ok (.invokestatic 15, 3) := by decide +kernel
theorem pd__28C_29I : parseMethodDescriptor "(C)I" = some ⟨[.char], some .int⟩ := by decide +kernel
theorem d4_4 : decode prog_12_method_2_code 4 = .ok (.istore_n 2, 1) := by decide +kernel
theorem d4_5 : decode prog_12_method_2_code 5 = .ok (.iload_n 2, 1) := by decide +kernel
theorem d4_6 : decode prog_12_method_2_code 6 = .ok (.ifCond .ge 22, 3) := by decide +kernel
theorem d4_28 : decode prog_12_method_2_code 28 = .ok (.aload_n 0, 1) := by decide +kernel
theorem d4_29 : decode prog_12_method_2_code 29 = .ok (.getfield 23, 3) := by decide +kernel
theorem d4_32 : decode prog_12_method_2_code 32 = .ok (.ldc2_w 26, 3) := by decide +kernel
theorem d4_35 : decode prog_12_method_2_code 35 = .ok (.lcmp, 1) := by decide +kernel
theorem d4_36 : decode prog_12_method_2_code 36 = .ok (.ifCond .ge 15, 3) := by decide +kernel
theorem d4_39 : decode prog_12_method_2_code 39 = .ok (.aload_n 0, 1) := by decide +kernel
theorem d4_40 : decode prog_12_method_2_code 40 = .ok (.getfield 9, 3) := by decide +kernel
theorem d4_43 : decode prog_12_method_2_code 43 = .ok (.aload_n 0, 1) := by decide +kernel
theorem d4_44 : decode prog_12_method_2_code 44 = .ok (.getfield 23, 3) := by decide +kernel
theorem d4_47 : decode prog_12_method_2_code 47 = .ok (.l2i, 1) := by decide +kernel
theorem d4_48 : decode prog_12_method_2_code 48 = .ok (.iload_n 2, 1) := by decide +kernel
theorem d4_49 : decode prog_12_method_2_code 49 = .ok (.i2b, 1) := by decide +kernel
theorem d4_50 : decode prog_12_method_2_code 50 = .ok (.bastore, 1) := by decide +kernel
theorem d4_51 : decode prog_12_method_2_code 51 = .ok (.aload_n 0, 1) := by decide +kernel
theorem d4_52 : decode prog_12_method_2_code 52 = .ok (.dup, 1) := by decide +kernel
theorem d4_53 : decode prog_12_method_2_code 53 = .ok (.getfield 23, 3) := by decide +kernel
theorem d4_56 : decode prog_12_method_2_code 56 = .ok (.lconst 1, 1) := by decide +kernel
theorem d4_57 : decode prog_12_method_2_code 57 = .ok (.ladd, 1) := by decide +kernel
theorem d4_58 : decode prog_12_method_2_code 58 = .ok (.putfield 23, 3) := by decide +kernel
theorem d4_61 : decode prog_12_method_2_code 61 = .ok (.aload_n 0, 1) := by decide +kernel
theorem d4_62 : decode prog_12_method_2_code 62 = .ok (.areturn, 1) := by decide +kernel
abbrev rm_rmAp : Room := ({ frames := 1, cells := 0, slots := 0, locals := 12 } : Room)
def Q_rmAp (Z : State) (po : Addr) (xc : Int32) (cb : Addr) (kb : ClassId) (ln : Int64) (ix : Int32) (dg : Int32) (vs : List Value) (h0 : Heap) (n0 : Nat) (v : Option Value) (h : Heap) (L : List Loc) : Prop := (v = some (.ref po)) ∧ (Fr n0 L) ∧ (Keep h0 h [po, cb]) ∧ (Exa Z h po "org/ninefold/model/PuzzleText") ∧ (Fd_4 Z h po (.ref cb)) ∧ (Fd_5 Z h po (.long (ln + (1 : Int64)))) ∧ (Fd_6 Z h po (.long (0 : Int64))) ∧ (Arv Z h cb kb .byte (81 : Int32) (vs.set ix.toNatClampNeg (.int dg)) (.int 0)) ∧ (Exa Z h cb "[B")
theorem rmAp (l : Launch) (Z : State) (a0 : Array Value) (hw : HW a0 Z) (ws : List Jvm.Cond) (po : Addr) (xc : Int32) (cb : Addr) (kb : ClassId) (ln : Int64) (ix : Int32) (dg : Int32) (vs : List Value) (h0 : Heap) (n0 : Nat) (O : Old Z n0 h0) (E_po : Exa Z h0 po "org/ninefold/model/PuzzleText") (F_c : Fd_4 Z h0 po (.ref cb)) (F_l : Fd_5 Z h0 po (.long ln)) (F_u : Fd_6 Z h0 po (.long (0 : Int64))) (V_cb : Arv Z h0 cb kb .byte (81 : Int32) vs (.int 0)) (E_cb : Exa Z h0 cb "[B") (g_po : n0 ≤ po) (g_cb : n0 ≤ cb) (ne_po_cb : po ≠ cb) (hok : own_ok xc) (hdg : own_dg xc = dg) (hdn : ¬ (dg < (0 : Int32))) (hd8 : (dg.toInt8.toInt32) = dg) (hln : ln < (81 : Int64)) (hix : (ln.toInt32) = ix) (hvl : ix.toNatClampNeg < vs.length) (ia : ¬ (ix < (0 : Int32))) (ib : ix < (81 : Int32)) :
    Mt l Z y_10 prog_12_method_2_code 3 (some (.object "org/ninefold/model/PuzzleText")) ws rm_rmAp #[(.ref po), (.int xc)] h0 (Q_rmAp Z po xc cb kb ln ix dg vs h0 n0) := by
 refine own_met "org/ninefold/model/PuzzleText" (plainFor_of_name pn_org_ninefold_model_PuzzleText) #[rv po, iv xc, u_] (fun m => rfl) (fun p e s m below meth c s₁ Bd hx hby hml hZ hown hnm X0 e0 => ?_)
 have N0 := Fr.nil n0
 have K := Keep.refl h0 [po, cb]
 refine Go.step (S' := s₁.setTop (mkF m 1 #[rv po, iv xc, u_] [(.int xc)])) (fun t k => ?_) ?_
 · refine XS.iloadN X0.here hx rfl (hb hby d4_0) rfl ?_
   exact k
 refine Go.cS X0 hx hml hown hZ (own_w hw 24 rfl) (own_w hw 25 rfl) (own_w hw 2 rfl) (own_w hw 26 rfl) (rmDg l Z a0 hw [] xc dg h0 n0 O (by assumption) hdg) 0 [] pd__28C_29I (hb hby d4_1) e0 (fun _ T1 L1 X1 hQ1 => ?_)
 obtain ⟨rfl, Nq1, e1⟩ := hQ1
 have N1 := Fr.app N0 Nq1
 refine Go.step (S' := T1.setTop (mkF m 29 #[rv po, iv xc, iv dg] [(.ref po)])) (fun t k => ?_) ?_
 · refine XS.istoreN X1.here hx rfl (hb hby d4_4) rfl (l' := #[rv po, iv xc, iv dg]) rfl ?_
   refine XS.iloadN X1.here hx rfl (hb hby d4_5) rfl ?_
   refine XS.ifYes X1.here hx rfl (pc0 := 6) (pc' := 28) rfl (hb hby d4_6) rfl ((if0 _ _).trans (flt (hdn : ¬ (dg < (0 : Int32)))).2.1) (by decide) (by decide) ?_
   refine XS.aloadN X1.here hx rfl (hb hby d4_28) rfl rfl ?_
   exact k
 refine Go.gF X1 hx hZ hown (host := "") (Or.inl (own_w hw 17 rfl)) Via.refl e1 F_l (hb hby d4_29) (fun T2 X2 e2 => ?_)
 refine Go.step (S' := T2.setTop (mkF m 40 #[rv po, iv xc, iv dg] [(.ref po)])) (fun t k => ?_) ?_
 · refine X2.ldc2Long hx hown (mvT hZ (own_w hw 29 rfl)) (g := (mkF m 32 #[rv po, iv xc, iv dg] [(.long ln)])) rfl (hb hby d4_32) _ ?_
   refine XS.lcmp X2.here hx rfl (hb hby d4_35) rfl ?_
   refine XS.ifNo X2.here hx rfl (hb hby d4_36) rfl ((if0 _ _).trans (tlt ((lw_lt ln (81 : Int64)).mpr hln)).2.1) ?_
   refine XS.aloadN X2.here hx rfl (hb hby d4_39) rfl rfl ?_
   exact k
 refine Go.gF X2 hx hZ hown (host := "") (Or.inl (own_w hw 10 rfl)) Via.refl e2 F_c (hb hby d4_40) (fun T3 X3 e3 => ?_)
 refine Go.step (S' := T3.setTop (mkF m 44 #[rv po, iv xc, iv dg] [(.ref po), (.ref cb)])) (fun t k => ?_) ?_
 · refine XS.aloadN X3.here hx rfl (hb hby d4_43) rfl rfl ?_
   exact k
 refine Go.gF X3 hx hZ hown (host := "") (Or.inl (own_w hw 17 rfl)) Via.refl e3 F_l (hb hby d4_44) (fun T4 X4 e4 => ?_)
 refine Go.step (S' := T4.setTop (mkF m 48 #[rv po, iv xc, iv dg] [(.int (ln.toInt32)), (.ref cb)])) (fun t k => ?_) ?_
 · refine XS.l2i X4.here hx rfl (hb hby d4_47) rfl ?_
   exact k
 rw [(hix : (ln.toInt32) = ix)]
 show Go p e below _ (T4.setTop (mkF m 48 #[rv po, iv xc, iv dg] [(.int ix), (.ref cb)]))
 refine Go.step (S' := T4.setTop (mkF m 50 #[rv po, iv xc, iv dg] [(.int (dg.toInt8.toInt32)), (.int ix), (.ref cb)])) (fun t k => ?_) ?_
 · refine XS.iloadN X4.here hx rfl (hb hby d4_48) rfl ?_
   refine XS.i2b X4.here hx rfl (hb hby d4_49) rfl ?_
   exact k
 refine Go.bst X4 hx hZ e4 V_cb (hb hby d4_50) ⟨ia, ib⟩ hvl (fun T5 h5 X5 e5 W5 V5 => ?_)
 have O := O.wr W5 g_cb
 have E_po := E_po.wr W5
 have F_c := F_c.other W5 (Or.inl ne_po_cb)
 have F_l := F_l.other W5 (Or.inl ne_po_cb)
 have F_u := F_u.other W5 (Or.inl ne_po_cb)
 have E_cb := E_cb.wr W5
 have K := K.wr W5 (Or.inl (List.mem_of_getElem? (i := 1) rfl))
 have V_cb : Arv Z h5 cb kb .byte (81 : Int32) (vs.set ix.toNatClampNeg (.int dg)) (.int 0) := (show Value.int (nar .byte _) = .int dg from congrArg Value.int ((own_b2 _).trans hd8)) ▸ V5
 have N5 := Fr.snoc X5 N1 g_cb
 refine Go.step (S' := T5.setTop (mkF m 53 #[rv po, iv xc, iv dg] [(.ref po), (.ref po)])) (fun t k => ?_) ?_
 · refine XS.aloadN X5.here hx rfl (hb hby d4_51) rfl rfl ?_
   refine XS.dup X5.here hx rfl (hb hby d4_52) rfl rfl ?_
   exact k
 refine Go.gF X5 hx hZ hown (host := "") (Or.inl (own_w hw 17 rfl)) Via.refl e5 F_l (hb hby d4_53) (fun T6 X6 e6 => ?_)
 refine Go.step (S' := T6.setTop (mkF m 58 #[rv po, iv xc, iv dg] [(.long (ln + (1 : Int64))), (.ref po)])) (fun t k => ?_) ?_
 · refine XS.lconst X6.here hx rfl (hb hby d4_56) ?_
   refine XS.ladd X6.here hx rfl (hb hby d4_57) rfl ?_
   exact k
 obtain ⟨T7, h7, X7, e7, W7, st7⟩ := putF X6 hx hZ hown (host := "") (Or.inl (own_w hw 17 rfl)) Via.refl e6 F_l E_po (Or.inl (own_w hw 18 rfl)) (own_w hw 1 rfl) (ty := .long) (by decide) rfl rfl (g := (mkF m 58 #[rv po, iv xc, iv dg] [(.long (ln + (1 : Int64))), (.ref po)])) rfl rfl (hb hby d4_58)
 have O := O.wr W7 g_po
 have E_po := E_po.wr W7
 have F_c := F_c.other W7 (Or.inr (slot_ne (Or.inr (own_w hw 11 rfl)) (Or.inl (own_w hw 18 rfl)) (by decide) (t := (.array .byte)) (t' := .long) (by decide) (by decide)))
 have F_l := F_l.same W7
 have F_u := F_u.other W7 (Or.inr (slot_ne (Or.inl (own_w hw 28 rfl)) (Or.inl (own_w hw 18 rfl)) (by decide) (t := .long) (t' := .long) (by decide) (by decide)))
 have V_cb := V_cb.other W7 (Ne.symm ne_po_cb)
 have E_cb := E_cb.wr W7
 have K := K.wr W7 (Or.inl (List.mem_of_getElem? (i := 0) rfl))
 have N7 := Fr.snoc X7 N5 g_po
 refine Go.step st7 ?_
 refine Go.step (S' := T7.setTop (mkF m 62 #[rv po, iv xc, iv dg] [(.ref po)])) (fun t k => ?_) ?_
 · refine XS.aloadN X7.here hx rfl (hb hby d4_61) rfl rfl ?_
   exact k
 exact Go.rt X7 hx Bd (w := (.ref po)) rfl (Or.inr (Or.inr (Or.inr (Or.inr ⟨rfl, rfl, rfl⟩)))) (hb hby d4_62) e7 ⟨rfl, N7, K, E_po, F_c, F_l, F_u, V_cb, E_cb⟩
theorem d4_9 : decode prog_12_method_2_code 9 = .ok (.aload_n 0, 1) := by decide +kernel
theorem d4_10 : decode prog_12_method_2_code 10 = .ok (.getfield 19, 3) := by decide +kernel
theorem d4_13 : decode prog_12_method_2_code 13 = .ok (.lconst 0, 1) := by decide +kernel
theorem d4_14 : decode prog_12_method_2_code 14 = .ok (.lcmp, 1) := by decide +kernel
theorem d4_15 : decode prog_12_method_2_code 15 = .ok (.ifCond .ne 13, 3) := by decide +kernel
theorem d4_18 : decode prog_12_method_2_code 18 = .ok (.aload_n 0, 1) := by decide +kernel
theorem d4_19 : decode prog_12_method_2_code 19 = .ok (.aload_n 0, 1) := by decide +kernel
theorem d4_20 : decode prog_12_method_2_code 20 = .ok (.getfield 23, 3) := by decide +kernel
theorem d4_23 : decode prog_12_method_2_code 23 = .ok (.lconst 1, 1) := by decide +kernel
theorem d4_24 : decode prog_12_method_2_code 24 = .ok (.ladd, 1) := by decide +kernel
theorem d4_25 : decode prog_12_method_2_code 25 = .ok (.putfield 19, 3) := by decide +kernel
abbrev rm_rmAa0 : Room := ({ frames := 1, cells := 0, slots := 0, locals := 12 } : Room)
def Q_rmAa0 (Z : State) (po : Addr) (xc : Int32) (cb : Addr) (kb : ClassId) (uc : Int64) (vs : List Value) (h0 : Heap) (n0 : Nat) (v : Option Value) (h : Heap) (L : List Loc) : Prop := ∃ ud : Int64, ∃ vt : List Value, (v = some (.ref po)) ∧ (Fr n0 L) ∧ (Keep h0 h [po, cb]) ∧ (Exa Z h po "org/ninefold/model/PuzzleText") ∧ (Fd_4 Z h po (.ref cb)) ∧ (Fd_5 Z h po (.long (1 : Int64))) ∧ (Fd_6 Z h po (.long ud)) ∧ (Arv Z h cb kb .byte (81 : Int32) vt (.int 0)) ∧ (Exa Z h cb "[B") ∧ (vt.length = 81)
theorem rmAa0 (l : Launch) (Z : State) (a0 : Array Value) (hw : HW a0 Z) (ws : List Jvm.Cond) (po : Addr) (xc : Int32) (cb : Addr) (kb : ClassId) (uc : Int64) (vs : List Value) (h0 : Heap) (n0 : Nat) (O : Old Z n0 h0) (E_po : Exa Z h0 po "org/ninefold/model/PuzzleText") (F_c : Fd_4 Z h0 po (.ref cb)) (F_l : Fd_5 Z h0 po (.long (0 : Int64))) (F_u : Fd_6 Z h0 po (.long uc)) (V_cb : Arv Z h0 cb kb .byte (81 : Int32) vs (.int 0)) (E_cb : Exa Z h0 cb "[B") (g_po : n0 ≤ po) (g_cb : n0 ≤ cb) (ne_po_cb : po ≠ cb) (hvl : vs.length = 81) :
    Mt l Z y_10 prog_12_method_2_code 3 (some (.object "org/ninefold/model/PuzzleText")) ws rm_rmAa0 #[(.ref po), (.int xc)] h0 (Q_rmAa0 Z po xc cb kb uc vs h0 n0) := by
 refine own_met "org/ninefold/model/PuzzleText" (plainFor_of_name pn_org_ninefold_model_PuzzleText) #[rv po, iv xc, u_] (fun m => rfl) (fun p e s m below meth c s₁ Bd hx hby hml hZ hown hnm X0 e0 => ?_)
 have N0 := Fr.nil n0
 have K := Keep.refl h0 [po, cb]
 refine Go.step (S' := s₁.setTop (mkF m 1 #[rv po, iv xc, u_] [(.int xc)])) (fun t k => ?_) ?_
 · refine XS.iloadN X0.here hx rfl (hb hby d4_0) rfl ?_
   exact k
 refine Go.cS X0 hx hml hown hZ (own_w hw 24 rfl) (own_w hw 25 rfl) (own_w hw 2 rfl) (own_w hw 26 rfl) (rmDa l Z a0 hw [] xc h0 n0 O ) 0 [] pd__28C_29I (hb hby d4_1) e0 (fun _ T1 L1 X1 hQ1 => ?_)
 obtain ⟨r_1, rfl, Nq1, e1⟩ := hQ1
 have N1 := Fr.app N0 Nq1
 refine Go.step (S' := T1.setTop (mkF m 6 #[rv po, iv xc, iv r_1] [(.int r_1)])) (fun t k => ?_) ?_
 · refine XS.istoreN X1.here hx rfl (hb hby d4_4) rfl (l' := #[rv po, iv xc, iv r_1]) rfl ?_
   refine XS.iloadN X1.here hx rfl (hb hby d4_5) rfl ?_
   exact k
 by_cases hc6 : r_1 < (0 : Int32)
 ·skip
  refine Go.step (S' := T1.setTop (mkF m 10 #[rv po, iv xc, iv r_1] [(.ref po)])) (fun t k => ?_) ?_
  · refine XS.ifNo X1.here hx rfl (hb hby d4_6) rfl ((if0 _ _).trans (tlt (hc6 : r_1 < (0 : Int32))).2.1) ?_
    refine XS.aloadN X1.here hx rfl (hb hby d4_9) rfl rfl ?_
    exact k
  refine Go.gF X1 hx hZ hown (host := "") (Or.inl (own_w hw 27 rfl)) Via.refl e1 F_u (hb hby d4_10) (fun T2 X2 e2 => ?_)
  refine Go.step (S' := T2.setTop (mkF m 15 #[rv po, iv xc, iv r_1] [(.int (lcmpW uc (0 : Int64)))])) (fun t k => ?_) ?_
  · refine XS.lconst X2.here hx rfl (hb hby d4_13) ?_
    refine XS.lcmp X2.here hx rfl (hb hby d4_14) rfl ?_
    exact k
  by_cases hc15 : uc = (0 : Int64)
  ·skip
   refine Go.step (S' := T2.setTop (mkF m 20 #[rv po, iv xc, iv r_1] [(.ref po), (.ref po)])) (fun t k => ?_) ?_
   · refine XS.ifNo X2.here hx rfl (hb hby d4_15) rfl ((if0 _ _).trans (teq ((lw_eq uc (0 : Int64)).mpr hc15)).2) ?_
     refine XS.aloadN X2.here hx rfl (hb hby d4_18) rfl rfl ?_
     refine XS.aloadN X2.here hx rfl (hb hby d4_19) rfl rfl ?_
     exact k
   refine Go.gF X2 hx hZ hown (host := "") (Or.inl (own_w hw 17 rfl)) Via.refl e2 F_l (hb hby d4_20) (fun T3 X3 e3 => ?_)
   refine Go.step (S' := T3.setTop (mkF m 25 #[rv po, iv xc, iv r_1] [(.long (1 : Int64)), (.ref po)])) (fun t k => ?_) ?_
   · refine XS.lconst X3.here hx rfl (hb hby d4_23) ?_
     refine XS.ladd X3.here hx rfl (hb hby d4_24) rfl ?_
     exact k
   obtain ⟨T4, h4, X4, e4, W4, st4⟩ := putF X3 hx hZ hown (host := "") (Or.inl (own_w hw 27 rfl)) Via.refl e3 F_u E_po (Or.inl (own_w hw 28 rfl)) (own_w hw 1 rfl) (ty := .long) (by decide) rfl rfl (g := (mkF m 25 #[rv po, iv xc, iv r_1] [(.long (1 : Int64)), (.ref po)])) rfl rfl (hb hby d4_25)
   have O := O.wr W4 g_po
   have E_po := E_po.wr W4
   have F_c := F_c.other W4 (Or.inr (slot_ne (Or.inr (own_w hw 11 rfl)) (Or.inl (own_w hw 28 rfl)) (by decide) (t := (.array .byte)) (t' := .long) (by decide) (by decide)))
   have F_l := F_l.other W4 (Or.inr (slot_ne (Or.inl (own_w hw 18 rfl)) (Or.inl (own_w hw 28 rfl)) (by decide) (t := .long) (t' := .long) (by decide) (by decide)))
   have F_u := F_u.same W4
   have V_cb := V_cb.other W4 (Ne.symm ne_po_cb)
   have E_cb := E_cb.wr W4
   have K := K.wr W4 (Or.inl (List.mem_of_getElem? (i := 0) rfl))
   have N4 := Fr.snoc X4 N1 g_po
   refine Go.step st4 ?_
   refine Go.step (S' := T4.setTop (mkF m 29 #[rv po, iv xc, iv r_1] [(.ref po)])) (fun t k => ?_) ?_
   · refine XS.aloadN X4.here hx rfl (hb hby d4_28) rfl rfl ?_
     exact k
   refine Go.gF X4 hx hZ hown (host := "") (Or.inl (own_w hw 17 rfl)) Via.refl e4 F_l (hb hby d4_29) (fun T5 X5 e5 => ?_)
   refine Go.step (S' := T5.setTop (mkF m 40 #[rv po, iv xc, iv r_1] [(.ref po)])) (fun t k => ?_) ?_
   · refine X5.ldc2Long hx hown (mvT hZ (own_w hw 29 rfl)) (g := (mkF m 32 #[rv po, iv xc, iv r_1] [(.long (0 : Int64))])) rfl (hb hby d4_32) _ ?_
     refine XS.lcmp X5.here hx rfl (hb hby d4_35) rfl ?_
     refine XS.ifNo X5.here hx rfl (hb hby d4_36) rfl ((if0 _ _).trans (tlt ((lw_lt (0 : Int64) (81 : Int64)).mpr (by decide))).2.1) ?_
     refine XS.aloadN X5.here hx rfl (hb hby d4_39) rfl rfl ?_
     exact k
   refine Go.gF X5 hx hZ hown (host := "") (Or.inl (own_w hw 10 rfl)) Via.refl e5 F_c (hb hby d4_40) (fun T6 X6 e6 => ?_)
   refine Go.step (S' := T6.setTop (mkF m 44 #[rv po, iv xc, iv r_1] [(.ref po), (.ref cb)])) (fun t k => ?_) ?_
   · refine XS.aloadN X6.here hx rfl (hb hby d4_43) rfl rfl ?_
     exact k
   refine Go.gF X6 hx hZ hown (host := "") (Or.inl (own_w hw 17 rfl)) Via.refl e6 F_l (hb hby d4_44) (fun T7 X7 e7 => ?_)
   refine Go.step (S' := T7.setTop (mkF m 50 #[rv po, iv xc, iv r_1] [(.int (r_1.toInt8.toInt32)), (.int 0), (.ref cb)])) (fun t k => ?_) ?_
   · refine XS.l2i X7.here hx rfl (hb hby d4_47) rfl ?_
     refine XS.iloadN X7.here hx rfl (hb hby d4_48) rfl ?_
     refine XS.i2b X7.here hx rfl (hb hby d4_49) rfl ?_
     exact k
   refine Go.bst X7 hx hZ e7 V_cb (hb hby d4_50) ⟨by decide, by decide⟩ (by rw [hvl]; decide) (fun T8 h8 X8 e8 W8 V8 => ?_)
   have O := O.wr W8 g_cb
   have E_po := E_po.wr W8
   have F_c := F_c.other W8 (Or.inl ne_po_cb)
   have F_l := F_l.other W8 (Or.inl ne_po_cb)
   have F_u := F_u.other W8 (Or.inl ne_po_cb)
   have E_cb := E_cb.wr W8
   have K := K.wr W8 (Or.inl (List.mem_of_getElem? (i := 1) rfl))
   have V_cb : Arv Z h8 cb kb .byte (81 : Int32) (vs.set ((0 : Int32)).toNatClampNeg (.int (nar .byte (r_1.toInt8.toInt32)))) (.int 0) := id V8
   have N8 := Fr.snoc X8 N4 g_cb
   refine Go.step (S' := T8.setTop (mkF m 53 #[rv po, iv xc, iv r_1] [(.ref po), (.ref po)])) (fun t k => ?_) ?_
   · refine XS.aloadN X8.here hx rfl (hb hby d4_51) rfl rfl ?_
     refine XS.dup X8.here hx rfl (hb hby d4_52) rfl rfl ?_
     exact k
   refine Go.gF X8 hx hZ hown (host := "") (Or.inl (own_w hw 17 rfl)) Via.refl e8 F_l (hb hby d4_53) (fun T9 X9 e9 => ?_)
   refine Go.step (S' := T9.setTop (mkF m 58 #[rv po, iv xc, iv r_1] [(.long (1 : Int64)), (.ref po)])) (fun t k => ?_) ?_
   · refine XS.lconst X9.here hx rfl (hb hby d4_56) ?_
     refine XS.ladd X9.here hx rfl (hb hby d4_57) rfl ?_
     exact k
   obtain ⟨T10, h10, X10, e10, W10, st10⟩ := putF X9 hx hZ hown (host := "") (Or.inl (own_w hw 17 rfl)) Via.refl e9 F_l E_po (Or.inl (own_w hw 18 rfl)) (own_w hw 1 rfl) (ty := .long) (by decide) rfl rfl (g := (mkF m 58 #[rv po, iv xc, iv r_1] [(.long (1 : Int64)), (.ref po)])) rfl rfl (hb hby d4_58)
   have O := O.wr W10 g_po
   have E_po := E_po.wr W10
   have F_c := F_c.other W10 (Or.inr (slot_ne (Or.inr (own_w hw 11 rfl)) (Or.inl (own_w hw 18 rfl)) (by decide) (t := (.array .byte)) (t' := .long) (by decide) (by decide)))
   have F_l := F_l.same W10
   have F_u := F_u.other W10 (Or.inr (slot_ne (Or.inl (own_w hw 28 rfl)) (Or.inl (own_w hw 18 rfl)) (by decide) (t := .long) (t' := .long) (by decide) (by decide)))
   have V_cb := V_cb.other W10 (Ne.symm ne_po_cb)
   have E_cb := E_cb.wr W10
   have K := K.wr W10 (Or.inl (List.mem_of_getElem? (i := 0) rfl))
   have N10 := Fr.snoc X10 N8 g_po
   refine Go.step st10 ?_
   refine Go.step (S' := T10.setTop (mkF m 62 #[rv po, iv xc, iv r_1] [(.ref po)])) (fun t k => ?_) ?_
   · refine XS.aloadN X10.here hx rfl (hb hby d4_61) rfl rfl ?_
     exact k
   exact Go.rt X10 hx Bd (w := (.ref po)) rfl (Or.inr (Or.inr (Or.inr (Or.inr ⟨rfl, rfl, rfl⟩)))) (hb hby d4_62) e10 ⟨(1 : Int64), (vs.set ((0 : Int32)).toNatClampNeg (.int (nar .byte (r_1.toInt8.toInt32)))), rfl, N10, K, E_po, F_c, F_l, F_u, V_cb, E_cb, (by rw [List.length_set]; exact hvl)⟩
  ·skip
   refine Go.step (S' := T2.setTop (mkF m 29 #[rv po, iv xc, iv r_1] [(.ref po)])) (fun t k => ?_) ?_
   · refine XS.ifYes X2.here hx rfl (pc0 := 15) (pc' := 28) rfl (hb hby d4_15) rfl ((if0 _ _).trans (feq (fun zq => absurd ((lw_eq uc (0 : Int64)).mp zq) hc15)).2) (by decide) (by decide) ?_
     refine XS.aloadN X2.here hx rfl (hb hby d4_28) rfl rfl ?_
     exact k
   refine Go.gF X2 hx hZ hown (host := "") (Or.inl (own_w hw 17 rfl)) Via.refl e2 F_l (hb hby d4_29) (fun T11 X11 e11 => ?_)
   refine Go.step (S' := T11.setTop (mkF m 40 #[rv po, iv xc, iv r_1] [(.ref po)])) (fun t k => ?_) ?_
   · refine X11.ldc2Long hx hown (mvT hZ (own_w hw 29 rfl)) (g := (mkF m 32 #[rv po, iv xc, iv r_1] [(.long (0 : Int64))])) rfl (hb hby d4_32) _ ?_
     refine XS.lcmp X11.here hx rfl (hb hby d4_35) rfl ?_
     refine XS.ifNo X11.here hx rfl (hb hby d4_36) rfl ((if0 _ _).trans (tlt ((lw_lt (0 : Int64) (81 : Int64)).mpr (by decide))).2.1) ?_
     refine XS.aloadN X11.here hx rfl (hb hby d4_39) rfl rfl ?_
     exact k
   refine Go.gF X11 hx hZ hown (host := "") (Or.inl (own_w hw 10 rfl)) Via.refl e11 F_c (hb hby d4_40) (fun T12 X12 e12 => ?_)
   refine Go.step (S' := T12.setTop (mkF m 44 #[rv po, iv xc, iv r_1] [(.ref po), (.ref cb)])) (fun t k => ?_) ?_
   · refine XS.aloadN X12.here hx rfl (hb hby d4_43) rfl rfl ?_
     exact k
   refine Go.gF X12 hx hZ hown (host := "") (Or.inl (own_w hw 17 rfl)) Via.refl e12 F_l (hb hby d4_44) (fun T13 X13 e13 => ?_)
   refine Go.step (S' := T13.setTop (mkF m 50 #[rv po, iv xc, iv r_1] [(.int (r_1.toInt8.toInt32)), (.int 0), (.ref cb)])) (fun t k => ?_) ?_
   · refine XS.l2i X13.here hx rfl (hb hby d4_47) rfl ?_
     refine XS.iloadN X13.here hx rfl (hb hby d4_48) rfl ?_
     refine XS.i2b X13.here hx rfl (hb hby d4_49) rfl ?_
     exact k
   refine Go.bst X13 hx hZ e13 V_cb (hb hby d4_50) ⟨by decide, by decide⟩ (by rw [hvl]; decide) (fun T14 h14 X14 e14 W14 V14 => ?_)
   have O := O.wr W14 g_cb
   have E_po := E_po.wr W14
   have F_c := F_c.other W14 (Or.inl ne_po_cb)
   have F_l := F_l.other W14 (Or.inl ne_po_cb)
   have F_u := F_u.other W14 (Or.inl ne_po_cb)
   have E_cb := E_cb.wr W14
   have K := K.wr W14 (Or.inl (List.mem_of_getElem? (i := 1) rfl))
   have V_cb : Arv Z h14 cb kb .byte (81 : Int32) (vs.set ((0 : Int32)).toNatClampNeg (.int (nar .byte (r_1.toInt8.toInt32)))) (.int 0) := id V14
   have N14 := Fr.snoc X14 N1 g_cb
   refine Go.step (S' := T14.setTop (mkF m 53 #[rv po, iv xc, iv r_1] [(.ref po), (.ref po)])) (fun t k => ?_) ?_
   · refine XS.aloadN X14.here hx rfl (hb hby d4_51) rfl rfl ?_
     refine XS.dup X14.here hx rfl (hb hby d4_52) rfl rfl ?_
     exact k
   refine Go.gF X14 hx hZ hown (host := "") (Or.inl (own_w hw 17 rfl)) Via.refl e14 F_l (hb hby d4_53) (fun T15 X15 e15 => ?_)
   refine Go.step (S' := T15.setTop (mkF m 58 #[rv po, iv xc, iv r_1] [(.long (1 : Int64)), (.ref po)])) (fun t k => ?_) ?_
   · refine XS.lconst X15.here hx rfl (hb hby d4_56) ?_
     refine XS.ladd X15.here hx rfl (hb hby d4_57) rfl ?_
     exact k
   obtain ⟨T16, h16, X16, e16, W16, st16⟩ := putF X15 hx hZ hown (host := "") (Or.inl (own_w hw 17 rfl)) Via.refl e15 F_l E_po (Or.inl (own_w hw 18 rfl)) (own_w hw 1 rfl) (ty := .long) (by decide) rfl rfl (g := (mkF m 58 #[rv po, iv xc, iv r_1] [(.long (1 : Int64)), (.ref po)])) rfl rfl (hb hby d4_58)
   have O := O.wr W16 g_po
   have E_po := E_po.wr W16
   have F_c := F_c.other W16 (Or.inr (slot_ne (Or.inr (own_w hw 11 rfl)) (Or.inl (own_w hw 18 rfl)) (by decide) (t := (.array .byte)) (t' := .long) (by decide) (by decide)))
   have F_l := F_l.same W16
   have F_u := F_u.other W16 (Or.inr (slot_ne (Or.inl (own_w hw 28 rfl)) (Or.inl (own_w hw 18 rfl)) (by decide) (t := .long) (t' := .long) (by decide) (by decide)))
   have V_cb := V_cb.other W16 (Ne.symm ne_po_cb)
   have E_cb := E_cb.wr W16
   have K := K.wr W16 (Or.inl (List.mem_of_getElem? (i := 0) rfl))
   have N16 := Fr.snoc X16 N14 g_po
   refine Go.step st16 ?_
   refine Go.step (S' := T16.setTop (mkF m 62 #[rv po, iv xc, iv r_1] [(.ref po)])) (fun t k => ?_) ?_
   · refine XS.aloadN X16.here hx rfl (hb hby d4_61) rfl rfl ?_
     exact k
   exact Go.rt X16 hx Bd (w := (.ref po)) rfl (Or.inr (Or.inr (Or.inr (Or.inr ⟨rfl, rfl, rfl⟩)))) (hb hby d4_62) e16 ⟨uc, (vs.set ((0 : Int32)).toNatClampNeg (.int (nar .byte (r_1.toInt8.toInt32)))), rfl, N16, K, E_po, F_c, F_l, F_u, V_cb, E_cb, (by rw [List.length_set]; exact hvl)⟩
 ·skip
  refine Go.step (S' := T1.setTop (mkF m 29 #[rv po, iv xc, iv r_1] [(.ref po)])) (fun t k => ?_) ?_
  · refine XS.ifYes X1.here hx rfl (pc0 := 6) (pc' := 28) rfl (hb hby d4_6) rfl ((if0 _ _).trans (flt (hc6 : ¬ (r_1 < (0 : Int32)))).2.1) (by decide) (by decide) ?_
    refine XS.aloadN X1.here hx rfl (hb hby d4_28) rfl rfl ?_
    exact k
  refine Go.gF X1 hx hZ hown (host := "") (Or.inl (own_w hw 17 rfl)) Via.refl e1 F_l (hb hby d4_29) (fun T17 X17 e17 => ?_)
  refine Go.step (S' := T17.setTop (mkF m 40 #[rv po, iv xc, iv r_1] [(.ref po)])) (fun t k => ?_) ?_
  · refine X17.ldc2Long hx hown (mvT hZ (own_w hw 29 rfl)) (g := (mkF m 32 #[rv po, iv xc, iv r_1] [(.long (0 : Int64))])) rfl (hb hby d4_32) _ ?_
    refine XS.lcmp X17.here hx rfl (hb hby d4_35) rfl ?_
    refine XS.ifNo X17.here hx rfl (hb hby d4_36) rfl ((if0 _ _).trans (tlt ((lw_lt (0 : Int64) (81 : Int64)).mpr (by decide))).2.1) ?_
    refine XS.aloadN X17.here hx rfl (hb hby d4_39) rfl rfl ?_
    exact k
  refine Go.gF X17 hx hZ hown (host := "") (Or.inl (own_w hw 10 rfl)) Via.refl e17 F_c (hb hby d4_40) (fun T18 X18 e18 => ?_)
  refine Go.step (S' := T18.setTop (mkF m 44 #[rv po, iv xc, iv r_1] [(.ref po), (.ref cb)])) (fun t k => ?_) ?_
  · refine XS.aloadN X18.here hx rfl (hb hby d4_43) rfl rfl ?_
    exact k
  refine Go.gF X18 hx hZ hown (host := "") (Or.inl (own_w hw 17 rfl)) Via.refl e18 F_l (hb hby d4_44) (fun T19 X19 e19 => ?_)
  refine Go.step (S' := T19.setTop (mkF m 50 #[rv po, iv xc, iv r_1] [(.int (r_1.toInt8.toInt32)), (.int 0), (.ref cb)])) (fun t k => ?_) ?_
  · refine XS.l2i X19.here hx rfl (hb hby d4_47) rfl ?_
    refine XS.iloadN X19.here hx rfl (hb hby d4_48) rfl ?_
    refine XS.i2b X19.here hx rfl (hb hby d4_49) rfl ?_
    exact k
  refine Go.bst X19 hx hZ e19 V_cb (hb hby d4_50) ⟨by decide, by decide⟩ (by rw [hvl]; decide) (fun T20 h20 X20 e20 W20 V20 => ?_)
  have O := O.wr W20 g_cb
  have E_po := E_po.wr W20
  have F_c := F_c.other W20 (Or.inl ne_po_cb)
  have F_l := F_l.other W20 (Or.inl ne_po_cb)
  have F_u := F_u.other W20 (Or.inl ne_po_cb)
  have E_cb := E_cb.wr W20
  have K := K.wr W20 (Or.inl (List.mem_of_getElem? (i := 1) rfl))
  have V_cb : Arv Z h20 cb kb .byte (81 : Int32) (vs.set ((0 : Int32)).toNatClampNeg (.int (nar .byte (r_1.toInt8.toInt32)))) (.int 0) := id V20
  have N20 := Fr.snoc X20 N1 g_cb
  refine Go.step (S' := T20.setTop (mkF m 53 #[rv po, iv xc, iv r_1] [(.ref po), (.ref po)])) (fun t k => ?_) ?_
  · refine XS.aloadN X20.here hx rfl (hb hby d4_51) rfl rfl ?_
    refine XS.dup X20.here hx rfl (hb hby d4_52) rfl rfl ?_
    exact k
  refine Go.gF X20 hx hZ hown (host := "") (Or.inl (own_w hw 17 rfl)) Via.refl e20 F_l (hb hby d4_53) (fun T21 X21 e21 => ?_)
  refine Go.step (S' := T21.setTop (mkF m 58 #[rv po, iv xc, iv r_1] [(.long (1 : Int64)), (.ref po)])) (fun t k => ?_) ?_
  · refine XS.lconst X21.here hx rfl (hb hby d4_56) ?_
    refine XS.ladd X21.here hx rfl (hb hby d4_57) rfl ?_
    exact k
  obtain ⟨T22, h22, X22, e22, W22, st22⟩ := putF X21 hx hZ hown (host := "") (Or.inl (own_w hw 17 rfl)) Via.refl e21 F_l E_po (Or.inl (own_w hw 18 rfl)) (own_w hw 1 rfl) (ty := .long) (by decide) rfl rfl (g := (mkF m 58 #[rv po, iv xc, iv r_1] [(.long (1 : Int64)), (.ref po)])) rfl rfl (hb hby d4_58)
  have O := O.wr W22 g_po
  have E_po := E_po.wr W22
  have F_c := F_c.other W22 (Or.inr (slot_ne (Or.inr (own_w hw 11 rfl)) (Or.inl (own_w hw 18 rfl)) (by decide) (t := (.array .byte)) (t' := .long) (by decide) (by decide)))
  have F_l := F_l.same W22
  have F_u := F_u.other W22 (Or.inr (slot_ne (Or.inl (own_w hw 28 rfl)) (Or.inl (own_w hw 18 rfl)) (by decide) (t := .long) (t' := .long) (by decide) (by decide)))
  have V_cb := V_cb.other W22 (Ne.symm ne_po_cb)
  have E_cb := E_cb.wr W22
  have K := K.wr W22 (Or.inl (List.mem_of_getElem? (i := 0) rfl))
  have N22 := Fr.snoc X22 N20 g_po
  refine Go.step st22 ?_
  refine Go.step (S' := T22.setTop (mkF m 62 #[rv po, iv xc, iv r_1] [(.ref po)])) (fun t k => ?_) ?_
  · refine XS.aloadN X22.here hx rfl (hb hby d4_61) rfl rfl ?_
    exact k
  exact Go.rt X22 hx Bd (w := (.ref po)) rfl (Or.inr (Or.inr (Or.inr (Or.inr ⟨rfl, rfl, rfl⟩)))) (hb hby d4_62) e22 ⟨uc, (vs.set ((0 : Int32)).toNatClampNeg (.int (nar .byte (r_1.toInt8.toInt32)))), rfl, N22, K, E_po, F_c, F_l, F_u, V_cb, E_cb, (by rw [List.length_set]; exact hvl)⟩
abbrev rm_rmAa1 : Room := ({ frames := 1, cells := 0, slots := 0, locals := 12 } : Room)
def Q_rmAa1 (Z : State) (po : Addr) (xc : Int32) (cb : Addr) (kb : ClassId) (uc : Int64) (vs : List Value) (h0 : Heap) (n0 : Nat) (v : Option Value) (h : Heap) (L : List Loc) : Prop := ∃ ud : Int64, ∃ vt : List Value, (v = some (.ref po)) ∧ (Fr n0 L) ∧ (Keep h0 h [po, cb]) ∧ (Exa Z h po "org/ninefold/model/PuzzleText") ∧ (Fd_4 Z h po (.ref cb)) ∧ (Fd_5 Z h po (.long (2 : Int64))) ∧ (Fd_6 Z h po (.long ud)) ∧ (Arv Z h cb kb .byte (81 : Int32) vt (.int 0)) ∧ (Exa Z h cb "[B") ∧ (vt.length = 81)
theorem rmAa1 (l : Launch) (Z : State) (a0 : Array Value) (hw : HW a0 Z) (ws : List Jvm.Cond) (po : Addr) (xc : Int32) (cb : Addr) (kb : ClassId) (uc : Int64) (vs : List Value) (h0 : Heap) (n0 : Nat) (O : Old Z n0 h0) (E_po : Exa Z h0 po "org/ninefold/model/PuzzleText") (F_c : Fd_4 Z h0 po (.ref cb)) (F_l : Fd_5 Z h0 po (.long (1 : Int64))) (F_u : Fd_6 Z h0 po (.long uc)) (V_cb : Arv Z h0 cb kb .byte (81 : Int32) vs (.int 0)) (E_cb : Exa Z h0 cb "[B") (g_po : n0 ≤ po) (g_cb : n0 ≤ cb) (ne_po_cb : po ≠ cb) (hvl : vs.length = 81) :
    Mt l Z y_10 prog_12_method_2_code 3 (some (.object "org/ninefold/model/PuzzleText")) ws rm_rmAa1 #[(.ref po), (.int xc)] h0 (Q_rmAa1 Z po xc cb kb uc vs h0 n0) := by
 refine own_met "org/ninefold/model/PuzzleText" (plainFor_of_name pn_org_ninefold_model_PuzzleText) #[rv po, iv xc, u_] (fun m => rfl) (fun p e s m below meth c s₁ Bd hx hby hml hZ hown hnm X0 e0 => ?_)
 have N0 := Fr.nil n0
 have K := Keep.refl h0 [po, cb]
 refine Go.step (S' := s₁.setTop (mkF m 1 #[rv po, iv xc, u_] [(.int xc)])) (fun t k => ?_) ?_
 · refine XS.iloadN X0.here hx rfl (hb hby d4_0) rfl ?_
   exact k
 refine Go.cS X0 hx hml hown hZ (own_w hw 24 rfl) (own_w hw 25 rfl) (own_w hw 2 rfl) (own_w hw 26 rfl) (rmDa l Z a0 hw [] xc h0 n0 O ) 0 [] pd__28C_29I (hb hby d4_1) e0 (fun _ T1 L1 X1 hQ1 => ?_)
 obtain ⟨r_1, rfl, Nq1, e1⟩ := hQ1
 have N1 := Fr.app N0 Nq1
 refine Go.step (S' := T1.setTop (mkF m 6 #[rv po, iv xc, iv r_1] [(.int r_1)])) (fun t k => ?_) ?_
 · refine XS.istoreN X1.here hx rfl (hb hby d4_4) rfl (l' := #[rv po, iv xc, iv r_1]) rfl ?_
   refine XS.iloadN X1.here hx rfl (hb hby d4_5) rfl ?_
   exact k
 by_cases hc6 : r_1 < (0 : Int32)
 ·skip
  refine Go.step (S' := T1.setTop (mkF m 10 #[rv po, iv xc, iv r_1] [(.ref po)])) (fun t k => ?_) ?_
  · refine XS.ifNo X1.here hx rfl (hb hby d4_6) rfl ((if0 _ _).trans (tlt (hc6 : r_1 < (0 : Int32))).2.1) ?_
    refine XS.aloadN X1.here hx rfl (hb hby d4_9) rfl rfl ?_
    exact k
  refine Go.gF X1 hx hZ hown (host := "") (Or.inl (own_w hw 27 rfl)) Via.refl e1 F_u (hb hby d4_10) (fun T2 X2 e2 => ?_)
  refine Go.step (S' := T2.setTop (mkF m 15 #[rv po, iv xc, iv r_1] [(.int (lcmpW uc (0 : Int64)))])) (fun t k => ?_) ?_
  · refine XS.lconst X2.here hx rfl (hb hby d4_13) ?_
    refine XS.lcmp X2.here hx rfl (hb hby d4_14) rfl ?_
    exact k
  by_cases hc15 : uc = (0 : Int64)
  ·skip
   refine Go.step (S' := T2.setTop (mkF m 20 #[rv po, iv xc, iv r_1] [(.ref po), (.ref po)])) (fun t k => ?_) ?_
   · refine XS.ifNo X2.here hx rfl (hb hby d4_15) rfl ((if0 _ _).trans (teq ((lw_eq uc (0 : Int64)).mpr hc15)).2) ?_
     refine XS.aloadN X2.here hx rfl (hb hby d4_18) rfl rfl ?_
     refine XS.aloadN X2.here hx rfl (hb hby d4_19) rfl rfl ?_
     exact k
   refine Go.gF X2 hx hZ hown (host := "") (Or.inl (own_w hw 17 rfl)) Via.refl e2 F_l (hb hby d4_20) (fun T3 X3 e3 => ?_)
   refine Go.step (S' := T3.setTop (mkF m 25 #[rv po, iv xc, iv r_1] [(.long (2 : Int64)), (.ref po)])) (fun t k => ?_) ?_
   · refine XS.lconst X3.here hx rfl (hb hby d4_23) ?_
     refine XS.ladd X3.here hx rfl (hb hby d4_24) rfl ?_
     exact k
   obtain ⟨T4, h4, X4, e4, W4, st4⟩ := putF X3 hx hZ hown (host := "") (Or.inl (own_w hw 27 rfl)) Via.refl e3 F_u E_po (Or.inl (own_w hw 28 rfl)) (own_w hw 1 rfl) (ty := .long) (by decide) rfl rfl (g := (mkF m 25 #[rv po, iv xc, iv r_1] [(.long (2 : Int64)), (.ref po)])) rfl rfl (hb hby d4_25)
   have O := O.wr W4 g_po
   have E_po := E_po.wr W4
   have F_c := F_c.other W4 (Or.inr (slot_ne (Or.inr (own_w hw 11 rfl)) (Or.inl (own_w hw 28 rfl)) (by decide) (t := (.array .byte)) (t' := .long) (by decide) (by decide)))
   have F_l := F_l.other W4 (Or.inr (slot_ne (Or.inl (own_w hw 18 rfl)) (Or.inl (own_w hw 28 rfl)) (by decide) (t := .long) (t' := .long) (by decide) (by decide)))
   have F_u := F_u.same W4
   have V_cb := V_cb.other W4 (Ne.symm ne_po_cb)
   have E_cb := E_cb.wr W4
   have K := K.wr W4 (Or.inl (List.mem_of_getElem? (i := 0) rfl))
   have N4 := Fr.snoc X4 N1 g_po
   refine Go.step st4 ?_
   refine Go.step (S' := T4.setTop (mkF m 29 #[rv po, iv xc, iv r_1] [(.ref po)])) (fun t k => ?_) ?_
   · refine XS.aloadN X4.here hx rfl (hb hby d4_28) rfl rfl ?_
     exact k
   refine Go.gF X4 hx hZ hown (host := "") (Or.inl (own_w hw 17 rfl)) Via.refl e4 F_l (hb hby d4_29) (fun T5 X5 e5 => ?_)
   refine Go.step (S' := T5.setTop (mkF m 40 #[rv po, iv xc, iv r_1] [(.ref po)])) (fun t k => ?_) ?_
   · refine X5.ldc2Long hx hown (mvT hZ (own_w hw 29 rfl)) (g := (mkF m 32 #[rv po, iv xc, iv r_1] [(.long (1 : Int64))])) rfl (hb hby d4_32) _ ?_
     refine XS.lcmp X5.here hx rfl (hb hby d4_35) rfl ?_
     refine XS.ifNo X5.here hx rfl (hb hby d4_36) rfl ((if0 _ _).trans (tlt ((lw_lt (1 : Int64) (81 : Int64)).mpr (by decide))).2.1) ?_
     refine XS.aloadN X5.here hx rfl (hb hby d4_39) rfl rfl ?_
     exact k
   refine Go.gF X5 hx hZ hown (host := "") (Or.inl (own_w hw 10 rfl)) Via.refl e5 F_c (hb hby d4_40) (fun T6 X6 e6 => ?_)
   refine Go.step (S' := T6.setTop (mkF m 44 #[rv po, iv xc, iv r_1] [(.ref po), (.ref cb)])) (fun t k => ?_) ?_
   · refine XS.aloadN X6.here hx rfl (hb hby d4_43) rfl rfl ?_
     exact k
   refine Go.gF X6 hx hZ hown (host := "") (Or.inl (own_w hw 17 rfl)) Via.refl e6 F_l (hb hby d4_44) (fun T7 X7 e7 => ?_)
   refine Go.step (S' := T7.setTop (mkF m 50 #[rv po, iv xc, iv r_1] [(.int (r_1.toInt8.toInt32)), (.int 1), (.ref cb)])) (fun t k => ?_) ?_
   · refine XS.l2i X7.here hx rfl (hb hby d4_47) rfl ?_
     refine XS.iloadN X7.here hx rfl (hb hby d4_48) rfl ?_
     refine XS.i2b X7.here hx rfl (hb hby d4_49) rfl ?_
     exact k
   refine Go.bst X7 hx hZ e7 V_cb (hb hby d4_50) ⟨by decide, by decide⟩ (by rw [hvl]; decide) (fun T8 h8 X8 e8 W8 V8 => ?_)
   have O := O.wr W8 g_cb
   have E_po := E_po.wr W8
   have F_c := F_c.other W8 (Or.inl ne_po_cb)
   have F_l := F_l.other W8 (Or.inl ne_po_cb)
   have F_u := F_u.other W8 (Or.inl ne_po_cb)
   have E_cb := E_cb.wr W8
   have K := K.wr W8 (Or.inl (List.mem_of_getElem? (i := 1) rfl))
   have V_cb : Arv Z h8 cb kb .byte (81 : Int32) (vs.set ((1 : Int32)).toNatClampNeg (.int (nar .byte (r_1.toInt8.toInt32)))) (.int 0) := id V8
   have N8 := Fr.snoc X8 N4 g_cb
   refine Go.step (S' := T8.setTop (mkF m 53 #[rv po, iv xc, iv r_1] [(.ref po), (.ref po)])) (fun t k => ?_) ?_
   · refine XS.aloadN X8.here hx rfl (hb hby d4_51) rfl rfl ?_
     refine XS.dup X8.here hx rfl (hb hby d4_52) rfl rfl ?_
     exact k
   refine Go.gF X8 hx hZ hown (host := "") (Or.inl (own_w hw 17 rfl)) Via.refl e8 F_l (hb hby d4_53) (fun T9 X9 e9 => ?_)
   refine Go.step (S' := T9.setTop (mkF m 58 #[rv po, iv xc, iv r_1] [(.long (2 : Int64)), (.ref po)])) (fun t k => ?_) ?_
   · refine XS.lconst X9.here hx rfl (hb hby d4_56) ?_
     refine XS.ladd X9.here hx rfl (hb hby d4_57) rfl ?_
     exact k
   obtain ⟨T10, h10, X10, e10, W10, st10⟩ := putF X9 hx hZ hown (host := "") (Or.inl (own_w hw 17 rfl)) Via.refl e9 F_l E_po (Or.inl (own_w hw 18 rfl)) (own_w hw 1 rfl) (ty := .long) (by decide) rfl rfl (g := (mkF m 58 #[rv po, iv xc, iv r_1] [(.long (2 : Int64)), (.ref po)])) rfl rfl (hb hby d4_58)
   have O := O.wr W10 g_po
   have E_po := E_po.wr W10
   have F_c := F_c.other W10 (Or.inr (slot_ne (Or.inr (own_w hw 11 rfl)) (Or.inl (own_w hw 18 rfl)) (by decide) (t := (.array .byte)) (t' := .long) (by decide) (by decide)))
   have F_l := F_l.same W10
   have F_u := F_u.other W10 (Or.inr (slot_ne (Or.inl (own_w hw 28 rfl)) (Or.inl (own_w hw 18 rfl)) (by decide) (t := .long) (t' := .long) (by decide) (by decide)))
   have V_cb := V_cb.other W10 (Ne.symm ne_po_cb)
   have E_cb := E_cb.wr W10
   have K := K.wr W10 (Or.inl (List.mem_of_getElem? (i := 0) rfl))
   have N10 := Fr.snoc X10 N8 g_po
   refine Go.step st10 ?_
   refine Go.step (S' := T10.setTop (mkF m 62 #[rv po, iv xc, iv r_1] [(.ref po)])) (fun t k => ?_) ?_
   · refine XS.aloadN X10.here hx rfl (hb hby d4_61) rfl rfl ?_
     exact k
   exact Go.rt X10 hx Bd (w := (.ref po)) rfl (Or.inr (Or.inr (Or.inr (Or.inr ⟨rfl, rfl, rfl⟩)))) (hb hby d4_62) e10 ⟨(2 : Int64), (vs.set ((1 : Int32)).toNatClampNeg (.int (nar .byte (r_1.toInt8.toInt32)))), rfl, N10, K, E_po, F_c, F_l, F_u, V_cb, E_cb, (by rw [List.length_set]; exact hvl)⟩
  ·skip
   refine Go.step (S' := T2.setTop (mkF m 29 #[rv po, iv xc, iv r_1] [(.ref po)])) (fun t k => ?_) ?_
   · refine XS.ifYes X2.here hx rfl (pc0 := 15) (pc' := 28) rfl (hb hby d4_15) rfl ((if0 _ _).trans (feq (fun zq => absurd ((lw_eq uc (0 : Int64)).mp zq) hc15)).2) (by decide) (by decide) ?_
     refine XS.aloadN X2.here hx rfl (hb hby d4_28) rfl rfl ?_
     exact k
   refine Go.gF X2 hx hZ hown (host := "") (Or.inl (own_w hw 17 rfl)) Via.refl e2 F_l (hb hby d4_29) (fun T11 X11 e11 => ?_)
   refine Go.step (S' := T11.setTop (mkF m 40 #[rv po, iv xc, iv r_1] [(.ref po)])) (fun t k => ?_) ?_
   · refine X11.ldc2Long hx hown (mvT hZ (own_w hw 29 rfl)) (g := (mkF m 32 #[rv po, iv xc, iv r_1] [(.long (1 : Int64))])) rfl (hb hby d4_32) _ ?_
     refine XS.lcmp X11.here hx rfl (hb hby d4_35) rfl ?_
     refine XS.ifNo X11.here hx rfl (hb hby d4_36) rfl ((if0 _ _).trans (tlt ((lw_lt (1 : Int64) (81 : Int64)).mpr (by decide))).2.1) ?_
     refine XS.aloadN X11.here hx rfl (hb hby d4_39) rfl rfl ?_
     exact k
   refine Go.gF X11 hx hZ hown (host := "") (Or.inl (own_w hw 10 rfl)) Via.refl e11 F_c (hb hby d4_40) (fun T12 X12 e12 => ?_)
   refine Go.step (S' := T12.setTop (mkF m 44 #[rv po, iv xc, iv r_1] [(.ref po), (.ref cb)])) (fun t k => ?_) ?_
   · refine XS.aloadN X12.here hx rfl (hb hby d4_43) rfl rfl ?_
     exact k
   refine Go.gF X12 hx hZ hown (host := "") (Or.inl (own_w hw 17 rfl)) Via.refl e12 F_l (hb hby d4_44) (fun T13 X13 e13 => ?_)
   refine Go.step (S' := T13.setTop (mkF m 50 #[rv po, iv xc, iv r_1] [(.int (r_1.toInt8.toInt32)), (.int 1), (.ref cb)])) (fun t k => ?_) ?_
   · refine XS.l2i X13.here hx rfl (hb hby d4_47) rfl ?_
     refine XS.iloadN X13.here hx rfl (hb hby d4_48) rfl ?_
     refine XS.i2b X13.here hx rfl (hb hby d4_49) rfl ?_
     exact k
   refine Go.bst X13 hx hZ e13 V_cb (hb hby d4_50) ⟨by decide, by decide⟩ (by rw [hvl]; decide) (fun T14 h14 X14 e14 W14 V14 => ?_)
   have O := O.wr W14 g_cb
   have E_po := E_po.wr W14
   have F_c := F_c.other W14 (Or.inl ne_po_cb)
   have F_l := F_l.other W14 (Or.inl ne_po_cb)
   have F_u := F_u.other W14 (Or.inl ne_po_cb)
   have E_cb := E_cb.wr W14
   have K := K.wr W14 (Or.inl (List.mem_of_getElem? (i := 1) rfl))
   have V_cb : Arv Z h14 cb kb .byte (81 : Int32) (vs.set ((1 : Int32)).toNatClampNeg (.int (nar .byte (r_1.toInt8.toInt32)))) (.int 0) := id V14
   have N14 := Fr.snoc X14 N1 g_cb
   refine Go.step (S' := T14.setTop (mkF m 53 #[rv po, iv xc, iv r_1] [(.ref po), (.ref po)])) (fun t k => ?_) ?_
   · refine XS.aloadN X14.here hx rfl (hb hby d4_51) rfl rfl ?_
     refine XS.dup X14.here hx rfl (hb hby d4_52) rfl rfl ?_
     exact k
   refine Go.gF X14 hx hZ hown (host := "") (Or.inl (own_w hw 17 rfl)) Via.refl e14 F_l (hb hby d4_53) (fun T15 X15 e15 => ?_)
   refine Go.step (S' := T15.setTop (mkF m 58 #[rv po, iv xc, iv r_1] [(.long (2 : Int64)), (.ref po)])) (fun t k => ?_) ?_
   · refine XS.lconst X15.here hx rfl (hb hby d4_56) ?_
     refine XS.ladd X15.here hx rfl (hb hby d4_57) rfl ?_
     exact k
   obtain ⟨T16, h16, X16, e16, W16, st16⟩ := putF X15 hx hZ hown (host := "") (Or.inl (own_w hw 17 rfl)) Via.refl e15 F_l E_po (Or.inl (own_w hw 18 rfl)) (own_w hw 1 rfl) (ty := .long) (by decide) rfl rfl (g := (mkF m 58 #[rv po, iv xc, iv r_1] [(.long (2 : Int64)), (.ref po)])) rfl rfl (hb hby d4_58)
   have O := O.wr W16 g_po
   have E_po := E_po.wr W16
   have F_c := F_c.other W16 (Or.inr (slot_ne (Or.inr (own_w hw 11 rfl)) (Or.inl (own_w hw 18 rfl)) (by decide) (t := (.array .byte)) (t' := .long) (by decide) (by decide)))
   have F_l := F_l.same W16
   have F_u := F_u.other W16 (Or.inr (slot_ne (Or.inl (own_w hw 28 rfl)) (Or.inl (own_w hw 18 rfl)) (by decide) (t := .long) (t' := .long) (by decide) (by decide)))
   have V_cb := V_cb.other W16 (Ne.symm ne_po_cb)
   have E_cb := E_cb.wr W16
   have K := K.wr W16 (Or.inl (List.mem_of_getElem? (i := 0) rfl))
   have N16 := Fr.snoc X16 N14 g_po
   refine Go.step st16 ?_
   refine Go.step (S' := T16.setTop (mkF m 62 #[rv po, iv xc, iv r_1] [(.ref po)])) (fun t k => ?_) ?_
   · refine XS.aloadN X16.here hx rfl (hb hby d4_61) rfl rfl ?_
     exact k
   exact Go.rt X16 hx Bd (w := (.ref po)) rfl (Or.inr (Or.inr (Or.inr (Or.inr ⟨rfl, rfl, rfl⟩)))) (hb hby d4_62) e16 ⟨uc, (vs.set ((1 : Int32)).toNatClampNeg (.int (nar .byte (r_1.toInt8.toInt32)))), rfl, N16, K, E_po, F_c, F_l, F_u, V_cb, E_cb, (by rw [List.length_set]; exact hvl)⟩
 ·skip
  refine Go.step (S' := T1.setTop (mkF m 29 #[rv po, iv xc, iv r_1] [(.ref po)])) (fun t k => ?_) ?_
  · refine XS.ifYes X1.here hx rfl (pc0 := 6) (pc' := 28) rfl (hb hby d4_6) rfl ((if0 _ _).trans (flt (hc6 : ¬ (r_1 < (0 : Int32)))).2.1) (by decide) (by decide) ?_
    refine XS.aloadN X1.here hx rfl (hb hby d4_28) rfl rfl ?_
    exact k
  refine Go.gF X1 hx hZ hown (host := "") (Or.inl (own_w hw 17 rfl)) Via.refl e1 F_l (hb hby d4_29) (fun T17 X17 e17 => ?_)
  refine Go.step (S' := T17.setTop (mkF m 40 #[rv po, iv xc, iv r_1] [(.ref po)])) (fun t k => ?_) ?_
  · refine X17.ldc2Long hx hown (mvT hZ (own_w hw 29 rfl)) (g := (mkF m 32 #[rv po, iv xc, iv r_1] [(.long (1 : Int64))])) rfl (hb hby d4_32) _ ?_
    refine XS.lcmp X17.here hx rfl (hb hby d4_35) rfl ?_
    refine XS.ifNo X17.here hx rfl (hb hby d4_36) rfl ((if0 _ _).trans (tlt ((lw_lt (1 : Int64) (81 : Int64)).mpr (by decide))).2.1) ?_
    refine XS.aloadN X17.here hx rfl (hb hby d4_39) rfl rfl ?_
    exact k
  refine Go.gF X17 hx hZ hown (host := "") (Or.inl (own_w hw 10 rfl)) Via.refl e17 F_c (hb hby d4_40) (fun T18 X18 e18 => ?_)
  refine Go.step (S' := T18.setTop (mkF m 44 #[rv po, iv xc, iv r_1] [(.ref po), (.ref cb)])) (fun t k => ?_) ?_
  · refine XS.aloadN X18.here hx rfl (hb hby d4_43) rfl rfl ?_
    exact k
  refine Go.gF X18 hx hZ hown (host := "") (Or.inl (own_w hw 17 rfl)) Via.refl e18 F_l (hb hby d4_44) (fun T19 X19 e19 => ?_)
  refine Go.step (S' := T19.setTop (mkF m 50 #[rv po, iv xc, iv r_1] [(.int (r_1.toInt8.toInt32)), (.int 1), (.ref cb)])) (fun t k => ?_) ?_
  · refine XS.l2i X19.here hx rfl (hb hby d4_47) rfl ?_
    refine XS.iloadN X19.here hx rfl (hb hby d4_48) rfl ?_
    refine XS.i2b X19.here hx rfl (hb hby d4_49) rfl ?_
    exact k
  refine Go.bst X19 hx hZ e19 V_cb (hb hby d4_50) ⟨by decide, by decide⟩ (by rw [hvl]; decide) (fun T20 h20 X20 e20 W20 V20 => ?_)
  have O := O.wr W20 g_cb
  have E_po := E_po.wr W20
  have F_c := F_c.other W20 (Or.inl ne_po_cb)
  have F_l := F_l.other W20 (Or.inl ne_po_cb)
  have F_u := F_u.other W20 (Or.inl ne_po_cb)
  have E_cb := E_cb.wr W20
  have K := K.wr W20 (Or.inl (List.mem_of_getElem? (i := 1) rfl))
  have V_cb : Arv Z h20 cb kb .byte (81 : Int32) (vs.set ((1 : Int32)).toNatClampNeg (.int (nar .byte (r_1.toInt8.toInt32)))) (.int 0) := id V20
  have N20 := Fr.snoc X20 N1 g_cb
  refine Go.step (S' := T20.setTop (mkF m 53 #[rv po, iv xc, iv r_1] [(.ref po), (.ref po)])) (fun t k => ?_) ?_
  · refine XS.aloadN X20.here hx rfl (hb hby d4_51) rfl rfl ?_
    refine XS.dup X20.here hx rfl (hb hby d4_52) rfl rfl ?_
    exact k
  refine Go.gF X20 hx hZ hown (host := "") (Or.inl (own_w hw 17 rfl)) Via.refl e20 F_l (hb hby d4_53) (fun T21 X21 e21 => ?_)
  refine Go.step (S' := T21.setTop (mkF m 58 #[rv po, iv xc, iv r_1] [(.long (2 : Int64)), (.ref po)])) (fun t k => ?_) ?_
  · refine XS.lconst X21.here hx rfl (hb hby d4_56) ?_
    refine XS.ladd X21.here hx rfl (hb hby d4_57) rfl ?_
    exact k
  obtain ⟨T22, h22, X22, e22, W22, st22⟩ := putF X21 hx hZ hown (host := "") (Or.inl (own_w hw 17 rfl)) Via.refl e21 F_l E_po (Or.inl (own_w hw 18 rfl)) (own_w hw 1 rfl) (ty := .long) (by decide) rfl rfl (g := (mkF m 58 #[rv po, iv xc, iv r_1] [(.long (2 : Int64)), (.ref po)])) rfl rfl (hb hby d4_58)
  have O := O.wr W22 g_po
  have E_po := E_po.wr W22
  have F_c := F_c.other W22 (Or.inr (slot_ne (Or.inr (own_w hw 11 rfl)) (Or.inl (own_w hw 18 rfl)) (by decide) (t := (.array .byte)) (t' := .long) (by decide) (by decide)))
  have F_l := F_l.same W22
  have F_u := F_u.other W22 (Or.inr (slot_ne (Or.inl (own_w hw 28 rfl)) (Or.inl (own_w hw 18 rfl)) (by decide) (t := .long) (t' := .long) (by decide) (by decide)))
  have V_cb := V_cb.other W22 (Ne.symm ne_po_cb)
  have E_cb := E_cb.wr W22
  have K := K.wr W22 (Or.inl (List.mem_of_getElem? (i := 0) rfl))
  have N22 := Fr.snoc X22 N20 g_po
  refine Go.step st22 ?_
  refine Go.step (S' := T22.setTop (mkF m 62 #[rv po, iv xc, iv r_1] [(.ref po)])) (fun t k => ?_) ?_
  · refine XS.aloadN X22.here hx rfl (hb hby d4_61) rfl rfl ?_
    exact k
  exact Go.rt X22 hx Bd (w := (.ref po)) rfl (Or.inr (Or.inr (Or.inr (Or.inr ⟨rfl, rfl, rfl⟩)))) (hb hby d4_62) e22 ⟨uc, (vs.set ((1 : Int32)).toNatClampNeg (.int (nar .byte (r_1.toInt8.toInt32)))), rfl, N22, K, E_po, F_c, F_l, F_u, V_cb, E_cb, (by rw [List.length_set]; exact hvl)⟩
abbrev y_11 : MethodName := ⟨"org/ninefold/model/Grid", "row", "(I)I"⟩
theorem pn_org_ninefold_model_Grid : plainName "org/ninefold/model/Grid" = true := by first | (simp [plainName, overriddenIn]; done) | decide +kernel
theorem d23_0 : decode prog_10_method_5_code 0 = .ok (.iload_n 0, 1) := by decide +kernel
theorem d23_1 : decode prog_10_method_5_code 1 = .ok (.bipush 9, 2) := by decide +kernel
theorem d23_3 : decode prog_10_method_5_code 3 = .ok (.idiv, 1) := by decide +kernel
theorem d23_4 : decode prog_10_method_5_code 4 = .ok (.ireturn, 1) := by decide +kernel
abbrev rm_rmRw : Room := ({ frames := 0, cells := 0, slots := 0, locals := 0 } : Room)
def Q_rmRw (Z : State) (ix : Int32) (h0 : Heap) (n0 : Nat) (v : Option Value) (h : Heap) (L : List Loc) : Prop := (v = some (.int (ix / (9 : Int32)))) ∧ (Fr n0 L) ∧ (h = h0)
theorem rmRw (l : Launch) (Z : State) (a0 : Array Value) (hw : HW a0 Z) (ws : List Jvm.Cond) (ix : Int32) (h0 : Heap) (n0 : Nat) (O : Old Z n0 h0) :
    Mt l Z y_11 prog_10_method_5_code 1 (some .int) ws rm_rmRw #[(.int ix)] h0 (Q_rmRw Z ix h0 n0) := by
 refine own_met "org/ninefold/model/Grid" (plainFor_of_name pn_org_ninefold_model_Grid) #[iv ix] (fun m => rfl) (fun p e s m below meth c s₁ Bd hx hby hml hZ hown hnm X0 e0 => ?_)
 have N0 := Fr.nil n0
 refine Go.step (S' := s₁.setTop (mkF m 4 #[iv ix] [(.int (ix / (9 : Int32)))])) (fun t k => ?_) ?_
 · refine XS.iloadN X0.here hx rfl (hb hby d23_0) rfl ?_
   refine XS.bipush X0.here hx rfl (hb hby d23_1) ?_
   refine XS.idiv X0.here hx rfl (hb hby d23_3) rfl (by decide) ?_
   exact k
 exact Go.rt X0 hx Bd (w := (.int (ix / (9 : Int32)))) rfl (Or.inl ⟨rfl, Or.inl rfl, _, rfl⟩) (hb hby d23_4) e0 ⟨rfl, N0, rfl⟩
abbrev y_12 : MethodName := ⟨"org/ninefold/model/Grid", "column", "(I)I"⟩
theorem d24_0 : decode prog_10_method_6_code 0 = .ok (.iload_n 0, 1) := by decide +kernel
theorem d24_1 : decode prog_10_method_6_code 1 = .ok (.bipush 9, 2) := by decide +kernel
theorem d24_3 : decode prog_10_method_6_code 3 = .ok (.irem, 1) := by decide +kernel
theorem d24_4 : decode prog_10_method_6_code 4 = .ok (.ireturn, 1) := by decide +kernel
abbrev rm_rmCo : Room := ({ frames := 0, cells := 0, slots := 0, locals := 0 } : Room)
def Q_rmCo (Z : State) (ix : Int32) (h0 : Heap) (n0 : Nat) (v : Option Value) (h : Heap) (L : List Loc) : Prop := (v = some (.int (ix % (9 : Int32)))) ∧ (Fr n0 L) ∧ (h = h0)
theorem rmCo (l : Launch) (Z : State) (a0 : Array Value) (hw : HW a0 Z) (ws : List Jvm.Cond) (ix : Int32) (h0 : Heap) (n0 : Nat) (O : Old Z n0 h0) :
    Mt l Z y_12 prog_10_method_6_code 1 (some .int) ws rm_rmCo #[(.int ix)] h0 (Q_rmCo Z ix h0 n0) := by
 refine own_met "org/ninefold/model/Grid" (plainFor_of_name pn_org_ninefold_model_Grid) #[iv ix] (fun m => rfl) (fun p e s m below meth c s₁ Bd hx hby hml hZ hown hnm X0 e0 => ?_)
 have N0 := Fr.nil n0
 refine Go.step (S' := s₁.setTop (mkF m 4 #[iv ix] [(.int (ix % (9 : Int32)))])) (fun t k => ?_) ?_
 · refine XS.iloadN X0.here hx rfl (hb hby d24_0) rfl ?_
   refine XS.bipush X0.here hx rfl (hb hby d24_1) ?_
   refine iremM X0 hx rfl (hb hby d24_3) rfl (by decide) ?_
   exact k
 exact Go.rt X0 hx Bd (w := (.int (ix % (9 : Int32)))) rfl (Or.inl ⟨rfl, Or.inl rfl, _, rfl⟩) (hb hby d24_4) e0 ⟨rfl, N0, rfl⟩
abbrev y_13 : MethodName := ⟨"org/ninefold/model/Grid", "box", "(I)I"⟩
theorem d25_0 : decode prog_10_method_7_code 0 = .ok (.iload_n 0, 1) := by decide +kernel
theorem d25_1 : decode prog_10_method_7_code 1 = .ok (.invokestatic 74, 3) := by decide +kernel
theorem pd__28I_29I : parseMethodDescriptor "(I)I" = some ⟨[.int], some .int⟩ := by decide +kernel
theorem d25_4 : decode prog_10_method_7_code 4 = .ok (.iconst 3, 1) := by decide +kernel
theorem d25_5 : decode prog_10_method_7_code 5 = .ok (.idiv, 1) := by decide +kernel
theorem d25_6 : decode prog_10_method_7_code 6 = .ok (.iconst 3, 1) := by decide +kernel
theorem d25_7 : decode prog_10_method_7_code 7 = .ok (.imul, 1) := by decide +kernel
theorem d25_8 : decode prog_10_method_7_code 8 = .ok (.iload_n 0, 1) := by decide +kernel
theorem d25_9 : decode prog_10_method_7_code 9 = .ok (.invokestatic 83, 3) := by decide +kernel
theorem d25_12 : decode prog_10_method_7_code 12 = .ok (.iconst 3, 1) := by decide +kernel
theorem d25_13 : decode prog_10_method_7_code 13 = .ok (.idiv, 1) := by decide +kernel
theorem d25_14 : decode prog_10_method_7_code 14 = .ok (.iadd, 1) := by decide +kernel
theorem d25_15 : decode prog_10_method_7_code 15 = .ok (.ireturn, 1) := by decide +kernel
abbrev rm_rmBx : Room := ({ frames := 1, cells := 0, slots := 0, locals := 13 } : Room)
def Q_rmBx (Z : State) (ix : Int32) (h0 : Heap) (n0 : Nat) (v : Option Value) (h : Heap) (L : List Loc) : Prop := (v = some (.int ((((ix / (9 : Int32)) / (3 : Int32)) * (3 : Int32)) + ((ix % (9 : Int32)) / (3 : Int32))))) ∧ (Fr n0 L) ∧ (h = h0)
theorem rmBx (l : Launch) (Z : State) (a0 : Array Value) (hw : HW a0 Z) (ws : List Jvm.Cond) (ix : Int32) (h0 : Heap) (n0 : Nat) (O : Old Z n0 h0) :
    Mt l Z y_13 prog_10_method_7_code 1 (some .int) ws rm_rmBx #[(.int ix)] h0 (Q_rmBx Z ix h0 n0) := by
 refine own_met "org/ninefold/model/Grid" (plainFor_of_name pn_org_ninefold_model_Grid) #[iv ix] (fun m => rfl) (fun p e s m below meth c s₁ Bd hx hby hml hZ hown hnm X0 e0 => ?_)
 have N0 := Fr.nil n0
 refine Go.step (S' := s₁.setTop (mkF m 1 #[iv ix] [(.int ix)])) (fun t k => ?_) ?_
 · refine XS.iloadN X0.here hx rfl (hb hby d25_0) rfl ?_
   exact k
 refine Go.cS X0 hx hml hown hZ (own_w hw 134 rfl) (own_w hw 135 rfl) (own_w hw 65 rfl) (own_w hw 136 rfl) (rmRw l Z a0 hw [] ix h0 n0 O ) 0 [] pd__28I_29I (hb hby d25_1) e0 (fun _ T1 L1 X1 hQ1 => ?_)
 obtain ⟨rfl, Nq1, e1⟩ := hQ1
 have N1 := Fr.app N0 Nq1
 refine Go.step (S' := T1.setTop (mkF m 9 #[iv ix] [(.int ix), (.int (((ix / (9 : Int32)) / (3 : Int32)) * (3 : Int32)))])) (fun t k => ?_) ?_
 · refine XS.iconst X1.here hx rfl (hb hby d25_4) ?_
   refine XS.idiv X1.here hx rfl (hb hby d25_5) rfl (by decide) ?_
   refine XS.iconst X1.here hx rfl (hb hby d25_6) ?_
   refine XS.imul X1.here hx rfl (hb hby d25_7) rfl ?_
   refine XS.iloadN X1.here hx rfl (hb hby d25_8) rfl ?_
   exact k
 refine Go.cS X1 hx hml hown hZ (own_w hw 137 rfl) (own_w hw 138 rfl) (own_w hw 65 rfl) (own_w hw 139 rfl) (rmCo l Z a0 hw [] ix h0 n0 O ) 1 [(.int (((ix / (9 : Int32)) / (3 : Int32)) * (3 : Int32)))] pd__28I_29I (hb hby d25_9) e1 (fun _ T2 L2 X2 hQ2 => ?_)
 obtain ⟨rfl, Nq2, e2⟩ := hQ2
 have N2 := Fr.app N1 Nq2
 refine Go.step (S' := T2.setTop (mkF m 15 #[iv ix] [(.int ((((ix / (9 : Int32)) / (3 : Int32)) * (3 : Int32)) + ((ix % (9 : Int32)) / (3 : Int32))))])) (fun t k => ?_) ?_
 · refine XS.iconst X2.here hx rfl (hb hby d25_12) ?_
   refine XS.idiv X2.here hx rfl (hb hby d25_13) rfl (by decide) ?_
   refine XS.iadd X2.here hx rfl (hb hby d25_14) rfl ?_
   exact k
 exact Go.rt X2 hx Bd (w := (.int ((((ix / (9 : Int32)) / (3 : Int32)) * (3 : Int32)) + ((ix % (9 : Int32)) / (3 : Int32))))) rfl (Or.inl ⟨rfl, Or.inl rfl, _, rfl⟩) (hb hby d25_15) e2 ⟨rfl, N2, rfl⟩
abbrev y_14 : MethodName := ⟨"org/ninefold/model/Grid", "<init>", "([B)V"⟩
theorem d26_0 : decode prog_10_method_1_code 0 = .ok (.aload_n 0, 1) := by decide +kernel
theorem d26_1 : decode prog_10_method_1_code 1 = .ok (.invokespecial 1, 3) := by decide +kernel
theorem d26_4 : decode prog_10_method_1_code 4 = .ok (.aload_n 0, 1) := by decide +kernel
theorem d26_5 : decode prog_10_method_1_code 5 = .ok (.aload_n 1, 1) := by decide +kernel
theorem d26_6 : decode prog_10_method_1_code 6 = .ok (.putfield 7, 3) := by decide +kernel
theorem d26_9 : decode prog_10_method_1_code 9 = .ok (.return_, 1) := by decide +kernel
abbrev rm_rmGI : Room := ({ frames := 1, cells := 0, slots := 0, locals := 12 } : Room)
def Q_rmGI (Z : State) (gb : Addr) (tb : Addr) (h0 : Heap) (n0 : Nat) (v : Option Value) (h : Heap) (L : List Loc) : Prop := (v = none) ∧ (Fr n0 L) ∧ (Keep h0 h [gb]) ∧ (Exa Z h gb "org/ninefold/model/Grid") ∧ (Fd_7 Z h gb (.ref tb))
theorem rmGI (l : Launch) (Z : State) (a0 : Array Value) (hw : HW a0 Z) (ws : List Jvm.Cond) (gb : Addr) (tb : Addr) (h0 : Heap) (n0 : Nat) (O : Old Z n0 h0) (E_gb : Exa Z h0 gb "org/ninefold/model/Grid") (F_d : Fd_7 Z h0 gb .null) (g_gb : n0 ≤ gb) :
    Mt l Z y_14 prog_10_method_1_code 2 none ws rm_rmGI #[(.ref gb), (.ref tb)] h0 (Q_rmGI Z gb tb h0 n0) := by
 refine own_met "org/ninefold/model/Grid" (plainFor_of_name pn_org_ninefold_model_Grid) #[rv gb, rv tb] (fun m => rfl) (fun p e s m below meth c s₁ Bd hx hby hml hZ hown hnm X0 e0 => ?_)
 have N0 := Fr.nil n0
 have K := Keep.refl h0 [gb]
 refine Go.step (S' := s₁.setTop (mkF m 1 #[rv gb, rv tb] [(.ref gb)])) (fun t k => ?_) ?_
 · refine XS.aloadN X0.here hx rfl (hb hby d26_0) rfl rfl ?_
   exact k
 obtain ⟨T1, X1, e1, st1⟩ := initO X0 hx hZ hown (own_w hw 148 rfl) (own_w hw 7 rfl) (own_w hw 8 rfl) e0 (g := (mkF m 1 #[rv gb, rv tb] [(.ref gb)])) rfl (by rw [hml]; rfl) rfl (hb hby d26_1) (by decide) (W := 0) (by show 2 * 0 + _ ≤ _; exact Nat.le_of_eq rfl) (by decide)
 refine Go.step st1 ?_
 refine Go.step (S' := T1.setTop (mkF m 6 #[rv gb, rv tb] [(.ref tb), (.ref gb)])) (fun t k => ?_) ?_
 · refine XS.aloadN X1.here hx rfl (hb hby d26_4) rfl rfl ?_
   refine XS.aloadN X1.here hx rfl (hb hby d26_5) rfl rfl ?_
   exact k
 obtain ⟨T2, h2, X2, e2, W2, st2⟩ := putF X1 hx hZ hown (host := "") (Or.inl (own_w hw 149 rfl)) Via.refl e1 F_d E_gb (Or.inr ⟨(own_w hw 150 rfl), rfl, hnm⟩) (own_w hw 144 rfl) (ty := (.array .byte)) (by decide) rfl rfl (g := (mkF m 6 #[rv gb, rv tb] [(.ref tb), (.ref gb)])) rfl rfl (hb hby d26_6)
 have O := O.wr W2 g_gb
 have E_gb := E_gb.wr W2
 have F_d := F_d.same W2
 have K := K.wr W2 (Or.inl (List.mem_of_getElem? (i := 0) rfl))
 have N2 := Fr.snoc X2 N0 g_gb
 refine Go.step st2 ?_
 exact Go.rv X2 hx Bd (hb hby d26_9) e2 ⟨rfl, N2, K, E_gb, F_d⟩
theorem own_inc {i : Int32} (h0 : 0 ≤ i.toInt) (h1 : i.toInt < 81) : (i + 1).toInt = i.toInt + 1 := by
  rw [Int32.toInt_add]
  simp only [Int.bmod_def, show (1 : Int32).toInt = 1 from rfl]
  omega
theorem own_lt81 {i : Int32} (h1 : i.toInt < 81) : i < (81 : Int32) := by rw [Int32.lt_iff_toInt_lt]; exact h1
theorem own_nlt {i : Int32} (h0 : 0 ≤ i.toInt) : ¬ (i < (0 : Int32)) := by rw [Int32.lt_iff_toInt_lt]; exact Int.not_lt.mpr h0
theorem own_e81 {i : Int32} (h : i.toInt + (0 : Nat) = 81) : i = 81 := by rw [← Int32.toInt_inj]; exact (by simpa using h)
theorem own_clamp {i : Int32} (h0 : 0 ≤ i.toInt) : (i.toNatClampNeg : Int) = i.toInt := by simp only [Int32.toNatClampNeg]; omega
theorem own_rr {i : Int32} (h0 : 0 ≤ i.toInt) (h1 : i.toInt < 81) : ¬ ((i / 9) < (0 : Int32)) ∧ (i / 9) < (9 : Int32) := by
  have e := (c_idiv i 9 9 (by decide) (by decide)).1 h0
  simp only [Int32.lt_iff_toInt_lt, show (0 : Int32).toInt = 0 from rfl, show (9 : Int32).toInt = 9 from rfl] at *
  omega
theorem own_rc {i : Int32} (h0 : 0 ≤ i.toInt) : ¬ ((i % 9) < (0 : Int32)) ∧ (i % 9) < (9 : Int32) := by
  have e := (c_irem i 9 9 (by decide)).1 h0
  simp only [Int32.lt_iff_toInt_lt, show (0 : Int32).toInt = 0 from rfl, show (9 : Int32).toInt = 9 from rfl] at *
  omega
theorem own_key (r z : Int) (h : (r - z) % 4294967296 = 0) (h1 : -2147483648 ≤ r) (h2 : r ≤ 2147483647) (h3 : 0 ≤ z) (h4 : z ≤ 8) : 0 ≤ r ∧ r < 9 := by omega
theorem own_rb' {a b : Int32} (ha : ¬ (a < (0 : Int32)) ∧ a < (9 : Int32)) (hb : ¬ (b < (0 : Int32)) ∧ b < (9 : Int32)) : ¬ ((((a / 3) * 3) + (b / 3)) < (0 : Int32)) ∧ (((a / 3) * 3) + (b / 3)) < (9 : Int32) := by
  simp only [Int32.lt_iff_toInt_lt, show (0 : Int32).toInt = 0 from rfl, show (9 : Int32).toInt = 9 from rfl] at *
  have e1 := (c_idiv a 3 3 (by decide) (by decide)).1 (by omega)
  have e2 := (c_idiv b 3 3 (by decide) (by decide)).1 (by omega)
  have e3 := c_imul (a / 3) 3
  have e4 := c_iadd ((a / 3) * 3) (b / 3)
  have r3 := rng32 ((a / 3) * 3)
  have r4 := rng32 (((a / 3) * 3) + (b / 3))
  simp only [show (3 : Int32).toInt = 3 from rfl] at e3
  have b1 : 0 ≤ (a / 3).toInt ∧ (a / 3).toInt ≤ 2 := by omega
  have b2 : 0 ≤ (b / 3).toInt ∧ (b / 3).toInt ≤ 2 := by omega
  generalize (a / 3).toInt = x at *
  generalize (b / 3).toInt = y at *
  have m : ((a / 3) * 3).toInt = x * 3 := by omega
  rw [m] at e4
  exact (own_key _ _ e4 (by omega) (by omega) (by omega) (by omega)).imp Int.not_lt.mpr id
theorem own_rb {i : Int32} (h0 : 0 ≤ i.toInt) (h1 : i.toInt < 81) : ¬ (((((i / 9) / 3) * 3) + ((i % 9) / 3)) < (0 : Int32)) ∧ ((((i / 9) / 3) * 3) + ((i % 9) / 3)) < (9 : Int32) := own_rb' (own_rr h0 h1) (own_rc h0)
theorem own_clampS {i : Int32} (h0 : 0 ≤ i.toInt) (h1 : i.toInt < 81) : (i + 1).toNatClampNeg = i.toNatClampNeg + 1 := by
  have e := own_inc h0 h1
  have a := own_clamp h0
  have b := own_clamp (i := i + 1) (by omega)
  omega
theorem own_cl81 {i : Int32} (h0 : 0 ≤ i.toInt) (h1 : i.toInt < 81) : i.toNatClampNeg < 81 := by have := own_clamp h0; omega
theorem own_rep (k n : Nat) (v : Value) : (List.replicate k v).getD n v = v := by
  simp only [List.getD_eq_getElem?_getD, List.getElem?_replicate]
  split <;> rfl
theorem own_len {j n : Int32} {v : Value} {k : Nat} (q : ¬ j < 0 ∧ j < n) (h : n.toNatClampNeg = k) : j.toNatClampNeg < (List.replicate k v).length := by
  rw [List.length_replicate, ← h]
  obtain ⟨a, b⟩ := q
  rw [Int32.lt_iff_toInt_lt] at a b
  simp only [show (0 : Int32).toInt = 0 from rfl, Int32.toNatClampNeg] at *
  omega
abbrev own_sl (u v : Slot) : Prop := (u = u_ ∧ v = u_) ∨ (∃ x, u = iv x ∧ v = u_) ∨ (∃ x y, u = iv x ∧ v = iv y)
theorem own_z0 (x : Int32) : ((0 : Int32) &&& x) = 0 := by rw [← Int32.toBitVec_inj]; simp
abbrev y_15 : MethodName := ⟨"org/ninefold/model/Grid", "ofGivens", "([B)Lorg/ninefold/model/Grid;"⟩
theorem d22_0 : decode prog_10_method_4_code 0 = .ok (.bipush 9, 2) := by decide +kernel
theorem d22_2 : decode prog_10_method_4_code 2 = .ok (.newarray .int, 2) := by decide +kernel
theorem d22_4 : decode prog_10_method_4_code 4 = .ok (.astore_n 1, 1) := by decide +kernel
theorem d22_5 : decode prog_10_method_4_code 5 = .ok (.bipush 9, 2) := by decide +kernel
theorem d22_7 : decode prog_10_method_4_code 7 = .ok (.newarray .int, 2) := by decide +kernel
theorem d22_9 : decode prog_10_method_4_code 9 = .ok (.astore_n 2, 1) := by decide +kernel
theorem d22_10 : decode prog_10_method_4_code 10 = .ok (.bipush 9, 2) := by decide +kernel
theorem d22_12 : decode prog_10_method_4_code 12 = .ok (.newarray .int, 2) := by decide +kernel
theorem d22_14 : decode prog_10_method_4_code 14 = .ok (.astore_n 3, 1) := by decide +kernel
theorem d22_15 : decode prog_10_method_4_code 15 = .ok (.iconst 0, 1) := by decide +kernel
theorem d22_16 : decode prog_10_method_4_code 16 = .ok (.istore 4, 2) := by decide +kernel
theorem d22_18 : decode prog_10_method_4_code 18 = .ok (.iload 4, 2) := by decide +kernel
theorem d22_20 : decode prog_10_method_4_code 20 = .ok (.bipush 81, 2) := by decide +kernel
theorem d22_22 : decode prog_10_method_4_code 22 = .ok (.if_icmp .ge 143, 3) := by decide +kernel
theorem d22_165 : decode prog_10_method_4_code 165 = .ok (.new 8, 3) := by decide +kernel
theorem d22_168 : decode prog_10_method_4_code 168 = .ok (.dup, 1) := by decide +kernel
theorem d22_169 : decode prog_10_method_4_code 169 = .ok (.aload_n 0, 1) := by decide +kernel
theorem d22_170 : decode prog_10_method_4_code 170 = .ok (.invokespecial 48, 3) := by decide +kernel
theorem pd__28_5bB_29V : parseMethodDescriptor "([B)V" = some ⟨[(.array .byte)], none⟩ := by decide +kernel
theorem d22_173 : decode prog_10_method_4_code 173 = .ok (.areturn, 1) := by decide +kernel
theorem d22_25 : decode prog_10_method_4_code 25 = .ok (.aload_n 0, 1) := by decide +kernel
theorem d22_26 : decode prog_10_method_4_code 26 = .ok (.iload 4, 2) := by decide +kernel
theorem d22_28 : decode prog_10_method_4_code 28 = .ok (.baload, 1) := by decide +kernel
theorem d22_29 : decode prog_10_method_4_code 29 = .ok (.istore 5, 2) := by decide +kernel
theorem d22_31 : decode prog_10_method_4_code 31 = .ok (.iload 5, 2) := by decide +kernel
theorem d22_33 : decode prog_10_method_4_code 33 = .ok (.ifCond .ne 6, 3) := by decide +kernel
theorem d22_36 : decode prog_10_method_4_code 36 = .ok (.goto 123, 3) := by decide +kernel
theorem d22_159 : decode prog_10_method_4_code 159 = .ok (.iinc 4 1, 3) := by decide +kernel
theorem d22_162 : decode prog_10_method_4_code 162 = .ok (.goto (-144), 3) := by decide +kernel
theorem d22_39 : decode prog_10_method_4_code 39 = .ok (.iconst 1, 1) := by decide +kernel
theorem d22_40 : decode prog_10_method_4_code 40 = .ok (.iload 5, 2) := by decide +kernel
theorem d22_42 : decode prog_10_method_4_code 42 = .ok (.ishl, 1) := by decide +kernel
theorem d22_43 : decode prog_10_method_4_code 43 = .ok (.istore 6, 2) := by decide +kernel
theorem d22_45 : decode prog_10_method_4_code 45 = .ok (.aload_n 1, 1) := by decide +kernel
theorem d22_46 : decode prog_10_method_4_code 46 = .ok (.iload 4, 2) := by decide +kernel
theorem d22_48 : decode prog_10_method_4_code 48 = .ok (.invokestatic 74, 3) := by decide +kernel
theorem d22_51 : decode prog_10_method_4_code 51 = .ok (.iaload, 1) := by decide +kernel
theorem d22_52 : decode prog_10_method_4_code 52 = .ok (.iload 6, 2) := by decide +kernel
theorem d22_54 : decode prog_10_method_4_code 54 = .ok (.iand, 1) := by decide +kernel
theorem d22_55 : decode prog_10_method_4_code 55 = .ok (.ifCond .eq 16, 3) := by decide +kernel
theorem d22_71 : decode prog_10_method_4_code 71 = .ok (.aload_n 2, 1) := by decide +kernel
theorem d22_72 : decode prog_10_method_4_code 72 = .ok (.iload 4, 2) := by decide +kernel
theorem d22_74 : decode prog_10_method_4_code 74 = .ok (.invokestatic 83, 3) := by decide +kernel
theorem d22_77 : decode prog_10_method_4_code 77 = .ok (.iaload, 1) := by decide +kernel
theorem d22_78 : decode prog_10_method_4_code 78 = .ok (.iload 6, 2) := by decide +kernel
theorem d22_80 : decode prog_10_method_4_code 80 = .ok (.iand, 1) := by decide +kernel
theorem d22_81 : decode prog_10_method_4_code 81 = .ok (.ifCond .eq 16, 3) := by decide +kernel
theorem d22_97 : decode prog_10_method_4_code 97 = .ok (.aload_n 3, 1) := by decide +kernel
theorem d22_98 : decode prog_10_method_4_code 98 = .ok (.iload 4, 2) := by decide +kernel
theorem d22_100 : decode prog_10_method_4_code 100 = .ok (.invokestatic 87, 3) := by decide +kernel
theorem d22_103 : decode prog_10_method_4_code 103 = .ok (.iaload, 1) := by decide +kernel
theorem d22_104 : decode prog_10_method_4_code 104 = .ok (.iload 6, 2) := by decide +kernel
theorem d22_106 : decode prog_10_method_4_code 106 = .ok (.iand, 1) := by decide +kernel
theorem d22_107 : decode prog_10_method_4_code 107 = .ok (.ifCond .eq 16, 3) := by decide +kernel
theorem d22_123 : decode prog_10_method_4_code 123 = .ok (.aload_n 1, 1) := by decide +kernel
theorem d22_124 : decode prog_10_method_4_code 124 = .ok (.iload 4, 2) := by decide +kernel
theorem d22_126 : decode prog_10_method_4_code 126 = .ok (.invokestatic 74, 3) := by decide +kernel
theorem d22_129 : decode prog_10_method_4_code 129 = .ok (.dup2, 1) := by decide +kernel
theorem d22_130 : decode prog_10_method_4_code 130 = .ok (.iaload, 1) := by decide +kernel
theorem d22_131 : decode prog_10_method_4_code 131 = .ok (.iload 6, 2) := by decide +kernel
theorem d22_133 : decode prog_10_method_4_code 133 = .ok (.ior, 1) := by decide +kernel
theorem d22_134 : decode prog_10_method_4_code 134 = .ok (.iastore, 1) := by decide +kernel
theorem d22_135 : decode prog_10_method_4_code 135 = .ok (.aload_n 2, 1) := by decide +kernel
theorem d22_136 : decode prog_10_method_4_code 136 = .ok (.iload 4, 2) := by decide +kernel
theorem d22_138 : decode prog_10_method_4_code 138 = .ok (.invokestatic 83, 3) := by decide +kernel
theorem d22_141 : decode prog_10_method_4_code 141 = .ok (.dup2, 1) := by decide +kernel
theorem d22_142 : decode prog_10_method_4_code 142 = .ok (.iaload, 1) := by decide +kernel
theorem d22_143 : decode prog_10_method_4_code 143 = .ok (.iload 6, 2) := by decide +kernel
theorem d22_145 : decode prog_10_method_4_code 145 = .ok (.ior, 1) := by decide +kernel
theorem d22_146 : decode prog_10_method_4_code 146 = .ok (.iastore, 1) := by decide +kernel
theorem d22_147 : decode prog_10_method_4_code 147 = .ok (.aload_n 3, 1) := by decide +kernel
theorem d22_148 : decode prog_10_method_4_code 148 = .ok (.iload 4, 2) := by decide +kernel
theorem d22_150 : decode prog_10_method_4_code 150 = .ok (.invokestatic 87, 3) := by decide +kernel
theorem d22_153 : decode prog_10_method_4_code 153 = .ok (.dup2, 1) := by decide +kernel
theorem d22_154 : decode prog_10_method_4_code 154 = .ok (.iaload, 1) := by decide +kernel
theorem d22_155 : decode prog_10_method_4_code 155 = .ok (.iload 6, 2) := by decide +kernel
theorem d22_157 : decode prog_10_method_4_code 157 = .ok (.ior, 1) := by decide +kernel
theorem d22_158 : decode prog_10_method_4_code 158 = .ok (.iastore, 1) := by decide +kernel
abbrev rm_rmOf : Room := ({ frames := 2, cells := 4, slots := 28, locals := 26 } : Room)
def Q_rmOf (Z : State) (tb : Addr) (kb : ClassId) (vs : List Value) (pp : Nat) (h0 : Heap) (n0 : Nat) (v : Option Value) (h : Heap) (L : List Loc) : Prop := ∃ gb : Addr, (v = some (.ref gb)) ∧ (Fr n0 L) ∧ (Keep h0 h []) ∧ (Exa Z h gb "org/ninefold/model/Grid") ∧ (Fd_7 Z h gb (.ref tb)) ∧ (n0 ≤ gb)
theorem rmOf (l : Launch) (Z : State) (a0 : Array Value) (hw : HW a0 Z) (ws : List Jvm.Cond) (tb : Addr) (kb : ClassId) (vs : List Value) (pp : Nat) (h0 : Heap) (n0 : Nat) (O : Old Z n0 h0) (V_tb : Arv Z h0 tb kb .byte (81 : Int32) vs (.int 0)) (hz : ∀ zj : Nat, zj < 81 → ∃ zd : Int32, vs.getD zj (.int 0) = .int zd ∧ (¬ (zd = (0 : Int32)) → zj = pp)) :
    Mt l Z y_15 prog_10_method_4_code 7 (some (.object "org/ninefold/model/Grid")) ws rm_rmOf #[(.ref tb)] h0 (Q_rmOf Z tb kb vs pp h0 n0) := by
 refine own_met "org/ninefold/model/Grid" (plainFor_of_name pn_org_ninefold_model_Grid) #[rv tb, u_, u_, u_, u_, u_, u_] (fun m => rfl) (fun p e s m below meth c s₁ Bd hx hby hml hZ hown hnm X0 e0 => ?_)
 have N0 := Fr.nil n0
 have K := Keep.refl h0 []
 refine Go.step (S' := s₁.setTop (mkF m 2 #[rv tb, u_, u_, u_, u_, u_, u_] [(.int 9)])) (fun t k => ?_) ?_
 · refine XS.bipush X0.here hx rfl (hb hby d22_0) ?_
   exact k
 obtain ⟨T1, h1, k1, X1, e1, E1, A1, Q1, st1⟩ := newPE X0 hx hZ (own_w hw 133 rfl) e0 (g := (mkF m 2 #[rv tb, u_, u_, u_, u_, u_, u_] [(.int 9)])) rfl (hb hby d22_2) rfl (by decide) (cap := 9) (by decide) (by decide) (by decide) (by decide) (ad := "[I") rfl
 obtain ⟨b1, g1⟩ : ∃ z, z = Array.size h0 := ⟨_, rfl⟩
 have g_b1 : n0 ≤ b1 := Nat.le_trans (old_le O) (Nat.le_of_eq g1.symm)
 have sz_b1 : h0.size ≤ b1 := Nat.le_trans K.1 (Nat.le_of_eq g1.symm)
 have ne_tb_b1 : tb ≠ b1 := Nat.ne_of_lt (Nat.lt_of_lt_of_le V_tb.lt (Nat.le_of_eq g1.symm))
 rw [← g1] at A1 Q1 st1
 have O := O.ext E1
 have V_tb := V_tb.ext E1
 have K := K.ext E1
 have V_b1 : Arv Z h1 b1 k1 .int (9 : Int32) (List.replicate 9 (.int 0)) (.int 0) := (Arv.new A1 (by decide)).pad (pad_rep [] (.int 0) 9)
 have E_b1 := Q1
 refine Go.step st1 ?_
 refine Go.step (S' := T1.setTop (mkF m 7 #[rv tb, rv b1, u_, u_, u_, u_, u_] [(.int 9)])) (fun t k => ?_) ?_
 · refine XS.astoreN X1.here hx rfl (hb hby d22_4) rfl rfl (l' := #[rv tb, rv b1, u_, u_, u_, u_, u_]) rfl ?_
   refine XS.bipush X1.here hx rfl (hb hby d22_5) ?_
   exact k
 obtain ⟨T2, h2, k2, X2, e2, E2, A2, Q2, st2⟩ := newPE X1 hx hZ (own_w hw 133 rfl) e1 (g := (mkF m 7 #[rv tb, rv b1, u_, u_, u_, u_, u_] [(.int 9)])) rfl (hb hby d22_7) rfl (by decide) (cap := 9) (by decide) (by decide) (by decide) (by decide) (ad := "[I") rfl
 obtain ⟨b2, g2⟩ : ∃ z, z = Array.size h1 := ⟨_, rfl⟩
 have g_b2 : n0 ≤ b2 := Nat.le_trans (old_le O) (Nat.le_of_eq g2.symm)
 have sz_b2 : h0.size ≤ b2 := Nat.le_trans K.1 (Nat.le_of_eq g2.symm)
 have ne_tb_b2 : tb ≠ b2 := Nat.ne_of_lt (Nat.lt_of_lt_of_le V_tb.lt (Nat.le_of_eq g2.symm))
 have ne_b1_b2 : b1 ≠ b2 := Nat.ne_of_lt (Nat.lt_of_lt_of_le V_b1.lt (Nat.le_of_eq g2.symm))
 rw [← g2] at A2 Q2 st2
 have O := O.ext E2
 have V_tb := V_tb.ext E2
 have K := K.ext E2
 have V_b1 := V_b1.ext E2
 have E_b1 := E_b1.ext E2
 have V_b2 : Arv Z h2 b2 k2 .int (9 : Int32) (List.replicate 9 (.int 0)) (.int 0) := (Arv.new A2 (by decide)).pad (pad_rep [] (.int 0) 9)
 have E_b2 := Q2
 refine Go.step st2 ?_
 refine Go.step (S' := T2.setTop (mkF m 12 #[rv tb, rv b1, rv b2, u_, u_, u_, u_] [(.int 9)])) (fun t k => ?_) ?_
 · refine XS.astoreN X2.here hx rfl (hb hby d22_9) rfl rfl (l' := #[rv tb, rv b1, rv b2, u_, u_, u_, u_]) rfl ?_
   refine XS.bipush X2.here hx rfl (hb hby d22_10) ?_
   exact k
 obtain ⟨T3, h3, k3, X3, e3, E3, A3, Q3, st3⟩ := newPE X2 hx hZ (own_w hw 133 rfl) e2 (g := (mkF m 12 #[rv tb, rv b1, rv b2, u_, u_, u_, u_] [(.int 9)])) rfl (hb hby d22_12) rfl (by decide) (cap := 9) (by decide) (by decide) (by decide) (by decide) (ad := "[I") rfl
 obtain ⟨b3, g3⟩ : ∃ z, z = Array.size h2 := ⟨_, rfl⟩
 have g_b3 : n0 ≤ b3 := Nat.le_trans (old_le O) (Nat.le_of_eq g3.symm)
 have sz_b3 : h0.size ≤ b3 := Nat.le_trans K.1 (Nat.le_of_eq g3.symm)
 have ne_tb_b3 : tb ≠ b3 := Nat.ne_of_lt (Nat.lt_of_lt_of_le V_tb.lt (Nat.le_of_eq g3.symm))
 have ne_b1_b3 : b1 ≠ b3 := Nat.ne_of_lt (Nat.lt_of_lt_of_le V_b1.lt (Nat.le_of_eq g3.symm))
 have ne_b2_b3 : b2 ≠ b3 := Nat.ne_of_lt (Nat.lt_of_lt_of_le V_b2.lt (Nat.le_of_eq g3.symm))
 rw [← g3] at A3 Q3 st3
 have O := O.ext E3
 have V_tb := V_tb.ext E3
 have K := K.ext E3
 have V_b1 := V_b1.ext E3
 have E_b1 := E_b1.ext E3
 have V_b2 := V_b2.ext E3
 have E_b2 := E_b2.ext E3
 have V_b3 : Arv Z h3 b3 k3 .int (9 : Int32) (List.replicate 9 (.int 0)) (.int 0) := (Arv.new A3 (by decide)).pad (pad_rep [] (.int 0) 9)
 have E_b3 := Q3
 refine Go.step st3 ?_
 refine Go.step (S' := T3.setTop (mkF m 18 #[rv tb, rv b1, rv b2, rv b3, iv 0, u_, u_] [])) (fun t k => ?_) ?_
 · refine XS.astoreN X3.here hx rfl (hb hby d22_14) rfl rfl (l' := #[rv tb, rv b1, rv b2, rv b3, u_, u_, u_]) rfl ?_
   refine XS.iconst X3.here hx rfl (hb hby d22_15) ?_
   refine XS.istore X3.here hx rfl (hb hby d22_16) rfl (l' := #[rv tb, rv b1, rv b2, rv b3, iv 0, u_, u_]) rfl ?_
   exact k
 have L2 : ∀ (k : Nat) (i : Int32) (u v : Slot) (T : State) (h : Heap) (lc : List Loc), own_sl u v → Stand p l e rm_rmOf s m #[(.ref tb)] below meth c T lc 3 27 → T.heap = h → Fr n0 lc → Old Z n0 h → Keep h0 h [] → Arv Z h tb kb .byte 81 vs (.int 0) → i.toInt + k = 81 → 0 ≤ i.toInt → (∀ j : Nat, i.toNatClampNeg ≤ j → j < 81 → vs.getD j (.int 0) = .int 0) → Go p e below (Gq (Q_rmOf Z tb kb vs pp h0 n0) s rm_rmOf.cells rm_rmOf.slots) (T.setTop (mkF m 18 #[rv tb, rv b1, rv b2, rv b3, iv i, u, v] [])) := by
  intro k
  induction k with
  | zero =>
   intro i u v T9 h9 lc hsl X9 e9 N9 O K V_tb hk hi hz0
   obtain rfl := own_e81 hk
   refine Go.step (S' := T9.setTop (mkF m 165 #[rv tb, rv b1, rv b2, rv b3, iv 81, u, v] [])) (fun t k => ?_) ?_
   · refine XS.iload X9.here hx rfl (hb hby d22_18) rfl ?_
     refine XS.bipush X9.here hx rfl (hb hby d22_20) ?_
     refine XS.icmpYes X9.here hx rfl (pc0 := 22) (pc' := 165) rfl (hb hby d22_22) rfl (flt ((by decide) : ¬ ((81 : Int32) < (81 : Int32)))).2.1 (by decide) (by decide) ?_
     exact k
   obtain ⟨T4, h4, X4, e4, E4, A4, D4, -, st4⟩ := newO X9 hx hZ hown (own_w hw 143 rfl) (own_w hw 144 rfl) (own_w hw 65 rfl) e9 (g := (mkF m 165 #[rv tb, rv b1, rv b2, rv b3, iv 81, u, v] [])) rfl (hb hby d22_165) (by decide) (by decide)
   obtain ⟨b4, g4⟩ : ∃ z, z = Array.size h9 := ⟨_, rfl⟩
   have g_b4 : n0 ≤ b4 := Nat.le_trans (old_le O) (Nat.le_of_eq g4.symm)
   have sz_b4 : h0.size ≤ b4 := Nat.le_trans K.1 (Nat.le_of_eq g4.symm)
   have ne_tb_b4 : tb ≠ b4 := Nat.ne_of_lt (Nat.lt_of_lt_of_le V_tb.lt (Nat.le_of_eq g4.symm))
   rw [← g4] at A4 D4 st4
   have O := O.ext E4
   have K := K.ext E4
   have V_tb := V_tb.ext E4
   have E_b4 := A4
   have F_digits_b4 : Fd_7 Z h4 b4 .null := D4 (Or.inr (own_w hw 150 rfl)) (ty := (.array .byte)) (by decide)
   refine Go.step st4 ?_
   refine Go.step (S' := T4.setTop (mkF m 170 #[rv tb, rv b1, rv b2, rv b3, iv 81, u, v] [(.ref tb), (.ref b4), (.ref b4)])) (fun t k => ?_) ?_
   · refine XS.dup X4.here hx rfl (hb hby d22_168) rfl rfl ?_
     refine XS.aloadN X4.here hx rfl (hb hby d22_169) rfl rfl ?_
     exact k
   refine Go.cI X4 hx hml hown hZ (own_w hw 145 rfl) (own_w hw 146 rfl) (own_w hw 65 rfl) (own_w hw 147 rfl) (rmGI l Z a0 hw [] b4 tb h4 n0 O E_b4 F_digits_b4 (by assumption)) 1 [(.ref b4)] pd__28_5bB_29V (hb hby d22_170) e4 (fun _ T5 L5 X5 hQ5 => ?_)
   obtain ⟨rfl, Nq5, K5, P5_E_gb, P5_F_d⟩ := hQ5
   have N5 := Fr.app N9 Nq5
   have O := O.keep K5 (allS g_b4 all0)
   have K := K.trans K5 (allS (Or.inr sz_b4) all0)
   have V_tb := V_tb.keep K5 (ninS ne_tb_b4 nin0)
   have E_b4 := E_b4.keep K5
   have E_gb_5 := P5_E_gb
   have F_d_5 := P5_F_d
   exact Go.rt X5 hx Bd (w := (.ref b4)) rfl (Or.inr (Or.inr (Or.inr (Or.inr ⟨rfl, rfl, rfl⟩)))) (hb hby d22_173) (Eq.refl T5.heap) ⟨b4, rfl, N5, K, E_b4, F_d_5, g_b4⟩
  | succ k ih =>
   intro i u v T9 h9 lc hsl X9 e9 N9 O K V_tb hk hi hz0
   have hl : i.toInt < 81 := by omega
   rcases hsl with ⟨rfl, rfl⟩ | ⟨x, rfl, rfl⟩ | ⟨x, y, rfl, rfl⟩
   ·skip
    refine Go.step (S' := T9.setTop (mkF m 28 #[rv tb, rv b1, rv b2, rv b3, iv i, u_, u_] [(.int i), (.ref tb)])) (fun t k => ?_) ?_
    · refine XS.iload X9.here hx rfl (hb hby d22_18) rfl ?_
      refine XS.bipush X9.here hx rfl (hb hby d22_20) ?_
      refine XS.icmpNo X9.here hx rfl (hb hby d22_22) rfl (tlt ((own_lt81 hl) : i < (81 : Int32))).2.1 ?_
      refine XS.aloadN X9.here hx rfl (hb hby d22_25) rfl rfl ?_
      refine XS.iload X9.here hx rfl (hb hby d22_26) rfl ?_
      exact k
    refine Go.bal X9 hx hZ e9 V_tb (hb hby d22_28) (v := (.int 0)) (hz0 _ (Nat.le_refl _) (own_cl81 hi hl)) ?_ ⟨own_nlt hi, own_lt81 hl⟩
    refine Go.step (S' := T9.setTop (mkF m 18 #[rv tb, rv b1, rv b2, rv b3, iv (i + (1 : Int32)), iv 0, u_] [])) (fun t k => ?_) ?_
    · refine XS.istore X9.here hx rfl (hb hby d22_29) rfl (l' := #[rv tb, rv b1, rv b2, rv b3, iv i, iv 0, u_]) rfl ?_
      refine XS.iload X9.here hx rfl (hb hby d22_31) rfl ?_
      refine XS.ifNo X9.here hx rfl (hb hby d22_33) rfl ((if0 _ _).trans (teq ((by decide) : (0 : Int32) = (0 : Int32))).2) ?_
      refine XS.goto X9.here hx rfl (pc0 := 36) (pc' := 159) rfl (hb hby d22_36) (by decide) (by decide) ?_
      refine XS.iinc X9.here hx rfl (hb hby d22_159) rfl (l' := #[rv tb, rv b1, rv b2, rv b3, iv (i + (1 : Int32)), iv 0, u_]) rfl ?_
      refine XS.goto X9.here hx rfl (pc0 := 162) (pc' := 18) rfl (hb hby d22_162) (by decide) (by decide) ?_
      exact k
    exact ih _ _ _ _ _ _ (Or.inr (Or.inl ⟨_, rfl, rfl⟩)) X9 e9 N9 O K V_tb (by rw [own_inc hi hl]; omega) (by rw [own_inc hi hl]; omega) (fun j a b => hz0 j (by rw [own_clampS hi hl] at a; omega) b)
   ·skip
    refine Go.step (S' := T9.setTop (mkF m 28 #[rv tb, rv b1, rv b2, rv b3, iv i, iv x, u_] [(.int i), (.ref tb)])) (fun t k => ?_) ?_
    · refine XS.iload X9.here hx rfl (hb hby d22_18) rfl ?_
      refine XS.bipush X9.here hx rfl (hb hby d22_20) ?_
      refine XS.icmpNo X9.here hx rfl (hb hby d22_22) rfl (tlt ((own_lt81 hl) : i < (81 : Int32))).2.1 ?_
      refine XS.aloadN X9.here hx rfl (hb hby d22_25) rfl rfl ?_
      refine XS.iload X9.here hx rfl (hb hby d22_26) rfl ?_
      exact k
    refine Go.bal X9 hx hZ e9 V_tb (hb hby d22_28) (v := (.int 0)) (hz0 _ (Nat.le_refl _) (own_cl81 hi hl)) ?_ ⟨own_nlt hi, own_lt81 hl⟩
    refine Go.step (S' := T9.setTop (mkF m 18 #[rv tb, rv b1, rv b2, rv b3, iv (i + (1 : Int32)), iv 0, u_] [])) (fun t k => ?_) ?_
    · refine XS.istore X9.here hx rfl (hb hby d22_29) rfl (l' := #[rv tb, rv b1, rv b2, rv b3, iv i, iv 0, u_]) rfl ?_
      refine XS.iload X9.here hx rfl (hb hby d22_31) rfl ?_
      refine XS.ifNo X9.here hx rfl (hb hby d22_33) rfl ((if0 _ _).trans (teq ((by decide) : (0 : Int32) = (0 : Int32))).2) ?_
      refine XS.goto X9.here hx rfl (pc0 := 36) (pc' := 159) rfl (hb hby d22_36) (by decide) (by decide) ?_
      refine XS.iinc X9.here hx rfl (hb hby d22_159) rfl (l' := #[rv tb, rv b1, rv b2, rv b3, iv (i + (1 : Int32)), iv 0, u_]) rfl ?_
      refine XS.goto X9.here hx rfl (pc0 := 162) (pc' := 18) rfl (hb hby d22_162) (by decide) (by decide) ?_
      exact k
    exact ih _ _ _ _ _ _ (Or.inr (Or.inl ⟨_, rfl, rfl⟩)) X9 e9 N9 O K V_tb (by rw [own_inc hi hl]; omega) (by rw [own_inc hi hl]; omega) (fun j a b => hz0 j (by rw [own_clampS hi hl] at a; omega) b)
   ·skip
    refine Go.step (S' := T9.setTop (mkF m 28 #[rv tb, rv b1, rv b2, rv b3, iv i, iv x, iv y] [(.int i), (.ref tb)])) (fun t k => ?_) ?_
    · refine XS.iload X9.here hx rfl (hb hby d22_18) rfl ?_
      refine XS.bipush X9.here hx rfl (hb hby d22_20) ?_
      refine XS.icmpNo X9.here hx rfl (hb hby d22_22) rfl (tlt ((own_lt81 hl) : i < (81 : Int32))).2.1 ?_
      refine XS.aloadN X9.here hx rfl (hb hby d22_25) rfl rfl ?_
      refine XS.iload X9.here hx rfl (hb hby d22_26) rfl ?_
      exact k
    refine Go.bal X9 hx hZ e9 V_tb (hb hby d22_28) (v := (.int 0)) (hz0 _ (Nat.le_refl _) (own_cl81 hi hl)) ?_ ⟨own_nlt hi, own_lt81 hl⟩
    refine Go.step (S' := T9.setTop (mkF m 18 #[rv tb, rv b1, rv b2, rv b3, iv (i + (1 : Int32)), iv 0, iv y] [])) (fun t k => ?_) ?_
    · refine XS.istore X9.here hx rfl (hb hby d22_29) rfl (l' := #[rv tb, rv b1, rv b2, rv b3, iv i, iv 0, iv y]) rfl ?_
      refine XS.iload X9.here hx rfl (hb hby d22_31) rfl ?_
      refine XS.ifNo X9.here hx rfl (hb hby d22_33) rfl ((if0 _ _).trans (teq ((by decide) : (0 : Int32) = (0 : Int32))).2) ?_
      refine XS.goto X9.here hx rfl (pc0 := 36) (pc' := 159) rfl (hb hby d22_36) (by decide) (by decide) ?_
      refine XS.iinc X9.here hx rfl (hb hby d22_159) rfl (l' := #[rv tb, rv b1, rv b2, rv b3, iv (i + (1 : Int32)), iv 0, iv y]) rfl ?_
      refine XS.goto X9.here hx rfl (pc0 := 162) (pc' := 18) rfl (hb hby d22_162) (by decide) (by decide) ?_
      exact k
    exact ih _ _ _ _ _ _ (Or.inr (Or.inr ⟨_, _, rfl, rfl⟩)) X9 e9 N9 O K V_tb (by rw [own_inc hi hl]; omega) (by rw [own_inc hi hl]; omega) (fun j a b => hz0 j (by rw [own_clampS hi hl] at a; omega) b)
 have L1 : ∀ (k : Nat) (i : Int32) (u v : Slot) (T : State) (h : Heap) (lc : List Loc), own_sl u v → Stand p l e rm_rmOf s m #[(.ref tb)] below meth c T lc 3 27 → T.heap = h → Fr n0 lc → Old Z n0 h → Keep h0 h [] → Arv Z h tb kb .byte 81 vs (.int 0) → Arv Z h b1 k1 .int (9 : Int32) (List.replicate 9 (.int 0)) (.int 0) → Arv Z h b2 k2 .int (9 : Int32) (List.replicate 9 (.int 0)) (.int 0) → Arv Z h b3 k3 .int (9 : Int32) (List.replicate 9 (.int 0)) (.int 0) → i.toInt + k = 81 → 0 ≤ i.toInt → Go p e below (Gq (Q_rmOf Z tb kb vs pp h0 n0) s rm_rmOf.cells rm_rmOf.slots) (T.setTop (mkF m 18 #[rv tb, rv b1, rv b2, rv b3, iv i, u, v] [])) := by
  intro k
  induction k with
  | zero =>
   intro i u v T9 h9 lc hsl X9 e9 N9 O K V_tb V_ra V_ca V_ba hk hi
   exact L2 0 i u v _ _ _ hsl X9 e9 N9 O K V_tb hk hi (fun j a b => by have := own_clamp hi; omega)
  | succ k ih =>
   intro i u v T9 h9 lc hsl X9 e9 N9 O K V_tb V_ra V_ca V_ba hk hi
   have hl : i.toInt < 81 := by omega
   obtain ⟨d, hd, hdp⟩ := hz i.toNatClampNeg (own_cl81 hi hl)
   rcases hsl with ⟨rfl, rfl⟩ | ⟨x, rfl, rfl⟩ | ⟨x, y, rfl, rfl⟩
   ·skip
    refine Go.step (S' := T9.setTop (mkF m 28 #[rv tb, rv b1, rv b2, rv b3, iv i, u_, u_] [(.int i), (.ref tb)])) (fun t k => ?_) ?_
    · refine XS.iload X9.here hx rfl (hb hby d22_18) rfl ?_
      refine XS.bipush X9.here hx rfl (hb hby d22_20) ?_
      refine XS.icmpNo X9.here hx rfl (hb hby d22_22) rfl (tlt ((own_lt81 hl) : i < (81 : Int32))).2.1 ?_
      refine XS.aloadN X9.here hx rfl (hb hby d22_25) rfl rfl ?_
      refine XS.iload X9.here hx rfl (hb hby d22_26) rfl ?_
      exact k
    refine Go.bal X9 hx hZ e9 V_tb (hb hby d22_28) (v := (.int d)) hd ?_ ⟨own_nlt hi, own_lt81 hl⟩
    refine Go.step (S' := T9.setTop (mkF m 33 #[rv tb, rv b1, rv b2, rv b3, iv i, iv d, u_] [(.int d)])) (fun t k => ?_) ?_
    · refine XS.istore X9.here hx rfl (hb hby d22_29) rfl (l' := #[rv tb, rv b1, rv b2, rv b3, iv i, iv d, u_]) rfl ?_
      refine XS.iload X9.here hx rfl (hb hby d22_31) rfl ?_
      exact k
    by_cases hc33 : d = (0 : Int32)
    ·skip
     refine Go.step (S' := T9.setTop (mkF m 18 #[rv tb, rv b1, rv b2, rv b3, iv (i + (1 : Int32)), iv d, u_] [])) (fun t k => ?_) ?_
     · refine XS.ifNo X9.here hx rfl (hb hby d22_33) rfl ((if0 _ _).trans (teq (hc33 : d = (0 : Int32))).2) ?_
       refine XS.goto X9.here hx rfl (pc0 := 36) (pc' := 159) rfl (hb hby d22_36) (by decide) (by decide) ?_
       refine XS.iinc X9.here hx rfl (hb hby d22_159) rfl (l' := #[rv tb, rv b1, rv b2, rv b3, iv (i + (1 : Int32)), iv d, u_]) rfl ?_
       refine XS.goto X9.here hx rfl (pc0 := 162) (pc' := 18) rfl (hb hby d22_162) (by decide) (by decide) ?_
       exact k
     exact ih _ _ _ _ _ _ (Or.inr (Or.inl ⟨_, rfl, rfl⟩)) X9 e9 N9 O K V_tb V_ra V_ca V_ba (by rw [own_inc hi hl]; omega) (by rw [own_inc hi hl]; omega)
    ·skip
     refine Go.step (S' := T9.setTop (mkF m 48 #[rv tb, rv b1, rv b2, rv b3, iv i, iv d, iv ((1 : Int32) <<< (d &&& 31))] [(.int i), (.ref b1)])) (fun t k => ?_) ?_
     · refine XS.ifYes X9.here hx rfl (pc0 := 33) (pc' := 39) rfl (hb hby d22_33) rfl ((if0 _ _).trans (feq (hc33 : ¬ (d = (0 : Int32)))).2) (by decide) (by decide) ?_
       refine XS.iconst X9.here hx rfl (hb hby d22_39) ?_
       refine XS.iload X9.here hx rfl (hb hby d22_40) rfl ?_
       refine XS.ishl X9.here hx rfl (hb hby d22_42) rfl ?_
       refine XS.istore X9.here hx rfl (hb hby d22_43) rfl (l' := #[rv tb, rv b1, rv b2, rv b3, iv i, iv d, iv ((1 : Int32) <<< (d &&& 31))]) rfl ?_
       refine XS.aloadN X9.here hx rfl (hb hby d22_45) rfl rfl ?_
       show Steps p.tables e below (T9.setTop (mkF m 46 #[rv tb, rv b1, rv b2, rv b3, iv i, iv d, iv ((1 : Int32) <<< (d &&& 31))] [(.ref b1)])) _
       refine XS.iload X9.here hx rfl (hb hby d22_46) rfl ?_
       exact k
     refine Go.cS X9 hx hml hown hZ (own_w hw 134 rfl) (own_w hw 135 rfl) (own_w hw 65 rfl) (own_w hw 136 rfl) (rmRw l Z a0 hw [] i h9 n0 O ) 1 [(.ref b1)] pd__28I_29I (hb hby d22_48) e9 (fun _ T10 L10 X10 hQ10 => ?_)
     obtain ⟨rfl, Nq10, e10⟩ := hQ10
     have N10 := Fr.app N9 Nq10
     refine Go.ial X10 hx hZ e10 V_ra (hb hby d22_51) (v := (.int 0)) (own_rep _ _ _) ?_ (own_rr hi hl)
     refine Go.step (S' := T10.setTop (mkF m 74 #[rv tb, rv b1, rv b2, rv b3, iv i, iv d, iv ((1 : Int32) <<< (d &&& 31))] [(.int i), (.ref b2)])) (fun t k => ?_) ?_
     · refine XS.iload X10.here hx rfl (hb hby d22_52) rfl ?_
       refine XS.iand X10.here hx rfl (hb hby d22_54) rfl ?_
       refine XS.ifYes X10.here hx rfl (pc0 := 55) (pc' := 71) rfl (hb hby d22_55) rfl ((if0 _ _).trans (teq ((own_z0 _) : ((0 : Int32) &&& ((1 : Int32) <<< (d &&& 31))) = (0 : Int32))).1) (by decide) (by decide) ?_
       refine XS.aloadN X10.here hx rfl (hb hby d22_71) rfl rfl ?_
       refine XS.iload X10.here hx rfl (hb hby d22_72) rfl ?_
       exact k
     refine Go.cS X10 hx hml hown hZ (own_w hw 137 rfl) (own_w hw 138 rfl) (own_w hw 65 rfl) (own_w hw 139 rfl) (rmCo l Z a0 hw [] i h9 n0 O ) 1 [(.ref b2)] pd__28I_29I (hb hby d22_74) e10 (fun _ T12 L12 X12 hQ12 => ?_)
     obtain ⟨rfl, Nq12, e12⟩ := hQ12
     have N12 := Fr.app N10 Nq12
     refine Go.ial X12 hx hZ e12 V_ca (hb hby d22_77) (v := (.int 0)) (own_rep _ _ _) ?_ (own_rc hi)
     refine Go.step (S' := T12.setTop (mkF m 100 #[rv tb, rv b1, rv b2, rv b3, iv i, iv d, iv ((1 : Int32) <<< (d &&& 31))] [(.int i), (.ref b3)])) (fun t k => ?_) ?_
     · refine XS.iload X12.here hx rfl (hb hby d22_78) rfl ?_
       refine XS.iand X12.here hx rfl (hb hby d22_80) rfl ?_
       refine XS.ifYes X12.here hx rfl (pc0 := 81) (pc' := 97) rfl (hb hby d22_81) rfl ((if0 _ _).trans (teq ((own_z0 _) : ((0 : Int32) &&& ((1 : Int32) <<< (d &&& 31))) = (0 : Int32))).1) (by decide) (by decide) ?_
       refine XS.aloadN X12.here hx rfl (hb hby d22_97) rfl rfl ?_
       refine XS.iload X12.here hx rfl (hb hby d22_98) rfl ?_
       exact k
     refine Go.cS X12 hx hml hown hZ (own_w hw 140 rfl) (own_w hw 141 rfl) (own_w hw 65 rfl) (own_w hw 142 rfl) (rmBx l Z a0 hw [] i h9 n0 O ) 1 [(.ref b3)] pd__28I_29I (hb hby d22_100) e12 (fun _ T14 L14 X14 hQ14 => ?_)
     obtain ⟨rfl, Nq14, e14⟩ := hQ14
     have N14 := Fr.app N12 Nq14
     refine Go.ial X14 hx hZ e14 V_ba (hb hby d22_103) (v := (.int 0)) (own_rep _ _ _) ?_ (own_rb hi hl)
     refine Go.step (S' := T14.setTop (mkF m 126 #[rv tb, rv b1, rv b2, rv b3, iv i, iv d, iv ((1 : Int32) <<< (d &&& 31))] [(.int i), (.ref b1)])) (fun t k => ?_) ?_
     · refine XS.iload X14.here hx rfl (hb hby d22_104) rfl ?_
       refine XS.iand X14.here hx rfl (hb hby d22_106) rfl ?_
       refine XS.ifYes X14.here hx rfl (pc0 := 107) (pc' := 123) rfl (hb hby d22_107) rfl ((if0 _ _).trans (teq ((own_z0 _) : ((0 : Int32) &&& ((1 : Int32) <<< (d &&& 31))) = (0 : Int32))).1) (by decide) (by decide) ?_
       refine XS.aloadN X14.here hx rfl (hb hby d22_123) rfl rfl ?_
       refine XS.iload X14.here hx rfl (hb hby d22_124) rfl ?_
       exact k
     refine Go.cS X14 hx hml hown hZ (own_w hw 134 rfl) (own_w hw 135 rfl) (own_w hw 65 rfl) (own_w hw 136 rfl) (rmRw l Z a0 hw [] i h9 n0 O ) 1 [(.ref b1)] pd__28I_29I (hb hby d22_126) e14 (fun _ T16 L16 X16 hQ16 => ?_)
     obtain ⟨rfl, Nq16, e16⟩ := hQ16
     have N16 := Fr.app N14 Nq16
     refine Go.step (S' := T16.setTop (mkF m 130 #[rv tb, rv b1, rv b2, rv b3, iv i, iv d, iv ((1 : Int32) <<< (d &&& 31))] [(.int (i / (9 : Int32))), (.ref b1), (.int (i / (9 : Int32))), (.ref b1)])) (fun t k => ?_) ?_
     · jvm_step X16.here [X16.here.top, hx, (hb hby d22_129), Value.category]
       exact k
     refine Go.ial X16 hx hZ e16 V_ra (hb hby d22_130) (v := (.int 0)) (own_rep _ _ _) ?_ (own_rr hi hl)
     refine Go.step (S' := T16.setTop (mkF m 134 #[rv tb, rv b1, rv b2, rv b3, iv i, iv d, iv ((1 : Int32) <<< (d &&& 31))] [(.int ((0 : Int32) ||| ((1 : Int32) <<< (d &&& 31)))), (.int (i / (9 : Int32))), (.ref b1)])) (fun t k => ?_) ?_
     · refine XS.iload X16.here hx rfl (hb hby d22_131) rfl ?_
       refine XS.ior X16.here hx rfl (hb hby d22_133) rfl ?_
       exact k
     refine Go.ist X16 hx hZ e16 V_ra (hb hby d22_134) (own_rr hi hl) (own_len (own_rr hi hl) rfl) (fun T18 h18 X18 e18 W18 V18 => ?_)
     have O := O.wr W18 g_b1
     have K := K.wr W18 (Or.inr sz_b1)
     have V_tb := V_tb.other W18 ne_tb_b1
     have V_ca := V_ca.other W18 (Ne.symm ne_b1_b2)
     have V_ba := V_ba.other W18 (Ne.symm ne_b1_b3)
     have V_ra : Arv Z h18 b1 k1 .int (9 : Int32) ((List.replicate 9 (.int 0)).set ((i / (9 : Int32))).toNatClampNeg (.int ((0 : Int32) ||| ((1 : Int32) <<< (d &&& 31))))) (.int 0) := id V18
     have N18 := Fr.snoc X18 N16 g_b1
     refine Go.step (S' := T18.setTop (mkF m 138 #[rv tb, rv b1, rv b2, rv b3, iv i, iv d, iv ((1 : Int32) <<< (d &&& 31))] [(.int i), (.ref b2)])) (fun t k => ?_) ?_
     · refine XS.aloadN X18.here hx rfl (hb hby d22_135) rfl rfl ?_
       refine XS.iload X18.here hx rfl (hb hby d22_136) rfl ?_
       exact k
     refine Go.cS X18 hx hml hown hZ (own_w hw 137 rfl) (own_w hw 138 rfl) (own_w hw 65 rfl) (own_w hw 139 rfl) (rmCo l Z a0 hw [] i h18 n0 O ) 1 [(.ref b2)] pd__28I_29I (hb hby d22_138) e18 (fun _ T19 L19 X19 hQ19 => ?_)
     obtain ⟨rfl, Nq19, e19⟩ := hQ19
     have N19 := Fr.app N18 Nq19
     refine Go.step (S' := T19.setTop (mkF m 142 #[rv tb, rv b1, rv b2, rv b3, iv i, iv d, iv ((1 : Int32) <<< (d &&& 31))] [(.int (i % (9 : Int32))), (.ref b2), (.int (i % (9 : Int32))), (.ref b2)])) (fun t k => ?_) ?_
     · jvm_step X19.here [X19.here.top, hx, (hb hby d22_141), Value.category]
       exact k
     refine Go.ial X19 hx hZ e19 V_ca (hb hby d22_142) (v := (.int 0)) (own_rep _ _ _) ?_ (own_rc hi)
     refine Go.step (S' := T19.setTop (mkF m 146 #[rv tb, rv b1, rv b2, rv b3, iv i, iv d, iv ((1 : Int32) <<< (d &&& 31))] [(.int ((0 : Int32) ||| ((1 : Int32) <<< (d &&& 31)))), (.int (i % (9 : Int32))), (.ref b2)])) (fun t k => ?_) ?_
     · refine XS.iload X19.here hx rfl (hb hby d22_143) rfl ?_
       refine XS.ior X19.here hx rfl (hb hby d22_145) rfl ?_
       exact k
     refine Go.ist X19 hx hZ e19 V_ca (hb hby d22_146) (own_rc hi) (own_len (own_rc hi) rfl) (fun T21 h21 X21 e21 W21 V21 => ?_)
     have O := O.wr W21 g_b2
     have K := K.wr W21 (Or.inr sz_b2)
     have V_tb := V_tb.other W21 ne_tb_b2
     have V_ra := V_ra.other W21 ne_b1_b2
     have V_ba := V_ba.other W21 (Ne.symm ne_b2_b3)
     have V_ca : Arv Z h21 b2 k2 .int (9 : Int32) ((List.replicate 9 (.int 0)).set ((i % (9 : Int32))).toNatClampNeg (.int ((0 : Int32) ||| ((1 : Int32) <<< (d &&& 31))))) (.int 0) := id V21
     have N21 := Fr.snoc X21 N19 g_b2
     refine Go.step (S' := T21.setTop (mkF m 150 #[rv tb, rv b1, rv b2, rv b3, iv i, iv d, iv ((1 : Int32) <<< (d &&& 31))] [(.int i), (.ref b3)])) (fun t k => ?_) ?_
     · refine XS.aloadN X21.here hx rfl (hb hby d22_147) rfl rfl ?_
       refine XS.iload X21.here hx rfl (hb hby d22_148) rfl ?_
       exact k
     refine Go.cS X21 hx hml hown hZ (own_w hw 140 rfl) (own_w hw 141 rfl) (own_w hw 65 rfl) (own_w hw 142 rfl) (rmBx l Z a0 hw [] i h21 n0 O ) 1 [(.ref b3)] pd__28I_29I (hb hby d22_150) e21 (fun _ T22 L22 X22 hQ22 => ?_)
     obtain ⟨rfl, Nq22, e22⟩ := hQ22
     have N22 := Fr.app N21 Nq22
     refine Go.step (S' := T22.setTop (mkF m 154 #[rv tb, rv b1, rv b2, rv b3, iv i, iv d, iv ((1 : Int32) <<< (d &&& 31))] [(.int ((((i / (9 : Int32)) / (3 : Int32)) * (3 : Int32)) + ((i % (9 : Int32)) / (3 : Int32)))), (.ref b3), (.int ((((i / (9 : Int32)) / (3 : Int32)) * (3 : Int32)) + ((i % (9 : Int32)) / (3 : Int32)))), (.ref b3)])) (fun t k => ?_) ?_
     · jvm_step X22.here [X22.here.top, hx, (hb hby d22_153), Value.category]
       exact k
     refine Go.ial X22 hx hZ e22 V_ba (hb hby d22_154) (v := (.int 0)) (own_rep _ _ _) ?_ (own_rb hi hl)
     refine Go.step (S' := T22.setTop (mkF m 158 #[rv tb, rv b1, rv b2, rv b3, iv i, iv d, iv ((1 : Int32) <<< (d &&& 31))] [(.int ((0 : Int32) ||| ((1 : Int32) <<< (d &&& 31)))), (.int ((((i / (9 : Int32)) / (3 : Int32)) * (3 : Int32)) + ((i % (9 : Int32)) / (3 : Int32)))), (.ref b3)])) (fun t k => ?_) ?_
     · refine XS.iload X22.here hx rfl (hb hby d22_155) rfl ?_
       refine XS.ior X22.here hx rfl (hb hby d22_157) rfl ?_
       exact k
     refine Go.ist X22 hx hZ e22 V_ba (hb hby d22_158) (own_rb hi hl) (own_len (own_rb hi hl) rfl) (fun T24 h24 X24 e24 W24 V24 => ?_)
     have O := O.wr W24 g_b3
     have K := K.wr W24 (Or.inr sz_b3)
     have V_tb := V_tb.other W24 ne_tb_b3
     have V_ra := V_ra.other W24 ne_b1_b3
     have V_ca := V_ca.other W24 ne_b2_b3
     have V_ba : Arv Z h24 b3 k3 .int (9 : Int32) ((List.replicate 9 (.int 0)).set (((((i / (9 : Int32)) / (3 : Int32)) * (3 : Int32)) + ((i % (9 : Int32)) / (3 : Int32)))).toNatClampNeg (.int ((0 : Int32) ||| ((1 : Int32) <<< (d &&& 31))))) (.int 0) := id V24
     have N24 := Fr.snoc X24 N22 g_b3
     refine Go.step (S' := T24.setTop (mkF m 18 #[rv tb, rv b1, rv b2, rv b3, iv (i + (1 : Int32)), iv d, iv ((1 : Int32) <<< (d &&& 31))] [])) (fun t k => ?_) ?_
     · refine XS.iinc X24.here hx rfl (hb hby d22_159) rfl (l' := #[rv tb, rv b1, rv b2, rv b3, iv (i + (1 : Int32)), iv d, iv ((1 : Int32) <<< (d &&& 31))]) rfl ?_
       refine XS.goto X24.here hx rfl (pc0 := 162) (pc' := 18) rfl (hb hby d22_162) (by decide) (by decide) ?_
       exact k
     have hpp := hdp hc33
     exact L2 k _ _ _ _ _ _ (Or.inr (Or.inr ⟨_, _, rfl, rfl⟩)) X24 e24 N24 O K V_tb (by rw [own_inc hi hl]; omega) (by rw [own_inc hi hl]; omega) (fun j a b => by rw [own_clampS hi hl] at a; obtain ⟨zd, z1, z2⟩ := hz j b; rw [z1, (Decidable.byContradiction fun q => absurd (z2 q) (by omega) : zd = 0)])
   ·skip
    refine Go.step (S' := T9.setTop (mkF m 28 #[rv tb, rv b1, rv b2, rv b3, iv i, iv x, u_] [(.int i), (.ref tb)])) (fun t k => ?_) ?_
    · refine XS.iload X9.here hx rfl (hb hby d22_18) rfl ?_
      refine XS.bipush X9.here hx rfl (hb hby d22_20) ?_
      refine XS.icmpNo X9.here hx rfl (hb hby d22_22) rfl (tlt ((own_lt81 hl) : i < (81 : Int32))).2.1 ?_
      refine XS.aloadN X9.here hx rfl (hb hby d22_25) rfl rfl ?_
      refine XS.iload X9.here hx rfl (hb hby d22_26) rfl ?_
      exact k
    refine Go.bal X9 hx hZ e9 V_tb (hb hby d22_28) (v := (.int d)) hd ?_ ⟨own_nlt hi, own_lt81 hl⟩
    refine Go.step (S' := T9.setTop (mkF m 33 #[rv tb, rv b1, rv b2, rv b3, iv i, iv d, u_] [(.int d)])) (fun t k => ?_) ?_
    · refine XS.istore X9.here hx rfl (hb hby d22_29) rfl (l' := #[rv tb, rv b1, rv b2, rv b3, iv i, iv d, u_]) rfl ?_
      refine XS.iload X9.here hx rfl (hb hby d22_31) rfl ?_
      exact k
    by_cases hc33 : d = (0 : Int32)
    ·skip
     refine Go.step (S' := T9.setTop (mkF m 18 #[rv tb, rv b1, rv b2, rv b3, iv (i + (1 : Int32)), iv d, u_] [])) (fun t k => ?_) ?_
     · refine XS.ifNo X9.here hx rfl (hb hby d22_33) rfl ((if0 _ _).trans (teq (hc33 : d = (0 : Int32))).2) ?_
       refine XS.goto X9.here hx rfl (pc0 := 36) (pc' := 159) rfl (hb hby d22_36) (by decide) (by decide) ?_
       refine XS.iinc X9.here hx rfl (hb hby d22_159) rfl (l' := #[rv tb, rv b1, rv b2, rv b3, iv (i + (1 : Int32)), iv d, u_]) rfl ?_
       refine XS.goto X9.here hx rfl (pc0 := 162) (pc' := 18) rfl (hb hby d22_162) (by decide) (by decide) ?_
       exact k
     exact ih _ _ _ _ _ _ (Or.inr (Or.inl ⟨_, rfl, rfl⟩)) X9 e9 N9 O K V_tb V_ra V_ca V_ba (by rw [own_inc hi hl]; omega) (by rw [own_inc hi hl]; omega)
    ·skip
     refine Go.step (S' := T9.setTop (mkF m 48 #[rv tb, rv b1, rv b2, rv b3, iv i, iv d, iv ((1 : Int32) <<< (d &&& 31))] [(.int i), (.ref b1)])) (fun t k => ?_) ?_
     · refine XS.ifYes X9.here hx rfl (pc0 := 33) (pc' := 39) rfl (hb hby d22_33) rfl ((if0 _ _).trans (feq (hc33 : ¬ (d = (0 : Int32)))).2) (by decide) (by decide) ?_
       refine XS.iconst X9.here hx rfl (hb hby d22_39) ?_
       refine XS.iload X9.here hx rfl (hb hby d22_40) rfl ?_
       refine XS.ishl X9.here hx rfl (hb hby d22_42) rfl ?_
       refine XS.istore X9.here hx rfl (hb hby d22_43) rfl (l' := #[rv tb, rv b1, rv b2, rv b3, iv i, iv d, iv ((1 : Int32) <<< (d &&& 31))]) rfl ?_
       refine XS.aloadN X9.here hx rfl (hb hby d22_45) rfl rfl ?_
       show Steps p.tables e below (T9.setTop (mkF m 46 #[rv tb, rv b1, rv b2, rv b3, iv i, iv d, iv ((1 : Int32) <<< (d &&& 31))] [(.ref b1)])) _
       refine XS.iload X9.here hx rfl (hb hby d22_46) rfl ?_
       exact k
     refine Go.cS X9 hx hml hown hZ (own_w hw 134 rfl) (own_w hw 135 rfl) (own_w hw 65 rfl) (own_w hw 136 rfl) (rmRw l Z a0 hw [] i h9 n0 O ) 1 [(.ref b1)] pd__28I_29I (hb hby d22_48) e9 (fun _ T26 L26 X26 hQ26 => ?_)
     obtain ⟨rfl, Nq26, e26⟩ := hQ26
     have N26 := Fr.app N9 Nq26
     refine Go.ial X26 hx hZ e26 V_ra (hb hby d22_51) (v := (.int 0)) (own_rep _ _ _) ?_ (own_rr hi hl)
     refine Go.step (S' := T26.setTop (mkF m 74 #[rv tb, rv b1, rv b2, rv b3, iv i, iv d, iv ((1 : Int32) <<< (d &&& 31))] [(.int i), (.ref b2)])) (fun t k => ?_) ?_
     · refine XS.iload X26.here hx rfl (hb hby d22_52) rfl ?_
       refine XS.iand X26.here hx rfl (hb hby d22_54) rfl ?_
       refine XS.ifYes X26.here hx rfl (pc0 := 55) (pc' := 71) rfl (hb hby d22_55) rfl ((if0 _ _).trans (teq ((own_z0 _) : ((0 : Int32) &&& ((1 : Int32) <<< (d &&& 31))) = (0 : Int32))).1) (by decide) (by decide) ?_
       refine XS.aloadN X26.here hx rfl (hb hby d22_71) rfl rfl ?_
       refine XS.iload X26.here hx rfl (hb hby d22_72) rfl ?_
       exact k
     refine Go.cS X26 hx hml hown hZ (own_w hw 137 rfl) (own_w hw 138 rfl) (own_w hw 65 rfl) (own_w hw 139 rfl) (rmCo l Z a0 hw [] i h9 n0 O ) 1 [(.ref b2)] pd__28I_29I (hb hby d22_74) e26 (fun _ T28 L28 X28 hQ28 => ?_)
     obtain ⟨rfl, Nq28, e28⟩ := hQ28
     have N28 := Fr.app N26 Nq28
     refine Go.ial X28 hx hZ e28 V_ca (hb hby d22_77) (v := (.int 0)) (own_rep _ _ _) ?_ (own_rc hi)
     refine Go.step (S' := T28.setTop (mkF m 100 #[rv tb, rv b1, rv b2, rv b3, iv i, iv d, iv ((1 : Int32) <<< (d &&& 31))] [(.int i), (.ref b3)])) (fun t k => ?_) ?_
     · refine XS.iload X28.here hx rfl (hb hby d22_78) rfl ?_
       refine XS.iand X28.here hx rfl (hb hby d22_80) rfl ?_
       refine XS.ifYes X28.here hx rfl (pc0 := 81) (pc' := 97) rfl (hb hby d22_81) rfl ((if0 _ _).trans (teq ((own_z0 _) : ((0 : Int32) &&& ((1 : Int32) <<< (d &&& 31))) = (0 : Int32))).1) (by decide) (by decide) ?_
       refine XS.aloadN X28.here hx rfl (hb hby d22_97) rfl rfl ?_
       refine XS.iload X28.here hx rfl (hb hby d22_98) rfl ?_
       exact k
     refine Go.cS X28 hx hml hown hZ (own_w hw 140 rfl) (own_w hw 141 rfl) (own_w hw 65 rfl) (own_w hw 142 rfl) (rmBx l Z a0 hw [] i h9 n0 O ) 1 [(.ref b3)] pd__28I_29I (hb hby d22_100) e28 (fun _ T30 L30 X30 hQ30 => ?_)
     obtain ⟨rfl, Nq30, e30⟩ := hQ30
     have N30 := Fr.app N28 Nq30
     refine Go.ial X30 hx hZ e30 V_ba (hb hby d22_103) (v := (.int 0)) (own_rep _ _ _) ?_ (own_rb hi hl)
     refine Go.step (S' := T30.setTop (mkF m 126 #[rv tb, rv b1, rv b2, rv b3, iv i, iv d, iv ((1 : Int32) <<< (d &&& 31))] [(.int i), (.ref b1)])) (fun t k => ?_) ?_
     · refine XS.iload X30.here hx rfl (hb hby d22_104) rfl ?_
       refine XS.iand X30.here hx rfl (hb hby d22_106) rfl ?_
       refine XS.ifYes X30.here hx rfl (pc0 := 107) (pc' := 123) rfl (hb hby d22_107) rfl ((if0 _ _).trans (teq ((own_z0 _) : ((0 : Int32) &&& ((1 : Int32) <<< (d &&& 31))) = (0 : Int32))).1) (by decide) (by decide) ?_
       refine XS.aloadN X30.here hx rfl (hb hby d22_123) rfl rfl ?_
       refine XS.iload X30.here hx rfl (hb hby d22_124) rfl ?_
       exact k
     refine Go.cS X30 hx hml hown hZ (own_w hw 134 rfl) (own_w hw 135 rfl) (own_w hw 65 rfl) (own_w hw 136 rfl) (rmRw l Z a0 hw [] i h9 n0 O ) 1 [(.ref b1)] pd__28I_29I (hb hby d22_126) e30 (fun _ T32 L32 X32 hQ32 => ?_)
     obtain ⟨rfl, Nq32, e32⟩ := hQ32
     have N32 := Fr.app N30 Nq32
     refine Go.step (S' := T32.setTop (mkF m 130 #[rv tb, rv b1, rv b2, rv b3, iv i, iv d, iv ((1 : Int32) <<< (d &&& 31))] [(.int (i / (9 : Int32))), (.ref b1), (.int (i / (9 : Int32))), (.ref b1)])) (fun t k => ?_) ?_
     · jvm_step X32.here [X32.here.top, hx, (hb hby d22_129), Value.category]
       exact k
     refine Go.ial X32 hx hZ e32 V_ra (hb hby d22_130) (v := (.int 0)) (own_rep _ _ _) ?_ (own_rr hi hl)
     refine Go.step (S' := T32.setTop (mkF m 134 #[rv tb, rv b1, rv b2, rv b3, iv i, iv d, iv ((1 : Int32) <<< (d &&& 31))] [(.int ((0 : Int32) ||| ((1 : Int32) <<< (d &&& 31)))), (.int (i / (9 : Int32))), (.ref b1)])) (fun t k => ?_) ?_
     · refine XS.iload X32.here hx rfl (hb hby d22_131) rfl ?_
       refine XS.ior X32.here hx rfl (hb hby d22_133) rfl ?_
       exact k
     refine Go.ist X32 hx hZ e32 V_ra (hb hby d22_134) (own_rr hi hl) (own_len (own_rr hi hl) rfl) (fun T34 h34 X34 e34 W34 V34 => ?_)
     have O := O.wr W34 g_b1
     have K := K.wr W34 (Or.inr sz_b1)
     have V_tb := V_tb.other W34 ne_tb_b1
     have V_ca := V_ca.other W34 (Ne.symm ne_b1_b2)
     have V_ba := V_ba.other W34 (Ne.symm ne_b1_b3)
     have V_ra : Arv Z h34 b1 k1 .int (9 : Int32) ((List.replicate 9 (.int 0)).set ((i / (9 : Int32))).toNatClampNeg (.int ((0 : Int32) ||| ((1 : Int32) <<< (d &&& 31))))) (.int 0) := id V34
     have N34 := Fr.snoc X34 N32 g_b1
     refine Go.step (S' := T34.setTop (mkF m 138 #[rv tb, rv b1, rv b2, rv b3, iv i, iv d, iv ((1 : Int32) <<< (d &&& 31))] [(.int i), (.ref b2)])) (fun t k => ?_) ?_
     · refine XS.aloadN X34.here hx rfl (hb hby d22_135) rfl rfl ?_
       refine XS.iload X34.here hx rfl (hb hby d22_136) rfl ?_
       exact k
     refine Go.cS X34 hx hml hown hZ (own_w hw 137 rfl) (own_w hw 138 rfl) (own_w hw 65 rfl) (own_w hw 139 rfl) (rmCo l Z a0 hw [] i h34 n0 O ) 1 [(.ref b2)] pd__28I_29I (hb hby d22_138) e34 (fun _ T35 L35 X35 hQ35 => ?_)
     obtain ⟨rfl, Nq35, e35⟩ := hQ35
     have N35 := Fr.app N34 Nq35
     refine Go.step (S' := T35.setTop (mkF m 142 #[rv tb, rv b1, rv b2, rv b3, iv i, iv d, iv ((1 : Int32) <<< (d &&& 31))] [(.int (i % (9 : Int32))), (.ref b2), (.int (i % (9 : Int32))), (.ref b2)])) (fun t k => ?_) ?_
     · jvm_step X35.here [X35.here.top, hx, (hb hby d22_141), Value.category]
       exact k
     refine Go.ial X35 hx hZ e35 V_ca (hb hby d22_142) (v := (.int 0)) (own_rep _ _ _) ?_ (own_rc hi)
     refine Go.step (S' := T35.setTop (mkF m 146 #[rv tb, rv b1, rv b2, rv b3, iv i, iv d, iv ((1 : Int32) <<< (d &&& 31))] [(.int ((0 : Int32) ||| ((1 : Int32) <<< (d &&& 31)))), (.int (i % (9 : Int32))), (.ref b2)])) (fun t k => ?_) ?_
     · refine XS.iload X35.here hx rfl (hb hby d22_143) rfl ?_
       refine XS.ior X35.here hx rfl (hb hby d22_145) rfl ?_
       exact k
     refine Go.ist X35 hx hZ e35 V_ca (hb hby d22_146) (own_rc hi) (own_len (own_rc hi) rfl) (fun T37 h37 X37 e37 W37 V37 => ?_)
     have O := O.wr W37 g_b2
     have K := K.wr W37 (Or.inr sz_b2)
     have V_tb := V_tb.other W37 ne_tb_b2
     have V_ra := V_ra.other W37 ne_b1_b2
     have V_ba := V_ba.other W37 (Ne.symm ne_b2_b3)
     have V_ca : Arv Z h37 b2 k2 .int (9 : Int32) ((List.replicate 9 (.int 0)).set ((i % (9 : Int32))).toNatClampNeg (.int ((0 : Int32) ||| ((1 : Int32) <<< (d &&& 31))))) (.int 0) := id V37
     have N37 := Fr.snoc X37 N35 g_b2
     refine Go.step (S' := T37.setTop (mkF m 150 #[rv tb, rv b1, rv b2, rv b3, iv i, iv d, iv ((1 : Int32) <<< (d &&& 31))] [(.int i), (.ref b3)])) (fun t k => ?_) ?_
     · refine XS.aloadN X37.here hx rfl (hb hby d22_147) rfl rfl ?_
       refine XS.iload X37.here hx rfl (hb hby d22_148) rfl ?_
       exact k
     refine Go.cS X37 hx hml hown hZ (own_w hw 140 rfl) (own_w hw 141 rfl) (own_w hw 65 rfl) (own_w hw 142 rfl) (rmBx l Z a0 hw [] i h37 n0 O ) 1 [(.ref b3)] pd__28I_29I (hb hby d22_150) e37 (fun _ T38 L38 X38 hQ38 => ?_)
     obtain ⟨rfl, Nq38, e38⟩ := hQ38
     have N38 := Fr.app N37 Nq38
     refine Go.step (S' := T38.setTop (mkF m 154 #[rv tb, rv b1, rv b2, rv b3, iv i, iv d, iv ((1 : Int32) <<< (d &&& 31))] [(.int ((((i / (9 : Int32)) / (3 : Int32)) * (3 : Int32)) + ((i % (9 : Int32)) / (3 : Int32)))), (.ref b3), (.int ((((i / (9 : Int32)) / (3 : Int32)) * (3 : Int32)) + ((i % (9 : Int32)) / (3 : Int32)))), (.ref b3)])) (fun t k => ?_) ?_
     · jvm_step X38.here [X38.here.top, hx, (hb hby d22_153), Value.category]
       exact k
     refine Go.ial X38 hx hZ e38 V_ba (hb hby d22_154) (v := (.int 0)) (own_rep _ _ _) ?_ (own_rb hi hl)
     refine Go.step (S' := T38.setTop (mkF m 158 #[rv tb, rv b1, rv b2, rv b3, iv i, iv d, iv ((1 : Int32) <<< (d &&& 31))] [(.int ((0 : Int32) ||| ((1 : Int32) <<< (d &&& 31)))), (.int ((((i / (9 : Int32)) / (3 : Int32)) * (3 : Int32)) + ((i % (9 : Int32)) / (3 : Int32)))), (.ref b3)])) (fun t k => ?_) ?_
     · refine XS.iload X38.here hx rfl (hb hby d22_155) rfl ?_
       refine XS.ior X38.here hx rfl (hb hby d22_157) rfl ?_
       exact k
     refine Go.ist X38 hx hZ e38 V_ba (hb hby d22_158) (own_rb hi hl) (own_len (own_rb hi hl) rfl) (fun T40 h40 X40 e40 W40 V40 => ?_)
     have O := O.wr W40 g_b3
     have K := K.wr W40 (Or.inr sz_b3)
     have V_tb := V_tb.other W40 ne_tb_b3
     have V_ra := V_ra.other W40 ne_b1_b3
     have V_ca := V_ca.other W40 ne_b2_b3
     have V_ba : Arv Z h40 b3 k3 .int (9 : Int32) ((List.replicate 9 (.int 0)).set (((((i / (9 : Int32)) / (3 : Int32)) * (3 : Int32)) + ((i % (9 : Int32)) / (3 : Int32)))).toNatClampNeg (.int ((0 : Int32) ||| ((1 : Int32) <<< (d &&& 31))))) (.int 0) := id V40
     have N40 := Fr.snoc X40 N38 g_b3
     refine Go.step (S' := T40.setTop (mkF m 18 #[rv tb, rv b1, rv b2, rv b3, iv (i + (1 : Int32)), iv d, iv ((1 : Int32) <<< (d &&& 31))] [])) (fun t k => ?_) ?_
     · refine XS.iinc X40.here hx rfl (hb hby d22_159) rfl (l' := #[rv tb, rv b1, rv b2, rv b3, iv (i + (1 : Int32)), iv d, iv ((1 : Int32) <<< (d &&& 31))]) rfl ?_
       refine XS.goto X40.here hx rfl (pc0 := 162) (pc' := 18) rfl (hb hby d22_162) (by decide) (by decide) ?_
       exact k
     have hpp := hdp hc33
     exact L2 k _ _ _ _ _ _ (Or.inr (Or.inr ⟨_, _, rfl, rfl⟩)) X40 e40 N40 O K V_tb (by rw [own_inc hi hl]; omega) (by rw [own_inc hi hl]; omega) (fun j a b => by rw [own_clampS hi hl] at a; obtain ⟨zd, z1, z2⟩ := hz j b; rw [z1, (Decidable.byContradiction fun q => absurd (z2 q) (by omega) : zd = 0)])
   ·skip
    refine Go.step (S' := T9.setTop (mkF m 28 #[rv tb, rv b1, rv b2, rv b3, iv i, iv x, iv y] [(.int i), (.ref tb)])) (fun t k => ?_) ?_
    · refine XS.iload X9.here hx rfl (hb hby d22_18) rfl ?_
      refine XS.bipush X9.here hx rfl (hb hby d22_20) ?_
      refine XS.icmpNo X9.here hx rfl (hb hby d22_22) rfl (tlt ((own_lt81 hl) : i < (81 : Int32))).2.1 ?_
      refine XS.aloadN X9.here hx rfl (hb hby d22_25) rfl rfl ?_
      refine XS.iload X9.here hx rfl (hb hby d22_26) rfl ?_
      exact k
    refine Go.bal X9 hx hZ e9 V_tb (hb hby d22_28) (v := (.int d)) hd ?_ ⟨own_nlt hi, own_lt81 hl⟩
    refine Go.step (S' := T9.setTop (mkF m 33 #[rv tb, rv b1, rv b2, rv b3, iv i, iv d, iv y] [(.int d)])) (fun t k => ?_) ?_
    · refine XS.istore X9.here hx rfl (hb hby d22_29) rfl (l' := #[rv tb, rv b1, rv b2, rv b3, iv i, iv d, iv y]) rfl ?_
      refine XS.iload X9.here hx rfl (hb hby d22_31) rfl ?_
      exact k
    by_cases hc33 : d = (0 : Int32)
    ·skip
     refine Go.step (S' := T9.setTop (mkF m 18 #[rv tb, rv b1, rv b2, rv b3, iv (i + (1 : Int32)), iv d, iv y] [])) (fun t k => ?_) ?_
     · refine XS.ifNo X9.here hx rfl (hb hby d22_33) rfl ((if0 _ _).trans (teq (hc33 : d = (0 : Int32))).2) ?_
       refine XS.goto X9.here hx rfl (pc0 := 36) (pc' := 159) rfl (hb hby d22_36) (by decide) (by decide) ?_
       refine XS.iinc X9.here hx rfl (hb hby d22_159) rfl (l' := #[rv tb, rv b1, rv b2, rv b3, iv (i + (1 : Int32)), iv d, iv y]) rfl ?_
       refine XS.goto X9.here hx rfl (pc0 := 162) (pc' := 18) rfl (hb hby d22_162) (by decide) (by decide) ?_
       exact k
     exact ih _ _ _ _ _ _ (Or.inr (Or.inr ⟨_, _, rfl, rfl⟩)) X9 e9 N9 O K V_tb V_ra V_ca V_ba (by rw [own_inc hi hl]; omega) (by rw [own_inc hi hl]; omega)
    ·skip
     refine Go.step (S' := T9.setTop (mkF m 48 #[rv tb, rv b1, rv b2, rv b3, iv i, iv d, iv ((1 : Int32) <<< (d &&& 31))] [(.int i), (.ref b1)])) (fun t k => ?_) ?_
     · refine XS.ifYes X9.here hx rfl (pc0 := 33) (pc' := 39) rfl (hb hby d22_33) rfl ((if0 _ _).trans (feq (hc33 : ¬ (d = (0 : Int32)))).2) (by decide) (by decide) ?_
       refine XS.iconst X9.here hx rfl (hb hby d22_39) ?_
       refine XS.iload X9.here hx rfl (hb hby d22_40) rfl ?_
       refine XS.ishl X9.here hx rfl (hb hby d22_42) rfl ?_
       refine XS.istore X9.here hx rfl (hb hby d22_43) rfl (l' := #[rv tb, rv b1, rv b2, rv b3, iv i, iv d, iv ((1 : Int32) <<< (d &&& 31))]) rfl ?_
       refine XS.aloadN X9.here hx rfl (hb hby d22_45) rfl rfl ?_
       show Steps p.tables e below (T9.setTop (mkF m 46 #[rv tb, rv b1, rv b2, rv b3, iv i, iv d, iv ((1 : Int32) <<< (d &&& 31))] [(.ref b1)])) _
       refine XS.iload X9.here hx rfl (hb hby d22_46) rfl ?_
       exact k
     refine Go.cS X9 hx hml hown hZ (own_w hw 134 rfl) (own_w hw 135 rfl) (own_w hw 65 rfl) (own_w hw 136 rfl) (rmRw l Z a0 hw [] i h9 n0 O ) 1 [(.ref b1)] pd__28I_29I (hb hby d22_48) e9 (fun _ T42 L42 X42 hQ42 => ?_)
     obtain ⟨rfl, Nq42, e42⟩ := hQ42
     have N42 := Fr.app N9 Nq42
     refine Go.ial X42 hx hZ e42 V_ra (hb hby d22_51) (v := (.int 0)) (own_rep _ _ _) ?_ (own_rr hi hl)
     refine Go.step (S' := T42.setTop (mkF m 74 #[rv tb, rv b1, rv b2, rv b3, iv i, iv d, iv ((1 : Int32) <<< (d &&& 31))] [(.int i), (.ref b2)])) (fun t k => ?_) ?_
     · refine XS.iload X42.here hx rfl (hb hby d22_52) rfl ?_
       refine XS.iand X42.here hx rfl (hb hby d22_54) rfl ?_
       refine XS.ifYes X42.here hx rfl (pc0 := 55) (pc' := 71) rfl (hb hby d22_55) rfl ((if0 _ _).trans (teq ((own_z0 _) : ((0 : Int32) &&& ((1 : Int32) <<< (d &&& 31))) = (0 : Int32))).1) (by decide) (by decide) ?_
       refine XS.aloadN X42.here hx rfl (hb hby d22_71) rfl rfl ?_
       refine XS.iload X42.here hx rfl (hb hby d22_72) rfl ?_
       exact k
     refine Go.cS X42 hx hml hown hZ (own_w hw 137 rfl) (own_w hw 138 rfl) (own_w hw 65 rfl) (own_w hw 139 rfl) (rmCo l Z a0 hw [] i h9 n0 O ) 1 [(.ref b2)] pd__28I_29I (hb hby d22_74) e42 (fun _ T44 L44 X44 hQ44 => ?_)
     obtain ⟨rfl, Nq44, e44⟩ := hQ44
     have N44 := Fr.app N42 Nq44
     refine Go.ial X44 hx hZ e44 V_ca (hb hby d22_77) (v := (.int 0)) (own_rep _ _ _) ?_ (own_rc hi)
     refine Go.step (S' := T44.setTop (mkF m 100 #[rv tb, rv b1, rv b2, rv b3, iv i, iv d, iv ((1 : Int32) <<< (d &&& 31))] [(.int i), (.ref b3)])) (fun t k => ?_) ?_
     · refine XS.iload X44.here hx rfl (hb hby d22_78) rfl ?_
       refine XS.iand X44.here hx rfl (hb hby d22_80) rfl ?_
       refine XS.ifYes X44.here hx rfl (pc0 := 81) (pc' := 97) rfl (hb hby d22_81) rfl ((if0 _ _).trans (teq ((own_z0 _) : ((0 : Int32) &&& ((1 : Int32) <<< (d &&& 31))) = (0 : Int32))).1) (by decide) (by decide) ?_
       refine XS.aloadN X44.here hx rfl (hb hby d22_97) rfl rfl ?_
       refine XS.iload X44.here hx rfl (hb hby d22_98) rfl ?_
       exact k
     refine Go.cS X44 hx hml hown hZ (own_w hw 140 rfl) (own_w hw 141 rfl) (own_w hw 65 rfl) (own_w hw 142 rfl) (rmBx l Z a0 hw [] i h9 n0 O ) 1 [(.ref b3)] pd__28I_29I (hb hby d22_100) e44 (fun _ T46 L46 X46 hQ46 => ?_)
     obtain ⟨rfl, Nq46, e46⟩ := hQ46
     have N46 := Fr.app N44 Nq46
     refine Go.ial X46 hx hZ e46 V_ba (hb hby d22_103) (v := (.int 0)) (own_rep _ _ _) ?_ (own_rb hi hl)
     refine Go.step (S' := T46.setTop (mkF m 126 #[rv tb, rv b1, rv b2, rv b3, iv i, iv d, iv ((1 : Int32) <<< (d &&& 31))] [(.int i), (.ref b1)])) (fun t k => ?_) ?_
     · refine XS.iload X46.here hx rfl (hb hby d22_104) rfl ?_
       refine XS.iand X46.here hx rfl (hb hby d22_106) rfl ?_
       refine XS.ifYes X46.here hx rfl (pc0 := 107) (pc' := 123) rfl (hb hby d22_107) rfl ((if0 _ _).trans (teq ((own_z0 _) : ((0 : Int32) &&& ((1 : Int32) <<< (d &&& 31))) = (0 : Int32))).1) (by decide) (by decide) ?_
       refine XS.aloadN X46.here hx rfl (hb hby d22_123) rfl rfl ?_
       refine XS.iload X46.here hx rfl (hb hby d22_124) rfl ?_
       exact k
     refine Go.cS X46 hx hml hown hZ (own_w hw 134 rfl) (own_w hw 135 rfl) (own_w hw 65 rfl) (own_w hw 136 rfl) (rmRw l Z a0 hw [] i h9 n0 O ) 1 [(.ref b1)] pd__28I_29I (hb hby d22_126) e46 (fun _ T48 L48 X48 hQ48 => ?_)
     obtain ⟨rfl, Nq48, e48⟩ := hQ48
     have N48 := Fr.app N46 Nq48
     refine Go.step (S' := T48.setTop (mkF m 130 #[rv tb, rv b1, rv b2, rv b3, iv i, iv d, iv ((1 : Int32) <<< (d &&& 31))] [(.int (i / (9 : Int32))), (.ref b1), (.int (i / (9 : Int32))), (.ref b1)])) (fun t k => ?_) ?_
     · jvm_step X48.here [X48.here.top, hx, (hb hby d22_129), Value.category]
       exact k
     refine Go.ial X48 hx hZ e48 V_ra (hb hby d22_130) (v := (.int 0)) (own_rep _ _ _) ?_ (own_rr hi hl)
     refine Go.step (S' := T48.setTop (mkF m 134 #[rv tb, rv b1, rv b2, rv b3, iv i, iv d, iv ((1 : Int32) <<< (d &&& 31))] [(.int ((0 : Int32) ||| ((1 : Int32) <<< (d &&& 31)))), (.int (i / (9 : Int32))), (.ref b1)])) (fun t k => ?_) ?_
     · refine XS.iload X48.here hx rfl (hb hby d22_131) rfl ?_
       refine XS.ior X48.here hx rfl (hb hby d22_133) rfl ?_
       exact k
     refine Go.ist X48 hx hZ e48 V_ra (hb hby d22_134) (own_rr hi hl) (own_len (own_rr hi hl) rfl) (fun T50 h50 X50 e50 W50 V50 => ?_)
     have O := O.wr W50 g_b1
     have K := K.wr W50 (Or.inr sz_b1)
     have V_tb := V_tb.other W50 ne_tb_b1
     have V_ca := V_ca.other W50 (Ne.symm ne_b1_b2)
     have V_ba := V_ba.other W50 (Ne.symm ne_b1_b3)
     have V_ra : Arv Z h50 b1 k1 .int (9 : Int32) ((List.replicate 9 (.int 0)).set ((i / (9 : Int32))).toNatClampNeg (.int ((0 : Int32) ||| ((1 : Int32) <<< (d &&& 31))))) (.int 0) := id V50
     have N50 := Fr.snoc X50 N48 g_b1
     refine Go.step (S' := T50.setTop (mkF m 138 #[rv tb, rv b1, rv b2, rv b3, iv i, iv d, iv ((1 : Int32) <<< (d &&& 31))] [(.int i), (.ref b2)])) (fun t k => ?_) ?_
     · refine XS.aloadN X50.here hx rfl (hb hby d22_135) rfl rfl ?_
       refine XS.iload X50.here hx rfl (hb hby d22_136) rfl ?_
       exact k
     refine Go.cS X50 hx hml hown hZ (own_w hw 137 rfl) (own_w hw 138 rfl) (own_w hw 65 rfl) (own_w hw 139 rfl) (rmCo l Z a0 hw [] i h50 n0 O ) 1 [(.ref b2)] pd__28I_29I (hb hby d22_138) e50 (fun _ T51 L51 X51 hQ51 => ?_)
     obtain ⟨rfl, Nq51, e51⟩ := hQ51
     have N51 := Fr.app N50 Nq51
     refine Go.step (S' := T51.setTop (mkF m 142 #[rv tb, rv b1, rv b2, rv b3, iv i, iv d, iv ((1 : Int32) <<< (d &&& 31))] [(.int (i % (9 : Int32))), (.ref b2), (.int (i % (9 : Int32))), (.ref b2)])) (fun t k => ?_) ?_
     · jvm_step X51.here [X51.here.top, hx, (hb hby d22_141), Value.category]
       exact k
     refine Go.ial X51 hx hZ e51 V_ca (hb hby d22_142) (v := (.int 0)) (own_rep _ _ _) ?_ (own_rc hi)
     refine Go.step (S' := T51.setTop (mkF m 146 #[rv tb, rv b1, rv b2, rv b3, iv i, iv d, iv ((1 : Int32) <<< (d &&& 31))] [(.int ((0 : Int32) ||| ((1 : Int32) <<< (d &&& 31)))), (.int (i % (9 : Int32))), (.ref b2)])) (fun t k => ?_) ?_
     · refine XS.iload X51.here hx rfl (hb hby d22_143) rfl ?_
       refine XS.ior X51.here hx rfl (hb hby d22_145) rfl ?_
       exact k
     refine Go.ist X51 hx hZ e51 V_ca (hb hby d22_146) (own_rc hi) (own_len (own_rc hi) rfl) (fun T53 h53 X53 e53 W53 V53 => ?_)
     have O := O.wr W53 g_b2
     have K := K.wr W53 (Or.inr sz_b2)
     have V_tb := V_tb.other W53 ne_tb_b2
     have V_ra := V_ra.other W53 ne_b1_b2
     have V_ba := V_ba.other W53 (Ne.symm ne_b2_b3)
     have V_ca : Arv Z h53 b2 k2 .int (9 : Int32) ((List.replicate 9 (.int 0)).set ((i % (9 : Int32))).toNatClampNeg (.int ((0 : Int32) ||| ((1 : Int32) <<< (d &&& 31))))) (.int 0) := id V53
     have N53 := Fr.snoc X53 N51 g_b2
     refine Go.step (S' := T53.setTop (mkF m 150 #[rv tb, rv b1, rv b2, rv b3, iv i, iv d, iv ((1 : Int32) <<< (d &&& 31))] [(.int i), (.ref b3)])) (fun t k => ?_) ?_
     · refine XS.aloadN X53.here hx rfl (hb hby d22_147) rfl rfl ?_
       refine XS.iload X53.here hx rfl (hb hby d22_148) rfl ?_
       exact k
     refine Go.cS X53 hx hml hown hZ (own_w hw 140 rfl) (own_w hw 141 rfl) (own_w hw 65 rfl) (own_w hw 142 rfl) (rmBx l Z a0 hw [] i h53 n0 O ) 1 [(.ref b3)] pd__28I_29I (hb hby d22_150) e53 (fun _ T54 L54 X54 hQ54 => ?_)
     obtain ⟨rfl, Nq54, e54⟩ := hQ54
     have N54 := Fr.app N53 Nq54
     refine Go.step (S' := T54.setTop (mkF m 154 #[rv tb, rv b1, rv b2, rv b3, iv i, iv d, iv ((1 : Int32) <<< (d &&& 31))] [(.int ((((i / (9 : Int32)) / (3 : Int32)) * (3 : Int32)) + ((i % (9 : Int32)) / (3 : Int32)))), (.ref b3), (.int ((((i / (9 : Int32)) / (3 : Int32)) * (3 : Int32)) + ((i % (9 : Int32)) / (3 : Int32)))), (.ref b3)])) (fun t k => ?_) ?_
     · jvm_step X54.here [X54.here.top, hx, (hb hby d22_153), Value.category]
       exact k
     refine Go.ial X54 hx hZ e54 V_ba (hb hby d22_154) (v := (.int 0)) (own_rep _ _ _) ?_ (own_rb hi hl)
     refine Go.step (S' := T54.setTop (mkF m 158 #[rv tb, rv b1, rv b2, rv b3, iv i, iv d, iv ((1 : Int32) <<< (d &&& 31))] [(.int ((0 : Int32) ||| ((1 : Int32) <<< (d &&& 31)))), (.int ((((i / (9 : Int32)) / (3 : Int32)) * (3 : Int32)) + ((i % (9 : Int32)) / (3 : Int32)))), (.ref b3)])) (fun t k => ?_) ?_
     · refine XS.iload X54.here hx rfl (hb hby d22_155) rfl ?_
       refine XS.ior X54.here hx rfl (hb hby d22_157) rfl ?_
       exact k
     refine Go.ist X54 hx hZ e54 V_ba (hb hby d22_158) (own_rb hi hl) (own_len (own_rb hi hl) rfl) (fun T56 h56 X56 e56 W56 V56 => ?_)
     have O := O.wr W56 g_b3
     have K := K.wr W56 (Or.inr sz_b3)
     have V_tb := V_tb.other W56 ne_tb_b3
     have V_ra := V_ra.other W56 ne_b1_b3
     have V_ca := V_ca.other W56 ne_b2_b3
     have V_ba : Arv Z h56 b3 k3 .int (9 : Int32) ((List.replicate 9 (.int 0)).set (((((i / (9 : Int32)) / (3 : Int32)) * (3 : Int32)) + ((i % (9 : Int32)) / (3 : Int32)))).toNatClampNeg (.int ((0 : Int32) ||| ((1 : Int32) <<< (d &&& 31))))) (.int 0) := id V56
     have N56 := Fr.snoc X56 N54 g_b3
     refine Go.step (S' := T56.setTop (mkF m 18 #[rv tb, rv b1, rv b2, rv b3, iv (i + (1 : Int32)), iv d, iv ((1 : Int32) <<< (d &&& 31))] [])) (fun t k => ?_) ?_
     · refine XS.iinc X56.here hx rfl (hb hby d22_159) rfl (l' := #[rv tb, rv b1, rv b2, rv b3, iv (i + (1 : Int32)), iv d, iv ((1 : Int32) <<< (d &&& 31))]) rfl ?_
       refine XS.goto X56.here hx rfl (pc0 := 162) (pc' := 18) rfl (hb hby d22_162) (by decide) (by decide) ?_
       exact k
     have hpp := hdp hc33
     exact L2 k _ _ _ _ _ _ (Or.inr (Or.inr ⟨_, _, rfl, rfl⟩)) X56 e56 N56 O K V_tb (by rw [own_inc hi hl]; omega) (by rw [own_inc hi hl]; omega) (fun j a b => by rw [own_clampS hi hl] at a; obtain ⟨zd, z1, z2⟩ := hz j b; rw [z1, (Decidable.byContradiction fun q => absurd (z2 q) (by omega) : zd = 0)])
 exact L1 81 0 u_ u_ _ _ _ (Or.inl ⟨rfl, rfl⟩) X3 e3 N0 O K V_tb V_b1 V_b2 V_b3 rfl (by decide)
abbrev y_16 : MethodName := ⟨"org/ninefold/model/PuzzleText", "toGrid", "()Lorg/ninefold/model/Grid;"⟩
theorem d21_0 : decode prog_12_method_5_code 0 = .ok (.aload_n 0, 1) := by decide +kernel
theorem d21_1 : decode prog_12_method_5_code 1 = .ok (.getfield 19, 3) := by decide +kernel
theorem d21_4 : decode prog_12_method_5_code 4 = .ok (.lconst 0, 1) := by decide +kernel
theorem d21_5 : decode prog_12_method_5_code 5 = .ok (.lcmp, 1) := by decide +kernel
theorem d21_6 : decode prog_12_method_5_code 6 = .ok (.ifCond .le 33, 3) := by decide +kernel
theorem d21_39 : decode prog_12_method_5_code 39 = .ok (.aload_n 0, 1) := by decide +kernel
theorem d21_40 : decode prog_12_method_5_code 40 = .ok (.getfield 23, 3) := by decide +kernel
theorem d21_43 : decode prog_12_method_5_code 43 = .ok (.ldc2_w 26, 3) := by decide +kernel
theorem d21_46 : decode prog_12_method_5_code 46 = .ok (.lcmp, 1) := by decide +kernel
theorem d21_47 : decode prog_12_method_5_code 47 = .ok (.ifCond .eq 41, 3) := by decide +kernel
theorem d21_88 : decode prog_12_method_5_code 88 = .ok (.aload_n 0, 1) := by decide +kernel
theorem d21_89 : decode prog_12_method_5_code 89 = .ok (.getfield 9, 3) := by decide +kernel
theorem d21_92 : decode prog_12_method_5_code 92 = .ok (.invokevirtual 65, 3) := by decide +kernel
theorem d21_95 : decode prog_12_method_5_code 95 = .ok (.checkcast 66, 3) := by decide +kernel
theorem d21_98 : decode prog_12_method_5_code 98 = .ok (.invokestatic 70, 3) := by decide +kernel
theorem pd__28_5bB_29Lorg_2fninefold_2fmodel_2fGrid_3b : parseMethodDescriptor "([B)Lorg/ninefold/model/Grid;" = some ⟨[(.array .byte)], some (.object "org/ninefold/model/Grid")⟩ := by decide +kernel
theorem d21_101 : decode prog_12_method_5_code 101 = .ok (.areturn, 1) := by decide +kernel
abbrev rm_rmTG : Room := ({ frames := 3, cells := 5, slots := 109, locals := 44 } : Room)
def Q_rmTG (Z : State) (po : Addr) (cb : Addr) (kb : ClassId) (vs : List Value) (pp : Nat) (h0 : Heap) (n0 : Nat) (v : Option Value) (h : Heap) (L : List Loc) : Prop := ∃ gb : Addr, ∃ db : Addr, ∃ kd : ClassId, (v = some (.ref gb)) ∧ (Fr n0 L) ∧ (Keep h0 h []) ∧ (Exa Z h gb "org/ninefold/model/Grid") ∧ (Fd_7 Z h gb (.ref db)) ∧ (Arv Z h db kd .byte (81 : Int32) vs (.int 0)) ∧ (n0 ≤ gb)
theorem rmTG (l : Launch) (Z : State) (a0 : Array Value) (hw : HW a0 Z) (ws : List Jvm.Cond) (po : Addr) (cb : Addr) (kb : ClassId) (vs : List Value) (pp : Nat) (h0 : Heap) (n0 : Nat) (O : Old Z n0 h0) (E_po : Exa Z h0 po "org/ninefold/model/PuzzleText") (F_c : Fd_4 Z h0 po (.ref cb)) (F_l : Fd_5 Z h0 po (.long (81 : Int64))) (F_u : Fd_6 Z h0 po (.long (0 : Int64))) (V_cb : Arv Z h0 cb kb .byte (81 : Int32) vs (.int 0)) (E_cb : Exa Z h0 cb "[B") (hz : ∀ zj : Nat, zj < 81 → ∃ zd : Int32, vs.getD zj (.int 0) = .int zd ∧ (¬ (zd = (0 : Int32)) → zj = pp)) :
    Mt l Z y_16 prog_12_method_5_code 1 (some (.object "org/ninefold/model/Grid")) ws rm_rmTG #[(.ref po)] h0 (Q_rmTG Z po cb kb vs pp h0 n0) := by
 refine own_met "org/ninefold/model/PuzzleText" (plainFor_of_name pn_org_ninefold_model_PuzzleText) #[rv po] (fun m => rfl) (fun p e s m below meth c s₁ Bd hx hby hml hZ hown hnm X0 e0 => ?_)
 have N0 := Fr.nil n0
 have K := Keep.refl h0 []
 refine Go.step (S' := s₁.setTop (mkF m 1 #[rv po] [(.ref po)])) (fun t k => ?_) ?_
 · refine XS.aloadN X0.here hx rfl (hb hby d21_0) rfl rfl ?_
   exact k
 refine Go.gF X0 hx hZ hown (host := "") (Or.inl (own_w hw 27 rfl)) Via.refl e0 F_u (hb hby d21_1) (fun T1 X1 e1 => ?_)
 refine Go.step (S' := T1.setTop (mkF m 40 #[rv po] [(.ref po)])) (fun t k => ?_) ?_
 · refine XS.lconst X1.here hx rfl (hb hby d21_4) ?_
   refine XS.lcmp X1.here hx rfl (hb hby d21_5) rfl ?_
   refine XS.ifYes X1.here hx rfl (pc0 := 6) (pc' := 39) rfl (hb hby d21_6) rfl ((if0 _ _).trans (flt (fun zq => absurd ((lw_gt (0 : Int64) (0 : Int64)).mp zq) (by decide))).2.2.2) (by decide) (by decide) ?_
   refine XS.aloadN X1.here hx rfl (hb hby d21_39) rfl rfl ?_
   exact k
 refine Go.gF X1 hx hZ hown (host := "") (Or.inl (own_w hw 17 rfl)) Via.refl e1 F_l (hb hby d21_40) (fun T2 X2 e2 => ?_)
 refine Go.step (S' := T2.setTop (mkF m 89 #[rv po] [(.ref po)])) (fun t k => ?_) ?_
 · refine X2.ldc2Long hx hown (mvT hZ (own_w hw 29 rfl)) (g := (mkF m 43 #[rv po] [(.long (81 : Int64))])) rfl (hb hby d21_43) _ ?_
   refine XS.lcmp X2.here hx rfl (hb hby d21_46) rfl ?_
   refine XS.ifYes X2.here hx rfl (pc0 := 47) (pc' := 88) rfl (hb hby d21_47) rfl ((if0 _ _).trans (teq ((lw_eq (81 : Int64) (81 : Int64)).mpr (by decide))).1) (by decide) (by decide) ?_
   refine XS.aloadN X2.here hx rfl (hb hby d21_88) rfl rfl ?_
   exact k
 refine Go.gF X2 hx hZ hown (host := "") (Or.inl (own_w hw 10 rfl)) Via.refl e2 F_c (hb hby d21_89) (fun T3 X3 e3 => ?_)
 refine Go.cln X3 hx hml hown hZ (own_w hw 121 rfl) (own_w hw 122 rfl) (own_w hw 126 rfl) (own_w hw 124 rfl) (own_w hw 125 rfl) (own_w hw 127 rfl) e3 V_cb E_cb 0 81 [] (hb hby d21_92) (fun T5 h5 X5 e5 E5 V5 Q5 => ?_)
 obtain ⟨b5, g5⟩ : ∃ z, z = Array.size h0 := ⟨_, rfl⟩
 have g_b5 : n0 ≤ b5 := Nat.le_trans (old_le O) (Nat.le_of_eq g5.symm)
 have sz_b5 : h0.size ≤ b5 := Nat.le_trans K.1 (Nat.le_of_eq g5.symm)
 have ne_po_b5 : po ≠ b5 := Nat.ne_of_lt (Nat.lt_of_lt_of_le E_po.lt (Nat.le_of_eq g5.symm))
 have ne_cb_b5 : cb ≠ b5 := Nat.ne_of_lt (Nat.lt_of_lt_of_le V_cb.lt (Nat.le_of_eq g5.symm))
 rw [← g5] at V5 Q5 ⊢
 have O := O.ext E5
 have E_po := E_po.ext E5
 have F_c := F_c.ext E5
 have F_l := F_l.ext E5
 have F_u := F_u.ext E5
 have V_cb := V_cb.ext E5
 have E_cb := E_cb.ext E5
 have K := K.ext E5
 have V_b5 := V5
 have E_b5 := Q5
 obtain ⟨T6, X6, e6, st6⟩ := castY X5 hx hZ hown (own_w hw 128 rfl) e5 (Ins.self E_b5) (g := (mkF m 95 #[rv po] [(.ref b5)])) rfl rfl (hb hby d21_95)
 refine Go.step st6 ?_
 refine Go.cS X6 hx hml hown hZ (own_w hw 130 rfl) (own_w hw 131 rfl) (own_w hw 65 rfl) (own_w hw 132 rfl) (rmOf l Z a0 hw [] b5 kb vs pp h5 n0 O V_b5 (by assumption)) 0 [] pd__28_5bB_29Lorg_2fninefold_2fmodel_2fGrid_3b (hb hby d21_98) e6 (fun _ T7 L7 X7 hQ7 => ?_)
 obtain ⟨gb_7, rfl, Nq7, K7, P7_E, P7_F, gg_7⟩ := hQ7
 have N7 := Fr.app N0 Nq7
 have O := O.keep K7 all0
 have E_po := E_po.keep K7
 have F_c := F_c.keep K7 nin0
 have F_l := F_l.keep K7 nin0
 have F_u := F_u.keep K7 nin0
 have V_cb := V_cb.keep K7 nin0
 have E_cb := E_cb.keep K7
 have K := K.trans K7 all0
 have V_b5 := V_b5.keep K7 nin0
 have E_b5 := E_b5.keep K7
 have E_7 := P7_E
 have F_7 := P7_F
 have g_gb_7 := gg_7
 exact Go.rt X7 hx Bd (w := (.ref gb_7)) rfl (Or.inr (Or.inr (Or.inr (Or.inr ⟨rfl, rfl, rfl⟩)))) (hb hby d21_101) (Eq.refl T7.heap) ⟨gb_7, b5, kb, rfl, N7, K, E_7, F_7, V_b5, g_gb_7⟩
abbrev y_17 : MethodName := ⟨"org/ninefold/model/Grid", "digit", "(I)I"⟩
theorem d27_0 : decode prog_10_method_10_code 0 = .ok (.aload_n 0, 1) := by decide +kernel
theorem d27_1 : decode prog_10_method_10_code 1 = .ok (.getfield 7, 3) := by decide +kernel
theorem d27_4 : decode prog_10_method_10_code 4 = .ok (.iload_n 1, 1) := by decide +kernel
theorem d27_5 : decode prog_10_method_10_code 5 = .ok (.baload, 1) := by decide +kernel
theorem d27_6 : decode prog_10_method_10_code 6 = .ok (.ireturn, 1) := by decide +kernel
abbrev rm_rmGD : Room := ({ frames := 0, cells := 0, slots := 0, locals := 0 } : Room)
def Q_rmGD (Z : State) (gb : Addr) (ix : Int32) (db : Addr) (kd : ClassId) (vs : List Value) (dv : Int32) (h0 : Heap) (n0 : Nat) (v : Option Value) (h : Heap) (L : List Loc) : Prop := (v = some (.int dv)) ∧ (Fr n0 L) ∧ (h = h0)
theorem rmGD (l : Launch) (Z : State) (a0 : Array Value) (hw : HW a0 Z) (ws : List Jvm.Cond) (gb : Addr) (ix : Int32) (db : Addr) (kd : ClassId) (vs : List Value) (dv : Int32) (h0 : Heap) (n0 : Nat) (O : Old Z n0 h0) (F_d : Fd_7 Z h0 gb (.ref db)) (V_db : Arv Z h0 db kd .byte (81 : Int32) vs (.int 0)) (hdv : vs.getD ix.toNatClampNeg (.int 0) = .int dv) (ia : ¬ (ix < (0 : Int32))) (ib : ix < (81 : Int32)) :
    Mt l Z y_17 prog_10_method_10_code 2 (some .int) ws rm_rmGD #[(.ref gb), (.int ix)] h0 (Q_rmGD Z gb ix db kd vs dv h0 n0) := by
 refine own_met "org/ninefold/model/Grid" (plainFor_of_name pn_org_ninefold_model_Grid) #[rv gb, iv ix] (fun m => rfl) (fun p e s m below meth c s₁ Bd hx hby hml hZ hown hnm X0 e0 => ?_)
 have N0 := Fr.nil n0
 refine Go.step (S' := s₁.setTop (mkF m 1 #[rv gb, iv ix] [(.ref gb)])) (fun t k => ?_) ?_
 · refine XS.aloadN X0.here hx rfl (hb hby d27_0) rfl rfl ?_
   exact k
 refine Go.gF X0 hx hZ hown (host := "") (Or.inl (own_w hw 149 rfl)) Via.refl e0 F_d (hb hby d27_1) (fun T1 X1 e1 => ?_)
 refine Go.step (S' := T1.setTop (mkF m 5 #[rv gb, iv ix] [(.int ix), (.ref db)])) (fun t k => ?_) ?_
 · refine XS.iloadN X1.here hx rfl (hb hby d27_4) rfl ?_
   exact k
 refine Go.bal X1 hx hZ e1 V_db (hb hby d27_5) (v := (.int dv)) hdv ?_ ⟨ia, ib⟩
 exact Go.rt X1 hx Bd (w := (.int dv)) rfl (Or.inl ⟨rfl, Or.inl rfl, _, rfl⟩) (hb hby d27_6) e1 ⟨rfl, N0, rfl⟩
abbrev y_18 : MethodName := ⟨"java/util/Objects", "requireNonNull", "(Ljava/lang/Object;Ljava/lang/String;)Ljava/lang/Object;"⟩
theorem pn_java_util_Objects : plainName "java/util/Objects" = true := by first | (simp [plainName, overriddenIn]; done) | decide +kernel
theorem d13_0 : decode jdk_31_method_11_code 0 = .ok (.aload_n 0, 1) := by decide +kernel
theorem d13_1 : decode jdk_31_method_11_code 1 = .ok (.ifnonnull 12, 3) := by decide +kernel
theorem d13_13 : decode jdk_31_method_11_code 13 = .ok (.aload_n 0, 1) := by decide +kernel
theorem d13_14 : decode jdk_31_method_11_code 14 = .ok (.areturn, 1) := by decide +kernel
abbrev rm_rmRN : Room := ({ frames := 0, cells := 0, slots := 0, locals := 0 } : Room)
def Q_rmRN (Z : State) (oa : Addr) (ob : Addr) (h0 : Heap) (n0 : Nat) (v : Option Value) (h : Heap) (L : List Loc) : Prop := (v = some (.ref oa)) ∧ (Fr n0 L) ∧ (h = h0)
theorem rmRN (l : Launch) (Z : State) (a0 : Array Value) (hw : HW a0 Z) (ws : List Jvm.Cond) (oa : Addr) (ob : Addr) (h0 : Heap) (n0 : Nat) (O : Old Z n0 h0) :
    Mt l Z y_18 jdk_31_method_11_code 2 (some (.object "java/lang/Object")) ws rm_rmRN #[(.ref oa), (.ref ob)] h0 (Q_rmRN Z oa ob h0 n0) := by
 refine own_met "java/util/Objects" (plainFor_of_name pn_java_util_Objects) #[rv oa, rv ob] (fun m => rfl) (fun p e s m below meth c s₁ Bd hx hby hml hZ hown hnm X0 e0 => ?_)
 have N0 := Fr.nil n0
 refine Go.step (S' := s₁.setTop (mkF m 14 #[rv oa, rv ob] [(.ref oa)])) (fun t k => ?_) ?_
 · refine XS.aloadN X0.here hx rfl (hb hby d13_0) rfl rfl ?_
   refine XS.ifnonnullYes X0.here hx rfl (pc0 := 1) (pc' := 13) rfl (hb hby d13_1) rfl (by decide) (by decide) ?_
   refine XS.aloadN X0.here hx rfl (hb hby d13_13) rfl rfl ?_
   exact k
 exact Go.rt X0 hx Bd (w := (.ref oa)) rfl (Or.inr (Or.inr (Or.inr (Or.inr ⟨rfl, rfl, rfl⟩)))) (hb hby d13_14) e0 ⟨rfl, N0, rfl⟩
def own_cl (f : Nat → Int32) (n : Nat) : List Value := (List.range 81).map (fun j => if j < n then .int (f j) else .int 0)
theorem own_cl_len (f : Nat → Int32) (n : Nat) : (own_cl f n).length = 81 := by simp [own_cl]
theorem own_cl_get {f : Nat → Int32} {n j : Nat} (h : j < 81) : (own_cl f n).getD j (.int 0) = if j < n then .int (f j) else .int 0 := by simp [own_cl, List.getD_eq_getElem?_getD, h]
theorem own_cl_set {f : Nat → Int32} {n : Nat} (h : n < 81) : (own_cl f n).set n (.int (f n)) = own_cl f (n + 1) := by
  refine List.ext_getElem (by simp [own_cl]) fun j h1 h2 => ?_
  simp only [own_cl, List.getElem_set, List.getElem_map, List.getElem_range]
  by_cases q : n = j
  · subst q; simp
  · rw [if_neg q]
    by_cases r : j < n
    · rw [if_pos r, if_pos (by omega)]
    · rw [if_neg r, if_neg (by omega)]
theorem own_cl_0 (f : Nat → Int32) : List.replicate 81 (Value.int 0) = own_cl f 0 := List.ext_getElem (by simp [own_cl]) fun i h1 h2 => by simp only [own_cl, List.getElem_replicate, List.getElem_map, List.getElem_range, if_neg (Nat.not_lt_zero _)]
theorem own_cl_s {f : Nat → Int32} {i : Int32} (h0 : 0 ≤ i.toInt) (h1 : i.toInt < 81) : (own_cl f i.toNatClampNeg).set i.toNatClampNeg (.int (f i.toNatClampNeg)) = own_cl f (i + 1).toNatClampNeg := by rw [own_clampS h0 h1]; exact own_cl_set (own_cl81 h0 h1)
theorem own_hz {f : Nat → Int32} {pp : Nat} (h : ∀ zj : Nat, zj < 81 → ¬ (f zj = (0 : Int32)) → zj = pp) : ∀ zj : Nat, zj < 81 → ∃ zd : Int32, (own_cl f 81).getD zj (.int 0) = .int zd ∧ (¬ (zd = (0 : Int32)) → zj = pp) := fun j q => ⟨f j, by rw [own_cl_get q, if_pos q], h j q⟩
theorem own_ln {i : Int32} (h1 : i.toInt < 81) : i.toInt64 < (81 : Int64) := by rw [Int64.lt_iff_toInt_lt, Int32.toInt_toInt64]; exact h1
theorem own_li (i : Int32) : i.toInt64.toInt32 = i := by simp
theorem own_l1 {i : Int32} (h0 : 0 ≤ i.toInt) (h1 : i.toInt < 81) : i.toInt64 + 1 = (i + 1).toInt64 := by
  rw [← Int64.toInt_inj, Int32.toInt_toInt64, own_inc h0 h1]
  have a := c_ladd i.toInt64 1
  have b := rng64 (i.toInt64 + 1)
  simp only [Int32.toInt_toInt64, show (1 : Int64).toInt = 1 from rfl] at a
  omega
abbrev y_19 : MethodName := ⟨"org/ninefold/model/Grid", "parse", "(Ljava/lang/CharSequence;)Lorg/ninefold/model/Grid;"⟩
theorem d12_0 : decode prog_10_method_3_code 0 = .ok (.aload_n 0, 1) := by decide +kernel
theorem d12_1 : decode prog_10_method_3_code 1 = .ok (.ldc 51, 2) := by decide +kernel
theorem d12_3 : decode prog_10_method_3_code 3 = .ok (.invokestatic 15, 3) := by decide +kernel
theorem pd__28Ljava_2flang_2fObject_3bLjava_2flang_2fString_3b_29Ljava_2flang_2fObject_3b : parseMethodDescriptor "(Ljava/lang/Object;Ljava/lang/String;)Ljava/lang/Object;" = some ⟨[(.object "java/lang/Object"), (.object "java/lang/String")], some (.object "java/lang/Object")⟩ := by decide +kernel
theorem d12_6 : decode prog_10_method_3_code 6 = .ok (.pop, 1) := by decide +kernel
theorem d12_7 : decode prog_10_method_3_code 7 = .ok (.new 53, 3) := by decide +kernel
theorem d12_10 : decode prog_10_method_3_code 10 = .ok (.dup, 1) := by decide +kernel
theorem d12_11 : decode prog_10_method_3_code 11 = .ok (.invokespecial 55, 3) := by decide +kernel
theorem pd__28_29V : parseMethodDescriptor "()V" = some ⟨[], none⟩ := by decide +kernel
theorem d12_14 : decode prog_10_method_3_code 14 = .ok (.astore_n 1, 1) := by decide +kernel
theorem d12_15 : decode prog_10_method_3_code 15 = .ok (.iconst 0, 1) := by decide +kernel
theorem d12_16 : decode prog_10_method_3_code 16 = .ok (.istore_n 2, 1) := by decide +kernel
theorem d12_17 : decode prog_10_method_3_code 17 = .ok (.iload_n 2, 1) := by decide +kernel
theorem d12_18 : decode prog_10_method_3_code 18 = .ok (.aload_n 0, 1) := by decide +kernel
theorem d12_19 : decode prog_10_method_3_code 19 = .ok (.invokeinterface 56 1, 5) := by decide +kernel
theorem pd__28_29I : parseMethodDescriptor "()I" = some ⟨[], some .int⟩ := by decide +kernel
abbrev y_20 : MethodName := ⟨"java/lang/CharSequence", "length", "()I"⟩
theorem d12_24 : decode prog_10_method_3_code 24 = .ok (.if_icmp .ge 21, 3) := by decide +kernel
theorem d12_45 : decode prog_10_method_3_code 45 = .ok (.aload_n 1, 1) := by decide +kernel
theorem d12_46 : decode prog_10_method_3_code 46 = .ok (.invokevirtual 70, 3) := by decide +kernel
theorem pd__28_29Lorg_2fninefold_2fmodel_2fGrid_3b : parseMethodDescriptor "()Lorg/ninefold/model/Grid;" = some ⟨[], some (.object "org/ninefold/model/Grid")⟩ := by decide +kernel
theorem d12_49 : decode prog_10_method_3_code 49 = .ok (.areturn, 1) := by decide +kernel
theorem d12_27 : decode prog_10_method_3_code 27 = .ok (.aload_n 1, 1) := by decide +kernel
theorem d12_28 : decode prog_10_method_3_code 28 = .ok (.aload_n 0, 1) := by decide +kernel
theorem d12_29 : decode prog_10_method_3_code 29 = .ok (.iload_n 2, 1) := by decide +kernel
theorem d12_30 : decode prog_10_method_3_code 30 = .ok (.invokeinterface 62 2, 5) := by decide +kernel
theorem pd__28I_29C : parseMethodDescriptor "(I)C" = some ⟨[.int], some .char⟩ := by decide +kernel
abbrev y_21 : MethodName := ⟨"java/lang/CharSequence", "charAt", "(I)C"⟩
theorem d12_35 : decode prog_10_method_3_code 35 = .ok (.invokevirtual 66, 3) := by decide +kernel
theorem pd__28C_29Lorg_2fninefold_2fmodel_2fPuzzleText_3b : parseMethodDescriptor "(C)Lorg/ninefold/model/PuzzleText;" = some ⟨[.char], some (.object "org/ninefold/model/PuzzleText")⟩ := by decide +kernel
theorem d12_38 : decode prog_10_method_3_code 38 = .ok (.pop, 1) := by decide +kernel
theorem d12_39 : decode prog_10_method_3_code 39 = .ok (.iinc 2 1, 3) := by decide +kernel
theorem d12_42 : decode prog_10_method_3_code 42 = .ok (.goto (-25), 3) := by decide +kernel
theorem ef_rmPa (m : MethodId) (so : Addr) : entryFrame m #[(.ref so)] 3 = mkF m 0 #[.val (.ref so), .unset, .unset] [] := by first | (simp [entryFrame, mkF, argsToLocals, Value.category]; done) | rfl
abbrev rm_rmPa : Room := ({ frames := 4, cells := 9, slots := 281, locals := 56 } : Room)
def Q_rmPa (Z : State) (so : Addr) (tb : Addr) (kb : ClassId) (vs : List Value) (cs : Int32) (sf : Value) (bf : Nat → Int32) (xf : Nat → Int32) (pp : Nat) (h0 : Heap) (n0 : Nat) (v : Option Value) (h : Heap) (L : List Loc) : Prop := ∃ gb : Addr, ∃ db : Addr, ∃ kd : ClassId, (v = some (.ref gb)) ∧ (Fr n0 L) ∧ (Keep h0 h []) ∧ (Exa Z h gb "org/ninefold/model/Grid") ∧ (Fd_7 Z h gb (.ref db)) ∧ (Arv Z h db kd .byte (81 : Int32) (own_cl (fun zj => own_dg (xf zj)) 81) (.int 0))
theorem rmPa (l : Launch) (Z : State) (a0 : Array Value) (hw : ∀ d ∈ tables_1, d.before a0 Z = true) (ws : List Jvm.Cond) (so : Addr) (tb : Addr) (kb : ClassId) (vs : List Value) (cs : Int32) (sf : Value) (bf : Nat → Int32) (xf : Nat → Int32) (pp : Nat) (h0 : Heap) (n0 : Nat) (O : Old Z n0 h0) (S_CS : Sa_0 Z (.int cs)) (E_so : Exa Z h0 so "java/lang/String") (F_value_so : Fd_3 Z h0 so (.ref tb)) (F_coder_so : Fd_2 Z h0 so (.int 0)) (V_tb : Arv Z h0 tb kb .byte (81 : Int32) vs (.int 0)) (S_FM : Sa_1 Z sf) (hcs : ¬ (cs = (0 : Int32))) (hsf : sf.isRef = true) (hxs : ∀ zj : Nat, zj < 81 → vs.getD zj (.int 0) = .int (bf zj) ∧ ((bf zj &&& (255 : Int32)).toUInt32.toUInt16.toUInt32.toInt32) = xf zj ∧ own_ok (xf zj)) (hpp : ∀ zj : Nat, zj < 81 → ¬ (own_dg (xf zj) = (0 : Int32)) → zj = pp) :
    MetFree l y_19 (head1 (Jvm.Cond.code y_19 prog_10_method_3_code 3 (some (.object "org/ninefold/model/Grid")) :: ws) rm_rmPa) (fun A_ U => A_ = #[(.ref so)] ∧ Z.Warmed39 U.vm ∧ U.heap = h0) (fun _ _ _ _ _ => True) (fun _ U o U' => ∃ v L, o = .returned v ∧ Q_rmPa Z so tb kb vs cs sf bf xf pp h0 n0 v U'.heap L ∧ ReturnedEndW U o U' L rm_rmPa.cells rm_rmPa.slots) := by
 refine MetFree.of_bodySF (plainFor_of_name pn_org_ninefold_model_Grid) hisR ?_
 intro p e s m args below meth c s₁ Bd hml0 hP hK
 obtain ⟨rfl, hZ, hh⟩ := hP
 have hx := Bd.exec
 have hby := Bd.bytes
 have hml : c.maxLocals = 3 := hml0
 have hown : s.vm.findClass "org/ninefold/model/Grid" = some m.cls := findClass_of_methodNamed Bd.named
 have hnm := (name_of_methodNamed Bd.named Bd.method).1
 have X0 : Stand p l e rm_rmPa (s.setVm s.vm) m #[(.ref so)] below meth c s₁ [] 0 0 := Stand.of_body Bd
 have e0 : s₁.heap = h0 := by rw [← hh, Bd.state]; rfl
 have N0 := Fr.nil n0
 have K := Keep.refl h0 []
 have hS : s.Since s.vm 0 := (State.WarmedH.refl s).since 0
 have hk : 0 ≤ h0.size := Nat.zero_le _
 have wS := own_wS hw
 refine Go.step (p := p) (e := e) (below := below) (G := fun o U' => ∃ v L, o = .returned v ∧ Q_rmPa Z so tb kb vs cs sf bf xf pp h0 n0 v U'.heap L ∧ ReturnedEndW s o U' L rm_rmPa.cells rm_rmPa.slots) (S' := s₁.setTop (mkF m 0 #[rv so, u_, u_] [])) (fun t k => castTop (ef_rmPa m so) k) ?_
 refine Go.step (S' := s₁.setTop (mkF m 1 #[rv so, u_, u_] [(.ref so)])) (fun t k => ?_) ?_
 · refine XS.aloadN X0.here hx rfl (hb hby d12_0) rfl rfl ?_
   exact k
 obtain ⟨a1, T1, h1, k1, X1, e1, E1, hS, hk, hZ, hown, st1⟩ := ldcS X0 hx hZ hown (own_w hw 67 rfl) wS e0 hS hk (g := (mkF m 1 #[rv so, u_, u_] [(.ref so)])) rfl (hb hby d12_1) (n := 84) (by decide) (by decide) (by decide) (by decide)
 have O := O.ext E1
 have E_so := E_so.ext E1
 have F_value_so := F_value_so.ext E1
 have F_coder_so := F_coder_so.ext E1
 have V_tb := V_tb.ext E1
 have K := K.ext E1
 refine Go.step st1 ?_
 refine Go.cS X1 hx hml hown hZ (own_w hw 70 rfl) (own_w hw 71 rfl) (own_w hw 72 rfl) (own_w hw 73 rfl) (rmRN l Z a0 hw [] so a1 h1 n0 O ) 0 [] pd__28Ljava_2flang_2fObject_3bLjava_2flang_2fString_3b_29Ljava_2flang_2fObject_3b (hb hby d12_3) e1 (fun _ T2 L2 X2 hQ2 => ?_)
 obtain ⟨rfl, Nq2, e2⟩ := hQ2
 have N2 := Fr.app N0 Nq2
 refine Go.step (S' := T2.setTop (mkF m 7 #[rv so, u_, u_] [])) (fun t k => ?_) ?_
 · refine XS.pop X2.here hx rfl (hb hby d12_6) rfl rfl ?_
   exact k
 obtain ⟨T3, h3, X3, e3, E3, A3, D3, -, st3⟩ := newO X2 hx hZ hown (own_w hw 74 rfl) (own_w hw 1 rfl) (own_w hw 2 rfl) e2 (g := (mkF m 7 #[rv so, u_, u_] [])) rfl (hb hby d12_7) (by decide) (by decide)
 obtain ⟨b3, g3⟩ : ∃ z, z = Array.size h1 := ⟨_, rfl⟩
 have g_b3 : n0 ≤ b3 := Nat.le_trans (old_le O) (Nat.le_of_eq g3.symm)
 have sz_b3 : h0.size ≤ b3 := Nat.le_trans K.1 (Nat.le_of_eq g3.symm)
 have ne_so_b3 : so ≠ b3 := Nat.ne_of_lt (Nat.lt_of_lt_of_le E_so.lt (Nat.le_of_eq g3.symm))
 have ne_tb_b3 : tb ≠ b3 := Nat.ne_of_lt (Nat.lt_of_lt_of_le V_tb.lt (Nat.le_of_eq g3.symm))
 rw [← g3] at A3 D3 st3
 have O := O.ext E3
 have E_so := E_so.ext E3
 have F_value_so := F_value_so.ext E3
 have F_coder_so := F_coder_so.ext E3
 have V_tb := V_tb.ext E3
 have K := K.ext E3
 have hk := Nat.le_trans hk E3.1
 have E_b3 := A3
 have F_cells_b3 : Fd_4 Z h3 b3 .null := D3 (Or.inr (own_w hw 11 rfl)) (ty := (.array .byte)) (by decide)
 have F_length_b3 : Fd_5 Z h3 b3 (.long (0 : Int64)) := D3 (Or.inl (own_w hw 18 rfl)) (ty := .long) (by decide)
 have F_unexpectedColumn_b3 : Fd_6 Z h3 b3 (.long (0 : Int64)) := D3 (Or.inl (own_w hw 28 rfl)) (ty := .long) (by decide)
 refine Go.step st3 ?_
 refine Go.step (S' := T3.setTop (mkF m 11 #[rv so, u_, u_] [(.ref b3), (.ref b3)])) (fun t k => ?_) ?_
 · refine XS.dup X3.here hx rfl (hb hby d12_10) rfl rfl ?_
   exact k
 refine Go.cI X3 hx hml hown hZ (own_w hw 75 rfl) (own_w hw 4 rfl) (own_w hw 2 rfl) (own_w hw 5 rfl) (rmPI l Z a0 hw [] b3 h3 n0 O E_b3 F_cells_b3 F_length_b3 F_unexpectedColumn_b3 (by assumption)) 1 [(.ref b3)] pd__28_29V (hb hby d12_11) e3 (fun _ T4 L4 X4 hQ4 => ?_)
 obtain ⟨cb_4, kb_4, rfl, Nq4, K4, P4_E_po, P4_F_c, P4_F_l, P4_F_u, P4_V_cb, P4_E_cb, gc_4, sc_4⟩ := hQ4
 have N4 := Fr.app N2 Nq4
 have sz_cb_4 : h0.size ≤ cb_4 := Nat.le_trans K.1 sc_4
 have ne_so_cb_4 : so ≠ cb_4 := Nat.ne_of_lt (Nat.lt_of_lt_of_le E_so.lt sc_4)
 have ne_tb_cb_4 : tb ≠ cb_4 := Nat.ne_of_lt (Nat.lt_of_lt_of_le V_tb.lt sc_4)
 have ne_b3_cb_4 : b3 ≠ cb_4 := Nat.ne_of_lt (Nat.lt_of_lt_of_le E_b3.lt sc_4)
 have O := O.keep K4 (allS g_b3 all0)
 have E_so := E_so.keep K4
 have F_value_so := F_value_so.keep K4 (ninS ne_so_b3 nin0)
 have F_coder_so := F_coder_so.keep K4 (ninS ne_so_b3 nin0)
 have V_tb := V_tb.keep K4 (ninS ne_tb_b3 nin0)
 have K := K.trans K4 (allS (Or.inr sz_b3) all0)
 have hk := Nat.le_trans hk K4.1
 have E_b3 := E_b3.keep K4
 have E_po_4 := P4_E_po
 have F_c_4 := P4_F_c
 have F_l_4 := P4_F_l
 have F_u_4 := P4_F_u
 have V_cb_4 := P4_V_cb
 have E_cb_4 := P4_E_cb
 have g_cb_4 := gc_4
 refine Go.step (S' := T4.setTop (mkF m 17 #[rv so, rv b3, iv 0] [])) (fun t k => ?_) ?_
 · refine XS.astoreN X4.here hx rfl (hb hby d12_14) rfl rfl (l' := #[rv so, rv b3, u_]) rfl ?_
   refine XS.iconst X4.here hx rfl (hb hby d12_15) ?_
   refine XS.istoreN X4.here hx rfl (hb hby d12_16) rfl (l' := #[rv so, rv b3, iv 0]) rfl ?_
   exact k
 have LP : ∀ (k : Nat) (i : Int32) (T : State) (h : Heap) (lc : List Loc), Stand p l e rm_rmPa (s.setVm T1.vm) m #[(.ref so)] below meth c T lc 4 172 → T.heap = h → Fr n0 lc → Old Z n0 h → Keep h0 h [] → k1 ≤ h.size → Exa Z h so "java/lang/String" → Fd_3 Z h so (.ref tb) → Fd_2 Z h so (.int 0) → Arv Z h tb kb .byte (81 : Int32) vs (.int 0) → Exa Z h b3 "org/ninefold/model/PuzzleText" → Fd_4 Z h b3 (.ref cb_4) → Fd_5 Z h b3 (.long (i.toInt64)) → Fd_6 Z h b3 (.long (0 : Int64)) → Arv Z h cb_4 kb_4 .byte (81 : Int32) (own_cl (fun zj => own_dg (xf zj)) i.toNatClampNeg) (.int 0) → Exa Z h cb_4 "[B" → i.toInt + k = 81 → 0 ≤ i.toInt → Go p e below (fun o U' => ∃ v L, o = .returned v ∧ Q_rmPa Z so tb kb vs cs sf bf xf pp h0 n0 v U'.heap L ∧ ReturnedEndW s o U' L rm_rmPa.cells rm_rmPa.slots) (T.setTop (mkF m 17 #[rv so, rv b3, iv i] [])) := by
  intro k
  induction k with
  | zero =>
   intro i T9 h9 lc X9 e9 N9 O K hk E_so F_value_so F_coder_so V_tb E_po F_c F_l F_u V_cb E_cb hkk hi
   obtain rfl := own_e81 hkk
   have F_l : Fd_5 Z h9 b3 (.long (81 : Int64)) := F_l
   have V_cb : Arv Z h9 cb_4 kb_4 .byte (81 : Int32) (own_cl (fun zj => own_dg (xf zj)) 81) (.int 0) := V_cb
   refine Go.step (S' := T9.setTop (mkF m 19 #[rv so, rv b3, iv 81] [(.ref so), (.int 81)])) (fun t k => ?_) ?_
   · refine XS.iloadN X9.here hx rfl (hb hby d12_17) rfl ?_
     refine XS.aloadN X9.here hx rfl (hb hby d12_18) rfl rfl ?_
     exact k
   obtain ⟨cq5, kq5, q5a, q5b, q5c⟩ := isOf hZ e9 E_so
   obtain ⟨_, _, ⟨T5, L5, k5, n5⟩, -, X5, ⟨Lc5, hQ5, l5, y5, z5⟩, st5⟩ := X9.interfaceBack hx (xi := y_20) (y := y_2) hown (mvT hZ (own_w hw 76 rfl)) (mvT hZ (own_w hw 77 rfl)) (mvT hZ (own_w hw 78 rfl)) (mvT hZ (own_w hw 79 rfl)) (mvT hZ (own_w hw 80 rfl)) (mvT hZ (own_w hw 81 rfl)) (mvT hZ (own_w hw 82 rfl)) (mvT hZ (own_w hw 83 rfl)) (by decide) (backOf (W := 1) (rmLen l Z a0 hw [] so tb kb vs cs h9 n0 O S_CS E_so F_value_so F_coder_so V_tb hcs) hZ (own_w hw 84 rfl) (own_w hw 39 rfl) (by decide) (by decide)) q5a q5b q5c (g := (mkF m 19 #[rv so, rv b3, iv 81] [(.ref so), (.int 81)])) rfl (by rw [hml]; rfl) (Steps.refl _) (argsL := []) (rest := [(.int 81)]) (lenOf pd__28_29I rfl) rfl (Nat.le_of_eq rfl) (hb hby d12_19) (fun _ _ => ⟨rfl, e9, (by decide : 4 + 0 ≤ _), (by decide : 172 + 0 ≤ _)⟩)
   dsimp only [Pt.U, Pt.locs, Pt.cells, Pt.slots] at X5 l5 y5 z5 st5 hQ5
   subst l5 y5 z5
   obtain ⟨rfl, Nq5, e5⟩ := hQ5
   have N5 := Fr.app N9 Nq5
   refine Go.step (fun t k => st5.trans k) ?_
   refine Go.step (S' := T5.setTop (mkF m 46 #[rv so, rv b3, iv 81] [(.ref b3)])) (fun t k => ?_) ?_
   · refine XS.icmpYes X5.here hx rfl (pc0 := 24) (pc' := 45) rfl (hb hby d12_24) rfl (flt ((by decide) : ¬ ((81 : Int32) < (81 : Int32)))).2.1 (by decide) (by decide) ?_
     refine XS.aloadN X5.here hx rfl (hb hby d12_45) rfl rfl ?_
     exact k
   refine Go.cV X5 hx hml hown hZ (own_w hw 116 rfl) (own_w hw 117 rfl) (own_w hw 119 rfl) (own_w hw 118 rfl) (own_w hw 2 rfl) (own_w hw 120 rfl) E_po (rmTG l Z a0 hw [] b3 cb_4 kb_4 (own_cl (fun zj => own_dg (xf zj)) 81) pp h9 n0 O E_po F_c F_l F_u V_cb E_cb (own_hz hpp)) 0 [] pd__28_29Lorg_2fninefold_2fmodel_2fGrid_3b (hb hby d12_46) e5 (fun _ T6 L6 X6 hQ6 => ?_)
   obtain ⟨gb_6, db_6, kd_6, rfl, Nq6, K6, P6_E, P6_F, P6_V, gg_6⟩ := hQ6
   have N6 := Fr.app N5 Nq6
   have O := O.keep K6 all0
   have K := K.trans K6 all0
   have hk := Nat.le_trans hk K6.1
   have E_so := E_so.keep K6
   have F_value_so := F_value_so.keep K6 nin0
   have F_coder_so := F_coder_so.keep K6 nin0
   have V_tb := V_tb.keep K6 nin0
   have E_po := E_po.keep K6
   have F_c := F_c.keep K6 nin0
   have F_l := F_l.keep K6 nin0
   have F_u := F_u.keep K6 nin0
   have V_cb := V_cb.keep K6 nin0
   have E_cb := E_cb.keep K6
   have E_6 := P6_E
   have F_6 := P6_F
   have V_6 := P6_V
   have g_gb_6 := gg_6
   obtain ⟨fs, hr, hrun, hended, hR⟩ := X6.leaveW hS (by exact hk) (v := some (.ref gb_6)) (fun h => by rw [Bd.returns] at h; cases h)
   refine Go.fin (S' := T6.setFrames fs) ?_ hrun hended ⟨_, _, rfl, ?_, hR.1, hR.2.1, hR.2.2.1, hR.2.2.2.mono (by decide) (by decide)⟩
   · exact retOut X6 hx Bd.returns rfl (Or.inr (Or.inr (Or.inr (Or.inr ⟨rfl, rfl, rfl⟩)))) (hb hby d12_49) hr
   · show Q_rmPa Z so tb kb vs cs sf bf xf pp h0 n0 (some (.ref gb_6)) T6.heap _
     exact ⟨gb_6, db_6, kd_6, rfl, N6, K, E_6, F_6, V_6⟩
  | succ k ih =>
   intro i T9 h9 lc X9 e9 N9 O K hk E_so F_value_so F_coder_so V_tb E_po F_c F_l F_u V_cb E_cb hkk hi
   have hl : i.toInt < 81 := by omega
   obtain ⟨hb1, hb2, hb3⟩ := hxs i.toNatClampNeg (own_cl81 hi hl)
   refine Go.step (S' := T9.setTop (mkF m 19 #[rv so, rv b3, iv i] [(.ref so), (.int i)])) (fun t k => ?_) ?_
   · refine XS.iloadN X9.here hx rfl (hb hby d12_17) rfl ?_
     refine XS.aloadN X9.here hx rfl (hb hby d12_18) rfl rfl ?_
     exact k
   obtain ⟨cq7, kq7, q7a, q7b, q7c⟩ := isOf hZ e9 E_so
   obtain ⟨_, _, ⟨T7, L7, k7, n7⟩, -, X7, ⟨Lc7, hQ7, l7, y7, z7⟩, st7⟩ := X9.interfaceBack hx (xi := y_20) (y := y_2) hown (mvT hZ (own_w hw 76 rfl)) (mvT hZ (own_w hw 77 rfl)) (mvT hZ (own_w hw 78 rfl)) (mvT hZ (own_w hw 79 rfl)) (mvT hZ (own_w hw 80 rfl)) (mvT hZ (own_w hw 81 rfl)) (mvT hZ (own_w hw 82 rfl)) (mvT hZ (own_w hw 83 rfl)) (by decide) (backOf (W := 1) (rmLen l Z a0 hw [] so tb kb vs cs h9 n0 O S_CS E_so F_value_so F_coder_so V_tb hcs) hZ (own_w hw 84 rfl) (own_w hw 39 rfl) (by decide) (by decide)) q7a q7b q7c (g := (mkF m 19 #[rv so, rv b3, iv i] [(.ref so), (.int i)])) rfl (by rw [hml]; rfl) (Steps.refl _) (argsL := []) (rest := [(.int i)]) (lenOf pd__28_29I rfl) rfl (Nat.le_of_eq rfl) (hb hby d12_19) (fun _ _ => ⟨rfl, e9, (by decide : 4 + 0 ≤ _), (by decide : 172 + 0 ≤ _)⟩)
   dsimp only [Pt.U, Pt.locs, Pt.cells, Pt.slots] at X7 l7 y7 z7 st7 hQ7
   subst l7 y7 z7
   obtain ⟨rfl, Nq7, e7⟩ := hQ7
   have N7 := Fr.app N9 Nq7
   refine Go.step (fun t k => st7.trans k) ?_
   refine Go.step (S' := T7.setTop (mkF m 30 #[rv so, rv b3, iv i] [(.int i), (.ref so), (.ref b3)])) (fun t k => ?_) ?_
   · refine XS.icmpNo X7.here hx rfl (hb hby d12_24) rfl (tlt ((own_lt81 hl) : i < (81 : Int32))).2.1 ?_
     refine XS.aloadN X7.here hx rfl (hb hby d12_27) rfl rfl ?_
     refine XS.aloadN X7.here hx rfl (hb hby d12_28) rfl rfl ?_
     refine XS.iloadN X7.here hx rfl (hb hby d12_29) rfl ?_
     exact k
   obtain ⟨cq8, kq8, q8a, q8b, q8c⟩ := isOf hZ e7 E_so
   obtain ⟨_, _, ⟨T8, L8, k8, n8⟩, -, X8, ⟨Lc8, hQ8, l8, y8, z8⟩, st8⟩ := X7.interfaceBack hx (xi := y_21) (y := y_6) hown (mvT hZ (own_w hw 90 rfl)) (mvT hZ (own_w hw 91 rfl)) (mvT hZ (own_w hw 92 rfl)) (mvT hZ (own_w hw 93 rfl)) (mvT hZ (own_w hw 94 rfl)) (mvT hZ (own_w hw 95 rfl)) (mvT hZ (own_w hw 96 rfl)) (mvT hZ (own_w hw 83 rfl)) (by decide) (backOf (W := 1) (rmCh l Z a0 hw [] so i tb kb vs cs sf (bf i.toNatClampNeg) (xf i.toNatClampNeg) h9 n0 O S_CS E_so F_value_so F_coder_so V_tb S_FM hcs hsf (own_nlt hi) (own_lt81 hl) hb1 hb2) hZ (own_w hw 97 rfl) (own_w hw 39 rfl) (by decide) (by decide)) q8a q8b q8c (g := (mkF m 30 #[rv so, rv b3, iv i] [(.int i), (.ref so), (.ref b3)])) rfl (by rw [hml]; rfl) (Steps.refl _) (argsL := [(.int i)]) (rest := [(.ref b3)]) (lenOf pd__28I_29C rfl) rfl (Nat.le_of_eq rfl) (hb hby d12_30) (fun _ _ => ⟨rfl, e7, (by decide : 4 + 0 ≤ _), (by decide : 172 + 0 ≤ _)⟩)
   dsimp only [Pt.U, Pt.locs, Pt.cells, Pt.slots] at X8 l8 y8 z8 st8 hQ8
   subst l8 y8 z8
   obtain ⟨rfl, Nq8, e8⟩ := hQ8
   have N8 := Fr.app N7 Nq8
   refine Go.step (fun t k => st8.trans k) ?_
   refine Go.cV X8 hx hml hown hZ (own_w hw 115 rfl) (own_w hw 20 rfl) (own_w hw 22 rfl) (own_w hw 21 rfl) (own_w hw 2 rfl) (own_w hw 23 rfl) E_po (rmAp l Z a0 hw [] b3 (xf i.toNatClampNeg) cb_4 kb_4 (i.toInt64) i (own_dg (xf i.toNatClampNeg)) (own_cl (fun zj => own_dg (xf zj)) i.toNatClampNeg) h9 n0 O E_po F_c F_l F_u V_cb E_cb (by assumption) gc_4 ne_b3_cb_4 hb3 rfl (own_dgr hb3).1 (own_i2b (own_dgr hb3)) (own_ln hl) (own_li i) (by rw [own_cl_len]; exact own_cl81 hi hl) (own_nlt hi) (own_lt81 hl)) 0 [] pd__28C_29Lorg_2fninefold_2fmodel_2fPuzzleText_3b (hb hby d12_35) e8 (fun _ T9 L9 X9 hQ9 => ?_)
   obtain ⟨rfl, Nq9, K9, P9_E_po, P9_F_c, P9_F_l, P9_F_u, P9_V_cb, P9_E_cb⟩ := hQ9
   have N9 := Fr.app N8 Nq9
   have O := O.keep K9 (allS g_b3 (allS g_cb_4 all0))
   have K := K.trans K9 (allS (Or.inr sz_b3) (allS (Or.inr sz_cb_4) all0))
   have hk := Nat.le_trans hk K9.1
   have E_so := E_so.keep K9
   have F_value_so := F_value_so.keep K9 (ninS ne_so_b3 (ninS ne_so_cb_4 nin0))
   have F_coder_so := F_coder_so.keep K9 (ninS ne_so_b3 (ninS ne_so_cb_4 nin0))
   have V_tb := V_tb.keep K9 (ninS ne_tb_b3 (ninS ne_tb_cb_4 nin0))
   have E_po := E_po.keep K9
   have E_cb := E_cb.keep K9
   have E_po_9 := P9_E_po
   have F_c_9 := P9_F_c
   have F_l_9 := P9_F_l
   have F_u_9 := P9_F_u
   have V_cb_9 := P9_V_cb
   have E_cb_9 := P9_E_cb
   refine Go.step (S' := T9.setTop (mkF m 17 #[rv so, rv b3, iv (i + (1 : Int32))] [])) (fun t k => ?_) ?_
   · refine XS.pop X9.here hx rfl (hb hby d12_38) rfl rfl ?_
     refine XS.iinc X9.here hx rfl (hb hby d12_39) rfl (l' := #[rv so, rv b3, iv (i + (1 : Int32))]) rfl ?_
     refine XS.goto X9.here hx rfl (pc0 := 42) (pc' := 17) rfl (hb hby d12_42) (by decide) (by decide) ?_
     exact k
   exact ih _ _ _ _ X9 (Eq.refl T9.heap) N9 O K hk E_so F_value_so F_coder_so V_tb E_po F_c_9 (own_l1 hi hl ▸ F_l_9) F_u_9 (by rw [← own_cl_s hi hl]; exact V_cb_9) E_cb (by rw [own_inc hi hl]; omega) (by rw [own_inc hi hl]; omega)
 exact LP 81 0 _ _ _ X4 (Eq.refl T4.heap) N4 O K hk E_so F_value_so F_coder_so V_tb E_b3 F_c_4 F_l_4 F_u_4 (by rw [show (0 : Int32).toNatClampNeg = 0 from rfl, ← own_cl_0]; exact V_cb_4) E_cb_4 rfl (by decide)
theorem own_rsA {Z : State} {h : Heap} {a : Addr} {k : ClassId} {f j : Int32} {d : Value} {n : Nat} (hf : nar .char f = f) (hj : j.toNatClampNeg = n) (hn : n < 81) (V : Arv Z h a k .char 81 ((own_cl (fun _ => f) n).set j.toNatClampNeg (.int (nar .char f))) d) : Arv Z h a k .char 81 (own_cl (fun _ => f) (n + 1)) d := by
  rw [hj, hf] at V
  rw [← own_cl_set hn]
  exact V
def own_xf (f x : Int32) (n j : Nat) : Int32 := if j = n then x else f
def own_tx (f x : Int32) (n : Nat) : List Int32 := (List.range 81).map (own_xf f x n)
theorem own_txA {Z : State} {h : Heap} {a : Addr} {k : ClassId} {f x j : Int32} {d : Value} (hx : nar .char x = x) (V : Arv Z h a k .char 81 ((own_cl (fun _ => f) 81).set j.toNatClampNeg (.int (nar .char x))) d) : Arv Z h a k .char 81 ((own_tx f x j.toNatClampNeg).map Value.int) d := by
  rw [hx] at V
  have e : (own_cl (fun _ => f) 81).set j.toNatClampNeg (.int x) = (own_tx f x j.toNatClampNeg).map Value.int := by
    refine List.ext_getElem (by simp [own_cl, own_tx]) fun i h1 h2 => ?_
    have h3 : i < 81 := by simpa [own_tx] using h2
    simp only [own_cl, own_tx, own_xf, List.getElem_set, List.getElem_map, List.getElem_range, if_pos h3]
    by_cases q : j.toNatClampNeg = i
    · rw [if_pos q, if_pos q.symm]
    · rw [if_neg q, if_neg (fun z => q z.symm)]
  rw [← e]
  exact V
theorem own_tx_len (f x : Int32) (n : Nat) : (own_tx f x n).length = 81 := by simp [own_tx]
theorem own_okr {x : Int32} (h : own_ok x) : 46 ≤ x.toInt ∧ x.toInt ≤ 57 := by
  rcases h with rfl | ⟨a, b⟩
  · decide
  · simp only [Int32.lt_iff_toInt_lt, show (48 : Int32).toInt = 48 from rfl, show (57 : Int32).toInt = 57 from rfl] at a b
    omega
theorem own_xok {f x : Int32} (hf : own_ok f) (hx : own_ok x) (n j : Nat) : own_ok (own_xf f x n j) := by unfold own_xf; split <;> assumption
theorem own_tx_lat {f x : Int32} {n : Nat} (hf : own_ok f) (hx : own_ok x) : ∀ y ∈ own_tx f x n, ¬ y < 0 ∧ ¬ (255 : Int32) < y := fun y hy => by
  obtain ⟨j, -, rfl⟩ := List.mem_map.mp hy
  have := own_okr (own_xok hf hx n j)
  simp only [Int32.lt_iff_toInt_lt, show (0 : Int32).toInt = 0 from rfl, show (255 : Int32).toInt = 255 from rfl]
  omega
theorem own_narc {x : Int32} (h : own_ok x) : nar .char x = x := by
  have r := own_okr h
  show x.toUInt32.toUInt16.toUInt32.toInt32 = x
  rw [← Int32.toInt_inj]
  have := c_i2c x
  omega
theorem own_bc {x : Int32} (h : own_ok x) : ((x.toInt8.toInt32 &&& (255 : Int32)).toUInt32.toUInt16.toUInt32.toInt32) = x := by
  have r := own_okr h
  rw [← Int32.toInt_inj]
  have h1 := c_i2b x
  have h2 := c_mask x.toInt8.toInt32 255 8 (by decide) (by decide)
  have h3 := c_i2c (x.toInt8.toInt32 &&& (255 : Int32))
  omega
theorem own_hxs {f x : Int32} {n : Nat} (hf : own_ok f) (hx : own_ok x) : ∀ zj : Nat, zj < 81 → (((own_tx f x n).map (fun c => c.toInt8.toInt32)).map Value.int).getD zj (.int 0) = .int ((fun z => (own_xf f x n z).toInt8.toInt32) zj) ∧ (((fun z => (own_xf f x n z).toInt8.toInt32) zj &&& (255 : Int32)).toUInt32.toUInt16.toUInt32.toInt32) = own_xf f x n zj ∧ own_ok (own_xf f x n zj) := fun j h =>
  ⟨by simp [own_tx, List.getD_eq_getElem?_getD, h], own_bc (own_xok hf hx n j), own_xok hf hx n j⟩
theorem own_hpp {f x : Int32} {n : Nat} (hf : own_dg f = 0) : ∀ zj : Nat, zj < 81 → ¬ (own_dg (own_xf f x n zj) = (0 : Int32)) → zj = n := fun j _ q => Decidable.byContradiction fun z => q (by unfold own_xf; rw [if_neg z]; exact hf)
theorem own_dvp {f x e i : Int32} (h0 : 0 ≤ i.toInt) (h1 : i.toInt < 81) (he : own_dg x = e) : (own_cl (fun zj => own_dg ((own_xf f x i.toNatClampNeg) zj)) 81).getD i.toNatClampNeg (.int 0) = .int e := by
  rw [own_cl_get (own_cl81 h0 h1), if_pos (own_cl81 h0 h1)]
  unfold own_xf
  rw [if_pos rfl, he]
theorem own_dvq {f x i q : Int32} (h0 : 0 ≤ i.toInt) (g0 : 0 ≤ q.toInt) (g1 : q.toInt < 81) (hn : ¬ (q = i)) (he : own_dg f = 0) : (own_cl (fun zj => own_dg ((own_xf f x i.toNatClampNeg) zj)) 81).getD q.toNatClampNeg (.int 0) = .int 0 := by
  rw [own_cl_get (own_cl81 g0 g1), if_pos (own_cl81 g0 g1)]
  unfold own_xf
  have a := own_clamp h0
  have b := own_clamp g0
  rw [if_neg (fun z => hn (by rw [← Int32.toInt_inj]; omega)), he]
theorem own_m {x y : Int32} {n : Int} (hn : 0 < n) (m : Int32) (hm : m.toInt = n) (h : ((x &&& (2147483647 : Int32)) % m) = y) : 0 ≤ y.toInt ∧ y.toInt < n := by
  subst h
  have h1 := c_mask x 2147483647 31 (by decide) (by decide)
  have h2 := (c_irem (x &&& 2147483647) m n hm).1 (by omega)
  rw [h2]
  exact ⟨Int.emod_nonneg _ (by omega), Int.emod_lt_of_pos _ hn⟩
theorem own_u1 (x : Int32) : 0 ≤ ((x.toUInt32 >>> ((1 : Int32) &&& 31).toUInt32).toInt32).toInt := by
  have := c_iushr x 1 1 (by decide)
  omega
theorem own_mq {x y : Int32} (h : (((x.toUInt32 >>> ((1 : Int32) &&& 31).toUInt32).toInt32) % (81 : Int32)) = y) : 0 ≤ y.toInt ∧ y.toInt < 81 := by
  subst h
  have h2 := (c_irem _ (81 : Int32) 81 (by decide)).1 (own_u1 x)
  rw [h2]
  omega
theorem own_cB {k x : Int32} (hr : 0 ≤ k.toInt ∧ k.toInt < 11) (hx : ((((48 : Int32) + k) - (1 : Int32)).toUInt32.toUInt16.toUInt32.toInt32) = x) (h0 : ¬ (k = (0 : Int32))) (h1 : ¬ ((1 : Int32) < k)) : own_ok x ∧ own_dg x = 0 := by
  have e : k = 1 := by
    rw [← Int32.toInt_inj] at h0 ⊢
    simp only [Int32.lt_iff_toInt_lt, show (0 : Int32).toInt = 0 from rfl, show (1 : Int32).toInt = 1 from rfl] at *
    omega
  subst e
  subst hx
  decide
theorem own_cC {k x : Int32} (hr : 0 ≤ k.toInt ∧ k.toInt < 11) (hx : ((((48 : Int32) + k) - (1 : Int32)).toUInt32.toUInt16.toUInt32.toInt32) = x) (h1 : (1 : Int32) < k) : own_ok x ∧ own_dg x = (k - (1 : Int32)) := by
  have a1 := c_iadd 48 k
  have r1 := rng32 ((48 : Int32) + k)
  have a2 := c_isub ((48 : Int32) + k) 1
  have r2 := rng32 (((48 : Int32) + k) - 1)
  have a3 := c_i2c (((48 : Int32) + k) - 1)
  have a4 := c_isub k 1
  have r4 := rng32 (k - 1)
  rw [hx] at a3
  simp only [Int32.lt_iff_toInt_lt, show (48 : Int32).toInt = 48 from rfl, show (1 : Int32).toInt = 1 from rfl] at *
  have b1 : ((48 : Int32) + k).toInt = 48 + k.toInt := by omega
  have b2 : (((48 : Int32) + k) - 1).toInt = 47 + k.toInt := by rw [b1] at a2; omega
  have b3 : x.toInt = 47 + k.toInt := by rw [b2] at a3; omega
  have b4 : (k - 1).toInt = k.toInt - 1 := by omega
  have n1 : ¬ (x = 46) := fun q => by rw [q, show (46 : Int32).toInt = 46 from rfl] at b3; omega
  have n2 : ¬ (x = 48) := fun q => by rw [q, show (48 : Int32).toInt = 48 from rfl] at b3; omega
  refine ⟨Or.inr ⟨?_, ?_⟩, ?_⟩
  · rw [Int32.lt_iff_toInt_lt, show (48 : Int32).toInt = 48 from rfl]; omega
  · rw [Int32.lt_iff_toInt_lt, show (57 : Int32).toInt = 57 from rfl]; omega
  · rw [own_dg3 n1 n2, ← Int32.toInt_inj, b4]
    have a5 := c_isub x 48
    have r5 := rng32 (x - 48)
    simp only [show (48 : Int32).toInt = 48 from rfl] at a5
    omega
theorem own_ws {Z : State} {a0 : Array Value} (hw : HW a0 Z) : ∀ d ∈ StrChars.Road.words, d.before a0 Z = true := fun d hd => hw d ((by decide +kernel : ∀ d ∈ StrChars.Road.words, d ∈ tables_1) d hd)
abbrev y_22 : MethodName := ⟨"org/ninefold/model/PuzzleTextAppendPinLaw", "row81", "(C)[C"⟩
theorem pn_org_ninefold_model_PuzzleTextAppendPinLaw : plainName "org/ninefold/model/PuzzleTextAppendPinLaw" = true := by first | (simp [plainName, overriddenIn]; done) | decide +kernel
theorem d6_0 : decode method_3_code 0 = .ok (.bipush 81, 2) := by decide +kernel
theorem d6_2 : decode method_3_code 2 = .ok (.newarray .char, 2) := by decide +kernel
theorem d6_4 : decode method_3_code 4 = .ok (.dup, 1) := by decide +kernel
theorem d6_5 : decode method_3_code 5 = .ok (.iconst 0, 1) := by decide +kernel
theorem d6_6 : decode method_3_code 6 = .ok (.iload_n 0, 1) := by decide +kernel
theorem d6_7 : decode method_3_code 7 = .ok (.castore, 1) := by decide +kernel
theorem d6_8 : decode method_3_code 8 = .ok (.dup, 1) := by decide +kernel
theorem d6_9 : decode method_3_code 9 = .ok (.iconst 1, 1) := by decide +kernel
theorem d6_10 : decode method_3_code 10 = .ok (.iload_n 0, 1) := by decide +kernel
theorem d6_11 : decode method_3_code 11 = .ok (.castore, 1) := by decide +kernel
theorem d6_12 : decode method_3_code 12 = .ok (.dup, 1) := by decide +kernel
theorem d6_13 : decode method_3_code 13 = .ok (.iconst 2, 1) := by decide +kernel
theorem d6_14 : decode method_3_code 14 = .ok (.iload_n 0, 1) := by decide +kernel
theorem d6_15 : decode method_3_code 15 = .ok (.castore, 1) := by decide +kernel
theorem d6_16 : decode method_3_code 16 = .ok (.dup, 1) := by decide +kernel
theorem d6_17 : decode method_3_code 17 = .ok (.iconst 3, 1) := by decide +kernel
theorem d6_18 : decode method_3_code 18 = .ok (.iload_n 0, 1) := by decide +kernel
theorem d6_19 : decode method_3_code 19 = .ok (.castore, 1) := by decide +kernel
theorem d6_20 : decode method_3_code 20 = .ok (.dup, 1) := by decide +kernel
theorem d6_21 : decode method_3_code 21 = .ok (.iconst 4, 1) := by decide +kernel
theorem d6_22 : decode method_3_code 22 = .ok (.iload_n 0, 1) := by decide +kernel
theorem d6_23 : decode method_3_code 23 = .ok (.castore, 1) := by decide +kernel
theorem d6_24 : decode method_3_code 24 = .ok (.dup, 1) := by decide +kernel
theorem d6_25 : decode method_3_code 25 = .ok (.iconst 5, 1) := by decide +kernel
theorem d6_26 : decode method_3_code 26 = .ok (.iload_n 0, 1) := by decide +kernel
theorem d6_27 : decode method_3_code 27 = .ok (.castore, 1) := by decide +kernel
theorem d6_28 : decode method_3_code 28 = .ok (.dup, 1) := by decide +kernel
theorem d6_29 : decode method_3_code 29 = .ok (.bipush 6, 2) := by decide +kernel
theorem d6_31 : decode method_3_code 31 = .ok (.iload_n 0, 1) := by decide +kernel
theorem d6_32 : decode method_3_code 32 = .ok (.castore, 1) := by decide +kernel
theorem d6_33 : decode method_3_code 33 = .ok (.dup, 1) := by decide +kernel
theorem d6_34 : decode method_3_code 34 = .ok (.bipush 7, 2) := by decide +kernel
theorem d6_36 : decode method_3_code 36 = .ok (.iload_n 0, 1) := by decide +kernel
theorem d6_37 : decode method_3_code 37 = .ok (.castore, 1) := by decide +kernel
theorem d6_38 : decode method_3_code 38 = .ok (.dup, 1) := by decide +kernel
theorem d6_39 : decode method_3_code 39 = .ok (.bipush 8, 2) := by decide +kernel
theorem d6_41 : decode method_3_code 41 = .ok (.iload_n 0, 1) := by decide +kernel
theorem d6_42 : decode method_3_code 42 = .ok (.castore, 1) := by decide +kernel
theorem d6_43 : decode method_3_code 43 = .ok (.dup, 1) := by decide +kernel
theorem d6_44 : decode method_3_code 44 = .ok (.bipush 9, 2) := by decide +kernel
theorem d6_46 : decode method_3_code 46 = .ok (.iload_n 0, 1) := by decide +kernel
theorem d6_47 : decode method_3_code 47 = .ok (.castore, 1) := by decide +kernel
theorem d6_48 : decode method_3_code 48 = .ok (.dup, 1) := by decide +kernel
theorem d6_49 : decode method_3_code 49 = .ok (.bipush 10, 2) := by decide +kernel
theorem d6_51 : decode method_3_code 51 = .ok (.iload_n 0, 1) := by decide +kernel
theorem d6_52 : decode method_3_code 52 = .ok (.castore, 1) := by decide +kernel
theorem d6_53 : decode method_3_code 53 = .ok (.dup, 1) := by decide +kernel
theorem d6_54 : decode method_3_code 54 = .ok (.bipush 11, 2) := by decide +kernel
theorem d6_56 : decode method_3_code 56 = .ok (.iload_n 0, 1) := by decide +kernel
theorem d6_57 : decode method_3_code 57 = .ok (.castore, 1) := by decide +kernel
theorem d6_58 : decode method_3_code 58 = .ok (.dup, 1) := by decide +kernel
theorem d6_59 : decode method_3_code 59 = .ok (.bipush 12, 2) := by decide +kernel
theorem d6_61 : decode method_3_code 61 = .ok (.iload_n 0, 1) := by decide +kernel
theorem d6_62 : decode method_3_code 62 = .ok (.castore, 1) := by decide +kernel
theorem d6_63 : decode method_3_code 63 = .ok (.dup, 1) := by decide +kernel
theorem d6_64 : decode method_3_code 64 = .ok (.bipush 13, 2) := by decide +kernel
theorem d6_66 : decode method_3_code 66 = .ok (.iload_n 0, 1) := by decide +kernel
theorem d6_67 : decode method_3_code 67 = .ok (.castore, 1) := by decide +kernel
theorem d6_68 : decode method_3_code 68 = .ok (.dup, 1) := by decide +kernel
theorem d6_69 : decode method_3_code 69 = .ok (.bipush 14, 2) := by decide +kernel
theorem d6_71 : decode method_3_code 71 = .ok (.iload_n 0, 1) := by decide +kernel
theorem d6_72 : decode method_3_code 72 = .ok (.castore, 1) := by decide +kernel
theorem d6_73 : decode method_3_code 73 = .ok (.dup, 1) := by decide +kernel
theorem d6_74 : decode method_3_code 74 = .ok (.bipush 15, 2) := by decide +kernel
theorem d6_76 : decode method_3_code 76 = .ok (.iload_n 0, 1) := by decide +kernel
theorem d6_77 : decode method_3_code 77 = .ok (.castore, 1) := by decide +kernel
theorem d6_78 : decode method_3_code 78 = .ok (.dup, 1) := by decide +kernel
theorem d6_79 : decode method_3_code 79 = .ok (.bipush 16, 2) := by decide +kernel
theorem d6_81 : decode method_3_code 81 = .ok (.iload_n 0, 1) := by decide +kernel
theorem d6_82 : decode method_3_code 82 = .ok (.castore, 1) := by decide +kernel
theorem d6_83 : decode method_3_code 83 = .ok (.dup, 1) := by decide +kernel
theorem d6_84 : decode method_3_code 84 = .ok (.bipush 17, 2) := by decide +kernel
theorem d6_86 : decode method_3_code 86 = .ok (.iload_n 0, 1) := by decide +kernel
theorem d6_87 : decode method_3_code 87 = .ok (.castore, 1) := by decide +kernel
theorem d6_88 : decode method_3_code 88 = .ok (.dup, 1) := by decide +kernel
theorem d6_89 : decode method_3_code 89 = .ok (.bipush 18, 2) := by decide +kernel
theorem d6_91 : decode method_3_code 91 = .ok (.iload_n 0, 1) := by decide +kernel
theorem d6_92 : decode method_3_code 92 = .ok (.castore, 1) := by decide +kernel
theorem d6_93 : decode method_3_code 93 = .ok (.dup, 1) := by decide +kernel
theorem d6_94 : decode method_3_code 94 = .ok (.bipush 19, 2) := by decide +kernel
theorem d6_96 : decode method_3_code 96 = .ok (.iload_n 0, 1) := by decide +kernel
theorem d6_97 : decode method_3_code 97 = .ok (.castore, 1) := by decide +kernel
theorem d6_98 : decode method_3_code 98 = .ok (.dup, 1) := by decide +kernel
theorem d6_99 : decode method_3_code 99 = .ok (.bipush 20, 2) := by decide +kernel
theorem d6_101 : decode method_3_code 101 = .ok (.iload_n 0, 1) := by decide +kernel
theorem d6_102 : decode method_3_code 102 = .ok (.castore, 1) := by decide +kernel
theorem d6_103 : decode method_3_code 103 = .ok (.dup, 1) := by decide +kernel
theorem d6_104 : decode method_3_code 104 = .ok (.bipush 21, 2) := by decide +kernel
theorem d6_106 : decode method_3_code 106 = .ok (.iload_n 0, 1) := by decide +kernel
theorem d6_107 : decode method_3_code 107 = .ok (.castore, 1) := by decide +kernel
theorem d6_108 : decode method_3_code 108 = .ok (.dup, 1) := by decide +kernel
theorem d6_109 : decode method_3_code 109 = .ok (.bipush 22, 2) := by decide +kernel
theorem d6_111 : decode method_3_code 111 = .ok (.iload_n 0, 1) := by decide +kernel
theorem d6_112 : decode method_3_code 112 = .ok (.castore, 1) := by decide +kernel
theorem d6_113 : decode method_3_code 113 = .ok (.dup, 1) := by decide +kernel
theorem d6_114 : decode method_3_code 114 = .ok (.bipush 23, 2) := by decide +kernel
theorem d6_116 : decode method_3_code 116 = .ok (.iload_n 0, 1) := by decide +kernel
theorem d6_117 : decode method_3_code 117 = .ok (.castore, 1) := by decide +kernel
theorem d6_118 : decode method_3_code 118 = .ok (.dup, 1) := by decide +kernel
theorem d6_119 : decode method_3_code 119 = .ok (.bipush 24, 2) := by decide +kernel
theorem d6_121 : decode method_3_code 121 = .ok (.iload_n 0, 1) := by decide +kernel
theorem d6_122 : decode method_3_code 122 = .ok (.castore, 1) := by decide +kernel
theorem d6_123 : decode method_3_code 123 = .ok (.dup, 1) := by decide +kernel
theorem d6_124 : decode method_3_code 124 = .ok (.bipush 25, 2) := by decide +kernel
theorem d6_126 : decode method_3_code 126 = .ok (.iload_n 0, 1) := by decide +kernel
theorem d6_127 : decode method_3_code 127 = .ok (.castore, 1) := by decide +kernel
theorem d6_128 : decode method_3_code 128 = .ok (.dup, 1) := by decide +kernel
theorem d6_129 : decode method_3_code 129 = .ok (.bipush 26, 2) := by decide +kernel
theorem d6_131 : decode method_3_code 131 = .ok (.iload_n 0, 1) := by decide +kernel
theorem d6_132 : decode method_3_code 132 = .ok (.castore, 1) := by decide +kernel
theorem d6_133 : decode method_3_code 133 = .ok (.dup, 1) := by decide +kernel
theorem d6_134 : decode method_3_code 134 = .ok (.bipush 27, 2) := by decide +kernel
theorem d6_136 : decode method_3_code 136 = .ok (.iload_n 0, 1) := by decide +kernel
theorem d6_137 : decode method_3_code 137 = .ok (.castore, 1) := by decide +kernel
theorem d6_138 : decode method_3_code 138 = .ok (.dup, 1) := by decide +kernel
theorem d6_139 : decode method_3_code 139 = .ok (.bipush 28, 2) := by decide +kernel
theorem d6_141 : decode method_3_code 141 = .ok (.iload_n 0, 1) := by decide +kernel
theorem d6_142 : decode method_3_code 142 = .ok (.castore, 1) := by decide +kernel
theorem d6_143 : decode method_3_code 143 = .ok (.dup, 1) := by decide +kernel
theorem d6_144 : decode method_3_code 144 = .ok (.bipush 29, 2) := by decide +kernel
theorem d6_146 : decode method_3_code 146 = .ok (.iload_n 0, 1) := by decide +kernel
theorem d6_147 : decode method_3_code 147 = .ok (.castore, 1) := by decide +kernel
theorem d6_148 : decode method_3_code 148 = .ok (.dup, 1) := by decide +kernel
theorem d6_149 : decode method_3_code 149 = .ok (.bipush 30, 2) := by decide +kernel
theorem d6_151 : decode method_3_code 151 = .ok (.iload_n 0, 1) := by decide +kernel
theorem d6_152 : decode method_3_code 152 = .ok (.castore, 1) := by decide +kernel
theorem d6_153 : decode method_3_code 153 = .ok (.dup, 1) := by decide +kernel
theorem d6_154 : decode method_3_code 154 = .ok (.bipush 31, 2) := by decide +kernel
theorem d6_156 : decode method_3_code 156 = .ok (.iload_n 0, 1) := by decide +kernel
theorem d6_157 : decode method_3_code 157 = .ok (.castore, 1) := by decide +kernel
theorem d6_158 : decode method_3_code 158 = .ok (.dup, 1) := by decide +kernel
theorem d6_159 : decode method_3_code 159 = .ok (.bipush 32, 2) := by decide +kernel
theorem d6_161 : decode method_3_code 161 = .ok (.iload_n 0, 1) := by decide +kernel
theorem d6_162 : decode method_3_code 162 = .ok (.castore, 1) := by decide +kernel
theorem d6_163 : decode method_3_code 163 = .ok (.dup, 1) := by decide +kernel
theorem d6_164 : decode method_3_code 164 = .ok (.bipush 33, 2) := by decide +kernel
theorem d6_166 : decode method_3_code 166 = .ok (.iload_n 0, 1) := by decide +kernel
theorem d6_167 : decode method_3_code 167 = .ok (.castore, 1) := by decide +kernel
theorem d6_168 : decode method_3_code 168 = .ok (.dup, 1) := by decide +kernel
theorem d6_169 : decode method_3_code 169 = .ok (.bipush 34, 2) := by decide +kernel
theorem d6_171 : decode method_3_code 171 = .ok (.iload_n 0, 1) := by decide +kernel
theorem d6_172 : decode method_3_code 172 = .ok (.castore, 1) := by decide +kernel
theorem d6_173 : decode method_3_code 173 = .ok (.dup, 1) := by decide +kernel
theorem d6_174 : decode method_3_code 174 = .ok (.bipush 35, 2) := by decide +kernel
theorem d6_176 : decode method_3_code 176 = .ok (.iload_n 0, 1) := by decide +kernel
theorem d6_177 : decode method_3_code 177 = .ok (.castore, 1) := by decide +kernel
theorem d6_178 : decode method_3_code 178 = .ok (.dup, 1) := by decide +kernel
theorem d6_179 : decode method_3_code 179 = .ok (.bipush 36, 2) := by decide +kernel
theorem d6_181 : decode method_3_code 181 = .ok (.iload_n 0, 1) := by decide +kernel
theorem d6_182 : decode method_3_code 182 = .ok (.castore, 1) := by decide +kernel
theorem d6_183 : decode method_3_code 183 = .ok (.dup, 1) := by decide +kernel
theorem d6_184 : decode method_3_code 184 = .ok (.bipush 37, 2) := by decide +kernel
theorem d6_186 : decode method_3_code 186 = .ok (.iload_n 0, 1) := by decide +kernel
theorem d6_187 : decode method_3_code 187 = .ok (.castore, 1) := by decide +kernel
theorem d6_188 : decode method_3_code 188 = .ok (.dup, 1) := by decide +kernel
theorem d6_189 : decode method_3_code 189 = .ok (.bipush 38, 2) := by decide +kernel
theorem d6_191 : decode method_3_code 191 = .ok (.iload_n 0, 1) := by decide +kernel
theorem d6_192 : decode method_3_code 192 = .ok (.castore, 1) := by decide +kernel
theorem d6_193 : decode method_3_code 193 = .ok (.dup, 1) := by decide +kernel
theorem d6_194 : decode method_3_code 194 = .ok (.bipush 39, 2) := by decide +kernel
theorem d6_196 : decode method_3_code 196 = .ok (.iload_n 0, 1) := by decide +kernel
theorem d6_197 : decode method_3_code 197 = .ok (.castore, 1) := by decide +kernel
theorem d6_198 : decode method_3_code 198 = .ok (.dup, 1) := by decide +kernel
theorem d6_199 : decode method_3_code 199 = .ok (.bipush 40, 2) := by decide +kernel
theorem d6_201 : decode method_3_code 201 = .ok (.iload_n 0, 1) := by decide +kernel
theorem d6_202 : decode method_3_code 202 = .ok (.castore, 1) := by decide +kernel
theorem d6_203 : decode method_3_code 203 = .ok (.dup, 1) := by decide +kernel
theorem d6_204 : decode method_3_code 204 = .ok (.bipush 41, 2) := by decide +kernel
theorem d6_206 : decode method_3_code 206 = .ok (.iload_n 0, 1) := by decide +kernel
theorem d6_207 : decode method_3_code 207 = .ok (.castore, 1) := by decide +kernel
theorem d6_208 : decode method_3_code 208 = .ok (.dup, 1) := by decide +kernel
theorem d6_209 : decode method_3_code 209 = .ok (.bipush 42, 2) := by decide +kernel
theorem d6_211 : decode method_3_code 211 = .ok (.iload_n 0, 1) := by decide +kernel
theorem d6_212 : decode method_3_code 212 = .ok (.castore, 1) := by decide +kernel
theorem d6_213 : decode method_3_code 213 = .ok (.dup, 1) := by decide +kernel
theorem d6_214 : decode method_3_code 214 = .ok (.bipush 43, 2) := by decide +kernel
theorem d6_216 : decode method_3_code 216 = .ok (.iload_n 0, 1) := by decide +kernel
theorem d6_217 : decode method_3_code 217 = .ok (.castore, 1) := by decide +kernel
theorem d6_218 : decode method_3_code 218 = .ok (.dup, 1) := by decide +kernel
theorem d6_219 : decode method_3_code 219 = .ok (.bipush 44, 2) := by decide +kernel
theorem d6_221 : decode method_3_code 221 = .ok (.iload_n 0, 1) := by decide +kernel
theorem d6_222 : decode method_3_code 222 = .ok (.castore, 1) := by decide +kernel
theorem d6_223 : decode method_3_code 223 = .ok (.dup, 1) := by decide +kernel
theorem d6_224 : decode method_3_code 224 = .ok (.bipush 45, 2) := by decide +kernel
theorem d6_226 : decode method_3_code 226 = .ok (.iload_n 0, 1) := by decide +kernel
theorem d6_227 : decode method_3_code 227 = .ok (.castore, 1) := by decide +kernel
theorem d6_228 : decode method_3_code 228 = .ok (.dup, 1) := by decide +kernel
theorem d6_229 : decode method_3_code 229 = .ok (.bipush 46, 2) := by decide +kernel
theorem d6_231 : decode method_3_code 231 = .ok (.iload_n 0, 1) := by decide +kernel
theorem d6_232 : decode method_3_code 232 = .ok (.castore, 1) := by decide +kernel
theorem d6_233 : decode method_3_code 233 = .ok (.dup, 1) := by decide +kernel
theorem d6_234 : decode method_3_code 234 = .ok (.bipush 47, 2) := by decide +kernel
theorem d6_236 : decode method_3_code 236 = .ok (.iload_n 0, 1) := by decide +kernel
theorem d6_237 : decode method_3_code 237 = .ok (.castore, 1) := by decide +kernel
theorem d6_238 : decode method_3_code 238 = .ok (.dup, 1) := by decide +kernel
theorem d6_239 : decode method_3_code 239 = .ok (.bipush 48, 2) := by decide +kernel
theorem d6_241 : decode method_3_code 241 = .ok (.iload_n 0, 1) := by decide +kernel
theorem d6_242 : decode method_3_code 242 = .ok (.castore, 1) := by decide +kernel
theorem d6_243 : decode method_3_code 243 = .ok (.dup, 1) := by decide +kernel
theorem d6_244 : decode method_3_code 244 = .ok (.bipush 49, 2) := by decide +kernel
theorem d6_246 : decode method_3_code 246 = .ok (.iload_n 0, 1) := by decide +kernel
theorem d6_247 : decode method_3_code 247 = .ok (.castore, 1) := by decide +kernel
theorem d6_248 : decode method_3_code 248 = .ok (.dup, 1) := by decide +kernel
theorem d6_249 : decode method_3_code 249 = .ok (.bipush 50, 2) := by decide +kernel
theorem d6_251 : decode method_3_code 251 = .ok (.iload_n 0, 1) := by decide +kernel
theorem d6_252 : decode method_3_code 252 = .ok (.castore, 1) := by decide +kernel
theorem d6_253 : decode method_3_code 253 = .ok (.dup, 1) := by decide +kernel
theorem d6_254 : decode method_3_code 254 = .ok (.bipush 51, 2) := by decide +kernel
theorem d6_256 : decode method_3_code 256 = .ok (.iload_n 0, 1) := by decide +kernel
theorem d6_257 : decode method_3_code 257 = .ok (.castore, 1) := by decide +kernel
theorem d6_258 : decode method_3_code 258 = .ok (.dup, 1) := by decide +kernel
theorem d6_259 : decode method_3_code 259 = .ok (.bipush 52, 2) := by decide +kernel
theorem d6_261 : decode method_3_code 261 = .ok (.iload_n 0, 1) := by decide +kernel
theorem d6_262 : decode method_3_code 262 = .ok (.castore, 1) := by decide +kernel
theorem d6_263 : decode method_3_code 263 = .ok (.dup, 1) := by decide +kernel
theorem d6_264 : decode method_3_code 264 = .ok (.bipush 53, 2) := by decide +kernel
theorem d6_266 : decode method_3_code 266 = .ok (.iload_n 0, 1) := by decide +kernel
theorem d6_267 : decode method_3_code 267 = .ok (.castore, 1) := by decide +kernel
theorem d6_268 : decode method_3_code 268 = .ok (.dup, 1) := by decide +kernel
theorem d6_269 : decode method_3_code 269 = .ok (.bipush 54, 2) := by decide +kernel
theorem d6_271 : decode method_3_code 271 = .ok (.iload_n 0, 1) := by decide +kernel
theorem d6_272 : decode method_3_code 272 = .ok (.castore, 1) := by decide +kernel
theorem d6_273 : decode method_3_code 273 = .ok (.dup, 1) := by decide +kernel
theorem d6_274 : decode method_3_code 274 = .ok (.bipush 55, 2) := by decide +kernel
theorem d6_276 : decode method_3_code 276 = .ok (.iload_n 0, 1) := by decide +kernel
theorem d6_277 : decode method_3_code 277 = .ok (.castore, 1) := by decide +kernel
theorem d6_278 : decode method_3_code 278 = .ok (.dup, 1) := by decide +kernel
theorem d6_279 : decode method_3_code 279 = .ok (.bipush 56, 2) := by decide +kernel
theorem d6_281 : decode method_3_code 281 = .ok (.iload_n 0, 1) := by decide +kernel
theorem d6_282 : decode method_3_code 282 = .ok (.castore, 1) := by decide +kernel
theorem d6_283 : decode method_3_code 283 = .ok (.dup, 1) := by decide +kernel
theorem d6_284 : decode method_3_code 284 = .ok (.bipush 57, 2) := by decide +kernel
theorem d6_286 : decode method_3_code 286 = .ok (.iload_n 0, 1) := by decide +kernel
theorem d6_287 : decode method_3_code 287 = .ok (.castore, 1) := by decide +kernel
theorem d6_288 : decode method_3_code 288 = .ok (.dup, 1) := by decide +kernel
theorem d6_289 : decode method_3_code 289 = .ok (.bipush 58, 2) := by decide +kernel
theorem d6_291 : decode method_3_code 291 = .ok (.iload_n 0, 1) := by decide +kernel
theorem d6_292 : decode method_3_code 292 = .ok (.castore, 1) := by decide +kernel
theorem d6_293 : decode method_3_code 293 = .ok (.dup, 1) := by decide +kernel
theorem d6_294 : decode method_3_code 294 = .ok (.bipush 59, 2) := by decide +kernel
theorem d6_296 : decode method_3_code 296 = .ok (.iload_n 0, 1) := by decide +kernel
theorem d6_297 : decode method_3_code 297 = .ok (.castore, 1) := by decide +kernel
theorem d6_298 : decode method_3_code 298 = .ok (.dup, 1) := by decide +kernel
theorem d6_299 : decode method_3_code 299 = .ok (.bipush 60, 2) := by decide +kernel
theorem d6_301 : decode method_3_code 301 = .ok (.iload_n 0, 1) := by decide +kernel
theorem d6_302 : decode method_3_code 302 = .ok (.castore, 1) := by decide +kernel
theorem d6_303 : decode method_3_code 303 = .ok (.dup, 1) := by decide +kernel
theorem d6_304 : decode method_3_code 304 = .ok (.bipush 61, 2) := by decide +kernel
theorem d6_306 : decode method_3_code 306 = .ok (.iload_n 0, 1) := by decide +kernel
theorem d6_307 : decode method_3_code 307 = .ok (.castore, 1) := by decide +kernel
theorem d6_308 : decode method_3_code 308 = .ok (.dup, 1) := by decide +kernel
theorem d6_309 : decode method_3_code 309 = .ok (.bipush 62, 2) := by decide +kernel
theorem d6_311 : decode method_3_code 311 = .ok (.iload_n 0, 1) := by decide +kernel
theorem d6_312 : decode method_3_code 312 = .ok (.castore, 1) := by decide +kernel
theorem d6_313 : decode method_3_code 313 = .ok (.dup, 1) := by decide +kernel
theorem d6_314 : decode method_3_code 314 = .ok (.bipush 63, 2) := by decide +kernel
theorem d6_316 : decode method_3_code 316 = .ok (.iload_n 0, 1) := by decide +kernel
theorem d6_317 : decode method_3_code 317 = .ok (.castore, 1) := by decide +kernel
theorem d6_318 : decode method_3_code 318 = .ok (.dup, 1) := by decide +kernel
theorem d6_319 : decode method_3_code 319 = .ok (.bipush 64, 2) := by decide +kernel
theorem d6_321 : decode method_3_code 321 = .ok (.iload_n 0, 1) := by decide +kernel
theorem d6_322 : decode method_3_code 322 = .ok (.castore, 1) := by decide +kernel
theorem d6_323 : decode method_3_code 323 = .ok (.dup, 1) := by decide +kernel
theorem d6_324 : decode method_3_code 324 = .ok (.bipush 65, 2) := by decide +kernel
theorem d6_326 : decode method_3_code 326 = .ok (.iload_n 0, 1) := by decide +kernel
theorem d6_327 : decode method_3_code 327 = .ok (.castore, 1) := by decide +kernel
theorem d6_328 : decode method_3_code 328 = .ok (.dup, 1) := by decide +kernel
theorem d6_329 : decode method_3_code 329 = .ok (.bipush 66, 2) := by decide +kernel
theorem d6_331 : decode method_3_code 331 = .ok (.iload_n 0, 1) := by decide +kernel
theorem d6_332 : decode method_3_code 332 = .ok (.castore, 1) := by decide +kernel
theorem d6_333 : decode method_3_code 333 = .ok (.dup, 1) := by decide +kernel
theorem d6_334 : decode method_3_code 334 = .ok (.bipush 67, 2) := by decide +kernel
theorem d6_336 : decode method_3_code 336 = .ok (.iload_n 0, 1) := by decide +kernel
theorem d6_337 : decode method_3_code 337 = .ok (.castore, 1) := by decide +kernel
theorem d6_338 : decode method_3_code 338 = .ok (.dup, 1) := by decide +kernel
theorem d6_339 : decode method_3_code 339 = .ok (.bipush 68, 2) := by decide +kernel
theorem d6_341 : decode method_3_code 341 = .ok (.iload_n 0, 1) := by decide +kernel
theorem d6_342 : decode method_3_code 342 = .ok (.castore, 1) := by decide +kernel
theorem d6_343 : decode method_3_code 343 = .ok (.dup, 1) := by decide +kernel
theorem d6_344 : decode method_3_code 344 = .ok (.bipush 69, 2) := by decide +kernel
theorem d6_346 : decode method_3_code 346 = .ok (.iload_n 0, 1) := by decide +kernel
theorem d6_347 : decode method_3_code 347 = .ok (.castore, 1) := by decide +kernel
theorem d6_348 : decode method_3_code 348 = .ok (.dup, 1) := by decide +kernel
theorem d6_349 : decode method_3_code 349 = .ok (.bipush 70, 2) := by decide +kernel
theorem d6_351 : decode method_3_code 351 = .ok (.iload_n 0, 1) := by decide +kernel
theorem d6_352 : decode method_3_code 352 = .ok (.castore, 1) := by decide +kernel
theorem d6_353 : decode method_3_code 353 = .ok (.dup, 1) := by decide +kernel
theorem d6_354 : decode method_3_code 354 = .ok (.bipush 71, 2) := by decide +kernel
theorem d6_356 : decode method_3_code 356 = .ok (.iload_n 0, 1) := by decide +kernel
theorem d6_357 : decode method_3_code 357 = .ok (.castore, 1) := by decide +kernel
theorem d6_358 : decode method_3_code 358 = .ok (.dup, 1) := by decide +kernel
theorem d6_359 : decode method_3_code 359 = .ok (.bipush 72, 2) := by decide +kernel
theorem d6_361 : decode method_3_code 361 = .ok (.iload_n 0, 1) := by decide +kernel
theorem d6_362 : decode method_3_code 362 = .ok (.castore, 1) := by decide +kernel
theorem d6_363 : decode method_3_code 363 = .ok (.dup, 1) := by decide +kernel
theorem d6_364 : decode method_3_code 364 = .ok (.bipush 73, 2) := by decide +kernel
theorem d6_366 : decode method_3_code 366 = .ok (.iload_n 0, 1) := by decide +kernel
theorem d6_367 : decode method_3_code 367 = .ok (.castore, 1) := by decide +kernel
theorem d6_368 : decode method_3_code 368 = .ok (.dup, 1) := by decide +kernel
theorem d6_369 : decode method_3_code 369 = .ok (.bipush 74, 2) := by decide +kernel
theorem d6_371 : decode method_3_code 371 = .ok (.iload_n 0, 1) := by decide +kernel
theorem d6_372 : decode method_3_code 372 = .ok (.castore, 1) := by decide +kernel
theorem d6_373 : decode method_3_code 373 = .ok (.dup, 1) := by decide +kernel
theorem d6_374 : decode method_3_code 374 = .ok (.bipush 75, 2) := by decide +kernel
theorem d6_376 : decode method_3_code 376 = .ok (.iload_n 0, 1) := by decide +kernel
theorem d6_377 : decode method_3_code 377 = .ok (.castore, 1) := by decide +kernel
theorem d6_378 : decode method_3_code 378 = .ok (.dup, 1) := by decide +kernel
theorem d6_379 : decode method_3_code 379 = .ok (.bipush 76, 2) := by decide +kernel
theorem d6_381 : decode method_3_code 381 = .ok (.iload_n 0, 1) := by decide +kernel
theorem d6_382 : decode method_3_code 382 = .ok (.castore, 1) := by decide +kernel
theorem d6_383 : decode method_3_code 383 = .ok (.dup, 1) := by decide +kernel
theorem d6_384 : decode method_3_code 384 = .ok (.bipush 77, 2) := by decide +kernel
theorem d6_386 : decode method_3_code 386 = .ok (.iload_n 0, 1) := by decide +kernel
theorem d6_387 : decode method_3_code 387 = .ok (.castore, 1) := by decide +kernel
theorem d6_388 : decode method_3_code 388 = .ok (.dup, 1) := by decide +kernel
theorem d6_389 : decode method_3_code 389 = .ok (.bipush 78, 2) := by decide +kernel
theorem d6_391 : decode method_3_code 391 = .ok (.iload_n 0, 1) := by decide +kernel
theorem d6_392 : decode method_3_code 392 = .ok (.castore, 1) := by decide +kernel
theorem d6_393 : decode method_3_code 393 = .ok (.dup, 1) := by decide +kernel
theorem d6_394 : decode method_3_code 394 = .ok (.bipush 79, 2) := by decide +kernel
theorem d6_396 : decode method_3_code 396 = .ok (.iload_n 0, 1) := by decide +kernel
theorem d6_397 : decode method_3_code 397 = .ok (.castore, 1) := by decide +kernel
theorem d6_398 : decode method_3_code 398 = .ok (.dup, 1) := by decide +kernel
theorem d6_399 : decode method_3_code 399 = .ok (.bipush 80, 2) := by decide +kernel
theorem d6_401 : decode method_3_code 401 = .ok (.iload_n 0, 1) := by decide +kernel
theorem d6_402 : decode method_3_code 402 = .ok (.castore, 1) := by decide +kernel
theorem d6_403 : decode method_3_code 403 = .ok (.areturn, 1) := by decide +kernel
abbrev rm_rmR : Room := ({ frames := 0, cells := 1, slots := 81, locals := 0 } : Room)
def Q_rmR (Z : State) (fi : Int32) (h0 : Heap) (n0 : Nat) (v : Option Value) (h : Heap) (L : List Loc) : Prop := ∃ rb : Addr, ∃ kr : ClassId, (v = some (.ref rb)) ∧ (Fr n0 L) ∧ (Keep h0 h []) ∧ (Arv Z h rb kr .char (81 : Int32) (own_cl (fun _ => fi) 81) (.int 0)) ∧ (n0 ≤ rb) ∧ (h0.size ≤ rb)
theorem rmR (l : Launch) (Z : State) (a0 : Array Value) (hw : HW a0 Z) (ws : List Jvm.Cond) (fi : Int32) (h0 : Heap) (n0 : Nat) (O : Old Z n0 h0) (hfi : nar .char fi = fi) :
    Mt l Z y_22 method_3_code 1 (some (.array .char)) ws rm_rmR #[(.int fi)] h0 (Q_rmR Z fi h0 n0) := by
 refine own_met "org/ninefold/model/PuzzleTextAppendPinLaw" (plainFor_of_name pn_org_ninefold_model_PuzzleTextAppendPinLaw) #[iv fi] (fun m => rfl) (fun p e s m below meth c s₁ Bd hx hby hml hZ hown hnm X0 e0 => ?_)
 have N0 := Fr.nil n0
 have K := Keep.refl h0 []
 refine Go.step (S' := s₁.setTop (mkF m 2 #[iv fi] [(.int 81)])) (fun t k => ?_) ?_
 · refine XS.bipush X0.here hx rfl (hb hby d6_0) ?_
   exact k
 obtain ⟨T1, h1, k1, X1, e1, E1, A1, Q1, st1⟩ := newPE X0 hx hZ (own_w hw 36 rfl) e0 (g := (mkF m 2 #[iv fi] [(.int 81)])) rfl (hb hby d6_2) rfl (by decide) (cap := 81) (by decide) (by decide) (by decide) (by decide) (ad := "[C") rfl
 obtain ⟨b1, g1⟩ : ∃ z, z = Array.size h0 := ⟨_, rfl⟩
 have g_b1 : n0 ≤ b1 := Nat.le_trans (old_le O) (Nat.le_of_eq g1.symm)
 have sz_b1 : h0.size ≤ b1 := Nat.le_trans K.1 (Nat.le_of_eq g1.symm)
 rw [← g1] at A1 Q1 st1
 have O := O.ext E1
 have K := K.ext E1
 have V_b1 : Arv Z h1 b1 k1 .char (81 : Int32) (List.replicate 81 (.int 0)) (.int 0) := (Arv.new A1 (by decide)).pad (pad_rep [] (.int 0) 81)
 have E_b1 := Q1
 refine Go.step st1 ?_
 rw [own_cl_0 (fun _ => fi)] at V_b1
 refine Go.step (S' := T1.setTop (mkF m 7 #[iv fi] [(.int fi), (.int 0), (.ref b1), (.ref b1)])) (fun t k => ?_) ?_
 · refine XS.dup X1.here hx rfl (hb hby d6_4) rfl rfl ?_
   refine XS.iconst X1.here hx rfl (hb hby d6_5) ?_
   refine XS.iloadN X1.here hx rfl (hb hby d6_6) rfl ?_
   exact k
 refine Go.cst X1 hx hZ e1 V_b1 (hb hby d6_7) ⟨by decide, by decide⟩ (by rw [own_cl_len]; decide) (fun T2 h2 X2 e2 W2 V2 => ?_)
 have O := O.wr W2 g_b1
 have K := K.wr W2 (Or.inr sz_b1)
 have E_b1 := E_b1.wr W2
 have V_b1 : Arv Z h2 b1 k1 .char (81 : Int32) (own_cl (fun _ => fi) 1) (.int 0) := own_rsA hfi rfl (by decide) V2
 have N2 := Fr.snoc X2 N0 g_b1
 refine Go.step (S' := T2.setTop (mkF m 11 #[iv fi] [(.int fi), (.int 1), (.ref b1), (.ref b1)])) (fun t k => ?_) ?_
 · refine XS.dup X2.here hx rfl (hb hby d6_8) rfl rfl ?_
   refine XS.iconst X2.here hx rfl (hb hby d6_9) ?_
   refine XS.iloadN X2.here hx rfl (hb hby d6_10) rfl ?_
   exact k
 refine Go.cst X2 hx hZ e2 V_b1 (hb hby d6_11) ⟨by decide, by decide⟩ (by rw [own_cl_len]; decide) (fun T3 h3 X3 e3 W3 V3 => ?_)
 have O := O.wr W3 g_b1
 have K := K.wr W3 (Or.inr sz_b1)
 have E_b1 := E_b1.wr W3
 have V_b1 : Arv Z h3 b1 k1 .char (81 : Int32) (own_cl (fun _ => fi) 2) (.int 0) := own_rsA hfi rfl (by decide) V3
 have N3 := Fr.snoc X3 N2 g_b1
 refine Go.step (S' := T3.setTop (mkF m 15 #[iv fi] [(.int fi), (.int 2), (.ref b1), (.ref b1)])) (fun t k => ?_) ?_
 · refine XS.dup X3.here hx rfl (hb hby d6_12) rfl rfl ?_
   refine XS.iconst X3.here hx rfl (hb hby d6_13) ?_
   refine XS.iloadN X3.here hx rfl (hb hby d6_14) rfl ?_
   exact k
 refine Go.cst X3 hx hZ e3 V_b1 (hb hby d6_15) ⟨by decide, by decide⟩ (by rw [own_cl_len]; decide) (fun T4 h4 X4 e4 W4 V4 => ?_)
 have O := O.wr W4 g_b1
 have K := K.wr W4 (Or.inr sz_b1)
 have E_b1 := E_b1.wr W4
 have V_b1 : Arv Z h4 b1 k1 .char (81 : Int32) (own_cl (fun _ => fi) 3) (.int 0) := own_rsA hfi rfl (by decide) V4
 have N4 := Fr.snoc X4 N3 g_b1
 refine Go.step (S' := T4.setTop (mkF m 19 #[iv fi] [(.int fi), (.int 3), (.ref b1), (.ref b1)])) (fun t k => ?_) ?_
 · refine XS.dup X4.here hx rfl (hb hby d6_16) rfl rfl ?_
   refine XS.iconst X4.here hx rfl (hb hby d6_17) ?_
   refine XS.iloadN X4.here hx rfl (hb hby d6_18) rfl ?_
   exact k
 refine Go.cst X4 hx hZ e4 V_b1 (hb hby d6_19) ⟨by decide, by decide⟩ (by rw [own_cl_len]; decide) (fun T5 h5 X5 e5 W5 V5 => ?_)
 have O := O.wr W5 g_b1
 have K := K.wr W5 (Or.inr sz_b1)
 have E_b1 := E_b1.wr W5
 have V_b1 : Arv Z h5 b1 k1 .char (81 : Int32) (own_cl (fun _ => fi) 4) (.int 0) := own_rsA hfi rfl (by decide) V5
 have N5 := Fr.snoc X5 N4 g_b1
 refine Go.step (S' := T5.setTop (mkF m 23 #[iv fi] [(.int fi), (.int 4), (.ref b1), (.ref b1)])) (fun t k => ?_) ?_
 · refine XS.dup X5.here hx rfl (hb hby d6_20) rfl rfl ?_
   refine XS.iconst X5.here hx rfl (hb hby d6_21) ?_
   refine XS.iloadN X5.here hx rfl (hb hby d6_22) rfl ?_
   exact k
 refine Go.cst X5 hx hZ e5 V_b1 (hb hby d6_23) ⟨by decide, by decide⟩ (by rw [own_cl_len]; decide) (fun T6 h6 X6 e6 W6 V6 => ?_)
 have O := O.wr W6 g_b1
 have K := K.wr W6 (Or.inr sz_b1)
 have E_b1 := E_b1.wr W6
 have V_b1 : Arv Z h6 b1 k1 .char (81 : Int32) (own_cl (fun _ => fi) 5) (.int 0) := own_rsA hfi rfl (by decide) V6
 have N6 := Fr.snoc X6 N5 g_b1
 refine Go.step (S' := T6.setTop (mkF m 27 #[iv fi] [(.int fi), (.int 5), (.ref b1), (.ref b1)])) (fun t k => ?_) ?_
 · refine XS.dup X6.here hx rfl (hb hby d6_24) rfl rfl ?_
   refine XS.iconst X6.here hx rfl (hb hby d6_25) ?_
   refine XS.iloadN X6.here hx rfl (hb hby d6_26) rfl ?_
   exact k
 refine Go.cst X6 hx hZ e6 V_b1 (hb hby d6_27) ⟨by decide, by decide⟩ (by rw [own_cl_len]; decide) (fun T7 h7 X7 e7 W7 V7 => ?_)
 have O := O.wr W7 g_b1
 have K := K.wr W7 (Or.inr sz_b1)
 have E_b1 := E_b1.wr W7
 have V_b1 : Arv Z h7 b1 k1 .char (81 : Int32) (own_cl (fun _ => fi) 6) (.int 0) := own_rsA hfi rfl (by decide) V7
 have N7 := Fr.snoc X7 N6 g_b1
 refine Go.step (S' := T7.setTop (mkF m 32 #[iv fi] [(.int fi), (.int 6), (.ref b1), (.ref b1)])) (fun t k => ?_) ?_
 · refine XS.dup X7.here hx rfl (hb hby d6_28) rfl rfl ?_
   refine XS.bipush X7.here hx rfl (hb hby d6_29) ?_
   refine XS.iloadN X7.here hx rfl (hb hby d6_31) rfl ?_
   exact k
 refine Go.cst X7 hx hZ e7 V_b1 (hb hby d6_32) ⟨by decide, by decide⟩ (by rw [own_cl_len]; decide) (fun T8 h8 X8 e8 W8 V8 => ?_)
 have O := O.wr W8 g_b1
 have K := K.wr W8 (Or.inr sz_b1)
 have E_b1 := E_b1.wr W8
 have V_b1 : Arv Z h8 b1 k1 .char (81 : Int32) (own_cl (fun _ => fi) 7) (.int 0) := own_rsA hfi rfl (by decide) V8
 have N8 := Fr.snoc X8 N7 g_b1
 refine Go.step (S' := T8.setTop (mkF m 37 #[iv fi] [(.int fi), (.int 7), (.ref b1), (.ref b1)])) (fun t k => ?_) ?_
 · refine XS.dup X8.here hx rfl (hb hby d6_33) rfl rfl ?_
   refine XS.bipush X8.here hx rfl (hb hby d6_34) ?_
   refine XS.iloadN X8.here hx rfl (hb hby d6_36) rfl ?_
   exact k
 refine Go.cst X8 hx hZ e8 V_b1 (hb hby d6_37) ⟨by decide, by decide⟩ (by rw [own_cl_len]; decide) (fun T9 h9 X9 e9 W9 V9 => ?_)
 have O := O.wr W9 g_b1
 have K := K.wr W9 (Or.inr sz_b1)
 have E_b1 := E_b1.wr W9
 have V_b1 : Arv Z h9 b1 k1 .char (81 : Int32) (own_cl (fun _ => fi) 8) (.int 0) := own_rsA hfi rfl (by decide) V9
 have N9 := Fr.snoc X9 N8 g_b1
 refine Go.step (S' := T9.setTop (mkF m 42 #[iv fi] [(.int fi), (.int 8), (.ref b1), (.ref b1)])) (fun t k => ?_) ?_
 · refine XS.dup X9.here hx rfl (hb hby d6_38) rfl rfl ?_
   refine XS.bipush X9.here hx rfl (hb hby d6_39) ?_
   refine XS.iloadN X9.here hx rfl (hb hby d6_41) rfl ?_
   exact k
 refine Go.cst X9 hx hZ e9 V_b1 (hb hby d6_42) ⟨by decide, by decide⟩ (by rw [own_cl_len]; decide) (fun T10 h10 X10 e10 W10 V10 => ?_)
 have O := O.wr W10 g_b1
 have K := K.wr W10 (Or.inr sz_b1)
 have E_b1 := E_b1.wr W10
 have V_b1 : Arv Z h10 b1 k1 .char (81 : Int32) (own_cl (fun _ => fi) 9) (.int 0) := own_rsA hfi rfl (by decide) V10
 have N10 := Fr.snoc X10 N9 g_b1
 refine Go.step (S' := T10.setTop (mkF m 47 #[iv fi] [(.int fi), (.int 9), (.ref b1), (.ref b1)])) (fun t k => ?_) ?_
 · refine XS.dup X10.here hx rfl (hb hby d6_43) rfl rfl ?_
   refine XS.bipush X10.here hx rfl (hb hby d6_44) ?_
   refine XS.iloadN X10.here hx rfl (hb hby d6_46) rfl ?_
   exact k
 refine Go.cst X10 hx hZ e10 V_b1 (hb hby d6_47) ⟨by decide, by decide⟩ (by rw [own_cl_len]; decide) (fun T11 h11 X11 e11 W11 V11 => ?_)
 have O := O.wr W11 g_b1
 have K := K.wr W11 (Or.inr sz_b1)
 have E_b1 := E_b1.wr W11
 have V_b1 : Arv Z h11 b1 k1 .char (81 : Int32) (own_cl (fun _ => fi) 10) (.int 0) := own_rsA hfi rfl (by decide) V11
 have N11 := Fr.snoc X11 N10 g_b1
 refine Go.step (S' := T11.setTop (mkF m 52 #[iv fi] [(.int fi), (.int 10), (.ref b1), (.ref b1)])) (fun t k => ?_) ?_
 · refine XS.dup X11.here hx rfl (hb hby d6_48) rfl rfl ?_
   refine XS.bipush X11.here hx rfl (hb hby d6_49) ?_
   refine XS.iloadN X11.here hx rfl (hb hby d6_51) rfl ?_
   exact k
 refine Go.cst X11 hx hZ e11 V_b1 (hb hby d6_52) ⟨by decide, by decide⟩ (by rw [own_cl_len]; decide) (fun T12 h12 X12 e12 W12 V12 => ?_)
 have O := O.wr W12 g_b1
 have K := K.wr W12 (Or.inr sz_b1)
 have E_b1 := E_b1.wr W12
 have V_b1 : Arv Z h12 b1 k1 .char (81 : Int32) (own_cl (fun _ => fi) 11) (.int 0) := own_rsA hfi rfl (by decide) V12
 have N12 := Fr.snoc X12 N11 g_b1
 refine Go.step (S' := T12.setTop (mkF m 57 #[iv fi] [(.int fi), (.int 11), (.ref b1), (.ref b1)])) (fun t k => ?_) ?_
 · refine XS.dup X12.here hx rfl (hb hby d6_53) rfl rfl ?_
   refine XS.bipush X12.here hx rfl (hb hby d6_54) ?_
   refine XS.iloadN X12.here hx rfl (hb hby d6_56) rfl ?_
   exact k
 refine Go.cst X12 hx hZ e12 V_b1 (hb hby d6_57) ⟨by decide, by decide⟩ (by rw [own_cl_len]; decide) (fun T13 h13 X13 e13 W13 V13 => ?_)
 have O := O.wr W13 g_b1
 have K := K.wr W13 (Or.inr sz_b1)
 have E_b1 := E_b1.wr W13
 have V_b1 : Arv Z h13 b1 k1 .char (81 : Int32) (own_cl (fun _ => fi) 12) (.int 0) := own_rsA hfi rfl (by decide) V13
 have N13 := Fr.snoc X13 N12 g_b1
 refine Go.step (S' := T13.setTop (mkF m 62 #[iv fi] [(.int fi), (.int 12), (.ref b1), (.ref b1)])) (fun t k => ?_) ?_
 · refine XS.dup X13.here hx rfl (hb hby d6_58) rfl rfl ?_
   refine XS.bipush X13.here hx rfl (hb hby d6_59) ?_
   refine XS.iloadN X13.here hx rfl (hb hby d6_61) rfl ?_
   exact k
 refine Go.cst X13 hx hZ e13 V_b1 (hb hby d6_62) ⟨by decide, by decide⟩ (by rw [own_cl_len]; decide) (fun T14 h14 X14 e14 W14 V14 => ?_)
 have O := O.wr W14 g_b1
 have K := K.wr W14 (Or.inr sz_b1)
 have E_b1 := E_b1.wr W14
 have V_b1 : Arv Z h14 b1 k1 .char (81 : Int32) (own_cl (fun _ => fi) 13) (.int 0) := own_rsA hfi rfl (by decide) V14
 have N14 := Fr.snoc X14 N13 g_b1
 refine Go.step (S' := T14.setTop (mkF m 67 #[iv fi] [(.int fi), (.int 13), (.ref b1), (.ref b1)])) (fun t k => ?_) ?_
 · refine XS.dup X14.here hx rfl (hb hby d6_63) rfl rfl ?_
   refine XS.bipush X14.here hx rfl (hb hby d6_64) ?_
   refine XS.iloadN X14.here hx rfl (hb hby d6_66) rfl ?_
   exact k
 refine Go.cst X14 hx hZ e14 V_b1 (hb hby d6_67) ⟨by decide, by decide⟩ (by rw [own_cl_len]; decide) (fun T15 h15 X15 e15 W15 V15 => ?_)
 have O := O.wr W15 g_b1
 have K := K.wr W15 (Or.inr sz_b1)
 have E_b1 := E_b1.wr W15
 have V_b1 : Arv Z h15 b1 k1 .char (81 : Int32) (own_cl (fun _ => fi) 14) (.int 0) := own_rsA hfi rfl (by decide) V15
 have N15 := Fr.snoc X15 N14 g_b1
 refine Go.step (S' := T15.setTop (mkF m 72 #[iv fi] [(.int fi), (.int 14), (.ref b1), (.ref b1)])) (fun t k => ?_) ?_
 · refine XS.dup X15.here hx rfl (hb hby d6_68) rfl rfl ?_
   refine XS.bipush X15.here hx rfl (hb hby d6_69) ?_
   refine XS.iloadN X15.here hx rfl (hb hby d6_71) rfl ?_
   exact k
 refine Go.cst X15 hx hZ e15 V_b1 (hb hby d6_72) ⟨by decide, by decide⟩ (by rw [own_cl_len]; decide) (fun T16 h16 X16 e16 W16 V16 => ?_)
 have O := O.wr W16 g_b1
 have K := K.wr W16 (Or.inr sz_b1)
 have E_b1 := E_b1.wr W16
 have V_b1 : Arv Z h16 b1 k1 .char (81 : Int32) (own_cl (fun _ => fi) 15) (.int 0) := own_rsA hfi rfl (by decide) V16
 have N16 := Fr.snoc X16 N15 g_b1
 refine Go.step (S' := T16.setTop (mkF m 77 #[iv fi] [(.int fi), (.int 15), (.ref b1), (.ref b1)])) (fun t k => ?_) ?_
 · refine XS.dup X16.here hx rfl (hb hby d6_73) rfl rfl ?_
   refine XS.bipush X16.here hx rfl (hb hby d6_74) ?_
   refine XS.iloadN X16.here hx rfl (hb hby d6_76) rfl ?_
   exact k
 refine Go.cst X16 hx hZ e16 V_b1 (hb hby d6_77) ⟨by decide, by decide⟩ (by rw [own_cl_len]; decide) (fun T17 h17 X17 e17 W17 V17 => ?_)
 have O := O.wr W17 g_b1
 have K := K.wr W17 (Or.inr sz_b1)
 have E_b1 := E_b1.wr W17
 have V_b1 : Arv Z h17 b1 k1 .char (81 : Int32) (own_cl (fun _ => fi) 16) (.int 0) := own_rsA hfi rfl (by decide) V17
 have N17 := Fr.snoc X17 N16 g_b1
 refine Go.step (S' := T17.setTop (mkF m 82 #[iv fi] [(.int fi), (.int 16), (.ref b1), (.ref b1)])) (fun t k => ?_) ?_
 · refine XS.dup X17.here hx rfl (hb hby d6_78) rfl rfl ?_
   refine XS.bipush X17.here hx rfl (hb hby d6_79) ?_
   refine XS.iloadN X17.here hx rfl (hb hby d6_81) rfl ?_
   exact k
 refine Go.cst X17 hx hZ e17 V_b1 (hb hby d6_82) ⟨by decide, by decide⟩ (by rw [own_cl_len]; decide) (fun T18 h18 X18 e18 W18 V18 => ?_)
 have O := O.wr W18 g_b1
 have K := K.wr W18 (Or.inr sz_b1)
 have E_b1 := E_b1.wr W18
 have V_b1 : Arv Z h18 b1 k1 .char (81 : Int32) (own_cl (fun _ => fi) 17) (.int 0) := own_rsA hfi rfl (by decide) V18
 have N18 := Fr.snoc X18 N17 g_b1
 refine Go.step (S' := T18.setTop (mkF m 87 #[iv fi] [(.int fi), (.int 17), (.ref b1), (.ref b1)])) (fun t k => ?_) ?_
 · refine XS.dup X18.here hx rfl (hb hby d6_83) rfl rfl ?_
   refine XS.bipush X18.here hx rfl (hb hby d6_84) ?_
   refine XS.iloadN X18.here hx rfl (hb hby d6_86) rfl ?_
   exact k
 refine Go.cst X18 hx hZ e18 V_b1 (hb hby d6_87) ⟨by decide, by decide⟩ (by rw [own_cl_len]; decide) (fun T19 h19 X19 e19 W19 V19 => ?_)
 have O := O.wr W19 g_b1
 have K := K.wr W19 (Or.inr sz_b1)
 have E_b1 := E_b1.wr W19
 have V_b1 : Arv Z h19 b1 k1 .char (81 : Int32) (own_cl (fun _ => fi) 18) (.int 0) := own_rsA hfi rfl (by decide) V19
 have N19 := Fr.snoc X19 N18 g_b1
 refine Go.step (S' := T19.setTop (mkF m 92 #[iv fi] [(.int fi), (.int 18), (.ref b1), (.ref b1)])) (fun t k => ?_) ?_
 · refine XS.dup X19.here hx rfl (hb hby d6_88) rfl rfl ?_
   refine XS.bipush X19.here hx rfl (hb hby d6_89) ?_
   refine XS.iloadN X19.here hx rfl (hb hby d6_91) rfl ?_
   exact k
 refine Go.cst X19 hx hZ e19 V_b1 (hb hby d6_92) ⟨by decide, by decide⟩ (by rw [own_cl_len]; decide) (fun T20 h20 X20 e20 W20 V20 => ?_)
 have O := O.wr W20 g_b1
 have K := K.wr W20 (Or.inr sz_b1)
 have E_b1 := E_b1.wr W20
 have V_b1 : Arv Z h20 b1 k1 .char (81 : Int32) (own_cl (fun _ => fi) 19) (.int 0) := own_rsA hfi rfl (by decide) V20
 have N20 := Fr.snoc X20 N19 g_b1
 refine Go.step (S' := T20.setTop (mkF m 97 #[iv fi] [(.int fi), (.int 19), (.ref b1), (.ref b1)])) (fun t k => ?_) ?_
 · refine XS.dup X20.here hx rfl (hb hby d6_93) rfl rfl ?_
   refine XS.bipush X20.here hx rfl (hb hby d6_94) ?_
   refine XS.iloadN X20.here hx rfl (hb hby d6_96) rfl ?_
   exact k
 refine Go.cst X20 hx hZ e20 V_b1 (hb hby d6_97) ⟨by decide, by decide⟩ (by rw [own_cl_len]; decide) (fun T21 h21 X21 e21 W21 V21 => ?_)
 have O := O.wr W21 g_b1
 have K := K.wr W21 (Or.inr sz_b1)
 have E_b1 := E_b1.wr W21
 have V_b1 : Arv Z h21 b1 k1 .char (81 : Int32) (own_cl (fun _ => fi) 20) (.int 0) := own_rsA hfi rfl (by decide) V21
 have N21 := Fr.snoc X21 N20 g_b1
 refine Go.step (S' := T21.setTop (mkF m 102 #[iv fi] [(.int fi), (.int 20), (.ref b1), (.ref b1)])) (fun t k => ?_) ?_
 · refine XS.dup X21.here hx rfl (hb hby d6_98) rfl rfl ?_
   refine XS.bipush X21.here hx rfl (hb hby d6_99) ?_
   refine XS.iloadN X21.here hx rfl (hb hby d6_101) rfl ?_
   exact k
 refine Go.cst X21 hx hZ e21 V_b1 (hb hby d6_102) ⟨by decide, by decide⟩ (by rw [own_cl_len]; decide) (fun T22 h22 X22 e22 W22 V22 => ?_)
 have O := O.wr W22 g_b1
 have K := K.wr W22 (Or.inr sz_b1)
 have E_b1 := E_b1.wr W22
 have V_b1 : Arv Z h22 b1 k1 .char (81 : Int32) (own_cl (fun _ => fi) 21) (.int 0) := own_rsA hfi rfl (by decide) V22
 have N22 := Fr.snoc X22 N21 g_b1
 refine Go.step (S' := T22.setTop (mkF m 107 #[iv fi] [(.int fi), (.int 21), (.ref b1), (.ref b1)])) (fun t k => ?_) ?_
 · refine XS.dup X22.here hx rfl (hb hby d6_103) rfl rfl ?_
   refine XS.bipush X22.here hx rfl (hb hby d6_104) ?_
   refine XS.iloadN X22.here hx rfl (hb hby d6_106) rfl ?_
   exact k
 refine Go.cst X22 hx hZ e22 V_b1 (hb hby d6_107) ⟨by decide, by decide⟩ (by rw [own_cl_len]; decide) (fun T23 h23 X23 e23 W23 V23 => ?_)
 have O := O.wr W23 g_b1
 have K := K.wr W23 (Or.inr sz_b1)
 have E_b1 := E_b1.wr W23
 have V_b1 : Arv Z h23 b1 k1 .char (81 : Int32) (own_cl (fun _ => fi) 22) (.int 0) := own_rsA hfi rfl (by decide) V23
 have N23 := Fr.snoc X23 N22 g_b1
 refine Go.step (S' := T23.setTop (mkF m 112 #[iv fi] [(.int fi), (.int 22), (.ref b1), (.ref b1)])) (fun t k => ?_) ?_
 · refine XS.dup X23.here hx rfl (hb hby d6_108) rfl rfl ?_
   refine XS.bipush X23.here hx rfl (hb hby d6_109) ?_
   refine XS.iloadN X23.here hx rfl (hb hby d6_111) rfl ?_
   exact k
 refine Go.cst X23 hx hZ e23 V_b1 (hb hby d6_112) ⟨by decide, by decide⟩ (by rw [own_cl_len]; decide) (fun T24 h24 X24 e24 W24 V24 => ?_)
 have O := O.wr W24 g_b1
 have K := K.wr W24 (Or.inr sz_b1)
 have E_b1 := E_b1.wr W24
 have V_b1 : Arv Z h24 b1 k1 .char (81 : Int32) (own_cl (fun _ => fi) 23) (.int 0) := own_rsA hfi rfl (by decide) V24
 have N24 := Fr.snoc X24 N23 g_b1
 refine Go.step (S' := T24.setTop (mkF m 117 #[iv fi] [(.int fi), (.int 23), (.ref b1), (.ref b1)])) (fun t k => ?_) ?_
 · refine XS.dup X24.here hx rfl (hb hby d6_113) rfl rfl ?_
   refine XS.bipush X24.here hx rfl (hb hby d6_114) ?_
   refine XS.iloadN X24.here hx rfl (hb hby d6_116) rfl ?_
   exact k
 refine Go.cst X24 hx hZ e24 V_b1 (hb hby d6_117) ⟨by decide, by decide⟩ (by rw [own_cl_len]; decide) (fun T25 h25 X25 e25 W25 V25 => ?_)
 have O := O.wr W25 g_b1
 have K := K.wr W25 (Or.inr sz_b1)
 have E_b1 := E_b1.wr W25
 have V_b1 : Arv Z h25 b1 k1 .char (81 : Int32) (own_cl (fun _ => fi) 24) (.int 0) := own_rsA hfi rfl (by decide) V25
 have N25 := Fr.snoc X25 N24 g_b1
 refine Go.step (S' := T25.setTop (mkF m 122 #[iv fi] [(.int fi), (.int 24), (.ref b1), (.ref b1)])) (fun t k => ?_) ?_
 · refine XS.dup X25.here hx rfl (hb hby d6_118) rfl rfl ?_
   refine XS.bipush X25.here hx rfl (hb hby d6_119) ?_
   refine XS.iloadN X25.here hx rfl (hb hby d6_121) rfl ?_
   exact k
 refine Go.cst X25 hx hZ e25 V_b1 (hb hby d6_122) ⟨by decide, by decide⟩ (by rw [own_cl_len]; decide) (fun T26 h26 X26 e26 W26 V26 => ?_)
 have O := O.wr W26 g_b1
 have K := K.wr W26 (Or.inr sz_b1)
 have E_b1 := E_b1.wr W26
 have V_b1 : Arv Z h26 b1 k1 .char (81 : Int32) (own_cl (fun _ => fi) 25) (.int 0) := own_rsA hfi rfl (by decide) V26
 have N26 := Fr.snoc X26 N25 g_b1
 refine Go.step (S' := T26.setTop (mkF m 127 #[iv fi] [(.int fi), (.int 25), (.ref b1), (.ref b1)])) (fun t k => ?_) ?_
 · refine XS.dup X26.here hx rfl (hb hby d6_123) rfl rfl ?_
   refine XS.bipush X26.here hx rfl (hb hby d6_124) ?_
   refine XS.iloadN X26.here hx rfl (hb hby d6_126) rfl ?_
   exact k
 refine Go.cst X26 hx hZ e26 V_b1 (hb hby d6_127) ⟨by decide, by decide⟩ (by rw [own_cl_len]; decide) (fun T27 h27 X27 e27 W27 V27 => ?_)
 have O := O.wr W27 g_b1
 have K := K.wr W27 (Or.inr sz_b1)
 have E_b1 := E_b1.wr W27
 have V_b1 : Arv Z h27 b1 k1 .char (81 : Int32) (own_cl (fun _ => fi) 26) (.int 0) := own_rsA hfi rfl (by decide) V27
 have N27 := Fr.snoc X27 N26 g_b1
 refine Go.step (S' := T27.setTop (mkF m 132 #[iv fi] [(.int fi), (.int 26), (.ref b1), (.ref b1)])) (fun t k => ?_) ?_
 · refine XS.dup X27.here hx rfl (hb hby d6_128) rfl rfl ?_
   refine XS.bipush X27.here hx rfl (hb hby d6_129) ?_
   refine XS.iloadN X27.here hx rfl (hb hby d6_131) rfl ?_
   exact k
 refine Go.cst X27 hx hZ e27 V_b1 (hb hby d6_132) ⟨by decide, by decide⟩ (by rw [own_cl_len]; decide) (fun T28 h28 X28 e28 W28 V28 => ?_)
 have O := O.wr W28 g_b1
 have K := K.wr W28 (Or.inr sz_b1)
 have E_b1 := E_b1.wr W28
 have V_b1 : Arv Z h28 b1 k1 .char (81 : Int32) (own_cl (fun _ => fi) 27) (.int 0) := own_rsA hfi rfl (by decide) V28
 have N28 := Fr.snoc X28 N27 g_b1
 refine Go.step (S' := T28.setTop (mkF m 137 #[iv fi] [(.int fi), (.int 27), (.ref b1), (.ref b1)])) (fun t k => ?_) ?_
 · refine XS.dup X28.here hx rfl (hb hby d6_133) rfl rfl ?_
   refine XS.bipush X28.here hx rfl (hb hby d6_134) ?_
   refine XS.iloadN X28.here hx rfl (hb hby d6_136) rfl ?_
   exact k
 refine Go.cst X28 hx hZ e28 V_b1 (hb hby d6_137) ⟨by decide, by decide⟩ (by rw [own_cl_len]; decide) (fun T29 h29 X29 e29 W29 V29 => ?_)
 have O := O.wr W29 g_b1
 have K := K.wr W29 (Or.inr sz_b1)
 have E_b1 := E_b1.wr W29
 have V_b1 : Arv Z h29 b1 k1 .char (81 : Int32) (own_cl (fun _ => fi) 28) (.int 0) := own_rsA hfi rfl (by decide) V29
 have N29 := Fr.snoc X29 N28 g_b1
 refine Go.step (S' := T29.setTop (mkF m 142 #[iv fi] [(.int fi), (.int 28), (.ref b1), (.ref b1)])) (fun t k => ?_) ?_
 · refine XS.dup X29.here hx rfl (hb hby d6_138) rfl rfl ?_
   refine XS.bipush X29.here hx rfl (hb hby d6_139) ?_
   refine XS.iloadN X29.here hx rfl (hb hby d6_141) rfl ?_
   exact k
 refine Go.cst X29 hx hZ e29 V_b1 (hb hby d6_142) ⟨by decide, by decide⟩ (by rw [own_cl_len]; decide) (fun T30 h30 X30 e30 W30 V30 => ?_)
 have O := O.wr W30 g_b1
 have K := K.wr W30 (Or.inr sz_b1)
 have E_b1 := E_b1.wr W30
 have V_b1 : Arv Z h30 b1 k1 .char (81 : Int32) (own_cl (fun _ => fi) 29) (.int 0) := own_rsA hfi rfl (by decide) V30
 have N30 := Fr.snoc X30 N29 g_b1
 refine Go.step (S' := T30.setTop (mkF m 147 #[iv fi] [(.int fi), (.int 29), (.ref b1), (.ref b1)])) (fun t k => ?_) ?_
 · refine XS.dup X30.here hx rfl (hb hby d6_143) rfl rfl ?_
   refine XS.bipush X30.here hx rfl (hb hby d6_144) ?_
   refine XS.iloadN X30.here hx rfl (hb hby d6_146) rfl ?_
   exact k
 refine Go.cst X30 hx hZ e30 V_b1 (hb hby d6_147) ⟨by decide, by decide⟩ (by rw [own_cl_len]; decide) (fun T31 h31 X31 e31 W31 V31 => ?_)
 have O := O.wr W31 g_b1
 have K := K.wr W31 (Or.inr sz_b1)
 have E_b1 := E_b1.wr W31
 have V_b1 : Arv Z h31 b1 k1 .char (81 : Int32) (own_cl (fun _ => fi) 30) (.int 0) := own_rsA hfi rfl (by decide) V31
 have N31 := Fr.snoc X31 N30 g_b1
 refine Go.step (S' := T31.setTop (mkF m 152 #[iv fi] [(.int fi), (.int 30), (.ref b1), (.ref b1)])) (fun t k => ?_) ?_
 · refine XS.dup X31.here hx rfl (hb hby d6_148) rfl rfl ?_
   refine XS.bipush X31.here hx rfl (hb hby d6_149) ?_
   refine XS.iloadN X31.here hx rfl (hb hby d6_151) rfl ?_
   exact k
 refine Go.cst X31 hx hZ e31 V_b1 (hb hby d6_152) ⟨by decide, by decide⟩ (by rw [own_cl_len]; decide) (fun T32 h32 X32 e32 W32 V32 => ?_)
 have O := O.wr W32 g_b1
 have K := K.wr W32 (Or.inr sz_b1)
 have E_b1 := E_b1.wr W32
 have V_b1 : Arv Z h32 b1 k1 .char (81 : Int32) (own_cl (fun _ => fi) 31) (.int 0) := own_rsA hfi rfl (by decide) V32
 have N32 := Fr.snoc X32 N31 g_b1
 refine Go.step (S' := T32.setTop (mkF m 157 #[iv fi] [(.int fi), (.int 31), (.ref b1), (.ref b1)])) (fun t k => ?_) ?_
 · refine XS.dup X32.here hx rfl (hb hby d6_153) rfl rfl ?_
   refine XS.bipush X32.here hx rfl (hb hby d6_154) ?_
   refine XS.iloadN X32.here hx rfl (hb hby d6_156) rfl ?_
   exact k
 refine Go.cst X32 hx hZ e32 V_b1 (hb hby d6_157) ⟨by decide, by decide⟩ (by rw [own_cl_len]; decide) (fun T33 h33 X33 e33 W33 V33 => ?_)
 have O := O.wr W33 g_b1
 have K := K.wr W33 (Or.inr sz_b1)
 have E_b1 := E_b1.wr W33
 have V_b1 : Arv Z h33 b1 k1 .char (81 : Int32) (own_cl (fun _ => fi) 32) (.int 0) := own_rsA hfi rfl (by decide) V33
 have N33 := Fr.snoc X33 N32 g_b1
 refine Go.step (S' := T33.setTop (mkF m 162 #[iv fi] [(.int fi), (.int 32), (.ref b1), (.ref b1)])) (fun t k => ?_) ?_
 · refine XS.dup X33.here hx rfl (hb hby d6_158) rfl rfl ?_
   refine XS.bipush X33.here hx rfl (hb hby d6_159) ?_
   refine XS.iloadN X33.here hx rfl (hb hby d6_161) rfl ?_
   exact k
 refine Go.cst X33 hx hZ e33 V_b1 (hb hby d6_162) ⟨by decide, by decide⟩ (by rw [own_cl_len]; decide) (fun T34 h34 X34 e34 W34 V34 => ?_)
 have O := O.wr W34 g_b1
 have K := K.wr W34 (Or.inr sz_b1)
 have E_b1 := E_b1.wr W34
 have V_b1 : Arv Z h34 b1 k1 .char (81 : Int32) (own_cl (fun _ => fi) 33) (.int 0) := own_rsA hfi rfl (by decide) V34
 have N34 := Fr.snoc X34 N33 g_b1
 refine Go.step (S' := T34.setTop (mkF m 167 #[iv fi] [(.int fi), (.int 33), (.ref b1), (.ref b1)])) (fun t k => ?_) ?_
 · refine XS.dup X34.here hx rfl (hb hby d6_163) rfl rfl ?_
   refine XS.bipush X34.here hx rfl (hb hby d6_164) ?_
   refine XS.iloadN X34.here hx rfl (hb hby d6_166) rfl ?_
   exact k
 refine Go.cst X34 hx hZ e34 V_b1 (hb hby d6_167) ⟨by decide, by decide⟩ (by rw [own_cl_len]; decide) (fun T35 h35 X35 e35 W35 V35 => ?_)
 have O := O.wr W35 g_b1
 have K := K.wr W35 (Or.inr sz_b1)
 have E_b1 := E_b1.wr W35
 have V_b1 : Arv Z h35 b1 k1 .char (81 : Int32) (own_cl (fun _ => fi) 34) (.int 0) := own_rsA hfi rfl (by decide) V35
 have N35 := Fr.snoc X35 N34 g_b1
 refine Go.step (S' := T35.setTop (mkF m 172 #[iv fi] [(.int fi), (.int 34), (.ref b1), (.ref b1)])) (fun t k => ?_) ?_
 · refine XS.dup X35.here hx rfl (hb hby d6_168) rfl rfl ?_
   refine XS.bipush X35.here hx rfl (hb hby d6_169) ?_
   refine XS.iloadN X35.here hx rfl (hb hby d6_171) rfl ?_
   exact k
 refine Go.cst X35 hx hZ e35 V_b1 (hb hby d6_172) ⟨by decide, by decide⟩ (by rw [own_cl_len]; decide) (fun T36 h36 X36 e36 W36 V36 => ?_)
 have O := O.wr W36 g_b1
 have K := K.wr W36 (Or.inr sz_b1)
 have E_b1 := E_b1.wr W36
 have V_b1 : Arv Z h36 b1 k1 .char (81 : Int32) (own_cl (fun _ => fi) 35) (.int 0) := own_rsA hfi rfl (by decide) V36
 have N36 := Fr.snoc X36 N35 g_b1
 refine Go.step (S' := T36.setTop (mkF m 177 #[iv fi] [(.int fi), (.int 35), (.ref b1), (.ref b1)])) (fun t k => ?_) ?_
 · refine XS.dup X36.here hx rfl (hb hby d6_173) rfl rfl ?_
   refine XS.bipush X36.here hx rfl (hb hby d6_174) ?_
   refine XS.iloadN X36.here hx rfl (hb hby d6_176) rfl ?_
   exact k
 refine Go.cst X36 hx hZ e36 V_b1 (hb hby d6_177) ⟨by decide, by decide⟩ (by rw [own_cl_len]; decide) (fun T37 h37 X37 e37 W37 V37 => ?_)
 have O := O.wr W37 g_b1
 have K := K.wr W37 (Or.inr sz_b1)
 have E_b1 := E_b1.wr W37
 have V_b1 : Arv Z h37 b1 k1 .char (81 : Int32) (own_cl (fun _ => fi) 36) (.int 0) := own_rsA hfi rfl (by decide) V37
 have N37 := Fr.snoc X37 N36 g_b1
 refine Go.step (S' := T37.setTop (mkF m 182 #[iv fi] [(.int fi), (.int 36), (.ref b1), (.ref b1)])) (fun t k => ?_) ?_
 · refine XS.dup X37.here hx rfl (hb hby d6_178) rfl rfl ?_
   refine XS.bipush X37.here hx rfl (hb hby d6_179) ?_
   refine XS.iloadN X37.here hx rfl (hb hby d6_181) rfl ?_
   exact k
 refine Go.cst X37 hx hZ e37 V_b1 (hb hby d6_182) ⟨by decide, by decide⟩ (by rw [own_cl_len]; decide) (fun T38 h38 X38 e38 W38 V38 => ?_)
 have O := O.wr W38 g_b1
 have K := K.wr W38 (Or.inr sz_b1)
 have E_b1 := E_b1.wr W38
 have V_b1 : Arv Z h38 b1 k1 .char (81 : Int32) (own_cl (fun _ => fi) 37) (.int 0) := own_rsA hfi rfl (by decide) V38
 have N38 := Fr.snoc X38 N37 g_b1
 refine Go.step (S' := T38.setTop (mkF m 187 #[iv fi] [(.int fi), (.int 37), (.ref b1), (.ref b1)])) (fun t k => ?_) ?_
 · refine XS.dup X38.here hx rfl (hb hby d6_183) rfl rfl ?_
   refine XS.bipush X38.here hx rfl (hb hby d6_184) ?_
   refine XS.iloadN X38.here hx rfl (hb hby d6_186) rfl ?_
   exact k
 refine Go.cst X38 hx hZ e38 V_b1 (hb hby d6_187) ⟨by decide, by decide⟩ (by rw [own_cl_len]; decide) (fun T39 h39 X39 e39 W39 V39 => ?_)
 have O := O.wr W39 g_b1
 have K := K.wr W39 (Or.inr sz_b1)
 have E_b1 := E_b1.wr W39
 have V_b1 : Arv Z h39 b1 k1 .char (81 : Int32) (own_cl (fun _ => fi) 38) (.int 0) := own_rsA hfi rfl (by decide) V39
 have N39 := Fr.snoc X39 N38 g_b1
 refine Go.step (S' := T39.setTop (mkF m 192 #[iv fi] [(.int fi), (.int 38), (.ref b1), (.ref b1)])) (fun t k => ?_) ?_
 · refine XS.dup X39.here hx rfl (hb hby d6_188) rfl rfl ?_
   refine XS.bipush X39.here hx rfl (hb hby d6_189) ?_
   refine XS.iloadN X39.here hx rfl (hb hby d6_191) rfl ?_
   exact k
 refine Go.cst X39 hx hZ e39 V_b1 (hb hby d6_192) ⟨by decide, by decide⟩ (by rw [own_cl_len]; decide) (fun T40 h40 X40 e40 W40 V40 => ?_)
 have O := O.wr W40 g_b1
 have K := K.wr W40 (Or.inr sz_b1)
 have E_b1 := E_b1.wr W40
 have V_b1 : Arv Z h40 b1 k1 .char (81 : Int32) (own_cl (fun _ => fi) 39) (.int 0) := own_rsA hfi rfl (by decide) V40
 have N40 := Fr.snoc X40 N39 g_b1
 refine Go.step (S' := T40.setTop (mkF m 197 #[iv fi] [(.int fi), (.int 39), (.ref b1), (.ref b1)])) (fun t k => ?_) ?_
 · refine XS.dup X40.here hx rfl (hb hby d6_193) rfl rfl ?_
   refine XS.bipush X40.here hx rfl (hb hby d6_194) ?_
   refine XS.iloadN X40.here hx rfl (hb hby d6_196) rfl ?_
   exact k
 refine Go.cst X40 hx hZ e40 V_b1 (hb hby d6_197) ⟨by decide, by decide⟩ (by rw [own_cl_len]; decide) (fun T41 h41 X41 e41 W41 V41 => ?_)
 have O := O.wr W41 g_b1
 have K := K.wr W41 (Or.inr sz_b1)
 have E_b1 := E_b1.wr W41
 have V_b1 : Arv Z h41 b1 k1 .char (81 : Int32) (own_cl (fun _ => fi) 40) (.int 0) := own_rsA hfi rfl (by decide) V41
 have N41 := Fr.snoc X41 N40 g_b1
 refine Go.step (S' := T41.setTop (mkF m 202 #[iv fi] [(.int fi), (.int 40), (.ref b1), (.ref b1)])) (fun t k => ?_) ?_
 · refine XS.dup X41.here hx rfl (hb hby d6_198) rfl rfl ?_
   refine XS.bipush X41.here hx rfl (hb hby d6_199) ?_
   refine XS.iloadN X41.here hx rfl (hb hby d6_201) rfl ?_
   exact k
 refine Go.cst X41 hx hZ e41 V_b1 (hb hby d6_202) ⟨by decide, by decide⟩ (by rw [own_cl_len]; decide) (fun T42 h42 X42 e42 W42 V42 => ?_)
 have O := O.wr W42 g_b1
 have K := K.wr W42 (Or.inr sz_b1)
 have E_b1 := E_b1.wr W42
 have V_b1 : Arv Z h42 b1 k1 .char (81 : Int32) (own_cl (fun _ => fi) 41) (.int 0) := own_rsA hfi rfl (by decide) V42
 have N42 := Fr.snoc X42 N41 g_b1
 refine Go.step (S' := T42.setTop (mkF m 207 #[iv fi] [(.int fi), (.int 41), (.ref b1), (.ref b1)])) (fun t k => ?_) ?_
 · refine XS.dup X42.here hx rfl (hb hby d6_203) rfl rfl ?_
   refine XS.bipush X42.here hx rfl (hb hby d6_204) ?_
   refine XS.iloadN X42.here hx rfl (hb hby d6_206) rfl ?_
   exact k
 refine Go.cst X42 hx hZ e42 V_b1 (hb hby d6_207) ⟨by decide, by decide⟩ (by rw [own_cl_len]; decide) (fun T43 h43 X43 e43 W43 V43 => ?_)
 have O := O.wr W43 g_b1
 have K := K.wr W43 (Or.inr sz_b1)
 have E_b1 := E_b1.wr W43
 have V_b1 : Arv Z h43 b1 k1 .char (81 : Int32) (own_cl (fun _ => fi) 42) (.int 0) := own_rsA hfi rfl (by decide) V43
 have N43 := Fr.snoc X43 N42 g_b1
 refine Go.step (S' := T43.setTop (mkF m 212 #[iv fi] [(.int fi), (.int 42), (.ref b1), (.ref b1)])) (fun t k => ?_) ?_
 · refine XS.dup X43.here hx rfl (hb hby d6_208) rfl rfl ?_
   refine XS.bipush X43.here hx rfl (hb hby d6_209) ?_
   refine XS.iloadN X43.here hx rfl (hb hby d6_211) rfl ?_
   exact k
 refine Go.cst X43 hx hZ e43 V_b1 (hb hby d6_212) ⟨by decide, by decide⟩ (by rw [own_cl_len]; decide) (fun T44 h44 X44 e44 W44 V44 => ?_)
 have O := O.wr W44 g_b1
 have K := K.wr W44 (Or.inr sz_b1)
 have E_b1 := E_b1.wr W44
 have V_b1 : Arv Z h44 b1 k1 .char (81 : Int32) (own_cl (fun _ => fi) 43) (.int 0) := own_rsA hfi rfl (by decide) V44
 have N44 := Fr.snoc X44 N43 g_b1
 refine Go.step (S' := T44.setTop (mkF m 217 #[iv fi] [(.int fi), (.int 43), (.ref b1), (.ref b1)])) (fun t k => ?_) ?_
 · refine XS.dup X44.here hx rfl (hb hby d6_213) rfl rfl ?_
   refine XS.bipush X44.here hx rfl (hb hby d6_214) ?_
   refine XS.iloadN X44.here hx rfl (hb hby d6_216) rfl ?_
   exact k
 refine Go.cst X44 hx hZ e44 V_b1 (hb hby d6_217) ⟨by decide, by decide⟩ (by rw [own_cl_len]; decide) (fun T45 h45 X45 e45 W45 V45 => ?_)
 have O := O.wr W45 g_b1
 have K := K.wr W45 (Or.inr sz_b1)
 have E_b1 := E_b1.wr W45
 have V_b1 : Arv Z h45 b1 k1 .char (81 : Int32) (own_cl (fun _ => fi) 44) (.int 0) := own_rsA hfi rfl (by decide) V45
 have N45 := Fr.snoc X45 N44 g_b1
 refine Go.step (S' := T45.setTop (mkF m 222 #[iv fi] [(.int fi), (.int 44), (.ref b1), (.ref b1)])) (fun t k => ?_) ?_
 · refine XS.dup X45.here hx rfl (hb hby d6_218) rfl rfl ?_
   refine XS.bipush X45.here hx rfl (hb hby d6_219) ?_
   refine XS.iloadN X45.here hx rfl (hb hby d6_221) rfl ?_
   exact k
 refine Go.cst X45 hx hZ e45 V_b1 (hb hby d6_222) ⟨by decide, by decide⟩ (by rw [own_cl_len]; decide) (fun T46 h46 X46 e46 W46 V46 => ?_)
 have O := O.wr W46 g_b1
 have K := K.wr W46 (Or.inr sz_b1)
 have E_b1 := E_b1.wr W46
 have V_b1 : Arv Z h46 b1 k1 .char (81 : Int32) (own_cl (fun _ => fi) 45) (.int 0) := own_rsA hfi rfl (by decide) V46
 have N46 := Fr.snoc X46 N45 g_b1
 refine Go.step (S' := T46.setTop (mkF m 227 #[iv fi] [(.int fi), (.int 45), (.ref b1), (.ref b1)])) (fun t k => ?_) ?_
 · refine XS.dup X46.here hx rfl (hb hby d6_223) rfl rfl ?_
   refine XS.bipush X46.here hx rfl (hb hby d6_224) ?_
   refine XS.iloadN X46.here hx rfl (hb hby d6_226) rfl ?_
   exact k
 refine Go.cst X46 hx hZ e46 V_b1 (hb hby d6_227) ⟨by decide, by decide⟩ (by rw [own_cl_len]; decide) (fun T47 h47 X47 e47 W47 V47 => ?_)
 have O := O.wr W47 g_b1
 have K := K.wr W47 (Or.inr sz_b1)
 have E_b1 := E_b1.wr W47
 have V_b1 : Arv Z h47 b1 k1 .char (81 : Int32) (own_cl (fun _ => fi) 46) (.int 0) := own_rsA hfi rfl (by decide) V47
 have N47 := Fr.snoc X47 N46 g_b1
 refine Go.step (S' := T47.setTop (mkF m 232 #[iv fi] [(.int fi), (.int 46), (.ref b1), (.ref b1)])) (fun t k => ?_) ?_
 · refine XS.dup X47.here hx rfl (hb hby d6_228) rfl rfl ?_
   refine XS.bipush X47.here hx rfl (hb hby d6_229) ?_
   refine XS.iloadN X47.here hx rfl (hb hby d6_231) rfl ?_
   exact k
 refine Go.cst X47 hx hZ e47 V_b1 (hb hby d6_232) ⟨by decide, by decide⟩ (by rw [own_cl_len]; decide) (fun T48 h48 X48 e48 W48 V48 => ?_)
 have O := O.wr W48 g_b1
 have K := K.wr W48 (Or.inr sz_b1)
 have E_b1 := E_b1.wr W48
 have V_b1 : Arv Z h48 b1 k1 .char (81 : Int32) (own_cl (fun _ => fi) 47) (.int 0) := own_rsA hfi rfl (by decide) V48
 have N48 := Fr.snoc X48 N47 g_b1
 refine Go.step (S' := T48.setTop (mkF m 237 #[iv fi] [(.int fi), (.int 47), (.ref b1), (.ref b1)])) (fun t k => ?_) ?_
 · refine XS.dup X48.here hx rfl (hb hby d6_233) rfl rfl ?_
   refine XS.bipush X48.here hx rfl (hb hby d6_234) ?_
   refine XS.iloadN X48.here hx rfl (hb hby d6_236) rfl ?_
   exact k
 refine Go.cst X48 hx hZ e48 V_b1 (hb hby d6_237) ⟨by decide, by decide⟩ (by rw [own_cl_len]; decide) (fun T49 h49 X49 e49 W49 V49 => ?_)
 have O := O.wr W49 g_b1
 have K := K.wr W49 (Or.inr sz_b1)
 have E_b1 := E_b1.wr W49
 have V_b1 : Arv Z h49 b1 k1 .char (81 : Int32) (own_cl (fun _ => fi) 48) (.int 0) := own_rsA hfi rfl (by decide) V49
 have N49 := Fr.snoc X49 N48 g_b1
 refine Go.step (S' := T49.setTop (mkF m 242 #[iv fi] [(.int fi), (.int 48), (.ref b1), (.ref b1)])) (fun t k => ?_) ?_
 · refine XS.dup X49.here hx rfl (hb hby d6_238) rfl rfl ?_
   refine XS.bipush X49.here hx rfl (hb hby d6_239) ?_
   refine XS.iloadN X49.here hx rfl (hb hby d6_241) rfl ?_
   exact k
 refine Go.cst X49 hx hZ e49 V_b1 (hb hby d6_242) ⟨by decide, by decide⟩ (by rw [own_cl_len]; decide) (fun T50 h50 X50 e50 W50 V50 => ?_)
 have O := O.wr W50 g_b1
 have K := K.wr W50 (Or.inr sz_b1)
 have E_b1 := E_b1.wr W50
 have V_b1 : Arv Z h50 b1 k1 .char (81 : Int32) (own_cl (fun _ => fi) 49) (.int 0) := own_rsA hfi rfl (by decide) V50
 have N50 := Fr.snoc X50 N49 g_b1
 refine Go.step (S' := T50.setTop (mkF m 247 #[iv fi] [(.int fi), (.int 49), (.ref b1), (.ref b1)])) (fun t k => ?_) ?_
 · refine XS.dup X50.here hx rfl (hb hby d6_243) rfl rfl ?_
   refine XS.bipush X50.here hx rfl (hb hby d6_244) ?_
   refine XS.iloadN X50.here hx rfl (hb hby d6_246) rfl ?_
   exact k
 refine Go.cst X50 hx hZ e50 V_b1 (hb hby d6_247) ⟨by decide, by decide⟩ (by rw [own_cl_len]; decide) (fun T51 h51 X51 e51 W51 V51 => ?_)
 have O := O.wr W51 g_b1
 have K := K.wr W51 (Or.inr sz_b1)
 have E_b1 := E_b1.wr W51
 have V_b1 : Arv Z h51 b1 k1 .char (81 : Int32) (own_cl (fun _ => fi) 50) (.int 0) := own_rsA hfi rfl (by decide) V51
 have N51 := Fr.snoc X51 N50 g_b1
 refine Go.step (S' := T51.setTop (mkF m 252 #[iv fi] [(.int fi), (.int 50), (.ref b1), (.ref b1)])) (fun t k => ?_) ?_
 · refine XS.dup X51.here hx rfl (hb hby d6_248) rfl rfl ?_
   refine XS.bipush X51.here hx rfl (hb hby d6_249) ?_
   refine XS.iloadN X51.here hx rfl (hb hby d6_251) rfl ?_
   exact k
 refine Go.cst X51 hx hZ e51 V_b1 (hb hby d6_252) ⟨by decide, by decide⟩ (by rw [own_cl_len]; decide) (fun T52 h52 X52 e52 W52 V52 => ?_)
 have O := O.wr W52 g_b1
 have K := K.wr W52 (Or.inr sz_b1)
 have E_b1 := E_b1.wr W52
 have V_b1 : Arv Z h52 b1 k1 .char (81 : Int32) (own_cl (fun _ => fi) 51) (.int 0) := own_rsA hfi rfl (by decide) V52
 have N52 := Fr.snoc X52 N51 g_b1
 refine Go.step (S' := T52.setTop (mkF m 257 #[iv fi] [(.int fi), (.int 51), (.ref b1), (.ref b1)])) (fun t k => ?_) ?_
 · refine XS.dup X52.here hx rfl (hb hby d6_253) rfl rfl ?_
   refine XS.bipush X52.here hx rfl (hb hby d6_254) ?_
   refine XS.iloadN X52.here hx rfl (hb hby d6_256) rfl ?_
   exact k
 refine Go.cst X52 hx hZ e52 V_b1 (hb hby d6_257) ⟨by decide, by decide⟩ (by rw [own_cl_len]; decide) (fun T53 h53 X53 e53 W53 V53 => ?_)
 have O := O.wr W53 g_b1
 have K := K.wr W53 (Or.inr sz_b1)
 have E_b1 := E_b1.wr W53
 have V_b1 : Arv Z h53 b1 k1 .char (81 : Int32) (own_cl (fun _ => fi) 52) (.int 0) := own_rsA hfi rfl (by decide) V53
 have N53 := Fr.snoc X53 N52 g_b1
 refine Go.step (S' := T53.setTop (mkF m 262 #[iv fi] [(.int fi), (.int 52), (.ref b1), (.ref b1)])) (fun t k => ?_) ?_
 · refine XS.dup X53.here hx rfl (hb hby d6_258) rfl rfl ?_
   refine XS.bipush X53.here hx rfl (hb hby d6_259) ?_
   refine XS.iloadN X53.here hx rfl (hb hby d6_261) rfl ?_
   exact k
 refine Go.cst X53 hx hZ e53 V_b1 (hb hby d6_262) ⟨by decide, by decide⟩ (by rw [own_cl_len]; decide) (fun T54 h54 X54 e54 W54 V54 => ?_)
 have O := O.wr W54 g_b1
 have K := K.wr W54 (Or.inr sz_b1)
 have E_b1 := E_b1.wr W54
 have V_b1 : Arv Z h54 b1 k1 .char (81 : Int32) (own_cl (fun _ => fi) 53) (.int 0) := own_rsA hfi rfl (by decide) V54
 have N54 := Fr.snoc X54 N53 g_b1
 refine Go.step (S' := T54.setTop (mkF m 267 #[iv fi] [(.int fi), (.int 53), (.ref b1), (.ref b1)])) (fun t k => ?_) ?_
 · refine XS.dup X54.here hx rfl (hb hby d6_263) rfl rfl ?_
   refine XS.bipush X54.here hx rfl (hb hby d6_264) ?_
   refine XS.iloadN X54.here hx rfl (hb hby d6_266) rfl ?_
   exact k
 refine Go.cst X54 hx hZ e54 V_b1 (hb hby d6_267) ⟨by decide, by decide⟩ (by rw [own_cl_len]; decide) (fun T55 h55 X55 e55 W55 V55 => ?_)
 have O := O.wr W55 g_b1
 have K := K.wr W55 (Or.inr sz_b1)
 have E_b1 := E_b1.wr W55
 have V_b1 : Arv Z h55 b1 k1 .char (81 : Int32) (own_cl (fun _ => fi) 54) (.int 0) := own_rsA hfi rfl (by decide) V55
 have N55 := Fr.snoc X55 N54 g_b1
 refine Go.step (S' := T55.setTop (mkF m 272 #[iv fi] [(.int fi), (.int 54), (.ref b1), (.ref b1)])) (fun t k => ?_) ?_
 · refine XS.dup X55.here hx rfl (hb hby d6_268) rfl rfl ?_
   refine XS.bipush X55.here hx rfl (hb hby d6_269) ?_
   refine XS.iloadN X55.here hx rfl (hb hby d6_271) rfl ?_
   exact k
 refine Go.cst X55 hx hZ e55 V_b1 (hb hby d6_272) ⟨by decide, by decide⟩ (by rw [own_cl_len]; decide) (fun T56 h56 X56 e56 W56 V56 => ?_)
 have O := O.wr W56 g_b1
 have K := K.wr W56 (Or.inr sz_b1)
 have E_b1 := E_b1.wr W56
 have V_b1 : Arv Z h56 b1 k1 .char (81 : Int32) (own_cl (fun _ => fi) 55) (.int 0) := own_rsA hfi rfl (by decide) V56
 have N56 := Fr.snoc X56 N55 g_b1
 refine Go.step (S' := T56.setTop (mkF m 277 #[iv fi] [(.int fi), (.int 55), (.ref b1), (.ref b1)])) (fun t k => ?_) ?_
 · refine XS.dup X56.here hx rfl (hb hby d6_273) rfl rfl ?_
   refine XS.bipush X56.here hx rfl (hb hby d6_274) ?_
   refine XS.iloadN X56.here hx rfl (hb hby d6_276) rfl ?_
   exact k
 refine Go.cst X56 hx hZ e56 V_b1 (hb hby d6_277) ⟨by decide, by decide⟩ (by rw [own_cl_len]; decide) (fun T57 h57 X57 e57 W57 V57 => ?_)
 have O := O.wr W57 g_b1
 have K := K.wr W57 (Or.inr sz_b1)
 have E_b1 := E_b1.wr W57
 have V_b1 : Arv Z h57 b1 k1 .char (81 : Int32) (own_cl (fun _ => fi) 56) (.int 0) := own_rsA hfi rfl (by decide) V57
 have N57 := Fr.snoc X57 N56 g_b1
 refine Go.step (S' := T57.setTop (mkF m 282 #[iv fi] [(.int fi), (.int 56), (.ref b1), (.ref b1)])) (fun t k => ?_) ?_
 · refine XS.dup X57.here hx rfl (hb hby d6_278) rfl rfl ?_
   refine XS.bipush X57.here hx rfl (hb hby d6_279) ?_
   refine XS.iloadN X57.here hx rfl (hb hby d6_281) rfl ?_
   exact k
 refine Go.cst X57 hx hZ e57 V_b1 (hb hby d6_282) ⟨by decide, by decide⟩ (by rw [own_cl_len]; decide) (fun T58 h58 X58 e58 W58 V58 => ?_)
 have O := O.wr W58 g_b1
 have K := K.wr W58 (Or.inr sz_b1)
 have E_b1 := E_b1.wr W58
 have V_b1 : Arv Z h58 b1 k1 .char (81 : Int32) (own_cl (fun _ => fi) 57) (.int 0) := own_rsA hfi rfl (by decide) V58
 have N58 := Fr.snoc X58 N57 g_b1
 refine Go.step (S' := T58.setTop (mkF m 287 #[iv fi] [(.int fi), (.int 57), (.ref b1), (.ref b1)])) (fun t k => ?_) ?_
 · refine XS.dup X58.here hx rfl (hb hby d6_283) rfl rfl ?_
   refine XS.bipush X58.here hx rfl (hb hby d6_284) ?_
   refine XS.iloadN X58.here hx rfl (hb hby d6_286) rfl ?_
   exact k
 refine Go.cst X58 hx hZ e58 V_b1 (hb hby d6_287) ⟨by decide, by decide⟩ (by rw [own_cl_len]; decide) (fun T59 h59 X59 e59 W59 V59 => ?_)
 have O := O.wr W59 g_b1
 have K := K.wr W59 (Or.inr sz_b1)
 have E_b1 := E_b1.wr W59
 have V_b1 : Arv Z h59 b1 k1 .char (81 : Int32) (own_cl (fun _ => fi) 58) (.int 0) := own_rsA hfi rfl (by decide) V59
 have N59 := Fr.snoc X59 N58 g_b1
 refine Go.step (S' := T59.setTop (mkF m 292 #[iv fi] [(.int fi), (.int 58), (.ref b1), (.ref b1)])) (fun t k => ?_) ?_
 · refine XS.dup X59.here hx rfl (hb hby d6_288) rfl rfl ?_
   refine XS.bipush X59.here hx rfl (hb hby d6_289) ?_
   refine XS.iloadN X59.here hx rfl (hb hby d6_291) rfl ?_
   exact k
 refine Go.cst X59 hx hZ e59 V_b1 (hb hby d6_292) ⟨by decide, by decide⟩ (by rw [own_cl_len]; decide) (fun T60 h60 X60 e60 W60 V60 => ?_)
 have O := O.wr W60 g_b1
 have K := K.wr W60 (Or.inr sz_b1)
 have E_b1 := E_b1.wr W60
 have V_b1 : Arv Z h60 b1 k1 .char (81 : Int32) (own_cl (fun _ => fi) 59) (.int 0) := own_rsA hfi rfl (by decide) V60
 have N60 := Fr.snoc X60 N59 g_b1
 refine Go.step (S' := T60.setTop (mkF m 297 #[iv fi] [(.int fi), (.int 59), (.ref b1), (.ref b1)])) (fun t k => ?_) ?_
 · refine XS.dup X60.here hx rfl (hb hby d6_293) rfl rfl ?_
   refine XS.bipush X60.here hx rfl (hb hby d6_294) ?_
   refine XS.iloadN X60.here hx rfl (hb hby d6_296) rfl ?_
   exact k
 refine Go.cst X60 hx hZ e60 V_b1 (hb hby d6_297) ⟨by decide, by decide⟩ (by rw [own_cl_len]; decide) (fun T61 h61 X61 e61 W61 V61 => ?_)
 have O := O.wr W61 g_b1
 have K := K.wr W61 (Or.inr sz_b1)
 have E_b1 := E_b1.wr W61
 have V_b1 : Arv Z h61 b1 k1 .char (81 : Int32) (own_cl (fun _ => fi) 60) (.int 0) := own_rsA hfi rfl (by decide) V61
 have N61 := Fr.snoc X61 N60 g_b1
 refine Go.step (S' := T61.setTop (mkF m 302 #[iv fi] [(.int fi), (.int 60), (.ref b1), (.ref b1)])) (fun t k => ?_) ?_
 · refine XS.dup X61.here hx rfl (hb hby d6_298) rfl rfl ?_
   refine XS.bipush X61.here hx rfl (hb hby d6_299) ?_
   refine XS.iloadN X61.here hx rfl (hb hby d6_301) rfl ?_
   exact k
 refine Go.cst X61 hx hZ e61 V_b1 (hb hby d6_302) ⟨by decide, by decide⟩ (by rw [own_cl_len]; decide) (fun T62 h62 X62 e62 W62 V62 => ?_)
 have O := O.wr W62 g_b1
 have K := K.wr W62 (Or.inr sz_b1)
 have E_b1 := E_b1.wr W62
 have V_b1 : Arv Z h62 b1 k1 .char (81 : Int32) (own_cl (fun _ => fi) 61) (.int 0) := own_rsA hfi rfl (by decide) V62
 have N62 := Fr.snoc X62 N61 g_b1
 refine Go.step (S' := T62.setTop (mkF m 307 #[iv fi] [(.int fi), (.int 61), (.ref b1), (.ref b1)])) (fun t k => ?_) ?_
 · refine XS.dup X62.here hx rfl (hb hby d6_303) rfl rfl ?_
   refine XS.bipush X62.here hx rfl (hb hby d6_304) ?_
   refine XS.iloadN X62.here hx rfl (hb hby d6_306) rfl ?_
   exact k
 refine Go.cst X62 hx hZ e62 V_b1 (hb hby d6_307) ⟨by decide, by decide⟩ (by rw [own_cl_len]; decide) (fun T63 h63 X63 e63 W63 V63 => ?_)
 have O := O.wr W63 g_b1
 have K := K.wr W63 (Or.inr sz_b1)
 have E_b1 := E_b1.wr W63
 have V_b1 : Arv Z h63 b1 k1 .char (81 : Int32) (own_cl (fun _ => fi) 62) (.int 0) := own_rsA hfi rfl (by decide) V63
 have N63 := Fr.snoc X63 N62 g_b1
 refine Go.step (S' := T63.setTop (mkF m 312 #[iv fi] [(.int fi), (.int 62), (.ref b1), (.ref b1)])) (fun t k => ?_) ?_
 · refine XS.dup X63.here hx rfl (hb hby d6_308) rfl rfl ?_
   refine XS.bipush X63.here hx rfl (hb hby d6_309) ?_
   refine XS.iloadN X63.here hx rfl (hb hby d6_311) rfl ?_
   exact k
 refine Go.cst X63 hx hZ e63 V_b1 (hb hby d6_312) ⟨by decide, by decide⟩ (by rw [own_cl_len]; decide) (fun T64 h64 X64 e64 W64 V64 => ?_)
 have O := O.wr W64 g_b1
 have K := K.wr W64 (Or.inr sz_b1)
 have E_b1 := E_b1.wr W64
 have V_b1 : Arv Z h64 b1 k1 .char (81 : Int32) (own_cl (fun _ => fi) 63) (.int 0) := own_rsA hfi rfl (by decide) V64
 have N64 := Fr.snoc X64 N63 g_b1
 refine Go.step (S' := T64.setTop (mkF m 317 #[iv fi] [(.int fi), (.int 63), (.ref b1), (.ref b1)])) (fun t k => ?_) ?_
 · refine XS.dup X64.here hx rfl (hb hby d6_313) rfl rfl ?_
   refine XS.bipush X64.here hx rfl (hb hby d6_314) ?_
   refine XS.iloadN X64.here hx rfl (hb hby d6_316) rfl ?_
   exact k
 refine Go.cst X64 hx hZ e64 V_b1 (hb hby d6_317) ⟨by decide, by decide⟩ (by rw [own_cl_len]; decide) (fun T65 h65 X65 e65 W65 V65 => ?_)
 have O := O.wr W65 g_b1
 have K := K.wr W65 (Or.inr sz_b1)
 have E_b1 := E_b1.wr W65
 have V_b1 : Arv Z h65 b1 k1 .char (81 : Int32) (own_cl (fun _ => fi) 64) (.int 0) := own_rsA hfi rfl (by decide) V65
 have N65 := Fr.snoc X65 N64 g_b1
 refine Go.step (S' := T65.setTop (mkF m 322 #[iv fi] [(.int fi), (.int 64), (.ref b1), (.ref b1)])) (fun t k => ?_) ?_
 · refine XS.dup X65.here hx rfl (hb hby d6_318) rfl rfl ?_
   refine XS.bipush X65.here hx rfl (hb hby d6_319) ?_
   refine XS.iloadN X65.here hx rfl (hb hby d6_321) rfl ?_
   exact k
 refine Go.cst X65 hx hZ e65 V_b1 (hb hby d6_322) ⟨by decide, by decide⟩ (by rw [own_cl_len]; decide) (fun T66 h66 X66 e66 W66 V66 => ?_)
 have O := O.wr W66 g_b1
 have K := K.wr W66 (Or.inr sz_b1)
 have E_b1 := E_b1.wr W66
 have V_b1 : Arv Z h66 b1 k1 .char (81 : Int32) (own_cl (fun _ => fi) 65) (.int 0) := own_rsA hfi rfl (by decide) V66
 have N66 := Fr.snoc X66 N65 g_b1
 refine Go.step (S' := T66.setTop (mkF m 327 #[iv fi] [(.int fi), (.int 65), (.ref b1), (.ref b1)])) (fun t k => ?_) ?_
 · refine XS.dup X66.here hx rfl (hb hby d6_323) rfl rfl ?_
   refine XS.bipush X66.here hx rfl (hb hby d6_324) ?_
   refine XS.iloadN X66.here hx rfl (hb hby d6_326) rfl ?_
   exact k
 refine Go.cst X66 hx hZ e66 V_b1 (hb hby d6_327) ⟨by decide, by decide⟩ (by rw [own_cl_len]; decide) (fun T67 h67 X67 e67 W67 V67 => ?_)
 have O := O.wr W67 g_b1
 have K := K.wr W67 (Or.inr sz_b1)
 have E_b1 := E_b1.wr W67
 have V_b1 : Arv Z h67 b1 k1 .char (81 : Int32) (own_cl (fun _ => fi) 66) (.int 0) := own_rsA hfi rfl (by decide) V67
 have N67 := Fr.snoc X67 N66 g_b1
 refine Go.step (S' := T67.setTop (mkF m 332 #[iv fi] [(.int fi), (.int 66), (.ref b1), (.ref b1)])) (fun t k => ?_) ?_
 · refine XS.dup X67.here hx rfl (hb hby d6_328) rfl rfl ?_
   refine XS.bipush X67.here hx rfl (hb hby d6_329) ?_
   refine XS.iloadN X67.here hx rfl (hb hby d6_331) rfl ?_
   exact k
 refine Go.cst X67 hx hZ e67 V_b1 (hb hby d6_332) ⟨by decide, by decide⟩ (by rw [own_cl_len]; decide) (fun T68 h68 X68 e68 W68 V68 => ?_)
 have O := O.wr W68 g_b1
 have K := K.wr W68 (Or.inr sz_b1)
 have E_b1 := E_b1.wr W68
 have V_b1 : Arv Z h68 b1 k1 .char (81 : Int32) (own_cl (fun _ => fi) 67) (.int 0) := own_rsA hfi rfl (by decide) V68
 have N68 := Fr.snoc X68 N67 g_b1
 refine Go.step (S' := T68.setTop (mkF m 337 #[iv fi] [(.int fi), (.int 67), (.ref b1), (.ref b1)])) (fun t k => ?_) ?_
 · refine XS.dup X68.here hx rfl (hb hby d6_333) rfl rfl ?_
   refine XS.bipush X68.here hx rfl (hb hby d6_334) ?_
   refine XS.iloadN X68.here hx rfl (hb hby d6_336) rfl ?_
   exact k
 refine Go.cst X68 hx hZ e68 V_b1 (hb hby d6_337) ⟨by decide, by decide⟩ (by rw [own_cl_len]; decide) (fun T69 h69 X69 e69 W69 V69 => ?_)
 have O := O.wr W69 g_b1
 have K := K.wr W69 (Or.inr sz_b1)
 have E_b1 := E_b1.wr W69
 have V_b1 : Arv Z h69 b1 k1 .char (81 : Int32) (own_cl (fun _ => fi) 68) (.int 0) := own_rsA hfi rfl (by decide) V69
 have N69 := Fr.snoc X69 N68 g_b1
 refine Go.step (S' := T69.setTop (mkF m 342 #[iv fi] [(.int fi), (.int 68), (.ref b1), (.ref b1)])) (fun t k => ?_) ?_
 · refine XS.dup X69.here hx rfl (hb hby d6_338) rfl rfl ?_
   refine XS.bipush X69.here hx rfl (hb hby d6_339) ?_
   refine XS.iloadN X69.here hx rfl (hb hby d6_341) rfl ?_
   exact k
 refine Go.cst X69 hx hZ e69 V_b1 (hb hby d6_342) ⟨by decide, by decide⟩ (by rw [own_cl_len]; decide) (fun T70 h70 X70 e70 W70 V70 => ?_)
 have O := O.wr W70 g_b1
 have K := K.wr W70 (Or.inr sz_b1)
 have E_b1 := E_b1.wr W70
 have V_b1 : Arv Z h70 b1 k1 .char (81 : Int32) (own_cl (fun _ => fi) 69) (.int 0) := own_rsA hfi rfl (by decide) V70
 have N70 := Fr.snoc X70 N69 g_b1
 refine Go.step (S' := T70.setTop (mkF m 347 #[iv fi] [(.int fi), (.int 69), (.ref b1), (.ref b1)])) (fun t k => ?_) ?_
 · refine XS.dup X70.here hx rfl (hb hby d6_343) rfl rfl ?_
   refine XS.bipush X70.here hx rfl (hb hby d6_344) ?_
   refine XS.iloadN X70.here hx rfl (hb hby d6_346) rfl ?_
   exact k
 refine Go.cst X70 hx hZ e70 V_b1 (hb hby d6_347) ⟨by decide, by decide⟩ (by rw [own_cl_len]; decide) (fun T71 h71 X71 e71 W71 V71 => ?_)
 have O := O.wr W71 g_b1
 have K := K.wr W71 (Or.inr sz_b1)
 have E_b1 := E_b1.wr W71
 have V_b1 : Arv Z h71 b1 k1 .char (81 : Int32) (own_cl (fun _ => fi) 70) (.int 0) := own_rsA hfi rfl (by decide) V71
 have N71 := Fr.snoc X71 N70 g_b1
 refine Go.step (S' := T71.setTop (mkF m 352 #[iv fi] [(.int fi), (.int 70), (.ref b1), (.ref b1)])) (fun t k => ?_) ?_
 · refine XS.dup X71.here hx rfl (hb hby d6_348) rfl rfl ?_
   refine XS.bipush X71.here hx rfl (hb hby d6_349) ?_
   refine XS.iloadN X71.here hx rfl (hb hby d6_351) rfl ?_
   exact k
 refine Go.cst X71 hx hZ e71 V_b1 (hb hby d6_352) ⟨by decide, by decide⟩ (by rw [own_cl_len]; decide) (fun T72 h72 X72 e72 W72 V72 => ?_)
 have O := O.wr W72 g_b1
 have K := K.wr W72 (Or.inr sz_b1)
 have E_b1 := E_b1.wr W72
 have V_b1 : Arv Z h72 b1 k1 .char (81 : Int32) (own_cl (fun _ => fi) 71) (.int 0) := own_rsA hfi rfl (by decide) V72
 have N72 := Fr.snoc X72 N71 g_b1
 refine Go.step (S' := T72.setTop (mkF m 357 #[iv fi] [(.int fi), (.int 71), (.ref b1), (.ref b1)])) (fun t k => ?_) ?_
 · refine XS.dup X72.here hx rfl (hb hby d6_353) rfl rfl ?_
   refine XS.bipush X72.here hx rfl (hb hby d6_354) ?_
   refine XS.iloadN X72.here hx rfl (hb hby d6_356) rfl ?_
   exact k
 refine Go.cst X72 hx hZ e72 V_b1 (hb hby d6_357) ⟨by decide, by decide⟩ (by rw [own_cl_len]; decide) (fun T73 h73 X73 e73 W73 V73 => ?_)
 have O := O.wr W73 g_b1
 have K := K.wr W73 (Or.inr sz_b1)
 have E_b1 := E_b1.wr W73
 have V_b1 : Arv Z h73 b1 k1 .char (81 : Int32) (own_cl (fun _ => fi) 72) (.int 0) := own_rsA hfi rfl (by decide) V73
 have N73 := Fr.snoc X73 N72 g_b1
 refine Go.step (S' := T73.setTop (mkF m 362 #[iv fi] [(.int fi), (.int 72), (.ref b1), (.ref b1)])) (fun t k => ?_) ?_
 · refine XS.dup X73.here hx rfl (hb hby d6_358) rfl rfl ?_
   refine XS.bipush X73.here hx rfl (hb hby d6_359) ?_
   refine XS.iloadN X73.here hx rfl (hb hby d6_361) rfl ?_
   exact k
 refine Go.cst X73 hx hZ e73 V_b1 (hb hby d6_362) ⟨by decide, by decide⟩ (by rw [own_cl_len]; decide) (fun T74 h74 X74 e74 W74 V74 => ?_)
 have O := O.wr W74 g_b1
 have K := K.wr W74 (Or.inr sz_b1)
 have E_b1 := E_b1.wr W74
 have V_b1 : Arv Z h74 b1 k1 .char (81 : Int32) (own_cl (fun _ => fi) 73) (.int 0) := own_rsA hfi rfl (by decide) V74
 have N74 := Fr.snoc X74 N73 g_b1
 refine Go.step (S' := T74.setTop (mkF m 367 #[iv fi] [(.int fi), (.int 73), (.ref b1), (.ref b1)])) (fun t k => ?_) ?_
 · refine XS.dup X74.here hx rfl (hb hby d6_363) rfl rfl ?_
   refine XS.bipush X74.here hx rfl (hb hby d6_364) ?_
   refine XS.iloadN X74.here hx rfl (hb hby d6_366) rfl ?_
   exact k
 refine Go.cst X74 hx hZ e74 V_b1 (hb hby d6_367) ⟨by decide, by decide⟩ (by rw [own_cl_len]; decide) (fun T75 h75 X75 e75 W75 V75 => ?_)
 have O := O.wr W75 g_b1
 have K := K.wr W75 (Or.inr sz_b1)
 have E_b1 := E_b1.wr W75
 have V_b1 : Arv Z h75 b1 k1 .char (81 : Int32) (own_cl (fun _ => fi) 74) (.int 0) := own_rsA hfi rfl (by decide) V75
 have N75 := Fr.snoc X75 N74 g_b1
 refine Go.step (S' := T75.setTop (mkF m 372 #[iv fi] [(.int fi), (.int 74), (.ref b1), (.ref b1)])) (fun t k => ?_) ?_
 · refine XS.dup X75.here hx rfl (hb hby d6_368) rfl rfl ?_
   refine XS.bipush X75.here hx rfl (hb hby d6_369) ?_
   refine XS.iloadN X75.here hx rfl (hb hby d6_371) rfl ?_
   exact k
 refine Go.cst X75 hx hZ e75 V_b1 (hb hby d6_372) ⟨by decide, by decide⟩ (by rw [own_cl_len]; decide) (fun T76 h76 X76 e76 W76 V76 => ?_)
 have O := O.wr W76 g_b1
 have K := K.wr W76 (Or.inr sz_b1)
 have E_b1 := E_b1.wr W76
 have V_b1 : Arv Z h76 b1 k1 .char (81 : Int32) (own_cl (fun _ => fi) 75) (.int 0) := own_rsA hfi rfl (by decide) V76
 have N76 := Fr.snoc X76 N75 g_b1
 refine Go.step (S' := T76.setTop (mkF m 377 #[iv fi] [(.int fi), (.int 75), (.ref b1), (.ref b1)])) (fun t k => ?_) ?_
 · refine XS.dup X76.here hx rfl (hb hby d6_373) rfl rfl ?_
   refine XS.bipush X76.here hx rfl (hb hby d6_374) ?_
   refine XS.iloadN X76.here hx rfl (hb hby d6_376) rfl ?_
   exact k
 refine Go.cst X76 hx hZ e76 V_b1 (hb hby d6_377) ⟨by decide, by decide⟩ (by rw [own_cl_len]; decide) (fun T77 h77 X77 e77 W77 V77 => ?_)
 have O := O.wr W77 g_b1
 have K := K.wr W77 (Or.inr sz_b1)
 have E_b1 := E_b1.wr W77
 have V_b1 : Arv Z h77 b1 k1 .char (81 : Int32) (own_cl (fun _ => fi) 76) (.int 0) := own_rsA hfi rfl (by decide) V77
 have N77 := Fr.snoc X77 N76 g_b1
 refine Go.step (S' := T77.setTop (mkF m 382 #[iv fi] [(.int fi), (.int 76), (.ref b1), (.ref b1)])) (fun t k => ?_) ?_
 · refine XS.dup X77.here hx rfl (hb hby d6_378) rfl rfl ?_
   refine XS.bipush X77.here hx rfl (hb hby d6_379) ?_
   refine XS.iloadN X77.here hx rfl (hb hby d6_381) rfl ?_
   exact k
 refine Go.cst X77 hx hZ e77 V_b1 (hb hby d6_382) ⟨by decide, by decide⟩ (by rw [own_cl_len]; decide) (fun T78 h78 X78 e78 W78 V78 => ?_)
 have O := O.wr W78 g_b1
 have K := K.wr W78 (Or.inr sz_b1)
 have E_b1 := E_b1.wr W78
 have V_b1 : Arv Z h78 b1 k1 .char (81 : Int32) (own_cl (fun _ => fi) 77) (.int 0) := own_rsA hfi rfl (by decide) V78
 have N78 := Fr.snoc X78 N77 g_b1
 refine Go.step (S' := T78.setTop (mkF m 387 #[iv fi] [(.int fi), (.int 77), (.ref b1), (.ref b1)])) (fun t k => ?_) ?_
 · refine XS.dup X78.here hx rfl (hb hby d6_383) rfl rfl ?_
   refine XS.bipush X78.here hx rfl (hb hby d6_384) ?_
   refine XS.iloadN X78.here hx rfl (hb hby d6_386) rfl ?_
   exact k
 refine Go.cst X78 hx hZ e78 V_b1 (hb hby d6_387) ⟨by decide, by decide⟩ (by rw [own_cl_len]; decide) (fun T79 h79 X79 e79 W79 V79 => ?_)
 have O := O.wr W79 g_b1
 have K := K.wr W79 (Or.inr sz_b1)
 have E_b1 := E_b1.wr W79
 have V_b1 : Arv Z h79 b1 k1 .char (81 : Int32) (own_cl (fun _ => fi) 78) (.int 0) := own_rsA hfi rfl (by decide) V79
 have N79 := Fr.snoc X79 N78 g_b1
 refine Go.step (S' := T79.setTop (mkF m 392 #[iv fi] [(.int fi), (.int 78), (.ref b1), (.ref b1)])) (fun t k => ?_) ?_
 · refine XS.dup X79.here hx rfl (hb hby d6_388) rfl rfl ?_
   refine XS.bipush X79.here hx rfl (hb hby d6_389) ?_
   refine XS.iloadN X79.here hx rfl (hb hby d6_391) rfl ?_
   exact k
 refine Go.cst X79 hx hZ e79 V_b1 (hb hby d6_392) ⟨by decide, by decide⟩ (by rw [own_cl_len]; decide) (fun T80 h80 X80 e80 W80 V80 => ?_)
 have O := O.wr W80 g_b1
 have K := K.wr W80 (Or.inr sz_b1)
 have E_b1 := E_b1.wr W80
 have V_b1 : Arv Z h80 b1 k1 .char (81 : Int32) (own_cl (fun _ => fi) 79) (.int 0) := own_rsA hfi rfl (by decide) V80
 have N80 := Fr.snoc X80 N79 g_b1
 refine Go.step (S' := T80.setTop (mkF m 397 #[iv fi] [(.int fi), (.int 79), (.ref b1), (.ref b1)])) (fun t k => ?_) ?_
 · refine XS.dup X80.here hx rfl (hb hby d6_393) rfl rfl ?_
   refine XS.bipush X80.here hx rfl (hb hby d6_394) ?_
   refine XS.iloadN X80.here hx rfl (hb hby d6_396) rfl ?_
   exact k
 refine Go.cst X80 hx hZ e80 V_b1 (hb hby d6_397) ⟨by decide, by decide⟩ (by rw [own_cl_len]; decide) (fun T81 h81 X81 e81 W81 V81 => ?_)
 have O := O.wr W81 g_b1
 have K := K.wr W81 (Or.inr sz_b1)
 have E_b1 := E_b1.wr W81
 have V_b1 : Arv Z h81 b1 k1 .char (81 : Int32) (own_cl (fun _ => fi) 80) (.int 0) := own_rsA hfi rfl (by decide) V81
 have N81 := Fr.snoc X81 N80 g_b1
 refine Go.step (S' := T81.setTop (mkF m 402 #[iv fi] [(.int fi), (.int 80), (.ref b1), (.ref b1)])) (fun t k => ?_) ?_
 · refine XS.dup X81.here hx rfl (hb hby d6_398) rfl rfl ?_
   refine XS.bipush X81.here hx rfl (hb hby d6_399) ?_
   refine XS.iloadN X81.here hx rfl (hb hby d6_401) rfl ?_
   exact k
 refine Go.cst X81 hx hZ e81 V_b1 (hb hby d6_402) ⟨by decide, by decide⟩ (by rw [own_cl_len]; decide) (fun T82 h82 X82 e82 W82 V82 => ?_)
 have O := O.wr W82 g_b1
 have K := K.wr W82 (Or.inr sz_b1)
 have E_b1 := E_b1.wr W82
 have V_b1 : Arv Z h82 b1 k1 .char (81 : Int32) (own_cl (fun _ => fi) 81) (.int 0) := own_rsA hfi rfl (by decide) V82
 have N82 := Fr.snoc X82 N81 g_b1
 exact Go.rt X82 hx Bd (w := (.ref b1)) rfl (Or.inr (Or.inr (Or.inr (Or.inr ⟨rfl, rfl, rfl⟩)))) (hb hby d6_403) e82 ⟨b1, k1, rfl, N82, K, V_b1, g_b1, sz_b1⟩
theorem pd__28_29J : parseMethodDescriptor "()J" = some ⟨[], some .long⟩ := by decide +kernel
theorem pd__28C_29_5bC : parseMethodDescriptor "(C)[C" = some ⟨[.char], some (.array .char)⟩ := by decide +kernel
abbrev y_23 : MethodName := ⟨"java/lang/String", "<init>", "([C)V"⟩
theorem pd__28_5bC_29V : parseMethodDescriptor "([C)V" = some ⟨[(.array .char)], none⟩ := by decide +kernel
theorem pd__28Ljava_2flang_2fCharSequence_3b_29Lorg_2fninefold_2fmodel_2fGrid_3b : parseMethodDescriptor "(Ljava/lang/CharSequence;)Lorg/ninefold/model/Grid;" = some ⟨[(.object "java/lang/CharSequence")], some (.object "org/ninefold/model/Grid")⟩ := by decide +kernel
theorem ef_rm0 (m : MethodId) (p0 : Int32) (p1 : Int32) (p2 : Int32) (p3 : Int32) (p4 : Int32) : entryFrame m #[(.int p0), (.int p1), (.int p2), (.int p3), (.int p4)] maxLocals = mkF m 0 #[.val (.int p0), .val (.int p1), .val (.int p2), .val (.int p3), .val (.int p4), .unset, .unset, .unset, .unset, .unset, .unset, .unset, .unset, .unset, .unset, .unset, .unset, .unset, .unset, .unset, .unset, .unset, .unset, .unset] [] := by first | (simp [entryFrame, mkF, argsToLocals, Value.category, maxLocals]; done) | rfl
def Q_rm0 (Z : State) (p0 : Int32) (p1 : Int32) (p2 : Int32) (p3 : Int32) (p4 : Int32) (cs : Int32) (sf : Value) (h0 : Heap) (n0 : Nat) (v : Option Value) (h : Heap) (L : List Loc) : Prop := (v = some (.int 1)) ∧ (Fr n0 L) ∧ (Keep h0 h [])
theorem rm0 (l : Launch) (Z : State) (a0 : Array Value) (hw : ∀ d ∈ tables_1, d.before a0 Z = true) (ws : List Jvm.Cond) (p0 : Int32) (p1 : Int32) (p2 : Int32) (p3 : Int32) (p4 : Int32) (cs : Int32) (sf : Value) (h0 : Heap) (n0 : Nat) (O : Old Z n0 h0) (S_CS : Sa_0 Z (.int cs)) (S_FM : Sa_1 Z sf) (hcs : ¬ (cs = (0 : Int32))) (hsf : sf.isRef = true) :
    MetFree l x (head1 (Jvm.Cond.code x code maxLocals ret :: ws) room_1) (fun A_ U => A_ = #[(.int p0), (.int p1), (.int p2), (.int p3), (.int p4)] ∧ Z.Warmed39 U.vm ∧ U.heap = h0) (fun _ _ _ _ _ => True) (fun _ U o U' => ∃ v L, o = .returned v ∧ Q_rm0 Z p0 p1 p2 p3 p4 cs sf h0 n0 v U'.heap L ∧ ReturnedEndW U o U' L room_1.cells room_1.slots) := by
 refine MetFree.of_bodySF (plainFor_of_name pn_org_ninefold_model_PuzzleTextAppendPinLaw) hisR ?_
 intro p e s m args below meth c s₁ Bd hml0 hP hK
 obtain ⟨rfl, hZ, hh⟩ := hP
 have hx := Bd.exec
 have hby := Bd.bytes
 have hml : c.maxLocals = 24 := hml0
 have hown : s.vm.findClass "org/ninefold/model/PuzzleTextAppendPinLaw" = some m.cls := findClass_of_methodNamed Bd.named
 have hnm := (name_of_methodNamed Bd.named Bd.method).1
 have X0 : Stand p l e room_1 (s.setVm s.vm) m #[(.int p0), (.int p1), (.int p2), (.int p3), (.int p4)] below meth c s₁ [] 0 0 := Stand.of_body Bd
 have e0 : s₁.heap = h0 := by rw [← hh, Bd.state]; rfl
 have N0 := Fr.nil n0
 have K := Keep.refl h0 []
 have hS : s.Since s.vm 0 := (State.WarmedH.refl s).since 0
 have hk : 0 ≤ h0.size := Nat.zero_le _
 have wS := own_wS hw
 refine Go.step (p := p) (e := e) (below := below) (G := fun o U' => ∃ v L, o = .returned v ∧ Q_rm0 Z p0 p1 p2 p3 p4 cs sf h0 n0 v U'.heap L ∧ ReturnedEndW s o U' L room_1.cells room_1.slots) (S' := s₁.setTop (mkF m 0 #[iv p0, iv p1, iv p2, iv p3, iv p4, u_, u_, u_, u_, u_, u_, u_, u_, u_, u_, u_, u_, u_, u_, u_, u_, u_, u_, u_] [])) (fun t k => castTop (ef_rm0 m p0 p1 p2 p3 p4) k) ?_
 obtain ⟨T1, h1, X1, e1, E1, A1, D1, -, st1⟩ := newO X0 hx hZ hown (own_w hw 0 rfl) (own_w hw 1 rfl) (own_w hw 2 rfl) e0 (g := (mkF m 0 #[iv p0, iv p1, iv p2, iv p3, iv p4, u_, u_, u_, u_, u_, u_, u_, u_, u_, u_, u_, u_, u_, u_, u_, u_, u_, u_, u_] [])) rfl (hb hby at_0) (by decide) (by decide)
 obtain ⟨b1, g1⟩ : ∃ z, z = Array.size h0 := ⟨_, rfl⟩
 have g_b1 : n0 ≤ b1 := Nat.le_trans (old_le O) (Nat.le_of_eq g1.symm)
 have sz_b1 : h0.size ≤ b1 := Nat.le_trans K.1 (Nat.le_of_eq g1.symm)
 rw [← g1] at A1 D1 st1
 have O := O.ext E1
 have hk := Nat.le_trans hk E1.1
 have K := K.ext E1
 have E_b1 := A1
 have F_cells_b1 : Fd_4 Z h1 b1 .null := D1 (Or.inr (own_w hw 11 rfl)) (ty := (.array .byte)) (by decide)
 have F_length_b1 : Fd_5 Z h1 b1 (.long (0 : Int64)) := D1 (Or.inl (own_w hw 18 rfl)) (ty := .long) (by decide)
 have F_unexpectedColumn_b1 : Fd_6 Z h1 b1 (.long (0 : Int64)) := D1 (Or.inl (own_w hw 28 rfl)) (ty := .long) (by decide)
 refine Go.step st1 ?_
 refine Go.step (S' := T1.setTop (mkF m 4 #[iv p0, iv p1, iv p2, iv p3, iv p4, u_, u_, u_, u_, u_, u_, u_, u_, u_, u_, u_, u_, u_, u_, u_, u_, u_, u_, u_] [(.ref b1), (.ref b1)])) (fun t k => ?_) ?_
 · refine XS.dup X1.here hx rfl (hb hby at_3) rfl rfl ?_
   exact k
 refine Go.cI X1 hx hml hown hZ (own_w hw 3 rfl) (own_w hw 4 rfl) (own_w hw 2 rfl) (own_w hw 5 rfl) (rmPI l Z a0 hw [] b1 h1 n0 O E_b1 F_cells_b1 F_length_b1 F_unexpectedColumn_b1 (by assumption)) 1 [(.ref b1)] pd__28_29V (hb hby at_4) e1 (fun _ T2 L2 X2 hQ2 => ?_)
 obtain ⟨cb_2, kb_2, rfl, Nq2, K2, P2_E_po, P2_F_c, P2_F_l, P2_F_u, P2_V_cb, P2_E_cb, gc_2, sc_2⟩ := hQ2
 have N2 := Fr.app N0 Nq2
 have sz_cb_2 : h0.size ≤ cb_2 := Nat.le_trans K.1 sc_2
 have ne_b1_cb_2 : b1 ≠ cb_2 := Nat.ne_of_lt (Nat.lt_of_lt_of_le E_b1.lt sc_2)
 have O := O.keep K2 (allS g_b1 all0)
 have hk := Nat.le_trans hk K2.1
 have K := K.trans K2 (allS (Or.inr sz_b1) all0)
 have E_b1 := E_b1.keep K2
 have E_po_2 := P2_E_po
 have F_c_2 := P2_F_c
 have F_l_2 := P2_F_l
 have F_u_2 := P2_F_u
 have V_cb_2 := P2_V_cb
 have E_cb_2 := P2_E_cb
 have g_cb_2 := gc_2
 refine Go.step (S' := T2.setTop (mkF m 11 #[iv p0, iv p1, iv p2, iv p3, iv p4, rv b1, u_, u_, u_, u_, u_, u_, u_, u_, u_, u_, u_, u_, u_, u_, u_, u_, u_, u_] [(.ref b1)])) (fun t k => ?_) ?_
 · refine XS.astore X2.here hx rfl (hb hby at_7) rfl rfl (l' := #[iv p0, iv p1, iv p2, iv p3, iv p4, rv b1, u_, u_, u_, u_, u_, u_, u_, u_, u_, u_, u_, u_, u_, u_, u_, u_, u_, u_]) rfl ?_
   refine XS.aload X2.here hx rfl (hb hby at_9) rfl rfl ?_
   exact k
 refine Go.cV X2 hx hml hown hZ (own_w hw 12 rfl) (own_w hw 13 rfl) (own_w hw 15 rfl) (own_w hw 14 rfl) (own_w hw 2 rfl) (own_w hw 16 rfl) E_b1 (rmPL l Z a0 hw [] b1 (0 : Int64) T2.heap n0 O F_l_2) 0 [] pd__28_29J (hb hby at_11) (Eq.refl T2.heap) (fun _ T3 L3 X3 hQ3 => ?_)
 obtain ⟨rfl, Nq3, e3⟩ := hQ3
 have N3 := Fr.app N2 Nq3
 refine Go.step (S' := T3.setTop (mkF m 20 #[iv p0, iv p1, iv p2, iv p3, iv p4, rv b1, lv (0 : Int64), .second, u_, u_, u_, u_, u_, u_, u_, u_, u_, u_, u_, u_, u_, u_, u_, u_] [(.int (p0.toUInt32.toUInt16.toUInt32.toInt32)), (.ref b1)])) (fun t k => ?_) ?_
 · refine XS.lstore X3.here hx rfl (hb hby at_14) rfl (l' := #[iv p0, iv p1, iv p2, iv p3, iv p4, rv b1, lv (0 : Int64), .second, u_, u_, u_, u_, u_, u_, u_, u_, u_, u_, u_, u_, u_, u_, u_, u_]) rfl ?_
   refine XS.aload X3.here hx rfl (hb hby at_16) rfl rfl ?_
   refine XS.iloadN X3.here hx rfl (hb hby at_18) rfl ?_
   refine XS.i2c X3.here hx rfl (hb hby at_19) rfl ?_
   exact k
 refine Go.cV X3 hx hml hown hZ (own_w hw 19 rfl) (own_w hw 20 rfl) (own_w hw 22 rfl) (own_w hw 21 rfl) (own_w hw 2 rfl) (own_w hw 23 rfl) E_b1 (rmAa0 l Z a0 hw [] b1 (p0.toUInt32.toUInt16.toUInt32.toInt32) cb_2 kb_2 (0 : Int64) (List.replicate 81 (.int 0)) T2.heap n0 O E_b1 F_c_2 F_l_2 F_u_2 V_cb_2 E_cb_2 (by assumption) gc_2 ne_b1_cb_2 (by simp)) 0 [] pd__28C_29Lorg_2fninefold_2fmodel_2fPuzzleText_3b (hb hby at_20) e3 (fun _ T4 L4 X4 hQ4 => ?_)
 obtain ⟨ud_4, vt_4, rfl, Nq4, K4, P4_E_po, P4_F_c, P4_F_l, P4_F_u, P4_V_cb, P4_E_cb, hvt_4⟩ := hQ4
 have N4 := Fr.app N3 Nq4
 have O := O.keep K4 (allS g_b1 (allS g_cb_2 all0))
 have hk := Nat.le_trans hk K4.1
 have K := K.trans K4 (allS (Or.inr sz_b1) (allS (Or.inr sz_cb_2) all0))
 have E_b1 := E_b1.keep K4
 have E_po_2 := E_po_2.keep K4
 have E_cb_2 := E_cb_2.keep K4
 have E_po_4 := P4_E_po
 have F_c_4 := P4_F_c
 have F_l_4 := P4_F_l
 have F_u_4 := P4_F_u
 have V_cb_4 := P4_V_cb
 have E_cb_4 := P4_E_cb
 refine Go.step (S' := T4.setTop (mkF m 27 #[iv p0, iv p1, iv p2, iv p3, iv p4, rv b1, lv (0 : Int64), .second, rv b1, u_, u_, u_, u_, u_, u_, u_, u_, u_, u_, u_, u_, u_, u_, u_] [(.ref b1)])) (fun t k => ?_) ?_
 · refine XS.astore X4.here hx rfl (hb hby at_23) rfl rfl (l' := #[iv p0, iv p1, iv p2, iv p3, iv p4, rv b1, lv (0 : Int64), .second, rv b1, u_, u_, u_, u_, u_, u_, u_, u_, u_, u_, u_, u_, u_, u_, u_]) rfl ?_
   refine XS.aload X4.here hx rfl (hb hby at_25) rfl rfl ?_
   exact k
 refine Go.cV X4 hx hml hown hZ (own_w hw 12 rfl) (own_w hw 13 rfl) (own_w hw 15 rfl) (own_w hw 14 rfl) (own_w hw 2 rfl) (own_w hw 16 rfl) E_b1 (rmPL l Z a0 hw [] b1 (1 : Int64) T4.heap n0 O F_l_4) 0 [] pd__28_29J (hb hby at_27) (Eq.refl T4.heap) (fun _ T5 L5 X5 hQ5 => ?_)
 obtain ⟨rfl, Nq5, e5⟩ := hQ5
 have N5 := Fr.app N4 Nq5
 refine Go.step (S' := T5.setTop (mkF m 37 #[iv p0, iv p1, iv p2, iv p3, iv p4, rv b1, lv (0 : Int64), .second, rv b1, lv (1 : Int64), .second, u_, u_, u_, u_, u_, u_, u_, u_, u_, u_, u_, u_, u_] [(.int (p4.toUInt32.toUInt16.toUInt32.toInt32)), (.ref b1)])) (fun t k => ?_) ?_
 · refine XS.lstore X5.here hx rfl (hb hby at_30) rfl (l' := #[iv p0, iv p1, iv p2, iv p3, iv p4, rv b1, lv (0 : Int64), .second, rv b1, lv (1 : Int64), .second, u_, u_, u_, u_, u_, u_, u_, u_, u_, u_, u_, u_, u_]) rfl ?_
   refine XS.aload X5.here hx rfl (hb hby at_32) rfl rfl ?_
   refine XS.iload X5.here hx rfl (hb hby at_34) rfl ?_
   refine XS.i2c X5.here hx rfl (hb hby at_36) rfl ?_
   exact k
 refine Go.cV X5 hx hml hown hZ (own_w hw 19 rfl) (own_w hw 20 rfl) (own_w hw 22 rfl) (own_w hw 21 rfl) (own_w hw 2 rfl) (own_w hw 23 rfl) E_b1 (rmAa1 l Z a0 hw [] b1 (p4.toUInt32.toUInt16.toUInt32.toInt32) cb_2 kb_2 ud_4 vt_4 T4.heap n0 O E_b1 F_c_4 F_l_4 F_u_4 V_cb_4 E_cb_2 (by assumption) gc_2 ne_b1_cb_2 hvt_4) 0 [] pd__28C_29Lorg_2fninefold_2fmodel_2fPuzzleText_3b (hb hby at_37) e5 (fun _ T6 L6 X6 hQ6 => ?_)
 obtain ⟨ud_6, vt_6, rfl, Nq6, K6, P6_E_po, P6_F_c, P6_F_l, P6_F_u, P6_V_cb, P6_E_cb, hvt_6⟩ := hQ6
 have N6 := Fr.app N5 Nq6
 have O := O.keep K6 (allS g_b1 (allS g_cb_2 all0))
 have hk := Nat.le_trans hk K6.1
 have K := K.trans K6 (allS (Or.inr sz_b1) (allS (Or.inr sz_cb_2) all0))
 have E_b1 := E_b1.keep K6
 have E_po_2 := E_po_2.keep K6
 have E_cb_2 := E_cb_2.keep K6
 have E_po_4 := E_po_4.keep K6
 have E_cb_4 := E_cb_4.keep K6
 have E_po_6 := P6_E_po
 have F_c_6 := P6_F_c
 have F_l_6 := P6_F_l
 have F_u_6 := P6_F_u
 have V_cb_6 := P6_V_cb
 have E_cb_6 := P6_E_cb
 refine Go.step (S' := T6.setTop (mkF m 44 #[iv p0, iv p1, iv p2, iv p3, iv p4, rv b1, lv (0 : Int64), .second, rv b1, lv (1 : Int64), .second, rv b1, u_, u_, u_, u_, u_, u_, u_, u_, u_, u_, u_, u_] [(.ref b1)])) (fun t k => ?_) ?_
 · refine XS.astore X6.here hx rfl (hb hby at_40) rfl rfl (l' := #[iv p0, iv p1, iv p2, iv p3, iv p4, rv b1, lv (0 : Int64), .second, rv b1, lv (1 : Int64), .second, rv b1, u_, u_, u_, u_, u_, u_, u_, u_, u_, u_, u_, u_]) rfl ?_
   refine XS.aload X6.here hx rfl (hb hby at_42) rfl rfl ?_
   exact k
 refine Go.cV X6 hx hml hown hZ (own_w hw 12 rfl) (own_w hw 13 rfl) (own_w hw 15 rfl) (own_w hw 14 rfl) (own_w hw 2 rfl) (own_w hw 16 rfl) E_b1 (rmPL l Z a0 hw [] b1 (2 : Int64) T6.heap n0 O F_l_6) 0 [] pd__28_29J (hb hby at_44) (Eq.refl T6.heap) (fun _ T7 L7 X7 hQ7 => ?_)
 obtain ⟨rfl, Nq7, e7⟩ := hQ7
 have N7 := Fr.app N6 Nq7
 refine Go.step (S' := T7.setTop (mkF m 102 #[iv p0, iv p1, iv p2, iv p3, iv p4, rv b1, lv (0 : Int64), .second, rv b1, lv (1 : Int64), .second, rv b1, lv (2 : Int64), .second, iv 1, iv ((p1 &&& (2147483647 : Int32)) % (11 : Int32)), u_, u_, u_, u_, u_, u_, u_, u_] [])) (fun t k => ?_) ?_
 · refine XS.lstore X7.here hx rfl (hb hby at_47) rfl (l' := #[iv p0, iv p1, iv p2, iv p3, iv p4, rv b1, lv (0 : Int64), .second, rv b1, lv (1 : Int64), .second, rv b1, lv (2 : Int64), .second, u_, u_, u_, u_, u_, u_, u_, u_, u_, u_]) rfl ?_
   refine XS.lload X7.here hx rfl (hb hby at_49) rfl ?_
   refine XS.lconst X7.here hx rfl (hb hby at_51) ?_
   refine XS.lcmp X7.here hx rfl (hb hby at_52) rfl ?_
   refine XS.ifNo X7.here hx rfl (hb hby at_53) rfl ((if0 _ _).trans (teq ((lw_eq (0 : Int64) (0 : Int64)).mpr (by decide))).2) ?_
   refine XS.aload X7.here hx rfl (hb hby at_56) rfl rfl ?_
   show Steps p.tables e below (T7.setTop (mkF m 58 #[iv p0, iv p1, iv p2, iv p3, iv p4, rv b1, lv (0 : Int64), .second, rv b1, lv (1 : Int64), .second, rv b1, lv (2 : Int64), .second, u_, u_, u_, u_, u_, u_, u_, u_, u_, u_] [(.ref b1)])) _
   refine XS.aload X7.here hx rfl (hb hby at_58) rfl rfl ?_
   refine Jvm.RoadKit.acmp (g := (mkF m 60 #[iv p0, iv p1, iv p2, iv p3, iv p4, rv b1, lv (0 : Int64), .second, rv b1, lv (1 : Int64), .second, rv b1, lv (2 : Int64), .second, u_, u_, u_, u_, u_, u_, u_, u_, u_, u_] [(.ref b1), (.ref b1)])) X7 hx rfl rfl rfl (pc0 := 60) (pc' := 63) (same := true) rfl (hb hby at_60) rfl (decide_eq_true rfl) (by decide) (by decide) ?_
   refine XS.aload X7.here hx rfl (hb hby at_63) rfl rfl ?_
   refine XS.aload X7.here hx rfl (hb hby at_65) rfl rfl ?_
   refine Jvm.RoadKit.acmp (g := (mkF m 67 #[iv p0, iv p1, iv p2, iv p3, iv p4, rv b1, lv (0 : Int64), .second, rv b1, lv (1 : Int64), .second, rv b1, lv (2 : Int64), .second, u_, u_, u_, u_, u_, u_, u_, u_, u_, u_] [(.ref b1), (.ref b1)])) X7 hx rfl rfl rfl (pc0 := 67) (pc' := 70) (same := true) rfl (hb hby at_67) rfl (decide_eq_true rfl) (by decide) (by decide) ?_
   refine XS.lload X7.here hx rfl (hb hby at_70) rfl ?_
   show Steps p.tables e below (T7.setTop (mkF m 72 #[iv p0, iv p1, iv p2, iv p3, iv p4, rv b1, lv (0 : Int64), .second, rv b1, lv (1 : Int64), .second, rv b1, lv (2 : Int64), .second, u_, u_, u_, u_, u_, u_, u_, u_, u_, u_] [(.long (1 : Int64))])) _
   refine XS.lconst X7.here hx rfl (hb hby at_72) ?_
   refine XS.lcmp X7.here hx rfl (hb hby at_73) rfl ?_
   refine XS.ifNo X7.here hx rfl (hb hby at_74) rfl ((if0 _ _).trans (teq ((lw_eq (1 : Int64) (1 : Int64)).mpr (by decide))).2) ?_
   refine XS.lload X7.here hx rfl (hb hby at_77) rfl ?_
   refine X7.ldc2Long hx hown (mvT hZ (own_w hw 30 rfl)) (g := (mkF m 79 #[iv p0, iv p1, iv p2, iv p3, iv p4, rv b1, lv (0 : Int64), .second, rv b1, lv (1 : Int64), .second, rv b1, lv (2 : Int64), .second, u_, u_, u_, u_, u_, u_, u_, u_, u_, u_] [(.long (2 : Int64))])) rfl (hb hby at_79) _ ?_
   refine XS.lcmp X7.here hx rfl (hb hby at_82) rfl ?_
   show Steps p.tables e below (T7.setTop (mkF m 83 #[iv p0, iv p1, iv p2, iv p3, iv p4, rv b1, lv (0 : Int64), .second, rv b1, lv (1 : Int64), .second, rv b1, lv (2 : Int64), .second, u_, u_, u_, u_, u_, u_, u_, u_, u_, u_] [(.int (lcmpW (2 : Int64) (2 : Int64)))])) _
   refine XS.ifNo X7.here hx rfl (hb hby at_83) rfl ((if0 _ _).trans (teq ((lw_eq (2 : Int64) (2 : Int64)).mpr (by decide))).2) ?_
   refine XS.iconst X7.here hx rfl (hb hby at_86) ?_
   refine XS.goto X7.here hx rfl (pc0 := 87) (pc' := 91) rfl (hb hby at_87) (by decide) (by decide) ?_
   refine XS.istore X7.here hx rfl (hb hby at_91) rfl (l' := #[iv p0, iv p1, iv p2, iv p3, iv p4, rv b1, lv (0 : Int64), .second, rv b1, lv (1 : Int64), .second, rv b1, lv (2 : Int64), .second, iv 1, u_, u_, u_, u_, u_, u_, u_, u_, u_]) rfl ?_
   refine XS.iloadN X7.here hx rfl (hb hby at_93) rfl ?_
   refine X7.ldcInt hx hown (mvT hZ (own_w hw 31 rfl)) (g := (mkF m 94 #[iv p0, iv p1, iv p2, iv p3, iv p4, rv b1, lv (0 : Int64), .second, rv b1, lv (1 : Int64), .second, rv b1, lv (2 : Int64), .second, iv 1, u_, u_, u_, u_, u_, u_, u_, u_, u_] [(.int p1)])) rfl (hb hby at_94) _ ?_
   show Steps p.tables e below (T7.setTop (mkF m 96 #[iv p0, iv p1, iv p2, iv p3, iv p4, rv b1, lv (0 : Int64), .second, rv b1, lv (1 : Int64), .second, rv b1, lv (2 : Int64), .second, iv 1, u_, u_, u_, u_, u_, u_, u_, u_, u_] [(.int 2147483647), (.int p1)])) _
   refine XS.iand X7.here hx rfl (hb hby at_96) rfl ?_
   refine XS.bipush X7.here hx rfl (hb hby at_97) ?_
   refine iremM X7 hx rfl (hb hby at_99) rfl (by decide) ?_
   refine XS.istore X7.here hx rfl (hb hby at_100) rfl (l' := #[iv p0, iv p1, iv p2, iv p3, iv p4, rv b1, lv (0 : Int64), .second, rv b1, lv (1 : Int64), .second, rv b1, lv (2 : Int64), .second, iv 1, iv ((p1 &&& (2147483647 : Int32)) % (11 : Int32)), u_, u_, u_, u_, u_, u_, u_, u_]) rfl ?_
   exact k
 obtain ⟨kk, hd_kk⟩ : ∃ z : Int32, ((p1 &&& (2147483647 : Int32)) % (11 : Int32)) = z := ⟨_, rfl⟩
 rw [hd_kk]
 show Go p e below _ (T7.setTop (mkF m 102 #[iv p0, iv p1, iv p2, iv p3, iv p4, rv b1, lv (0 : Int64), .second, rv b1, lv (1 : Int64), .second, rv b1, lv (2 : Int64), .second, iv 1, iv kk, u_, u_, u_, u_, u_, u_, u_, u_] []))
 refine Go.step (S' := T7.setTop (mkF m 104 #[iv p0, iv p1, iv p2, iv p3, iv p4, rv b1, lv (0 : Int64), .second, rv b1, lv (1 : Int64), .second, rv b1, lv (2 : Int64), .second, iv 1, iv kk, u_, u_, u_, u_, u_, u_, u_, u_] [(.int kk)])) (fun t k => ?_) ?_
 · refine XS.iload X7.here hx rfl (hb hby at_102) rfl ?_
   exact k
 by_cases hc104 : kk = (0 : Int32)
 ·skip
  refine Go.step (S' := T7.setTop (mkF m 125 #[iv p0, iv p1, iv p2, iv p3, iv p4, rv b1, lv (0 : Int64), .second, rv b1, lv (1 : Int64), .second, rv b1, lv (2 : Int64), .second, iv 1, iv kk, iv 46, u_, u_, u_, u_, u_, u_, u_] [(.int 1), (.int kk)])) (fun t k => ?_) ?_
  · refine XS.ifNo X7.here hx rfl (hb hby at_104) rfl ((if0 _ _).trans (teq (hc104 : kk = (0 : Int32))).2) ?_
    refine XS.bipush X7.here hx rfl (hb hby at_107) ?_
    refine XS.goto X7.here hx rfl (pc0 := 109) (pc' := 120) rfl (hb hby at_109) (by decide) (by decide) ?_
    refine XS.istore X7.here hx rfl (hb hby at_120) rfl (l' := #[iv p0, iv p1, iv p2, iv p3, iv p4, rv b1, lv (0 : Int64), .second, rv b1, lv (1 : Int64), .second, rv b1, lv (2 : Int64), .second, iv 1, iv kk, iv 46, u_, u_, u_, u_, u_, u_, u_]) rfl ?_
    refine XS.iload X7.here hx rfl (hb hby at_122) rfl ?_
    refine XS.iconst X7.here hx rfl (hb hby at_124) ?_
    exact k
  by_cases hc125 : (1 : Int32) < kk
  ·skip
   exact absurd hc125 (by rw [hc104]; decide)
  ·skip
   refine Go.step (S' := T7.setTop (mkF m 138 #[iv p0, iv p1, iv p2, iv p3, iv p4, rv b1, lv (0 : Int64), .second, rv b1, lv (1 : Int64), .second, rv b1, lv (2 : Int64), .second, iv 1, iv kk, iv 46, iv 0, u_, u_, u_, u_, u_, u_] [])) (fun t k => ?_) ?_
   · refine XS.icmpNo X7.here hx rfl (hb hby at_125) rfl (flt (hc125 : ¬ ((1 : Int32) < kk))).2.2.1 ?_
     refine XS.iconst X7.here hx rfl (hb hby at_128) ?_
     refine XS.goto X7.here hx rfl (pc0 := 129) (pc' := 136) rfl (hb hby at_129) (by decide) (by decide) ?_
     refine XS.istore X7.here hx rfl (hb hby at_136) rfl (l' := #[iv p0, iv p1, iv p2, iv p3, iv p4, rv b1, lv (0 : Int64), .second, rv b1, lv (1 : Int64), .second, rv b1, lv (2 : Int64), .second, iv 1, iv kk, iv 46, iv 0, u_, u_, u_, u_, u_, u_]) rfl ?_
     exact k
   have hC : own_ok (46 : Int32) ∧ own_dg (46 : Int32) = (0 : Int32) := (by decide)
   refine Go.step (S' := T7.setTop (mkF m 147 #[iv p0, iv p1, iv p2, iv p3, iv p4, rv b1, lv (0 : Int64), .second, rv b1, lv (1 : Int64), .second, rv b1, lv (2 : Int64), .second, iv 1, iv kk, iv 46, iv 0, iv ((p2 &&& (2147483647 : Int32)) % (81 : Int32)), u_, u_, u_, u_, u_] [])) (fun t k => ?_) ?_
   · refine XS.iloadN X7.here hx rfl (hb hby at_138) rfl ?_
     refine X7.ldcInt hx hown (mvT hZ (own_w hw 31 rfl)) (g := (mkF m 139 #[iv p0, iv p1, iv p2, iv p3, iv p4, rv b1, lv (0 : Int64), .second, rv b1, lv (1 : Int64), .second, rv b1, lv (2 : Int64), .second, iv 1, iv kk, iv 46, iv 0, u_, u_, u_, u_, u_, u_] [(.int p2)])) rfl (hb hby at_139) _ ?_
     refine XS.iand X7.here hx rfl (hb hby at_141) rfl ?_
     refine XS.bipush X7.here hx rfl (hb hby at_142) ?_
     refine iremM X7 hx rfl (hb hby at_144) rfl (by decide) ?_
     refine XS.istore X7.here hx rfl (hb hby at_145) rfl (l' := #[iv p0, iv p1, iv p2, iv p3, iv p4, rv b1, lv (0 : Int64), .second, rv b1, lv (1 : Int64), .second, rv b1, lv (2 : Int64), .second, iv 1, iv kk, iv 46, iv 0, iv ((p2 &&& (2147483647 : Int32)) % (81 : Int32)), u_, u_, u_, u_, u_]) rfl ?_
     exact k
   obtain ⟨pi, hd_pi⟩ : ∃ z : Int32, ((p2 &&& (2147483647 : Int32)) % (81 : Int32)) = z := ⟨_, rfl⟩
   rw [hd_pi]
   show Go p e below _ (T7.setTop (mkF m 147 #[iv p0, iv p1, iv p2, iv p3, iv p4, rv b1, lv (0 : Int64), .second, rv b1, lv (1 : Int64), .second, rv b1, lv (2 : Int64), .second, iv 1, iv kk, iv 46, iv 0, iv pi, u_, u_, u_, u_, u_] []))
   refine Go.step (S' := T7.setTop (mkF m 155 #[iv p0, iv p1, iv p2, iv p3, iv p4, rv b1, lv (0 : Int64), .second, rv b1, lv (1 : Int64), .second, rv b1, lv (2 : Int64), .second, iv 1, iv kk, iv 46, iv 0, iv pi, iv (((p3.toUInt32 >>> ((1 : Int32) &&& 31).toUInt32).toInt32) % (81 : Int32)), u_, u_, u_, u_] [])) (fun t k => ?_) ?_
   · refine XS.iloadN X7.here hx rfl (hb hby at_147) rfl ?_
     refine XS.iconst X7.here hx rfl (hb hby at_148) ?_
     refine XS.iushr X7.here hx rfl (hb hby at_149) rfl ?_
     refine XS.bipush X7.here hx rfl (hb hby at_150) ?_
     refine iremM X7 hx rfl (hb hby at_152) rfl (by decide) ?_
     refine XS.istore X7.here hx rfl (hb hby at_153) rfl (l' := #[iv p0, iv p1, iv p2, iv p3, iv p4, rv b1, lv (0 : Int64), .second, rv b1, lv (1 : Int64), .second, rv b1, lv (2 : Int64), .second, iv 1, iv kk, iv 46, iv 0, iv pi, iv (((p3.toUInt32 >>> ((1 : Int32) &&& 31).toUInt32).toInt32) % (81 : Int32)), u_, u_, u_, u_]) rfl ?_
     exact k
   obtain ⟨qi, hd_qi⟩ : ∃ z : Int32, (((p3.toUInt32 >>> ((1 : Int32) &&& 31).toUInt32).toInt32) % (81 : Int32)) = z := ⟨_, rfl⟩
   rw [hd_qi]
   show Go p e below _ (T7.setTop (mkF m 155 #[iv p0, iv p1, iv p2, iv p3, iv p4, rv b1, lv (0 : Int64), .second, rv b1, lv (1 : Int64), .second, rv b1, lv (2 : Int64), .second, iv 1, iv kk, iv 46, iv 0, iv pi, iv qi, u_, u_, u_, u_] []))
   refine Go.step (S' := T7.setTop (mkF m 158 #[iv p0, iv p1, iv p2, iv p3, iv p4, rv b1, lv (0 : Int64), .second, rv b1, lv (1 : Int64), .second, rv b1, lv (2 : Int64), .second, iv 1, iv kk, iv 46, iv 0, iv pi, iv qi, u_, u_, u_, u_] [(.int (p3 &&& (1 : Int32)))])) (fun t k => ?_) ?_
   · refine XS.iloadN X7.here hx rfl (hb hby at_155) rfl ?_
     refine XS.iconst X7.here hx rfl (hb hby at_156) ?_
     refine XS.iand X7.here hx rfl (hb hby at_157) rfl ?_
     exact k
   by_cases hc158 : (p3 &&& (1 : Int32)) = (0 : Int32)
   ·skip
    refine Go.step (S' := T7.setTop (mkF m 170 #[iv p0, iv p1, iv p2, iv p3, iv p4, rv b1, lv (0 : Int64), .second, rv b1, lv (1 : Int64), .second, rv b1, lv (2 : Int64), .second, iv 1, iv kk, iv 46, iv 0, iv pi, iv qi, iv 46, u_, u_, u_] [])) (fun t k => ?_) ?_
    · refine XS.ifYes X7.here hx rfl (pc0 := 158) (pc' := 166) rfl (hb hby at_158) rfl ((if0 _ _).trans (teq (hc158 : (p3 &&& (1 : Int32)) = (0 : Int32))).1) (by decide) (by decide) ?_
      refine XS.bipush X7.here hx rfl (hb hby at_166) ?_
      refine XS.istore X7.here hx rfl (hb hby at_168) rfl (l' := #[iv p0, iv p1, iv p2, iv p3, iv p4, rv b1, lv (0 : Int64), .second, rv b1, lv (1 : Int64), .second, rv b1, lv (2 : Int64), .second, iv 1, iv kk, iv 46, iv 0, iv pi, iv qi, iv 46, u_, u_, u_]) rfl ?_
      exact k
    obtain ⟨hp0, hp1⟩ := own_m (by decide) 81 rfl hd_pi
    obtain ⟨hq0, hq1⟩ := own_mq hd_qi
    refine Go.step (S' := T7.setTop (mkF m 172 #[iv p0, iv p1, iv p2, iv p3, iv p4, rv b1, lv (0 : Int64), .second, rv b1, lv (1 : Int64), .second, rv b1, lv (2 : Int64), .second, iv 1, iv kk, iv 46, iv 0, iv pi, iv qi, iv 46, u_, u_, u_] [(.int 46)])) (fun t k => ?_) ?_
    · refine XS.iload X7.here hx rfl (hb hby at_170) rfl ?_
      exact k
    refine Go.cS X7 hx hml hown hZ (own_w hw 32 rfl) (own_w hw 33 rfl) (own_w hw 34 rfl) (own_w hw 35 rfl) (rmR l Z a0 hw [] (46 : Int32) T6.heap n0 O (by decide)) 0 [] pd__28C_29_5bC (hb hby at_172) e7 (fun _ T8 L8 X8 hQ8 => ?_)
    obtain ⟨rb_8, kr_8, rfl, Nq8, K8, P8_V, gr_8, sr_8⟩ := hQ8
    have N8 := Fr.app N7 Nq8
    have sz_rb_8 : h0.size ≤ rb_8 := Nat.le_trans K.1 sr_8
    have ne_b1_rb_8 : b1 ≠ rb_8 := Nat.ne_of_lt (Nat.lt_of_lt_of_le E_b1.lt sr_8)
    have ne_cb_2_rb_8 : cb_2 ≠ rb_8 := Nat.ne_of_lt (Nat.lt_of_lt_of_le E_cb_2.lt sr_8)
    have O := O.keep K8 all0
    have hk := Nat.le_trans hk K8.1
    have K := K.trans K8 all0
    have E_b1 := E_b1.keep K8
    have E_po_2 := E_po_2.keep K8
    have E_cb_2 := E_cb_2.keep K8
    have E_po_4 := E_po_4.keep K8
    have E_cb_4 := E_cb_4.keep K8
    have E_po_6 := E_po_6.keep K8
    have F_c_6 := F_c_6.keep K8 nin0
    have F_l_6 := F_l_6.keep K8 nin0
    have F_u_6 := F_u_6.keep K8 nin0
    have V_cb_6 := V_cb_6.keep K8 nin0
    have E_cb_6 := E_cb_6.keep K8
    have V_8 := P8_V
    have g_rb_8 := gr_8
    refine Go.step (S' := T8.setTop (mkF m 183 #[iv p0, iv p1, iv p2, iv p3, iv p4, rv b1, lv (0 : Int64), .second, rv b1, lv (1 : Int64), .second, rv b1, lv (2 : Int64), .second, iv 1, iv kk, iv 46, iv 0, iv pi, iv qi, iv 46, rv rb_8, u_, u_] [(.int 46), (.int pi), (.ref rb_8)])) (fun t k => ?_) ?_
    · refine XS.astore X8.here hx rfl (hb hby at_175) rfl rfl (l' := #[iv p0, iv p1, iv p2, iv p3, iv p4, rv b1, lv (0 : Int64), .second, rv b1, lv (1 : Int64), .second, rv b1, lv (2 : Int64), .second, iv 1, iv kk, iv 46, iv 0, iv pi, iv qi, iv 46, rv rb_8, u_, u_]) rfl ?_
      refine XS.aload X8.here hx rfl (hb hby at_177) rfl rfl ?_
      refine XS.iload X8.here hx rfl (hb hby at_179) rfl ?_
      refine XS.iload X8.here hx rfl (hb hby at_181) rfl ?_
      exact k
    refine Go.cst X8 hx hZ (Eq.refl T8.heap) V_8 (hb hby at_183) ⟨own_nlt hp0, own_lt81 hp1⟩ (by rw [own_cl_len]; exact own_cl81 hp0 hp1) (fun T9 h9 X9 e9 W9 V9 => ?_)
    have O := O.wr W9 g_rb_8
    have hk := Nat.le_trans hk (Keep.of_wr W9).1
    have K := K.wr W9 (Or.inr sz_rb_8)
    have E_b1 := E_b1.wr W9
    have E_po_2 := E_po_2.wr W9
    have E_cb_2 := E_cb_2.wr W9
    have E_po_4 := E_po_4.wr W9
    have E_cb_4 := E_cb_4.wr W9
    have E_po_6 := E_po_6.wr W9
    have F_c_6 := F_c_6.other W9 (Or.inl ne_b1_rb_8)
    have F_l_6 := F_l_6.other W9 (Or.inl ne_b1_rb_8)
    have F_u_6 := F_u_6.other W9 (Or.inl ne_b1_rb_8)
    have V_cb_6 := V_cb_6.other W9 ne_cb_2_rb_8
    have E_cb_6 := E_cb_6.wr W9
    have V_8 : Arv Z h9 rb_8 kr_8 .char (81 : Int32) ((own_tx (46 : Int32) (46 : Int32) pi.toNatClampNeg).map Value.int) (.int 0) := own_txA (own_narc hC.1) V9
    have N9 := Fr.snoc X9 N8 g_rb_8
    obtain ⟨T10, h10, X10, e10, E10, A10, D10, -, st10⟩ := newO X9 hx hZ hown (own_w hw 37 rfl) (own_w hw 38 rfl) (own_w hw 39 rfl) e9 (g := (mkF m 184 #[iv p0, iv p1, iv p2, iv p3, iv p4, rv b1, lv (0 : Int64), .second, rv b1, lv (1 : Int64), .second, rv b1, lv (2 : Int64), .second, iv 1, iv kk, iv 46, iv 0, iv pi, iv qi, iv 46, rv rb_8, u_, u_] [])) rfl (hb hby at_184) (by decide) (by decide)
    obtain ⟨b10, g10⟩ : ∃ z, z = Array.size h9 := ⟨_, rfl⟩
    have g_b10 : n0 ≤ b10 := Nat.le_trans (old_le O) (Nat.le_of_eq g10.symm)
    have sz_b10 : h0.size ≤ b10 := Nat.le_trans K.1 (Nat.le_of_eq g10.symm)
    have ne_b1_b10 : b1 ≠ b10 := Nat.ne_of_lt (Nat.lt_of_lt_of_le E_b1.lt (Nat.le_of_eq g10.symm))
    have ne_cb_2_b10 : cb_2 ≠ b10 := Nat.ne_of_lt (Nat.lt_of_lt_of_le E_cb_2.lt (Nat.le_of_eq g10.symm))
    have ne_rb_8_b10 : rb_8 ≠ b10 := Nat.ne_of_lt (Nat.lt_of_lt_of_le V_8.lt (Nat.le_of_eq g10.symm))
    rw [← g10] at A10 D10 st10
    have O := O.ext E10
    have hk := Nat.le_trans hk E10.1
    have K := K.ext E10
    have E_b1 := E_b1.ext E10
    have E_po_2 := E_po_2.ext E10
    have E_cb_2 := E_cb_2.ext E10
    have E_po_4 := E_po_4.ext E10
    have E_cb_4 := E_cb_4.ext E10
    have E_po_6 := E_po_6.ext E10
    have F_c_6 := F_c_6.ext E10
    have F_l_6 := F_l_6.ext E10
    have F_u_6 := F_u_6.ext E10
    have V_cb_6 := V_cb_6.ext E10
    have E_cb_6 := E_cb_6.ext E10
    have V_8 := V_8.ext E10
    have E_b10 := A10
    have F_coder_b10 : Fd_2 Z h10 b10 (.int 0) := D10 (Or.inr (own_w hw 60 rfl)) (ty := .byte) (by decide)
    have F_value_b10 : Fd_3 Z h10 b10 .null := D10 (Or.inr (own_w hw 62 rfl)) (ty := (.array .byte)) (by decide)
    refine Go.step st10 ?_
    refine Go.step (S' := T10.setTop (mkF m 190 #[iv p0, iv p1, iv p2, iv p3, iv p4, rv b1, lv (0 : Int64), .second, rv b1, lv (1 : Int64), .second, rv b1, lv (2 : Int64), .second, iv 1, iv kk, iv 46, iv 0, iv pi, iv qi, iv 46, rv rb_8, u_, u_] [(.ref rb_8), (.ref b10), (.ref b10)])) (fun t k => ?_) ?_
    · refine XS.dup X10.here hx rfl (hb hby at_187) rfl rfl ?_
      refine XS.aload X10.here hx rfl (hb hby at_188) rfl rfl ?_
      exact k
    obtain ⟨_, _, ⟨T12, L12, k12, n12⟩, -, X12, ⟨Lc12, hQ12, l12, y12, z12⟩, st12⟩ := X10.specialBack hx (y := y_23) rfl hown (mvT hZ (own_w hw 40 rfl)) (mvT hZ (own_w hw 41 rfl)) (mvT hZ (own_w hw 42 rfl)) (by decide) (StrChars.Road.backV (W := 1) hZ (own_ws hw) (kI := 4) (own_w hw 38 rfl) (cs := (own_tx (46 : Int32) (46 : Int32) pi.toNatClampNeg)) (bs := ((own_tx (46 : Int32) (46 : Int32) pi.toNatClampNeg).map (fun c => c.toInt8.toInt32))) (n := 81) (n0 := n0) g_b10 (old_le O) E_b10 F_value_b10 F_coder_b10 V_8 (S_CS.ext O.2) hcs (own_tx_len _ _ _) rfl (by decide) (by decide) (own_tx_lat (by decide) hC.1) rfl (by decide) (by decide)) (g := (mkF m 190 #[iv p0, iv p1, iv p2, iv p3, iv p4, rv b1, lv (0 : Int64), .second, rv b1, lv (1 : Int64), .second, rv b1, lv (2 : Int64), .second, iv 1, iv kk, iv 46, iv 0, iv pi, iv qi, iv 46, rv rb_8, u_, u_] [(.ref rb_8), (.ref b10), (.ref b10)])) rfl (by rw [hml]; rfl) (Steps.refl _) (a := b10) (argsL := [(.ref rb_8)]) (rest := [(.ref b10)]) (lenOf pd__28_5bC_29V rfl) rfl (Nat.le_of_eq rfl) (hb hby at_190) (fun _ _ => ⟨rfl, e10, (by decide : 4 + 1 ≤ _), (by decide : 169 + 81 ≤ _)⟩)
    dsimp only [Pt.U, Pt.locs, Pt.cells, Pt.slots] at X12 l12 y12 z12 st12 hQ12
    subst l12 y12 z12
    obtain ⟨rfl, Nq12, K12, PE, PC, tb_, kb_, gtb, stb, ntb, PV, PA⟩ := hQ12
    have N12 := Fr.app N9 Nq12
    have O := O.keep K12 (allS g_b10 all0)
    have hk := Nat.le_trans hk K12.1
    have K := K.trans K12 (allS (Or.inr sz_b10) all0)
    have E_b1 := E_b1.keep K12
    have E_po_2 := E_po_2.keep K12
    have E_cb_2 := E_cb_2.keep K12
    have E_po_4 := E_po_4.keep K12
    have E_cb_4 := E_cb_4.keep K12
    have E_po_6 := E_po_6.keep K12
    have F_c_6 := F_c_6.keep K12 (ninS ne_b1_b10 nin0)
    have F_l_6 := F_l_6.keep K12 (ninS ne_b1_b10 nin0)
    have F_u_6 := F_u_6.keep K12 (ninS ne_b1_b10 nin0)
    have V_cb_6 := V_cb_6.keep K12 (ninS ne_cb_2_b10 nin0)
    have E_cb_6 := E_cb_6.keep K12
    have V_8 := V_8.keep K12 (ninS ne_rb_8_b10 nin0)
    have E_b10 := E_b10.keep K12
    have E_so := PE
    have F_value_so := PV
    have F_coder_so := PC
    have V_tb := PA
    refine Go.step (fun t k => st12.trans k) ?_
    obtain ⟨_, _, ⟨T13, L13, k13, n13⟩, -, X13, hS13, hgr13, ⟨Lc13, hQ13, l13, y13, z13⟩, st13⟩ := callSS X12 hx (y := y_19) hown (mvT hZ (own_w hw 63 rfl)) (mvT hZ (own_w hw 64 rfl)) (mvT hZ (own_w hw 65 rfl)) (mvT hZ (own_w hw 66 rfl)) (by decide) (backOfS (W := 0) (rmPa l Z a0 hw [] b10 tb_ kb_ (((own_tx (46 : Int32) (46 : Int32) pi.toNatClampNeg).map (fun c => c.toInt8.toInt32)).map Value.int) cs sf (fun z => ((own_xf (46 : Int32) (46 : Int32) pi.toNatClampNeg) z).toInt8.toInt32) (own_xf (46 : Int32) (46 : Int32) pi.toNatClampNeg) pi.toNatClampNeg T12.heap n0 O S_CS E_so F_value_so F_coder_so V_tb S_FM hcs hsf (own_hxs (by decide) hC.1) (own_hpp (by decide))) hZ (own_w hw 66 rfl) (own_w hw 65 rfl) (by decide) (by decide)) (g := (mkF m 193 #[iv p0, iv p1, iv p2, iv p3, iv p4, rv b1, lv (0 : Int64), .second, rv b1, lv (1 : Int64), .second, rv b1, lv (2 : Int64), .second, iv 1, iv kk, iv 46, iv 0, iv pi, iv qi, iv 46, rv rb_8, u_, u_] [(.ref b10)])) rfl (by rw [hml]; rfl) (argsL := [(.ref b10)]) (rest := []) (lenOf pd__28Ljava_2flang_2fCharSequence_3b_29Lorg_2fninefold_2fmodel_2fGrid_3b rfl) rfl (Nat.le_of_eq rfl) (hb hby at_193) (fun _ _ => ⟨rfl, (Eq.refl T12.heap), (by decide : 5 + 9 ≤ _), (by decide : 250 + 281 ≤ _)⟩)
    dsimp only [Pt.U, Pt.locs, Pt.cells, Pt.slots] at X13 l13 y13 z13 st13 hQ13 hS13 hgr13
    subst l13 y13 z13
    have hS := foldS hS (by exact hk) hS13 hgr13
    have hown : (s.setVm T13.vm).vm.findClass "org/ninefold/model/PuzzleTextAppendPinLaw" = some m.cls := by show T13.vm.findClass _ = _; rw [hS13.1.alike.findClass]; exact hown
    have hZ : Z.Warmed39 (s.setVm T13.vm).vm := State.Warmed39.trans hZ hS13.1
    have X13 : Stand p l e room_1 (s.setVm T13.vm) m #[(.int p0), (.int p1), (.int p2), (.int p3), (.int p4)] below meth c T13 _ _ _ := X13
    obtain ⟨gb_13, db_13, kd_13, rfl, Nq13, K13, P13_E, P13_F, P13_V⟩ := hQ13
    have N13 := Fr.app N12 Nq13
    have O := O.keep K13 all0
    have K := K.trans K13 all0
    have E_b1 := E_b1.keep K13
    have E_po_2 := E_po_2.keep K13
    have E_cb_2 := E_cb_2.keep K13
    have E_po_4 := E_po_4.keep K13
    have E_cb_4 := E_cb_4.keep K13
    have E_po_6 := E_po_6.keep K13
    have F_c_6 := F_c_6.keep K13 nin0
    have F_l_6 := F_l_6.keep K13 nin0
    have F_u_6 := F_u_6.keep K13 nin0
    have V_cb_6 := V_cb_6.keep K13 nin0
    have E_cb_6 := E_cb_6.keep K13
    have V_8 := V_8.keep K13 nin0
    have E_so := E_so.keep K13
    have F_value_so := F_value_so.keep K13 nin0
    have F_coder_so := F_coder_so.keep K13 nin0
    have V_tb := V_tb.keep K13 nin0
    have E_13 := P13_E
    have F_13 := P13_F
    have V_13 := P13_V
    have hk : T13.heap.size ≤ (T13.heap).size := Nat.le_refl _
    refine Go.step (fun t k => st13.trans k) ?_
    refine Go.step (S' := T13.setTop (mkF m 202 #[iv p0, iv p1, iv p2, iv p3, iv p4, rv b1, lv (0 : Int64), .second, rv b1, lv (1 : Int64), .second, rv b1, lv (2 : Int64), .second, iv 1, iv kk, iv 46, iv 0, iv pi, iv qi, iv 46, rv rb_8, rv gb_13, u_] [(.int pi), (.int qi)])) (fun t k => ?_) ?_
    · refine XS.astore X13.here hx rfl (hb hby at_196) rfl rfl (l' := #[iv p0, iv p1, iv p2, iv p3, iv p4, rv b1, lv (0 : Int64), .second, rv b1, lv (1 : Int64), .second, rv b1, lv (2 : Int64), .second, iv 1, iv kk, iv 46, iv 0, iv pi, iv qi, iv 46, rv rb_8, rv gb_13, u_]) rfl ?_
      refine XS.iload X13.here hx rfl (hb hby at_198) rfl ?_
      refine XS.iload X13.here hx rfl (hb hby at_200) rfl ?_
      exact k
    by_cases hc202 : qi = pi
    ·skip
     refine Go.step (S' := T13.setTop (mkF m 222 #[iv p0, iv p1, iv p2, iv p3, iv p4, rv b1, lv (0 : Int64), .second, rv b1, lv (1 : Int64), .second, rv b1, lv (2 : Int64), .second, iv 1, iv kk, iv 46, iv 0, iv pi, iv qi, iv 46, rv rb_8, rv gb_13, iv 0] [(.int pi), (.ref gb_13)])) (fun t k => ?_) ?_
     · refine XS.icmpNo X13.here hx rfl (hb hby at_202) rfl (teq (hc202 : qi = pi)).2 ?_
       refine XS.iload X13.here hx rfl (hb hby at_205) rfl ?_
       refine XS.goto X13.here hx rfl (pc0 := 207) (pc' := 211) rfl (hb hby at_207) (by decide) (by decide) ?_
       refine XS.istore X13.here hx rfl (hb hby at_211) rfl (l' := #[iv p0, iv p1, iv p2, iv p3, iv p4, rv b1, lv (0 : Int64), .second, rv b1, lv (1 : Int64), .second, rv b1, lv (2 : Int64), .second, iv 1, iv kk, iv 46, iv 0, iv pi, iv qi, iv 46, rv rb_8, rv gb_13, iv 0]) rfl ?_
       refine XS.iload X13.here hx rfl (hb hby at_213) rfl ?_
       refine XS.ifNo X13.here hx rfl (hb hby at_215) rfl ((if0 _ _).trans (feq ((by decide) : ¬ ((1 : Int32) = (0 : Int32)))).1) ?_
       show Steps p.tables e below (T13.setTop (mkF m 218 #[iv p0, iv p1, iv p2, iv p3, iv p4, rv b1, lv (0 : Int64), .second, rv b1, lv (1 : Int64), .second, rv b1, lv (2 : Int64), .second, iv 1, iv kk, iv 46, iv 0, iv pi, iv qi, iv 46, rv rb_8, rv gb_13, iv 0] [])) _
       refine XS.aload X13.here hx rfl (hb hby at_218) rfl rfl ?_
       refine XS.iload X13.here hx rfl (hb hby at_220) rfl ?_
       exact k
     refine Go.cV X13 hx hml hown hZ (own_w hw 151 rfl) (own_w hw 152 rfl) (own_w hw 154 rfl) (own_w hw 153 rfl) (own_w hw 65 rfl) (own_w hw 155 rfl) E_13 (rmGD l Z a0 hw [] gb_13 pi db_13 kd_13 (own_cl (fun zj => own_dg ((own_xf (46 : Int32) (46 : Int32) pi.toNatClampNeg) zj)) 81) (0 : Int32) T13.heap n0 O F_13 V_13 (own_dvp hp0 hp1 hC.2) (own_nlt hp0) (own_lt81 hp1)) 0 [] pd__28I_29I (hb hby at_222) (Eq.refl T13.heap) (fun _ T14 L14 X14 hQ14 => ?_)
     obtain ⟨rfl, Nq14, e14⟩ := hQ14
     have N14 := Fr.app N13 Nq14
     refine Go.step (S' := T14.setTop (mkF m 234 #[iv p0, iv p1, iv p2, iv p3, iv p4, rv b1, lv (0 : Int64), .second, rv b1, lv (1 : Int64), .second, rv b1, lv (2 : Int64), .second, iv 1, iv kk, iv 46, iv 0, iv pi, iv qi, iv 46, rv rb_8, rv gb_13, iv 0] [(.int qi), (.ref gb_13)])) (fun t k => ?_) ?_
     · refine XS.iload X14.here hx rfl (hb hby at_225) rfl ?_
       refine XS.icmpNo X14.here hx rfl (hb hby at_227) rfl (teq ((by decide) : (0 : Int32) = (0 : Int32))).2 ?_
       refine XS.aload X14.here hx rfl (hb hby at_230) rfl rfl ?_
       refine XS.iload X14.here hx rfl (hb hby at_232) rfl ?_
       exact k
     refine Go.cV X14 hx hml hown hZ (own_w hw 151 rfl) (own_w hw 152 rfl) (own_w hw 154 rfl) (own_w hw 153 rfl) (own_w hw 65 rfl) (own_w hw 155 rfl) E_13 (rmGD l Z a0 hw [] gb_13 qi db_13 kd_13 (own_cl (fun zj => own_dg ((own_xf (46 : Int32) (46 : Int32) pi.toNatClampNeg) zj)) 81) (0 : Int32) T13.heap n0 O F_13 V_13 (by rw [hc202]; exact own_dvp hp0 hp1 hC.2) (own_nlt hq0) (own_lt81 hq1)) 0 [] pd__28I_29I (hb hby at_234) e14 (fun _ T15 L15 X15 hQ15 => ?_)
     obtain ⟨rfl, Nq15, e15⟩ := hQ15
     have N15 := Fr.app N14 Nq15
     refine Go.step (S' := T15.setTop (mkF m 247 #[iv p0, iv p1, iv p2, iv p3, iv p4, rv b1, lv (0 : Int64), .second, rv b1, lv (1 : Int64), .second, rv b1, lv (2 : Int64), .second, iv 1, iv kk, iv 46, iv 0, iv pi, iv qi, iv 46, rv rb_8, rv gb_13, iv 0] [(.int 1)])) (fun t k => ?_) ?_
     · refine XS.iload X15.here hx rfl (hb hby at_237) rfl ?_
       refine XS.icmpNo X15.here hx rfl (hb hby at_239) rfl (teq ((by decide) : (0 : Int32) = (0 : Int32))).2 ?_
       refine XS.iconst X15.here hx rfl (hb hby at_242) ?_
       refine XS.goto X15.here hx rfl (pc0 := 243) (pc' := 247) rfl (hb hby at_243) (by decide) (by decide) ?_
       exact k
     obtain ⟨fs, hr, hrun, hended, hR⟩ := X15.leaveW hS (by rw [e15]; exact hk) (v := some (.int 1)) (fun h => by rw [Bd.returns] at h; cases h)
     refine Go.fin (S' := T15.setFrames fs) ?_ hrun hended ⟨_, _, rfl, ?_, hR.1, hR.2.1, hR.2.2.1, hR.2.2.2.mono (by decide) (by decide)⟩
     · exact retOut X15 hx Bd.returns (by decide) (Or.inl ⟨rfl, Or.inr (Or.inl rfl), _, rfl⟩) (hb hby at_247) hr
     · show Q_rm0 Z p0 p1 p2 p3 p4 cs sf h0 n0 (some (.int 1)) T15.heap _
       rw [e15]
       exact ⟨rfl, N15, K⟩
    ·skip
     refine Go.step (S' := T13.setTop (mkF m 222 #[iv p0, iv p1, iv p2, iv p3, iv p4, rv b1, lv (0 : Int64), .second, rv b1, lv (1 : Int64), .second, rv b1, lv (2 : Int64), .second, iv 1, iv kk, iv 46, iv 0, iv pi, iv qi, iv 46, rv rb_8, rv gb_13, iv 0] [(.int pi), (.ref gb_13)])) (fun t k => ?_) ?_
     · refine XS.icmpYes X13.here hx rfl (pc0 := 202) (pc' := 210) rfl (hb hby at_202) rfl (feq (hc202 : ¬ (qi = pi))).2 (by decide) (by decide) ?_
       refine XS.iconst X13.here hx rfl (hb hby at_210) ?_
       refine XS.istore X13.here hx rfl (hb hby at_211) rfl (l' := #[iv p0, iv p1, iv p2, iv p3, iv p4, rv b1, lv (0 : Int64), .second, rv b1, lv (1 : Int64), .second, rv b1, lv (2 : Int64), .second, iv 1, iv kk, iv 46, iv 0, iv pi, iv qi, iv 46, rv rb_8, rv gb_13, iv 0]) rfl ?_
       refine XS.iload X13.here hx rfl (hb hby at_213) rfl ?_
       refine XS.ifNo X13.here hx rfl (hb hby at_215) rfl ((if0 _ _).trans (feq ((by decide) : ¬ ((1 : Int32) = (0 : Int32)))).1) ?_
       refine XS.aload X13.here hx rfl (hb hby at_218) rfl rfl ?_
       show Steps p.tables e below (T13.setTop (mkF m 220 #[iv p0, iv p1, iv p2, iv p3, iv p4, rv b1, lv (0 : Int64), .second, rv b1, lv (1 : Int64), .second, rv b1, lv (2 : Int64), .second, iv 1, iv kk, iv 46, iv 0, iv pi, iv qi, iv 46, rv rb_8, rv gb_13, iv 0] [(.ref gb_13)])) _
       refine XS.iload X13.here hx rfl (hb hby at_220) rfl ?_
       exact k
     refine Go.cV X13 hx hml hown hZ (own_w hw 151 rfl) (own_w hw 152 rfl) (own_w hw 154 rfl) (own_w hw 153 rfl) (own_w hw 65 rfl) (own_w hw 155 rfl) E_13 (rmGD l Z a0 hw [] gb_13 pi db_13 kd_13 (own_cl (fun zj => own_dg ((own_xf (46 : Int32) (46 : Int32) pi.toNatClampNeg) zj)) 81) (0 : Int32) T13.heap n0 O F_13 V_13 (own_dvp hp0 hp1 hC.2) (own_nlt hp0) (own_lt81 hp1)) 0 [] pd__28I_29I (hb hby at_222) (Eq.refl T13.heap) (fun _ T16 L16 X16 hQ16 => ?_)
     obtain ⟨rfl, Nq16, e16⟩ := hQ16
     have N16 := Fr.app N13 Nq16
     refine Go.step (S' := T16.setTop (mkF m 234 #[iv p0, iv p1, iv p2, iv p3, iv p4, rv b1, lv (0 : Int64), .second, rv b1, lv (1 : Int64), .second, rv b1, lv (2 : Int64), .second, iv 1, iv kk, iv 46, iv 0, iv pi, iv qi, iv 46, rv rb_8, rv gb_13, iv 0] [(.int qi), (.ref gb_13)])) (fun t k => ?_) ?_
     · refine XS.iload X16.here hx rfl (hb hby at_225) rfl ?_
       refine XS.icmpNo X16.here hx rfl (hb hby at_227) rfl (teq ((by decide) : (0 : Int32) = (0 : Int32))).2 ?_
       refine XS.aload X16.here hx rfl (hb hby at_230) rfl rfl ?_
       refine XS.iload X16.here hx rfl (hb hby at_232) rfl ?_
       exact k
     refine Go.cV X16 hx hml hown hZ (own_w hw 151 rfl) (own_w hw 152 rfl) (own_w hw 154 rfl) (own_w hw 153 rfl) (own_w hw 65 rfl) (own_w hw 155 rfl) E_13 (rmGD l Z a0 hw [] gb_13 qi db_13 kd_13 (own_cl (fun zj => own_dg ((own_xf (46 : Int32) (46 : Int32) pi.toNatClampNeg) zj)) 81) (0 : Int32) T13.heap n0 O F_13 V_13 (own_dvq hp0 hq0 hq1 hc202 (by decide)) (own_nlt hq0) (own_lt81 hq1)) 0 [] pd__28I_29I (hb hby at_234) e16 (fun _ T17 L17 X17 hQ17 => ?_)
     obtain ⟨rfl, Nq17, e17⟩ := hQ17
     have N17 := Fr.app N16 Nq17
     refine Go.step (S' := T17.setTop (mkF m 247 #[iv p0, iv p1, iv p2, iv p3, iv p4, rv b1, lv (0 : Int64), .second, rv b1, lv (1 : Int64), .second, rv b1, lv (2 : Int64), .second, iv 1, iv kk, iv 46, iv 0, iv pi, iv qi, iv 46, rv rb_8, rv gb_13, iv 0] [(.int 1)])) (fun t k => ?_) ?_
     · refine XS.iload X17.here hx rfl (hb hby at_237) rfl ?_
       refine XS.icmpNo X17.here hx rfl (hb hby at_239) rfl (teq ((by decide) : (0 : Int32) = (0 : Int32))).2 ?_
       refine XS.iconst X17.here hx rfl (hb hby at_242) ?_
       refine XS.goto X17.here hx rfl (pc0 := 243) (pc' := 247) rfl (hb hby at_243) (by decide) (by decide) ?_
       exact k
     obtain ⟨fs, hr, hrun, hended, hR⟩ := X17.leaveW hS (by rw [e17]; exact hk) (v := some (.int 1)) (fun h => by rw [Bd.returns] at h; cases h)
     refine Go.fin (S' := T17.setFrames fs) ?_ hrun hended ⟨_, _, rfl, ?_, hR.1, hR.2.1, hR.2.2.1, hR.2.2.2.mono (by decide) (by decide)⟩
     · exact retOut X17 hx Bd.returns (by decide) (Or.inl ⟨rfl, Or.inr (Or.inl rfl), _, rfl⟩) (hb hby at_247) hr
     · show Q_rm0 Z p0 p1 p2 p3 p4 cs sf h0 n0 (some (.int 1)) T17.heap _
       rw [e17]
       exact ⟨rfl, N17, K⟩
   ·skip
    refine Go.step (S' := T7.setTop (mkF m 170 #[iv p0, iv p1, iv p2, iv p3, iv p4, rv b1, lv (0 : Int64), .second, rv b1, lv (1 : Int64), .second, rv b1, lv (2 : Int64), .second, iv 1, iv kk, iv 46, iv 0, iv pi, iv qi, iv 48, u_, u_, u_] [])) (fun t k => ?_) ?_
    · refine XS.ifNo X7.here hx rfl (hb hby at_158) rfl ((if0 _ _).trans (feq (hc158 : ¬ ((p3 &&& (1 : Int32)) = (0 : Int32)))).1) ?_
      refine XS.bipush X7.here hx rfl (hb hby at_161) ?_
      refine XS.goto X7.here hx rfl (pc0 := 163) (pc' := 168) rfl (hb hby at_163) (by decide) (by decide) ?_
      refine XS.istore X7.here hx rfl (hb hby at_168) rfl (l' := #[iv p0, iv p1, iv p2, iv p3, iv p4, rv b1, lv (0 : Int64), .second, rv b1, lv (1 : Int64), .second, rv b1, lv (2 : Int64), .second, iv 1, iv kk, iv 46, iv 0, iv pi, iv qi, iv 48, u_, u_, u_]) rfl ?_
      exact k
    obtain ⟨hp0, hp1⟩ := own_m (by decide) 81 rfl hd_pi
    obtain ⟨hq0, hq1⟩ := own_mq hd_qi
    refine Go.step (S' := T7.setTop (mkF m 172 #[iv p0, iv p1, iv p2, iv p3, iv p4, rv b1, lv (0 : Int64), .second, rv b1, lv (1 : Int64), .second, rv b1, lv (2 : Int64), .second, iv 1, iv kk, iv 46, iv 0, iv pi, iv qi, iv 48, u_, u_, u_] [(.int 48)])) (fun t k => ?_) ?_
    · refine XS.iload X7.here hx rfl (hb hby at_170) rfl ?_
      exact k
    refine Go.cS X7 hx hml hown hZ (own_w hw 32 rfl) (own_w hw 33 rfl) (own_w hw 34 rfl) (own_w hw 35 rfl) (rmR l Z a0 hw [] (48 : Int32) T6.heap n0 O (by decide)) 0 [] pd__28C_29_5bC (hb hby at_172) e7 (fun _ T18 L18 X18 hQ18 => ?_)
    obtain ⟨rb_18, kr_18, rfl, Nq18, K18, P18_V, gr_18, sr_18⟩ := hQ18
    have N18 := Fr.app N7 Nq18
    have sz_rb_18 : h0.size ≤ rb_18 := Nat.le_trans K.1 sr_18
    have ne_b1_rb_18 : b1 ≠ rb_18 := Nat.ne_of_lt (Nat.lt_of_lt_of_le E_b1.lt sr_18)
    have ne_cb_2_rb_18 : cb_2 ≠ rb_18 := Nat.ne_of_lt (Nat.lt_of_lt_of_le E_cb_2.lt sr_18)
    have O := O.keep K18 all0
    have hk := Nat.le_trans hk K18.1
    have K := K.trans K18 all0
    have E_b1 := E_b1.keep K18
    have E_po_2 := E_po_2.keep K18
    have E_cb_2 := E_cb_2.keep K18
    have E_po_4 := E_po_4.keep K18
    have E_cb_4 := E_cb_4.keep K18
    have E_po_6 := E_po_6.keep K18
    have F_c_6 := F_c_6.keep K18 nin0
    have F_l_6 := F_l_6.keep K18 nin0
    have F_u_6 := F_u_6.keep K18 nin0
    have V_cb_6 := V_cb_6.keep K18 nin0
    have E_cb_6 := E_cb_6.keep K18
    have V_18 := P18_V
    have g_rb_18 := gr_18
    refine Go.step (S' := T18.setTop (mkF m 183 #[iv p0, iv p1, iv p2, iv p3, iv p4, rv b1, lv (0 : Int64), .second, rv b1, lv (1 : Int64), .second, rv b1, lv (2 : Int64), .second, iv 1, iv kk, iv 46, iv 0, iv pi, iv qi, iv 48, rv rb_18, u_, u_] [(.int 46), (.int pi), (.ref rb_18)])) (fun t k => ?_) ?_
    · refine XS.astore X18.here hx rfl (hb hby at_175) rfl rfl (l' := #[iv p0, iv p1, iv p2, iv p3, iv p4, rv b1, lv (0 : Int64), .second, rv b1, lv (1 : Int64), .second, rv b1, lv (2 : Int64), .second, iv 1, iv kk, iv 46, iv 0, iv pi, iv qi, iv 48, rv rb_18, u_, u_]) rfl ?_
      refine XS.aload X18.here hx rfl (hb hby at_177) rfl rfl ?_
      refine XS.iload X18.here hx rfl (hb hby at_179) rfl ?_
      refine XS.iload X18.here hx rfl (hb hby at_181) rfl ?_
      exact k
    refine Go.cst X18 hx hZ (Eq.refl T18.heap) V_18 (hb hby at_183) ⟨own_nlt hp0, own_lt81 hp1⟩ (by rw [own_cl_len]; exact own_cl81 hp0 hp1) (fun T19 h19 X19 e19 W19 V19 => ?_)
    have O := O.wr W19 g_rb_18
    have hk := Nat.le_trans hk (Keep.of_wr W19).1
    have K := K.wr W19 (Or.inr sz_rb_18)
    have E_b1 := E_b1.wr W19
    have E_po_2 := E_po_2.wr W19
    have E_cb_2 := E_cb_2.wr W19
    have E_po_4 := E_po_4.wr W19
    have E_cb_4 := E_cb_4.wr W19
    have E_po_6 := E_po_6.wr W19
    have F_c_6 := F_c_6.other W19 (Or.inl ne_b1_rb_18)
    have F_l_6 := F_l_6.other W19 (Or.inl ne_b1_rb_18)
    have F_u_6 := F_u_6.other W19 (Or.inl ne_b1_rb_18)
    have V_cb_6 := V_cb_6.other W19 ne_cb_2_rb_18
    have E_cb_6 := E_cb_6.wr W19
    have V_18 : Arv Z h19 rb_18 kr_18 .char (81 : Int32) ((own_tx (48 : Int32) (46 : Int32) pi.toNatClampNeg).map Value.int) (.int 0) := own_txA (own_narc hC.1) V19
    have N19 := Fr.snoc X19 N18 g_rb_18
    obtain ⟨T20, h20, X20, e20, E20, A20, D20, -, st20⟩ := newO X19 hx hZ hown (own_w hw 37 rfl) (own_w hw 38 rfl) (own_w hw 39 rfl) e19 (g := (mkF m 184 #[iv p0, iv p1, iv p2, iv p3, iv p4, rv b1, lv (0 : Int64), .second, rv b1, lv (1 : Int64), .second, rv b1, lv (2 : Int64), .second, iv 1, iv kk, iv 46, iv 0, iv pi, iv qi, iv 48, rv rb_18, u_, u_] [])) rfl (hb hby at_184) (by decide) (by decide)
    obtain ⟨b20, g20⟩ : ∃ z, z = Array.size h19 := ⟨_, rfl⟩
    have g_b20 : n0 ≤ b20 := Nat.le_trans (old_le O) (Nat.le_of_eq g20.symm)
    have sz_b20 : h0.size ≤ b20 := Nat.le_trans K.1 (Nat.le_of_eq g20.symm)
    have ne_b1_b20 : b1 ≠ b20 := Nat.ne_of_lt (Nat.lt_of_lt_of_le E_b1.lt (Nat.le_of_eq g20.symm))
    have ne_cb_2_b20 : cb_2 ≠ b20 := Nat.ne_of_lt (Nat.lt_of_lt_of_le E_cb_2.lt (Nat.le_of_eq g20.symm))
    have ne_rb_18_b20 : rb_18 ≠ b20 := Nat.ne_of_lt (Nat.lt_of_lt_of_le V_18.lt (Nat.le_of_eq g20.symm))
    rw [← g20] at A20 D20 st20
    have O := O.ext E20
    have hk := Nat.le_trans hk E20.1
    have K := K.ext E20
    have E_b1 := E_b1.ext E20
    have E_po_2 := E_po_2.ext E20
    have E_cb_2 := E_cb_2.ext E20
    have E_po_4 := E_po_4.ext E20
    have E_cb_4 := E_cb_4.ext E20
    have E_po_6 := E_po_6.ext E20
    have F_c_6 := F_c_6.ext E20
    have F_l_6 := F_l_6.ext E20
    have F_u_6 := F_u_6.ext E20
    have V_cb_6 := V_cb_6.ext E20
    have E_cb_6 := E_cb_6.ext E20
    have V_18 := V_18.ext E20
    have E_b20 := A20
    have F_coder_b20 : Fd_2 Z h20 b20 (.int 0) := D20 (Or.inr (own_w hw 60 rfl)) (ty := .byte) (by decide)
    have F_value_b20 : Fd_3 Z h20 b20 .null := D20 (Or.inr (own_w hw 62 rfl)) (ty := (.array .byte)) (by decide)
    refine Go.step st20 ?_
    refine Go.step (S' := T20.setTop (mkF m 190 #[iv p0, iv p1, iv p2, iv p3, iv p4, rv b1, lv (0 : Int64), .second, rv b1, lv (1 : Int64), .second, rv b1, lv (2 : Int64), .second, iv 1, iv kk, iv 46, iv 0, iv pi, iv qi, iv 48, rv rb_18, u_, u_] [(.ref rb_18), (.ref b20), (.ref b20)])) (fun t k => ?_) ?_
    · refine XS.dup X20.here hx rfl (hb hby at_187) rfl rfl ?_
      refine XS.aload X20.here hx rfl (hb hby at_188) rfl rfl ?_
      exact k
    obtain ⟨_, _, ⟨T22, L22, k22, n22⟩, -, X22, ⟨Lc22, hQ22, l22, y22, z22⟩, st22⟩ := X20.specialBack hx (y := y_23) rfl hown (mvT hZ (own_w hw 40 rfl)) (mvT hZ (own_w hw 41 rfl)) (mvT hZ (own_w hw 42 rfl)) (by decide) (StrChars.Road.backV (W := 1) hZ (own_ws hw) (kI := 4) (own_w hw 38 rfl) (cs := (own_tx (48 : Int32) (46 : Int32) pi.toNatClampNeg)) (bs := ((own_tx (48 : Int32) (46 : Int32) pi.toNatClampNeg).map (fun c => c.toInt8.toInt32))) (n := 81) (n0 := n0) g_b20 (old_le O) E_b20 F_value_b20 F_coder_b20 V_18 (S_CS.ext O.2) hcs (own_tx_len _ _ _) rfl (by decide) (by decide) (own_tx_lat (by decide) hC.1) rfl (by decide) (by decide)) (g := (mkF m 190 #[iv p0, iv p1, iv p2, iv p3, iv p4, rv b1, lv (0 : Int64), .second, rv b1, lv (1 : Int64), .second, rv b1, lv (2 : Int64), .second, iv 1, iv kk, iv 46, iv 0, iv pi, iv qi, iv 48, rv rb_18, u_, u_] [(.ref rb_18), (.ref b20), (.ref b20)])) rfl (by rw [hml]; rfl) (Steps.refl _) (a := b20) (argsL := [(.ref rb_18)]) (rest := [(.ref b20)]) (lenOf pd__28_5bC_29V rfl) rfl (Nat.le_of_eq rfl) (hb hby at_190) (fun _ _ => ⟨rfl, e20, (by decide : 4 + 1 ≤ _), (by decide : 169 + 81 ≤ _)⟩)
    dsimp only [Pt.U, Pt.locs, Pt.cells, Pt.slots] at X22 l22 y22 z22 st22 hQ22
    subst l22 y22 z22
    obtain ⟨rfl, Nq22, K22, PE, PC, tb_, kb_, gtb, stb, ntb, PV, PA⟩ := hQ22
    have N22 := Fr.app N19 Nq22
    have O := O.keep K22 (allS g_b20 all0)
    have hk := Nat.le_trans hk K22.1
    have K := K.trans K22 (allS (Or.inr sz_b20) all0)
    have E_b1 := E_b1.keep K22
    have E_po_2 := E_po_2.keep K22
    have E_cb_2 := E_cb_2.keep K22
    have E_po_4 := E_po_4.keep K22
    have E_cb_4 := E_cb_4.keep K22
    have E_po_6 := E_po_6.keep K22
    have F_c_6 := F_c_6.keep K22 (ninS ne_b1_b20 nin0)
    have F_l_6 := F_l_6.keep K22 (ninS ne_b1_b20 nin0)
    have F_u_6 := F_u_6.keep K22 (ninS ne_b1_b20 nin0)
    have V_cb_6 := V_cb_6.keep K22 (ninS ne_cb_2_b20 nin0)
    have E_cb_6 := E_cb_6.keep K22
    have V_18 := V_18.keep K22 (ninS ne_rb_18_b20 nin0)
    have E_b20 := E_b20.keep K22
    have E_so := PE
    have F_value_so := PV
    have F_coder_so := PC
    have V_tb := PA
    refine Go.step (fun t k => st22.trans k) ?_
    obtain ⟨_, _, ⟨T23, L23, k23, n23⟩, -, X23, hS23, hgr23, ⟨Lc23, hQ23, l23, y23, z23⟩, st23⟩ := callSS X22 hx (y := y_19) hown (mvT hZ (own_w hw 63 rfl)) (mvT hZ (own_w hw 64 rfl)) (mvT hZ (own_w hw 65 rfl)) (mvT hZ (own_w hw 66 rfl)) (by decide) (backOfS (W := 0) (rmPa l Z a0 hw [] b20 tb_ kb_ (((own_tx (48 : Int32) (46 : Int32) pi.toNatClampNeg).map (fun c => c.toInt8.toInt32)).map Value.int) cs sf (fun z => ((own_xf (48 : Int32) (46 : Int32) pi.toNatClampNeg) z).toInt8.toInt32) (own_xf (48 : Int32) (46 : Int32) pi.toNatClampNeg) pi.toNatClampNeg T22.heap n0 O S_CS E_so F_value_so F_coder_so V_tb S_FM hcs hsf (own_hxs (by decide) hC.1) (own_hpp (by decide))) hZ (own_w hw 66 rfl) (own_w hw 65 rfl) (by decide) (by decide)) (g := (mkF m 193 #[iv p0, iv p1, iv p2, iv p3, iv p4, rv b1, lv (0 : Int64), .second, rv b1, lv (1 : Int64), .second, rv b1, lv (2 : Int64), .second, iv 1, iv kk, iv 46, iv 0, iv pi, iv qi, iv 48, rv rb_18, u_, u_] [(.ref b20)])) rfl (by rw [hml]; rfl) (argsL := [(.ref b20)]) (rest := []) (lenOf pd__28Ljava_2flang_2fCharSequence_3b_29Lorg_2fninefold_2fmodel_2fGrid_3b rfl) rfl (Nat.le_of_eq rfl) (hb hby at_193) (fun _ _ => ⟨rfl, (Eq.refl T22.heap), (by decide : 5 + 9 ≤ _), (by decide : 250 + 281 ≤ _)⟩)
    dsimp only [Pt.U, Pt.locs, Pt.cells, Pt.slots] at X23 l23 y23 z23 st23 hQ23 hS23 hgr23
    subst l23 y23 z23
    have hS := foldS hS (by exact hk) hS23 hgr23
    have hown : (s.setVm T23.vm).vm.findClass "org/ninefold/model/PuzzleTextAppendPinLaw" = some m.cls := by show T23.vm.findClass _ = _; rw [hS23.1.alike.findClass]; exact hown
    have hZ : Z.Warmed39 (s.setVm T23.vm).vm := State.Warmed39.trans hZ hS23.1
    have X23 : Stand p l e room_1 (s.setVm T23.vm) m #[(.int p0), (.int p1), (.int p2), (.int p3), (.int p4)] below meth c T23 _ _ _ := X23
    obtain ⟨gb_23, db_23, kd_23, rfl, Nq23, K23, P23_E, P23_F, P23_V⟩ := hQ23
    have N23 := Fr.app N22 Nq23
    have O := O.keep K23 all0
    have K := K.trans K23 all0
    have E_b1 := E_b1.keep K23
    have E_po_2 := E_po_2.keep K23
    have E_cb_2 := E_cb_2.keep K23
    have E_po_4 := E_po_4.keep K23
    have E_cb_4 := E_cb_4.keep K23
    have E_po_6 := E_po_6.keep K23
    have F_c_6 := F_c_6.keep K23 nin0
    have F_l_6 := F_l_6.keep K23 nin0
    have F_u_6 := F_u_6.keep K23 nin0
    have V_cb_6 := V_cb_6.keep K23 nin0
    have E_cb_6 := E_cb_6.keep K23
    have V_18 := V_18.keep K23 nin0
    have E_so := E_so.keep K23
    have F_value_so := F_value_so.keep K23 nin0
    have F_coder_so := F_coder_so.keep K23 nin0
    have V_tb := V_tb.keep K23 nin0
    have E_23 := P23_E
    have F_23 := P23_F
    have V_23 := P23_V
    have hk : T23.heap.size ≤ (T23.heap).size := Nat.le_refl _
    refine Go.step (fun t k => st23.trans k) ?_
    refine Go.step (S' := T23.setTop (mkF m 202 #[iv p0, iv p1, iv p2, iv p3, iv p4, rv b1, lv (0 : Int64), .second, rv b1, lv (1 : Int64), .second, rv b1, lv (2 : Int64), .second, iv 1, iv kk, iv 46, iv 0, iv pi, iv qi, iv 48, rv rb_18, rv gb_23, u_] [(.int pi), (.int qi)])) (fun t k => ?_) ?_
    · refine XS.astore X23.here hx rfl (hb hby at_196) rfl rfl (l' := #[iv p0, iv p1, iv p2, iv p3, iv p4, rv b1, lv (0 : Int64), .second, rv b1, lv (1 : Int64), .second, rv b1, lv (2 : Int64), .second, iv 1, iv kk, iv 46, iv 0, iv pi, iv qi, iv 48, rv rb_18, rv gb_23, u_]) rfl ?_
      refine XS.iload X23.here hx rfl (hb hby at_198) rfl ?_
      refine XS.iload X23.here hx rfl (hb hby at_200) rfl ?_
      exact k
    by_cases hc202 : qi = pi
    ·skip
     refine Go.step (S' := T23.setTop (mkF m 222 #[iv p0, iv p1, iv p2, iv p3, iv p4, rv b1, lv (0 : Int64), .second, rv b1, lv (1 : Int64), .second, rv b1, lv (2 : Int64), .second, iv 1, iv kk, iv 46, iv 0, iv pi, iv qi, iv 48, rv rb_18, rv gb_23, iv 0] [(.int pi), (.ref gb_23)])) (fun t k => ?_) ?_
     · refine XS.icmpNo X23.here hx rfl (hb hby at_202) rfl (teq (hc202 : qi = pi)).2 ?_
       refine XS.iload X23.here hx rfl (hb hby at_205) rfl ?_
       refine XS.goto X23.here hx rfl (pc0 := 207) (pc' := 211) rfl (hb hby at_207) (by decide) (by decide) ?_
       refine XS.istore X23.here hx rfl (hb hby at_211) rfl (l' := #[iv p0, iv p1, iv p2, iv p3, iv p4, rv b1, lv (0 : Int64), .second, rv b1, lv (1 : Int64), .second, rv b1, lv (2 : Int64), .second, iv 1, iv kk, iv 46, iv 0, iv pi, iv qi, iv 48, rv rb_18, rv gb_23, iv 0]) rfl ?_
       refine XS.iload X23.here hx rfl (hb hby at_213) rfl ?_
       refine XS.ifNo X23.here hx rfl (hb hby at_215) rfl ((if0 _ _).trans (feq ((by decide) : ¬ ((1 : Int32) = (0 : Int32)))).1) ?_
       show Steps p.tables e below (T23.setTop (mkF m 218 #[iv p0, iv p1, iv p2, iv p3, iv p4, rv b1, lv (0 : Int64), .second, rv b1, lv (1 : Int64), .second, rv b1, lv (2 : Int64), .second, iv 1, iv kk, iv 46, iv 0, iv pi, iv qi, iv 48, rv rb_18, rv gb_23, iv 0] [])) _
       refine XS.aload X23.here hx rfl (hb hby at_218) rfl rfl ?_
       refine XS.iload X23.here hx rfl (hb hby at_220) rfl ?_
       exact k
     refine Go.cV X23 hx hml hown hZ (own_w hw 151 rfl) (own_w hw 152 rfl) (own_w hw 154 rfl) (own_w hw 153 rfl) (own_w hw 65 rfl) (own_w hw 155 rfl) E_23 (rmGD l Z a0 hw [] gb_23 pi db_23 kd_23 (own_cl (fun zj => own_dg ((own_xf (48 : Int32) (46 : Int32) pi.toNatClampNeg) zj)) 81) (0 : Int32) T23.heap n0 O F_23 V_23 (own_dvp hp0 hp1 hC.2) (own_nlt hp0) (own_lt81 hp1)) 0 [] pd__28I_29I (hb hby at_222) (Eq.refl T23.heap) (fun _ T24 L24 X24 hQ24 => ?_)
     obtain ⟨rfl, Nq24, e24⟩ := hQ24
     have N24 := Fr.app N23 Nq24
     refine Go.step (S' := T24.setTop (mkF m 234 #[iv p0, iv p1, iv p2, iv p3, iv p4, rv b1, lv (0 : Int64), .second, rv b1, lv (1 : Int64), .second, rv b1, lv (2 : Int64), .second, iv 1, iv kk, iv 46, iv 0, iv pi, iv qi, iv 48, rv rb_18, rv gb_23, iv 0] [(.int qi), (.ref gb_23)])) (fun t k => ?_) ?_
     · refine XS.iload X24.here hx rfl (hb hby at_225) rfl ?_
       refine XS.icmpNo X24.here hx rfl (hb hby at_227) rfl (teq ((by decide) : (0 : Int32) = (0 : Int32))).2 ?_
       refine XS.aload X24.here hx rfl (hb hby at_230) rfl rfl ?_
       refine XS.iload X24.here hx rfl (hb hby at_232) rfl ?_
       exact k
     refine Go.cV X24 hx hml hown hZ (own_w hw 151 rfl) (own_w hw 152 rfl) (own_w hw 154 rfl) (own_w hw 153 rfl) (own_w hw 65 rfl) (own_w hw 155 rfl) E_23 (rmGD l Z a0 hw [] gb_23 qi db_23 kd_23 (own_cl (fun zj => own_dg ((own_xf (48 : Int32) (46 : Int32) pi.toNatClampNeg) zj)) 81) (0 : Int32) T23.heap n0 O F_23 V_23 (by rw [hc202]; exact own_dvp hp0 hp1 hC.2) (own_nlt hq0) (own_lt81 hq1)) 0 [] pd__28I_29I (hb hby at_234) e24 (fun _ T25 L25 X25 hQ25 => ?_)
     obtain ⟨rfl, Nq25, e25⟩ := hQ25
     have N25 := Fr.app N24 Nq25
     refine Go.step (S' := T25.setTop (mkF m 247 #[iv p0, iv p1, iv p2, iv p3, iv p4, rv b1, lv (0 : Int64), .second, rv b1, lv (1 : Int64), .second, rv b1, lv (2 : Int64), .second, iv 1, iv kk, iv 46, iv 0, iv pi, iv qi, iv 48, rv rb_18, rv gb_23, iv 0] [(.int 1)])) (fun t k => ?_) ?_
     · refine XS.iload X25.here hx rfl (hb hby at_237) rfl ?_
       refine XS.icmpNo X25.here hx rfl (hb hby at_239) rfl (teq ((by decide) : (0 : Int32) = (0 : Int32))).2 ?_
       refine XS.iconst X25.here hx rfl (hb hby at_242) ?_
       refine XS.goto X25.here hx rfl (pc0 := 243) (pc' := 247) rfl (hb hby at_243) (by decide) (by decide) ?_
       exact k
     obtain ⟨fs, hr, hrun, hended, hR⟩ := X25.leaveW hS (by rw [e25]; exact hk) (v := some (.int 1)) (fun h => by rw [Bd.returns] at h; cases h)
     refine Go.fin (S' := T25.setFrames fs) ?_ hrun hended ⟨_, _, rfl, ?_, hR.1, hR.2.1, hR.2.2.1, hR.2.2.2.mono (by decide) (by decide)⟩
     · exact retOut X25 hx Bd.returns (by decide) (Or.inl ⟨rfl, Or.inr (Or.inl rfl), _, rfl⟩) (hb hby at_247) hr
     · show Q_rm0 Z p0 p1 p2 p3 p4 cs sf h0 n0 (some (.int 1)) T25.heap _
       rw [e25]
       exact ⟨rfl, N25, K⟩
    ·skip
     refine Go.step (S' := T23.setTop (mkF m 222 #[iv p0, iv p1, iv p2, iv p3, iv p4, rv b1, lv (0 : Int64), .second, rv b1, lv (1 : Int64), .second, rv b1, lv (2 : Int64), .second, iv 1, iv kk, iv 46, iv 0, iv pi, iv qi, iv 48, rv rb_18, rv gb_23, iv 0] [(.int pi), (.ref gb_23)])) (fun t k => ?_) ?_
     · refine XS.icmpYes X23.here hx rfl (pc0 := 202) (pc' := 210) rfl (hb hby at_202) rfl (feq (hc202 : ¬ (qi = pi))).2 (by decide) (by decide) ?_
       refine XS.iconst X23.here hx rfl (hb hby at_210) ?_
       refine XS.istore X23.here hx rfl (hb hby at_211) rfl (l' := #[iv p0, iv p1, iv p2, iv p3, iv p4, rv b1, lv (0 : Int64), .second, rv b1, lv (1 : Int64), .second, rv b1, lv (2 : Int64), .second, iv 1, iv kk, iv 46, iv 0, iv pi, iv qi, iv 48, rv rb_18, rv gb_23, iv 0]) rfl ?_
       refine XS.iload X23.here hx rfl (hb hby at_213) rfl ?_
       refine XS.ifNo X23.here hx rfl (hb hby at_215) rfl ((if0 _ _).trans (feq ((by decide) : ¬ ((1 : Int32) = (0 : Int32)))).1) ?_
       refine XS.aload X23.here hx rfl (hb hby at_218) rfl rfl ?_
       show Steps p.tables e below (T23.setTop (mkF m 220 #[iv p0, iv p1, iv p2, iv p3, iv p4, rv b1, lv (0 : Int64), .second, rv b1, lv (1 : Int64), .second, rv b1, lv (2 : Int64), .second, iv 1, iv kk, iv 46, iv 0, iv pi, iv qi, iv 48, rv rb_18, rv gb_23, iv 0] [(.ref gb_23)])) _
       refine XS.iload X23.here hx rfl (hb hby at_220) rfl ?_
       exact k
     refine Go.cV X23 hx hml hown hZ (own_w hw 151 rfl) (own_w hw 152 rfl) (own_w hw 154 rfl) (own_w hw 153 rfl) (own_w hw 65 rfl) (own_w hw 155 rfl) E_23 (rmGD l Z a0 hw [] gb_23 pi db_23 kd_23 (own_cl (fun zj => own_dg ((own_xf (48 : Int32) (46 : Int32) pi.toNatClampNeg) zj)) 81) (0 : Int32) T23.heap n0 O F_23 V_23 (own_dvp hp0 hp1 hC.2) (own_nlt hp0) (own_lt81 hp1)) 0 [] pd__28I_29I (hb hby at_222) (Eq.refl T23.heap) (fun _ T26 L26 X26 hQ26 => ?_)
     obtain ⟨rfl, Nq26, e26⟩ := hQ26
     have N26 := Fr.app N23 Nq26
     refine Go.step (S' := T26.setTop (mkF m 234 #[iv p0, iv p1, iv p2, iv p3, iv p4, rv b1, lv (0 : Int64), .second, rv b1, lv (1 : Int64), .second, rv b1, lv (2 : Int64), .second, iv 1, iv kk, iv 46, iv 0, iv pi, iv qi, iv 48, rv rb_18, rv gb_23, iv 0] [(.int qi), (.ref gb_23)])) (fun t k => ?_) ?_
     · refine XS.iload X26.here hx rfl (hb hby at_225) rfl ?_
       refine XS.icmpNo X26.here hx rfl (hb hby at_227) rfl (teq ((by decide) : (0 : Int32) = (0 : Int32))).2 ?_
       refine XS.aload X26.here hx rfl (hb hby at_230) rfl rfl ?_
       refine XS.iload X26.here hx rfl (hb hby at_232) rfl ?_
       exact k
     refine Go.cV X26 hx hml hown hZ (own_w hw 151 rfl) (own_w hw 152 rfl) (own_w hw 154 rfl) (own_w hw 153 rfl) (own_w hw 65 rfl) (own_w hw 155 rfl) E_23 (rmGD l Z a0 hw [] gb_23 qi db_23 kd_23 (own_cl (fun zj => own_dg ((own_xf (48 : Int32) (46 : Int32) pi.toNatClampNeg) zj)) 81) (0 : Int32) T23.heap n0 O F_23 V_23 (own_dvq hp0 hq0 hq1 hc202 (by decide)) (own_nlt hq0) (own_lt81 hq1)) 0 [] pd__28I_29I (hb hby at_234) e26 (fun _ T27 L27 X27 hQ27 => ?_)
     obtain ⟨rfl, Nq27, e27⟩ := hQ27
     have N27 := Fr.app N26 Nq27
     refine Go.step (S' := T27.setTop (mkF m 247 #[iv p0, iv p1, iv p2, iv p3, iv p4, rv b1, lv (0 : Int64), .second, rv b1, lv (1 : Int64), .second, rv b1, lv (2 : Int64), .second, iv 1, iv kk, iv 46, iv 0, iv pi, iv qi, iv 48, rv rb_18, rv gb_23, iv 0] [(.int 1)])) (fun t k => ?_) ?_
     · refine XS.iload X27.here hx rfl (hb hby at_237) rfl ?_
       refine XS.icmpNo X27.here hx rfl (hb hby at_239) rfl (teq ((by decide) : (0 : Int32) = (0 : Int32))).2 ?_
       refine XS.iconst X27.here hx rfl (hb hby at_242) ?_
       refine XS.goto X27.here hx rfl (pc0 := 243) (pc' := 247) rfl (hb hby at_243) (by decide) (by decide) ?_
       exact k
     obtain ⟨fs, hr, hrun, hended, hR⟩ := X27.leaveW hS (by rw [e27]; exact hk) (v := some (.int 1)) (fun h => by rw [Bd.returns] at h; cases h)
     refine Go.fin (S' := T27.setFrames fs) ?_ hrun hended ⟨_, _, rfl, ?_, hR.1, hR.2.1, hR.2.2.1, hR.2.2.2.mono (by decide) (by decide)⟩
     · exact retOut X27 hx Bd.returns (by decide) (Or.inl ⟨rfl, Or.inr (Or.inl rfl), _, rfl⟩) (hb hby at_247) hr
     · show Q_rm0 Z p0 p1 p2 p3 p4 cs sf h0 n0 (some (.int 1)) T27.heap _
       rw [e27]
       exact ⟨rfl, N27, K⟩
 ·skip
  refine Go.step (S' := T7.setTop (mkF m 125 #[iv p0, iv p1, iv p2, iv p3, iv p4, rv b1, lv (0 : Int64), .second, rv b1, lv (1 : Int64), .second, rv b1, lv (2 : Int64), .second, iv 1, iv kk, iv ((((48 : Int32) + kk) - (1 : Int32)).toUInt32.toUInt16.toUInt32.toInt32), u_, u_, u_, u_, u_, u_, u_] [(.int 1), (.int kk)])) (fun t k => ?_) ?_
  · refine XS.ifYes X7.here hx rfl (pc0 := 104) (pc' := 112) rfl (hb hby at_104) rfl ((if0 _ _).trans (feq (hc104 : ¬ (kk = (0 : Int32)))).2) (by decide) (by decide) ?_
    refine XS.bipush X7.here hx rfl (hb hby at_112) ?_
    refine XS.iload X7.here hx rfl (hb hby at_114) rfl ?_
    refine XS.iadd X7.here hx rfl (hb hby at_116) rfl ?_
    refine XS.iconst X7.here hx rfl (hb hby at_117) ?_
    refine XS.isub X7.here hx rfl (hb hby at_118) rfl ?_
    show Steps p.tables e below (T7.setTop (mkF m 119 #[iv p0, iv p1, iv p2, iv p3, iv p4, rv b1, lv (0 : Int64), .second, rv b1, lv (1 : Int64), .second, rv b1, lv (2 : Int64), .second, iv 1, iv kk, u_, u_, u_, u_, u_, u_, u_, u_] [(.int (((48 : Int32) + kk) - (1 : Int32)))])) _
    refine XS.i2c X7.here hx rfl (hb hby at_119) rfl ?_
    refine XS.istore X7.here hx rfl (hb hby at_120) rfl (l' := #[iv p0, iv p1, iv p2, iv p3, iv p4, rv b1, lv (0 : Int64), .second, rv b1, lv (1 : Int64), .second, rv b1, lv (2 : Int64), .second, iv 1, iv kk, iv ((((48 : Int32) + kk) - (1 : Int32)).toUInt32.toUInt16.toUInt32.toInt32), u_, u_, u_, u_, u_, u_, u_]) rfl ?_
    refine XS.iload X7.here hx rfl (hb hby at_122) rfl ?_
    refine XS.iconst X7.here hx rfl (hb hby at_124) ?_
    exact k
  by_cases hc125 : (1 : Int32) < kk
  ·skip
   refine Go.step (S' := T7.setTop (mkF m 138 #[iv p0, iv p1, iv p2, iv p3, iv p4, rv b1, lv (0 : Int64), .second, rv b1, lv (1 : Int64), .second, rv b1, lv (2 : Int64), .second, iv 1, iv kk, iv ((((48 : Int32) + kk) - (1 : Int32)).toUInt32.toUInt16.toUInt32.toInt32), iv (kk - (1 : Int32)), u_, u_, u_, u_, u_, u_] [])) (fun t k => ?_) ?_
   · refine XS.icmpYes X7.here hx rfl (pc0 := 125) (pc' := 132) rfl (hb hby at_125) rfl (tlt (hc125 : (1 : Int32) < kk)).2.2.1 (by decide) (by decide) ?_
     refine XS.iload X7.here hx rfl (hb hby at_132) rfl ?_
     refine XS.iconst X7.here hx rfl (hb hby at_134) ?_
     refine XS.isub X7.here hx rfl (hb hby at_135) rfl ?_
     refine XS.istore X7.here hx rfl (hb hby at_136) rfl (l' := #[iv p0, iv p1, iv p2, iv p3, iv p4, rv b1, lv (0 : Int64), .second, rv b1, lv (1 : Int64), .second, rv b1, lv (2 : Int64), .second, iv 1, iv kk, iv ((((48 : Int32) + kk) - (1 : Int32)).toUInt32.toUInt16.toUInt32.toInt32), iv (kk - (1 : Int32)), u_, u_, u_, u_, u_, u_]) rfl ?_
     exact k
   obtain ⟨xh, hd_xh⟩ : ∃ z : Int32, ((((48 : Int32) + kk) - (1 : Int32)).toUInt32.toUInt16.toUInt32.toInt32) = z := ⟨_, rfl⟩
   rw [hd_xh]
   show Go p e below _ (T7.setTop (mkF m 138 #[iv p0, iv p1, iv p2, iv p3, iv p4, rv b1, lv (0 : Int64), .second, rv b1, lv (1 : Int64), .second, rv b1, lv (2 : Int64), .second, iv 1, iv kk, iv xh, iv (kk - (1 : Int32)), u_, u_, u_, u_, u_, u_] []))
   have hC : own_ok xh ∧ own_dg xh = (kk - (1 : Int32)) := own_cC (own_m (by decide) 11 rfl hd_kk) hd_xh hc125
   refine Go.step (S' := T7.setTop (mkF m 147 #[iv p0, iv p1, iv p2, iv p3, iv p4, rv b1, lv (0 : Int64), .second, rv b1, lv (1 : Int64), .second, rv b1, lv (2 : Int64), .second, iv 1, iv kk, iv xh, iv (kk - (1 : Int32)), iv ((p2 &&& (2147483647 : Int32)) % (81 : Int32)), u_, u_, u_, u_, u_] [])) (fun t k => ?_) ?_
   · refine XS.iloadN X7.here hx rfl (hb hby at_138) rfl ?_
     refine X7.ldcInt hx hown (mvT hZ (own_w hw 31 rfl)) (g := (mkF m 139 #[iv p0, iv p1, iv p2, iv p3, iv p4, rv b1, lv (0 : Int64), .second, rv b1, lv (1 : Int64), .second, rv b1, lv (2 : Int64), .second, iv 1, iv kk, iv xh, iv (kk - (1 : Int32)), u_, u_, u_, u_, u_, u_] [(.int p2)])) rfl (hb hby at_139) _ ?_
     refine XS.iand X7.here hx rfl (hb hby at_141) rfl ?_
     refine XS.bipush X7.here hx rfl (hb hby at_142) ?_
     refine iremM X7 hx rfl (hb hby at_144) rfl (by decide) ?_
     refine XS.istore X7.here hx rfl (hb hby at_145) rfl (l' := #[iv p0, iv p1, iv p2, iv p3, iv p4, rv b1, lv (0 : Int64), .second, rv b1, lv (1 : Int64), .second, rv b1, lv (2 : Int64), .second, iv 1, iv kk, iv xh, iv (kk - (1 : Int32)), iv ((p2 &&& (2147483647 : Int32)) % (81 : Int32)), u_, u_, u_, u_, u_]) rfl ?_
     exact k
   obtain ⟨pi, hd_pi⟩ : ∃ z : Int32, ((p2 &&& (2147483647 : Int32)) % (81 : Int32)) = z := ⟨_, rfl⟩
   rw [hd_pi]
   show Go p e below _ (T7.setTop (mkF m 147 #[iv p0, iv p1, iv p2, iv p3, iv p4, rv b1, lv (0 : Int64), .second, rv b1, lv (1 : Int64), .second, rv b1, lv (2 : Int64), .second, iv 1, iv kk, iv xh, iv (kk - (1 : Int32)), iv pi, u_, u_, u_, u_, u_] []))
   refine Go.step (S' := T7.setTop (mkF m 155 #[iv p0, iv p1, iv p2, iv p3, iv p4, rv b1, lv (0 : Int64), .second, rv b1, lv (1 : Int64), .second, rv b1, lv (2 : Int64), .second, iv 1, iv kk, iv xh, iv (kk - (1 : Int32)), iv pi, iv (((p3.toUInt32 >>> ((1 : Int32) &&& 31).toUInt32).toInt32) % (81 : Int32)), u_, u_, u_, u_] [])) (fun t k => ?_) ?_
   · refine XS.iloadN X7.here hx rfl (hb hby at_147) rfl ?_
     refine XS.iconst X7.here hx rfl (hb hby at_148) ?_
     refine XS.iushr X7.here hx rfl (hb hby at_149) rfl ?_
     refine XS.bipush X7.here hx rfl (hb hby at_150) ?_
     refine iremM X7 hx rfl (hb hby at_152) rfl (by decide) ?_
     refine XS.istore X7.here hx rfl (hb hby at_153) rfl (l' := #[iv p0, iv p1, iv p2, iv p3, iv p4, rv b1, lv (0 : Int64), .second, rv b1, lv (1 : Int64), .second, rv b1, lv (2 : Int64), .second, iv 1, iv kk, iv xh, iv (kk - (1 : Int32)), iv pi, iv (((p3.toUInt32 >>> ((1 : Int32) &&& 31).toUInt32).toInt32) % (81 : Int32)), u_, u_, u_, u_]) rfl ?_
     exact k
   obtain ⟨qi, hd_qi⟩ : ∃ z : Int32, (((p3.toUInt32 >>> ((1 : Int32) &&& 31).toUInt32).toInt32) % (81 : Int32)) = z := ⟨_, rfl⟩
   rw [hd_qi]
   show Go p e below _ (T7.setTop (mkF m 155 #[iv p0, iv p1, iv p2, iv p3, iv p4, rv b1, lv (0 : Int64), .second, rv b1, lv (1 : Int64), .second, rv b1, lv (2 : Int64), .second, iv 1, iv kk, iv xh, iv (kk - (1 : Int32)), iv pi, iv qi, u_, u_, u_, u_] []))
   refine Go.step (S' := T7.setTop (mkF m 158 #[iv p0, iv p1, iv p2, iv p3, iv p4, rv b1, lv (0 : Int64), .second, rv b1, lv (1 : Int64), .second, rv b1, lv (2 : Int64), .second, iv 1, iv kk, iv xh, iv (kk - (1 : Int32)), iv pi, iv qi, u_, u_, u_, u_] [(.int (p3 &&& (1 : Int32)))])) (fun t k => ?_) ?_
   · refine XS.iloadN X7.here hx rfl (hb hby at_155) rfl ?_
     refine XS.iconst X7.here hx rfl (hb hby at_156) ?_
     refine XS.iand X7.here hx rfl (hb hby at_157) rfl ?_
     exact k
   by_cases hc158 : (p3 &&& (1 : Int32)) = (0 : Int32)
   ·skip
    refine Go.step (S' := T7.setTop (mkF m 170 #[iv p0, iv p1, iv p2, iv p3, iv p4, rv b1, lv (0 : Int64), .second, rv b1, lv (1 : Int64), .second, rv b1, lv (2 : Int64), .second, iv 1, iv kk, iv xh, iv (kk - (1 : Int32)), iv pi, iv qi, iv 46, u_, u_, u_] [])) (fun t k => ?_) ?_
    · refine XS.ifYes X7.here hx rfl (pc0 := 158) (pc' := 166) rfl (hb hby at_158) rfl ((if0 _ _).trans (teq (hc158 : (p3 &&& (1 : Int32)) = (0 : Int32))).1) (by decide) (by decide) ?_
      refine XS.bipush X7.here hx rfl (hb hby at_166) ?_
      refine XS.istore X7.here hx rfl (hb hby at_168) rfl (l' := #[iv p0, iv p1, iv p2, iv p3, iv p4, rv b1, lv (0 : Int64), .second, rv b1, lv (1 : Int64), .second, rv b1, lv (2 : Int64), .second, iv 1, iv kk, iv xh, iv (kk - (1 : Int32)), iv pi, iv qi, iv 46, u_, u_, u_]) rfl ?_
      exact k
    obtain ⟨hp0, hp1⟩ := own_m (by decide) 81 rfl hd_pi
    obtain ⟨hq0, hq1⟩ := own_mq hd_qi
    refine Go.step (S' := T7.setTop (mkF m 172 #[iv p0, iv p1, iv p2, iv p3, iv p4, rv b1, lv (0 : Int64), .second, rv b1, lv (1 : Int64), .second, rv b1, lv (2 : Int64), .second, iv 1, iv kk, iv xh, iv (kk - (1 : Int32)), iv pi, iv qi, iv 46, u_, u_, u_] [(.int 46)])) (fun t k => ?_) ?_
    · refine XS.iload X7.here hx rfl (hb hby at_170) rfl ?_
      exact k
    refine Go.cS X7 hx hml hown hZ (own_w hw 32 rfl) (own_w hw 33 rfl) (own_w hw 34 rfl) (own_w hw 35 rfl) (rmR l Z a0 hw [] (46 : Int32) T6.heap n0 O (by decide)) 0 [] pd__28C_29_5bC (hb hby at_172) e7 (fun _ T28 L28 X28 hQ28 => ?_)
    obtain ⟨rb_28, kr_28, rfl, Nq28, K28, P28_V, gr_28, sr_28⟩ := hQ28
    have N28 := Fr.app N7 Nq28
    have sz_rb_28 : h0.size ≤ rb_28 := Nat.le_trans K.1 sr_28
    have ne_b1_rb_28 : b1 ≠ rb_28 := Nat.ne_of_lt (Nat.lt_of_lt_of_le E_b1.lt sr_28)
    have ne_cb_2_rb_28 : cb_2 ≠ rb_28 := Nat.ne_of_lt (Nat.lt_of_lt_of_le E_cb_2.lt sr_28)
    have O := O.keep K28 all0
    have hk := Nat.le_trans hk K28.1
    have K := K.trans K28 all0
    have E_b1 := E_b1.keep K28
    have E_po_2 := E_po_2.keep K28
    have E_cb_2 := E_cb_2.keep K28
    have E_po_4 := E_po_4.keep K28
    have E_cb_4 := E_cb_4.keep K28
    have E_po_6 := E_po_6.keep K28
    have F_c_6 := F_c_6.keep K28 nin0
    have F_l_6 := F_l_6.keep K28 nin0
    have F_u_6 := F_u_6.keep K28 nin0
    have V_cb_6 := V_cb_6.keep K28 nin0
    have E_cb_6 := E_cb_6.keep K28
    have V_28 := P28_V
    have g_rb_28 := gr_28
    refine Go.step (S' := T28.setTop (mkF m 183 #[iv p0, iv p1, iv p2, iv p3, iv p4, rv b1, lv (0 : Int64), .second, rv b1, lv (1 : Int64), .second, rv b1, lv (2 : Int64), .second, iv 1, iv kk, iv xh, iv (kk - (1 : Int32)), iv pi, iv qi, iv 46, rv rb_28, u_, u_] [(.int xh), (.int pi), (.ref rb_28)])) (fun t k => ?_) ?_
    · refine XS.astore X28.here hx rfl (hb hby at_175) rfl rfl (l' := #[iv p0, iv p1, iv p2, iv p3, iv p4, rv b1, lv (0 : Int64), .second, rv b1, lv (1 : Int64), .second, rv b1, lv (2 : Int64), .second, iv 1, iv kk, iv xh, iv (kk - (1 : Int32)), iv pi, iv qi, iv 46, rv rb_28, u_, u_]) rfl ?_
      refine XS.aload X28.here hx rfl (hb hby at_177) rfl rfl ?_
      refine XS.iload X28.here hx rfl (hb hby at_179) rfl ?_
      refine XS.iload X28.here hx rfl (hb hby at_181) rfl ?_
      exact k
    refine Go.cst X28 hx hZ (Eq.refl T28.heap) V_28 (hb hby at_183) ⟨own_nlt hp0, own_lt81 hp1⟩ (by rw [own_cl_len]; exact own_cl81 hp0 hp1) (fun T29 h29 X29 e29 W29 V29 => ?_)
    have O := O.wr W29 g_rb_28
    have hk := Nat.le_trans hk (Keep.of_wr W29).1
    have K := K.wr W29 (Or.inr sz_rb_28)
    have E_b1 := E_b1.wr W29
    have E_po_2 := E_po_2.wr W29
    have E_cb_2 := E_cb_2.wr W29
    have E_po_4 := E_po_4.wr W29
    have E_cb_4 := E_cb_4.wr W29
    have E_po_6 := E_po_6.wr W29
    have F_c_6 := F_c_6.other W29 (Or.inl ne_b1_rb_28)
    have F_l_6 := F_l_6.other W29 (Or.inl ne_b1_rb_28)
    have F_u_6 := F_u_6.other W29 (Or.inl ne_b1_rb_28)
    have V_cb_6 := V_cb_6.other W29 ne_cb_2_rb_28
    have E_cb_6 := E_cb_6.wr W29
    have V_28 : Arv Z h29 rb_28 kr_28 .char (81 : Int32) ((own_tx (46 : Int32) xh pi.toNatClampNeg).map Value.int) (.int 0) := own_txA (own_narc hC.1) V29
    have N29 := Fr.snoc X29 N28 g_rb_28
    obtain ⟨T30, h30, X30, e30, E30, A30, D30, -, st30⟩ := newO X29 hx hZ hown (own_w hw 37 rfl) (own_w hw 38 rfl) (own_w hw 39 rfl) e29 (g := (mkF m 184 #[iv p0, iv p1, iv p2, iv p3, iv p4, rv b1, lv (0 : Int64), .second, rv b1, lv (1 : Int64), .second, rv b1, lv (2 : Int64), .second, iv 1, iv kk, iv xh, iv (kk - (1 : Int32)), iv pi, iv qi, iv 46, rv rb_28, u_, u_] [])) rfl (hb hby at_184) (by decide) (by decide)
    obtain ⟨b30, g30⟩ : ∃ z, z = Array.size h29 := ⟨_, rfl⟩
    have g_b30 : n0 ≤ b30 := Nat.le_trans (old_le O) (Nat.le_of_eq g30.symm)
    have sz_b30 : h0.size ≤ b30 := Nat.le_trans K.1 (Nat.le_of_eq g30.symm)
    have ne_b1_b30 : b1 ≠ b30 := Nat.ne_of_lt (Nat.lt_of_lt_of_le E_b1.lt (Nat.le_of_eq g30.symm))
    have ne_cb_2_b30 : cb_2 ≠ b30 := Nat.ne_of_lt (Nat.lt_of_lt_of_le E_cb_2.lt (Nat.le_of_eq g30.symm))
    have ne_rb_28_b30 : rb_28 ≠ b30 := Nat.ne_of_lt (Nat.lt_of_lt_of_le V_28.lt (Nat.le_of_eq g30.symm))
    rw [← g30] at A30 D30 st30
    have O := O.ext E30
    have hk := Nat.le_trans hk E30.1
    have K := K.ext E30
    have E_b1 := E_b1.ext E30
    have E_po_2 := E_po_2.ext E30
    have E_cb_2 := E_cb_2.ext E30
    have E_po_4 := E_po_4.ext E30
    have E_cb_4 := E_cb_4.ext E30
    have E_po_6 := E_po_6.ext E30
    have F_c_6 := F_c_6.ext E30
    have F_l_6 := F_l_6.ext E30
    have F_u_6 := F_u_6.ext E30
    have V_cb_6 := V_cb_6.ext E30
    have E_cb_6 := E_cb_6.ext E30
    have V_28 := V_28.ext E30
    have E_b30 := A30
    have F_coder_b30 : Fd_2 Z h30 b30 (.int 0) := D30 (Or.inr (own_w hw 60 rfl)) (ty := .byte) (by decide)
    have F_value_b30 : Fd_3 Z h30 b30 .null := D30 (Or.inr (own_w hw 62 rfl)) (ty := (.array .byte)) (by decide)
    refine Go.step st30 ?_
    refine Go.step (S' := T30.setTop (mkF m 190 #[iv p0, iv p1, iv p2, iv p3, iv p4, rv b1, lv (0 : Int64), .second, rv b1, lv (1 : Int64), .second, rv b1, lv (2 : Int64), .second, iv 1, iv kk, iv xh, iv (kk - (1 : Int32)), iv pi, iv qi, iv 46, rv rb_28, u_, u_] [(.ref rb_28), (.ref b30), (.ref b30)])) (fun t k => ?_) ?_
    · refine XS.dup X30.here hx rfl (hb hby at_187) rfl rfl ?_
      refine XS.aload X30.here hx rfl (hb hby at_188) rfl rfl ?_
      exact k
    obtain ⟨_, _, ⟨T32, L32, k32, n32⟩, -, X32, ⟨Lc32, hQ32, l32, y32, z32⟩, st32⟩ := X30.specialBack hx (y := y_23) rfl hown (mvT hZ (own_w hw 40 rfl)) (mvT hZ (own_w hw 41 rfl)) (mvT hZ (own_w hw 42 rfl)) (by decide) (StrChars.Road.backV (W := 1) hZ (own_ws hw) (kI := 4) (own_w hw 38 rfl) (cs := (own_tx (46 : Int32) xh pi.toNatClampNeg)) (bs := ((own_tx (46 : Int32) xh pi.toNatClampNeg).map (fun c => c.toInt8.toInt32))) (n := 81) (n0 := n0) g_b30 (old_le O) E_b30 F_value_b30 F_coder_b30 V_28 (S_CS.ext O.2) hcs (own_tx_len _ _ _) rfl (by decide) (by decide) (own_tx_lat (by decide) hC.1) rfl (by decide) (by decide)) (g := (mkF m 190 #[iv p0, iv p1, iv p2, iv p3, iv p4, rv b1, lv (0 : Int64), .second, rv b1, lv (1 : Int64), .second, rv b1, lv (2 : Int64), .second, iv 1, iv kk, iv xh, iv (kk - (1 : Int32)), iv pi, iv qi, iv 46, rv rb_28, u_, u_] [(.ref rb_28), (.ref b30), (.ref b30)])) rfl (by rw [hml]; rfl) (Steps.refl _) (a := b30) (argsL := [(.ref rb_28)]) (rest := [(.ref b30)]) (lenOf pd__28_5bC_29V rfl) rfl (Nat.le_of_eq rfl) (hb hby at_190) (fun _ _ => ⟨rfl, e30, (by decide : 4 + 1 ≤ _), (by decide : 169 + 81 ≤ _)⟩)
    dsimp only [Pt.U, Pt.locs, Pt.cells, Pt.slots] at X32 l32 y32 z32 st32 hQ32
    subst l32 y32 z32
    obtain ⟨rfl, Nq32, K32, PE, PC, tb_, kb_, gtb, stb, ntb, PV, PA⟩ := hQ32
    have N32 := Fr.app N29 Nq32
    have O := O.keep K32 (allS g_b30 all0)
    have hk := Nat.le_trans hk K32.1
    have K := K.trans K32 (allS (Or.inr sz_b30) all0)
    have E_b1 := E_b1.keep K32
    have E_po_2 := E_po_2.keep K32
    have E_cb_2 := E_cb_2.keep K32
    have E_po_4 := E_po_4.keep K32
    have E_cb_4 := E_cb_4.keep K32
    have E_po_6 := E_po_6.keep K32
    have F_c_6 := F_c_6.keep K32 (ninS ne_b1_b30 nin0)
    have F_l_6 := F_l_6.keep K32 (ninS ne_b1_b30 nin0)
    have F_u_6 := F_u_6.keep K32 (ninS ne_b1_b30 nin0)
    have V_cb_6 := V_cb_6.keep K32 (ninS ne_cb_2_b30 nin0)
    have E_cb_6 := E_cb_6.keep K32
    have V_28 := V_28.keep K32 (ninS ne_rb_28_b30 nin0)
    have E_b30 := E_b30.keep K32
    have E_so := PE
    have F_value_so := PV
    have F_coder_so := PC
    have V_tb := PA
    refine Go.step (fun t k => st32.trans k) ?_
    obtain ⟨_, _, ⟨T33, L33, k33, n33⟩, -, X33, hS33, hgr33, ⟨Lc33, hQ33, l33, y33, z33⟩, st33⟩ := callSS X32 hx (y := y_19) hown (mvT hZ (own_w hw 63 rfl)) (mvT hZ (own_w hw 64 rfl)) (mvT hZ (own_w hw 65 rfl)) (mvT hZ (own_w hw 66 rfl)) (by decide) (backOfS (W := 0) (rmPa l Z a0 hw [] b30 tb_ kb_ (((own_tx (46 : Int32) xh pi.toNatClampNeg).map (fun c => c.toInt8.toInt32)).map Value.int) cs sf (fun z => ((own_xf (46 : Int32) xh pi.toNatClampNeg) z).toInt8.toInt32) (own_xf (46 : Int32) xh pi.toNatClampNeg) pi.toNatClampNeg T32.heap n0 O S_CS E_so F_value_so F_coder_so V_tb S_FM hcs hsf (own_hxs (by decide) hC.1) (own_hpp (by decide))) hZ (own_w hw 66 rfl) (own_w hw 65 rfl) (by decide) (by decide)) (g := (mkF m 193 #[iv p0, iv p1, iv p2, iv p3, iv p4, rv b1, lv (0 : Int64), .second, rv b1, lv (1 : Int64), .second, rv b1, lv (2 : Int64), .second, iv 1, iv kk, iv xh, iv (kk - (1 : Int32)), iv pi, iv qi, iv 46, rv rb_28, u_, u_] [(.ref b30)])) rfl (by rw [hml]; rfl) (argsL := [(.ref b30)]) (rest := []) (lenOf pd__28Ljava_2flang_2fCharSequence_3b_29Lorg_2fninefold_2fmodel_2fGrid_3b rfl) rfl (Nat.le_of_eq rfl) (hb hby at_193) (fun _ _ => ⟨rfl, (Eq.refl T32.heap), (by decide : 5 + 9 ≤ _), (by decide : 250 + 281 ≤ _)⟩)
    dsimp only [Pt.U, Pt.locs, Pt.cells, Pt.slots] at X33 l33 y33 z33 st33 hQ33 hS33 hgr33
    subst l33 y33 z33
    have hS := foldS hS (by exact hk) hS33 hgr33
    have hown : (s.setVm T33.vm).vm.findClass "org/ninefold/model/PuzzleTextAppendPinLaw" = some m.cls := by show T33.vm.findClass _ = _; rw [hS33.1.alike.findClass]; exact hown
    have hZ : Z.Warmed39 (s.setVm T33.vm).vm := State.Warmed39.trans hZ hS33.1
    have X33 : Stand p l e room_1 (s.setVm T33.vm) m #[(.int p0), (.int p1), (.int p2), (.int p3), (.int p4)] below meth c T33 _ _ _ := X33
    obtain ⟨gb_33, db_33, kd_33, rfl, Nq33, K33, P33_E, P33_F, P33_V⟩ := hQ33
    have N33 := Fr.app N32 Nq33
    have O := O.keep K33 all0
    have K := K.trans K33 all0
    have E_b1 := E_b1.keep K33
    have E_po_2 := E_po_2.keep K33
    have E_cb_2 := E_cb_2.keep K33
    have E_po_4 := E_po_4.keep K33
    have E_cb_4 := E_cb_4.keep K33
    have E_po_6 := E_po_6.keep K33
    have F_c_6 := F_c_6.keep K33 nin0
    have F_l_6 := F_l_6.keep K33 nin0
    have F_u_6 := F_u_6.keep K33 nin0
    have V_cb_6 := V_cb_6.keep K33 nin0
    have E_cb_6 := E_cb_6.keep K33
    have V_28 := V_28.keep K33 nin0
    have E_so := E_so.keep K33
    have F_value_so := F_value_so.keep K33 nin0
    have F_coder_so := F_coder_so.keep K33 nin0
    have V_tb := V_tb.keep K33 nin0
    have E_33 := P33_E
    have F_33 := P33_F
    have V_33 := P33_V
    have hk : T33.heap.size ≤ (T33.heap).size := Nat.le_refl _
    refine Go.step (fun t k => st33.trans k) ?_
    refine Go.step (S' := T33.setTop (mkF m 202 #[iv p0, iv p1, iv p2, iv p3, iv p4, rv b1, lv (0 : Int64), .second, rv b1, lv (1 : Int64), .second, rv b1, lv (2 : Int64), .second, iv 1, iv kk, iv xh, iv (kk - (1 : Int32)), iv pi, iv qi, iv 46, rv rb_28, rv gb_33, u_] [(.int pi), (.int qi)])) (fun t k => ?_) ?_
    · refine XS.astore X33.here hx rfl (hb hby at_196) rfl rfl (l' := #[iv p0, iv p1, iv p2, iv p3, iv p4, rv b1, lv (0 : Int64), .second, rv b1, lv (1 : Int64), .second, rv b1, lv (2 : Int64), .second, iv 1, iv kk, iv xh, iv (kk - (1 : Int32)), iv pi, iv qi, iv 46, rv rb_28, rv gb_33, u_]) rfl ?_
      refine XS.iload X33.here hx rfl (hb hby at_198) rfl ?_
      refine XS.iload X33.here hx rfl (hb hby at_200) rfl ?_
      exact k
    by_cases hc202 : qi = pi
    ·skip
     refine Go.step (S' := T33.setTop (mkF m 222 #[iv p0, iv p1, iv p2, iv p3, iv p4, rv b1, lv (0 : Int64), .second, rv b1, lv (1 : Int64), .second, rv b1, lv (2 : Int64), .second, iv 1, iv kk, iv xh, iv (kk - (1 : Int32)), iv pi, iv qi, iv 46, rv rb_28, rv gb_33, iv (kk - (1 : Int32))] [(.int pi), (.ref gb_33)])) (fun t k => ?_) ?_
     · refine XS.icmpNo X33.here hx rfl (hb hby at_202) rfl (teq (hc202 : qi = pi)).2 ?_
       refine XS.iload X33.here hx rfl (hb hby at_205) rfl ?_
       refine XS.goto X33.here hx rfl (pc0 := 207) (pc' := 211) rfl (hb hby at_207) (by decide) (by decide) ?_
       refine XS.istore X33.here hx rfl (hb hby at_211) rfl (l' := #[iv p0, iv p1, iv p2, iv p3, iv p4, rv b1, lv (0 : Int64), .second, rv b1, lv (1 : Int64), .second, rv b1, lv (2 : Int64), .second, iv 1, iv kk, iv xh, iv (kk - (1 : Int32)), iv pi, iv qi, iv 46, rv rb_28, rv gb_33, iv (kk - (1 : Int32))]) rfl ?_
       refine XS.iload X33.here hx rfl (hb hby at_213) rfl ?_
       refine XS.ifNo X33.here hx rfl (hb hby at_215) rfl ((if0 _ _).trans (feq ((by decide) : ¬ ((1 : Int32) = (0 : Int32)))).1) ?_
       show Steps p.tables e below (T33.setTop (mkF m 218 #[iv p0, iv p1, iv p2, iv p3, iv p4, rv b1, lv (0 : Int64), .second, rv b1, lv (1 : Int64), .second, rv b1, lv (2 : Int64), .second, iv 1, iv kk, iv xh, iv (kk - (1 : Int32)), iv pi, iv qi, iv 46, rv rb_28, rv gb_33, iv (kk - (1 : Int32))] [])) _
       refine XS.aload X33.here hx rfl (hb hby at_218) rfl rfl ?_
       refine XS.iload X33.here hx rfl (hb hby at_220) rfl ?_
       exact k
     refine Go.cV X33 hx hml hown hZ (own_w hw 151 rfl) (own_w hw 152 rfl) (own_w hw 154 rfl) (own_w hw 153 rfl) (own_w hw 65 rfl) (own_w hw 155 rfl) E_33 (rmGD l Z a0 hw [] gb_33 pi db_33 kd_33 (own_cl (fun zj => own_dg ((own_xf (46 : Int32) xh pi.toNatClampNeg) zj)) 81) (kk - (1 : Int32)) T33.heap n0 O F_33 V_33 (own_dvp hp0 hp1 hC.2) (own_nlt hp0) (own_lt81 hp1)) 0 [] pd__28I_29I (hb hby at_222) (Eq.refl T33.heap) (fun _ T34 L34 X34 hQ34 => ?_)
     obtain ⟨rfl, Nq34, e34⟩ := hQ34
     have N34 := Fr.app N33 Nq34
     refine Go.step (S' := T34.setTop (mkF m 234 #[iv p0, iv p1, iv p2, iv p3, iv p4, rv b1, lv (0 : Int64), .second, rv b1, lv (1 : Int64), .second, rv b1, lv (2 : Int64), .second, iv 1, iv kk, iv xh, iv (kk - (1 : Int32)), iv pi, iv qi, iv 46, rv rb_28, rv gb_33, iv (kk - (1 : Int32))] [(.int qi), (.ref gb_33)])) (fun t k => ?_) ?_
     · refine XS.iload X34.here hx rfl (hb hby at_225) rfl ?_
       refine XS.icmpNo X34.here hx rfl (hb hby at_227) rfl (teq (rfl : (kk - (1 : Int32)) = (kk - (1 : Int32)))).2 ?_
       refine XS.aload X34.here hx rfl (hb hby at_230) rfl rfl ?_
       refine XS.iload X34.here hx rfl (hb hby at_232) rfl ?_
       exact k
     refine Go.cV X34 hx hml hown hZ (own_w hw 151 rfl) (own_w hw 152 rfl) (own_w hw 154 rfl) (own_w hw 153 rfl) (own_w hw 65 rfl) (own_w hw 155 rfl) E_33 (rmGD l Z a0 hw [] gb_33 qi db_33 kd_33 (own_cl (fun zj => own_dg ((own_xf (46 : Int32) xh pi.toNatClampNeg) zj)) 81) (kk - (1 : Int32)) T33.heap n0 O F_33 V_33 (by rw [hc202]; exact own_dvp hp0 hp1 hC.2) (own_nlt hq0) (own_lt81 hq1)) 0 [] pd__28I_29I (hb hby at_234) e34 (fun _ T35 L35 X35 hQ35 => ?_)
     obtain ⟨rfl, Nq35, e35⟩ := hQ35
     have N35 := Fr.app N34 Nq35
     refine Go.step (S' := T35.setTop (mkF m 247 #[iv p0, iv p1, iv p2, iv p3, iv p4, rv b1, lv (0 : Int64), .second, rv b1, lv (1 : Int64), .second, rv b1, lv (2 : Int64), .second, iv 1, iv kk, iv xh, iv (kk - (1 : Int32)), iv pi, iv qi, iv 46, rv rb_28, rv gb_33, iv (kk - (1 : Int32))] [(.int 1)])) (fun t k => ?_) ?_
     · refine XS.iload X35.here hx rfl (hb hby at_237) rfl ?_
       refine XS.icmpNo X35.here hx rfl (hb hby at_239) rfl (teq (rfl : (kk - (1 : Int32)) = (kk - (1 : Int32)))).2 ?_
       refine XS.iconst X35.here hx rfl (hb hby at_242) ?_
       refine XS.goto X35.here hx rfl (pc0 := 243) (pc' := 247) rfl (hb hby at_243) (by decide) (by decide) ?_
       exact k
     obtain ⟨fs, hr, hrun, hended, hR⟩ := X35.leaveW hS (by rw [e35]; exact hk) (v := some (.int 1)) (fun h => by rw [Bd.returns] at h; cases h)
     refine Go.fin (S' := T35.setFrames fs) ?_ hrun hended ⟨_, _, rfl, ?_, hR.1, hR.2.1, hR.2.2.1, hR.2.2.2.mono (by decide) (by decide)⟩
     · exact retOut X35 hx Bd.returns (by decide) (Or.inl ⟨rfl, Or.inr (Or.inl rfl), _, rfl⟩) (hb hby at_247) hr
     · show Q_rm0 Z p0 p1 p2 p3 p4 cs sf h0 n0 (some (.int 1)) T35.heap _
       rw [e35]
       exact ⟨rfl, N35, K⟩
    ·skip
     refine Go.step (S' := T33.setTop (mkF m 222 #[iv p0, iv p1, iv p2, iv p3, iv p4, rv b1, lv (0 : Int64), .second, rv b1, lv (1 : Int64), .second, rv b1, lv (2 : Int64), .second, iv 1, iv kk, iv xh, iv (kk - (1 : Int32)), iv pi, iv qi, iv 46, rv rb_28, rv gb_33, iv 0] [(.int pi), (.ref gb_33)])) (fun t k => ?_) ?_
     · refine XS.icmpYes X33.here hx rfl (pc0 := 202) (pc' := 210) rfl (hb hby at_202) rfl (feq (hc202 : ¬ (qi = pi))).2 (by decide) (by decide) ?_
       refine XS.iconst X33.here hx rfl (hb hby at_210) ?_
       refine XS.istore X33.here hx rfl (hb hby at_211) rfl (l' := #[iv p0, iv p1, iv p2, iv p3, iv p4, rv b1, lv (0 : Int64), .second, rv b1, lv (1 : Int64), .second, rv b1, lv (2 : Int64), .second, iv 1, iv kk, iv xh, iv (kk - (1 : Int32)), iv pi, iv qi, iv 46, rv rb_28, rv gb_33, iv 0]) rfl ?_
       refine XS.iload X33.here hx rfl (hb hby at_213) rfl ?_
       refine XS.ifNo X33.here hx rfl (hb hby at_215) rfl ((if0 _ _).trans (feq ((by decide) : ¬ ((1 : Int32) = (0 : Int32)))).1) ?_
       refine XS.aload X33.here hx rfl (hb hby at_218) rfl rfl ?_
       show Steps p.tables e below (T33.setTop (mkF m 220 #[iv p0, iv p1, iv p2, iv p3, iv p4, rv b1, lv (0 : Int64), .second, rv b1, lv (1 : Int64), .second, rv b1, lv (2 : Int64), .second, iv 1, iv kk, iv xh, iv (kk - (1 : Int32)), iv pi, iv qi, iv 46, rv rb_28, rv gb_33, iv 0] [(.ref gb_33)])) _
       refine XS.iload X33.here hx rfl (hb hby at_220) rfl ?_
       exact k
     refine Go.cV X33 hx hml hown hZ (own_w hw 151 rfl) (own_w hw 152 rfl) (own_w hw 154 rfl) (own_w hw 153 rfl) (own_w hw 65 rfl) (own_w hw 155 rfl) E_33 (rmGD l Z a0 hw [] gb_33 pi db_33 kd_33 (own_cl (fun zj => own_dg ((own_xf (46 : Int32) xh pi.toNatClampNeg) zj)) 81) (kk - (1 : Int32)) T33.heap n0 O F_33 V_33 (own_dvp hp0 hp1 hC.2) (own_nlt hp0) (own_lt81 hp1)) 0 [] pd__28I_29I (hb hby at_222) (Eq.refl T33.heap) (fun _ T36 L36 X36 hQ36 => ?_)
     obtain ⟨rfl, Nq36, e36⟩ := hQ36
     have N36 := Fr.app N33 Nq36
     refine Go.step (S' := T36.setTop (mkF m 234 #[iv p0, iv p1, iv p2, iv p3, iv p4, rv b1, lv (0 : Int64), .second, rv b1, lv (1 : Int64), .second, rv b1, lv (2 : Int64), .second, iv 1, iv kk, iv xh, iv (kk - (1 : Int32)), iv pi, iv qi, iv 46, rv rb_28, rv gb_33, iv 0] [(.int qi), (.ref gb_33)])) (fun t k => ?_) ?_
     · refine XS.iload X36.here hx rfl (hb hby at_225) rfl ?_
       refine XS.icmpNo X36.here hx rfl (hb hby at_227) rfl (teq (rfl : (kk - (1 : Int32)) = (kk - (1 : Int32)))).2 ?_
       refine XS.aload X36.here hx rfl (hb hby at_230) rfl rfl ?_
       refine XS.iload X36.here hx rfl (hb hby at_232) rfl ?_
       exact k
     refine Go.cV X36 hx hml hown hZ (own_w hw 151 rfl) (own_w hw 152 rfl) (own_w hw 154 rfl) (own_w hw 153 rfl) (own_w hw 65 rfl) (own_w hw 155 rfl) E_33 (rmGD l Z a0 hw [] gb_33 qi db_33 kd_33 (own_cl (fun zj => own_dg ((own_xf (46 : Int32) xh pi.toNatClampNeg) zj)) 81) (0 : Int32) T33.heap n0 O F_33 V_33 (own_dvq hp0 hq0 hq1 hc202 (by decide)) (own_nlt hq0) (own_lt81 hq1)) 0 [] pd__28I_29I (hb hby at_234) e36 (fun _ T37 L37 X37 hQ37 => ?_)
     obtain ⟨rfl, Nq37, e37⟩ := hQ37
     have N37 := Fr.app N36 Nq37
     refine Go.step (S' := T37.setTop (mkF m 247 #[iv p0, iv p1, iv p2, iv p3, iv p4, rv b1, lv (0 : Int64), .second, rv b1, lv (1 : Int64), .second, rv b1, lv (2 : Int64), .second, iv 1, iv kk, iv xh, iv (kk - (1 : Int32)), iv pi, iv qi, iv 46, rv rb_28, rv gb_33, iv 0] [(.int 1)])) (fun t k => ?_) ?_
     · refine XS.iload X37.here hx rfl (hb hby at_237) rfl ?_
       refine XS.icmpNo X37.here hx rfl (hb hby at_239) rfl (teq ((by decide) : (0 : Int32) = (0 : Int32))).2 ?_
       refine XS.iconst X37.here hx rfl (hb hby at_242) ?_
       refine XS.goto X37.here hx rfl (pc0 := 243) (pc' := 247) rfl (hb hby at_243) (by decide) (by decide) ?_
       exact k
     obtain ⟨fs, hr, hrun, hended, hR⟩ := X37.leaveW hS (by rw [e37]; exact hk) (v := some (.int 1)) (fun h => by rw [Bd.returns] at h; cases h)
     refine Go.fin (S' := T37.setFrames fs) ?_ hrun hended ⟨_, _, rfl, ?_, hR.1, hR.2.1, hR.2.2.1, hR.2.2.2.mono (by decide) (by decide)⟩
     · exact retOut X37 hx Bd.returns (by decide) (Or.inl ⟨rfl, Or.inr (Or.inl rfl), _, rfl⟩) (hb hby at_247) hr
     · show Q_rm0 Z p0 p1 p2 p3 p4 cs sf h0 n0 (some (.int 1)) T37.heap _
       rw [e37]
       exact ⟨rfl, N37, K⟩
   ·skip
    refine Go.step (S' := T7.setTop (mkF m 170 #[iv p0, iv p1, iv p2, iv p3, iv p4, rv b1, lv (0 : Int64), .second, rv b1, lv (1 : Int64), .second, rv b1, lv (2 : Int64), .second, iv 1, iv kk, iv xh, iv (kk - (1 : Int32)), iv pi, iv qi, iv 48, u_, u_, u_] [])) (fun t k => ?_) ?_
    · refine XS.ifNo X7.here hx rfl (hb hby at_158) rfl ((if0 _ _).trans (feq (hc158 : ¬ ((p3 &&& (1 : Int32)) = (0 : Int32)))).1) ?_
      refine XS.bipush X7.here hx rfl (hb hby at_161) ?_
      refine XS.goto X7.here hx rfl (pc0 := 163) (pc' := 168) rfl (hb hby at_163) (by decide) (by decide) ?_
      refine XS.istore X7.here hx rfl (hb hby at_168) rfl (l' := #[iv p0, iv p1, iv p2, iv p3, iv p4, rv b1, lv (0 : Int64), .second, rv b1, lv (1 : Int64), .second, rv b1, lv (2 : Int64), .second, iv 1, iv kk, iv xh, iv (kk - (1 : Int32)), iv pi, iv qi, iv 48, u_, u_, u_]) rfl ?_
      exact k
    obtain ⟨hp0, hp1⟩ := own_m (by decide) 81 rfl hd_pi
    obtain ⟨hq0, hq1⟩ := own_mq hd_qi
    refine Go.step (S' := T7.setTop (mkF m 172 #[iv p0, iv p1, iv p2, iv p3, iv p4, rv b1, lv (0 : Int64), .second, rv b1, lv (1 : Int64), .second, rv b1, lv (2 : Int64), .second, iv 1, iv kk, iv xh, iv (kk - (1 : Int32)), iv pi, iv qi, iv 48, u_, u_, u_] [(.int 48)])) (fun t k => ?_) ?_
    · refine XS.iload X7.here hx rfl (hb hby at_170) rfl ?_
      exact k
    refine Go.cS X7 hx hml hown hZ (own_w hw 32 rfl) (own_w hw 33 rfl) (own_w hw 34 rfl) (own_w hw 35 rfl) (rmR l Z a0 hw [] (48 : Int32) T6.heap n0 O (by decide)) 0 [] pd__28C_29_5bC (hb hby at_172) e7 (fun _ T38 L38 X38 hQ38 => ?_)
    obtain ⟨rb_38, kr_38, rfl, Nq38, K38, P38_V, gr_38, sr_38⟩ := hQ38
    have N38 := Fr.app N7 Nq38
    have sz_rb_38 : h0.size ≤ rb_38 := Nat.le_trans K.1 sr_38
    have ne_b1_rb_38 : b1 ≠ rb_38 := Nat.ne_of_lt (Nat.lt_of_lt_of_le E_b1.lt sr_38)
    have ne_cb_2_rb_38 : cb_2 ≠ rb_38 := Nat.ne_of_lt (Nat.lt_of_lt_of_le E_cb_2.lt sr_38)
    have O := O.keep K38 all0
    have hk := Nat.le_trans hk K38.1
    have K := K.trans K38 all0
    have E_b1 := E_b1.keep K38
    have E_po_2 := E_po_2.keep K38
    have E_cb_2 := E_cb_2.keep K38
    have E_po_4 := E_po_4.keep K38
    have E_cb_4 := E_cb_4.keep K38
    have E_po_6 := E_po_6.keep K38
    have F_c_6 := F_c_6.keep K38 nin0
    have F_l_6 := F_l_6.keep K38 nin0
    have F_u_6 := F_u_6.keep K38 nin0
    have V_cb_6 := V_cb_6.keep K38 nin0
    have E_cb_6 := E_cb_6.keep K38
    have V_38 := P38_V
    have g_rb_38 := gr_38
    refine Go.step (S' := T38.setTop (mkF m 183 #[iv p0, iv p1, iv p2, iv p3, iv p4, rv b1, lv (0 : Int64), .second, rv b1, lv (1 : Int64), .second, rv b1, lv (2 : Int64), .second, iv 1, iv kk, iv xh, iv (kk - (1 : Int32)), iv pi, iv qi, iv 48, rv rb_38, u_, u_] [(.int xh), (.int pi), (.ref rb_38)])) (fun t k => ?_) ?_
    · refine XS.astore X38.here hx rfl (hb hby at_175) rfl rfl (l' := #[iv p0, iv p1, iv p2, iv p3, iv p4, rv b1, lv (0 : Int64), .second, rv b1, lv (1 : Int64), .second, rv b1, lv (2 : Int64), .second, iv 1, iv kk, iv xh, iv (kk - (1 : Int32)), iv pi, iv qi, iv 48, rv rb_38, u_, u_]) rfl ?_
      refine XS.aload X38.here hx rfl (hb hby at_177) rfl rfl ?_
      refine XS.iload X38.here hx rfl (hb hby at_179) rfl ?_
      refine XS.iload X38.here hx rfl (hb hby at_181) rfl ?_
      exact k
    refine Go.cst X38 hx hZ (Eq.refl T38.heap) V_38 (hb hby at_183) ⟨own_nlt hp0, own_lt81 hp1⟩ (by rw [own_cl_len]; exact own_cl81 hp0 hp1) (fun T39 h39 X39 e39 W39 V39 => ?_)
    have O := O.wr W39 g_rb_38
    have hk := Nat.le_trans hk (Keep.of_wr W39).1
    have K := K.wr W39 (Or.inr sz_rb_38)
    have E_b1 := E_b1.wr W39
    have E_po_2 := E_po_2.wr W39
    have E_cb_2 := E_cb_2.wr W39
    have E_po_4 := E_po_4.wr W39
    have E_cb_4 := E_cb_4.wr W39
    have E_po_6 := E_po_6.wr W39
    have F_c_6 := F_c_6.other W39 (Or.inl ne_b1_rb_38)
    have F_l_6 := F_l_6.other W39 (Or.inl ne_b1_rb_38)
    have F_u_6 := F_u_6.other W39 (Or.inl ne_b1_rb_38)
    have V_cb_6 := V_cb_6.other W39 ne_cb_2_rb_38
    have E_cb_6 := E_cb_6.wr W39
    have V_38 : Arv Z h39 rb_38 kr_38 .char (81 : Int32) ((own_tx (48 : Int32) xh pi.toNatClampNeg).map Value.int) (.int 0) := own_txA (own_narc hC.1) V39
    have N39 := Fr.snoc X39 N38 g_rb_38
    obtain ⟨T40, h40, X40, e40, E40, A40, D40, -, st40⟩ := newO X39 hx hZ hown (own_w hw 37 rfl) (own_w hw 38 rfl) (own_w hw 39 rfl) e39 (g := (mkF m 184 #[iv p0, iv p1, iv p2, iv p3, iv p4, rv b1, lv (0 : Int64), .second, rv b1, lv (1 : Int64), .second, rv b1, lv (2 : Int64), .second, iv 1, iv kk, iv xh, iv (kk - (1 : Int32)), iv pi, iv qi, iv 48, rv rb_38, u_, u_] [])) rfl (hb hby at_184) (by decide) (by decide)
    obtain ⟨b40, g40⟩ : ∃ z, z = Array.size h39 := ⟨_, rfl⟩
    have g_b40 : n0 ≤ b40 := Nat.le_trans (old_le O) (Nat.le_of_eq g40.symm)
    have sz_b40 : h0.size ≤ b40 := Nat.le_trans K.1 (Nat.le_of_eq g40.symm)
    have ne_b1_b40 : b1 ≠ b40 := Nat.ne_of_lt (Nat.lt_of_lt_of_le E_b1.lt (Nat.le_of_eq g40.symm))
    have ne_cb_2_b40 : cb_2 ≠ b40 := Nat.ne_of_lt (Nat.lt_of_lt_of_le E_cb_2.lt (Nat.le_of_eq g40.symm))
    have ne_rb_38_b40 : rb_38 ≠ b40 := Nat.ne_of_lt (Nat.lt_of_lt_of_le V_38.lt (Nat.le_of_eq g40.symm))
    rw [← g40] at A40 D40 st40
    have O := O.ext E40
    have hk := Nat.le_trans hk E40.1
    have K := K.ext E40
    have E_b1 := E_b1.ext E40
    have E_po_2 := E_po_2.ext E40
    have E_cb_2 := E_cb_2.ext E40
    have E_po_4 := E_po_4.ext E40
    have E_cb_4 := E_cb_4.ext E40
    have E_po_6 := E_po_6.ext E40
    have F_c_6 := F_c_6.ext E40
    have F_l_6 := F_l_6.ext E40
    have F_u_6 := F_u_6.ext E40
    have V_cb_6 := V_cb_6.ext E40
    have E_cb_6 := E_cb_6.ext E40
    have V_38 := V_38.ext E40
    have E_b40 := A40
    have F_coder_b40 : Fd_2 Z h40 b40 (.int 0) := D40 (Or.inr (own_w hw 60 rfl)) (ty := .byte) (by decide)
    have F_value_b40 : Fd_3 Z h40 b40 .null := D40 (Or.inr (own_w hw 62 rfl)) (ty := (.array .byte)) (by decide)
    refine Go.step st40 ?_
    refine Go.step (S' := T40.setTop (mkF m 190 #[iv p0, iv p1, iv p2, iv p3, iv p4, rv b1, lv (0 : Int64), .second, rv b1, lv (1 : Int64), .second, rv b1, lv (2 : Int64), .second, iv 1, iv kk, iv xh, iv (kk - (1 : Int32)), iv pi, iv qi, iv 48, rv rb_38, u_, u_] [(.ref rb_38), (.ref b40), (.ref b40)])) (fun t k => ?_) ?_
    · refine XS.dup X40.here hx rfl (hb hby at_187) rfl rfl ?_
      refine XS.aload X40.here hx rfl (hb hby at_188) rfl rfl ?_
      exact k
    obtain ⟨_, _, ⟨T42, L42, k42, n42⟩, -, X42, ⟨Lc42, hQ42, l42, y42, z42⟩, st42⟩ := X40.specialBack hx (y := y_23) rfl hown (mvT hZ (own_w hw 40 rfl)) (mvT hZ (own_w hw 41 rfl)) (mvT hZ (own_w hw 42 rfl)) (by decide) (StrChars.Road.backV (W := 1) hZ (own_ws hw) (kI := 4) (own_w hw 38 rfl) (cs := (own_tx (48 : Int32) xh pi.toNatClampNeg)) (bs := ((own_tx (48 : Int32) xh pi.toNatClampNeg).map (fun c => c.toInt8.toInt32))) (n := 81) (n0 := n0) g_b40 (old_le O) E_b40 F_value_b40 F_coder_b40 V_38 (S_CS.ext O.2) hcs (own_tx_len _ _ _) rfl (by decide) (by decide) (own_tx_lat (by decide) hC.1) rfl (by decide) (by decide)) (g := (mkF m 190 #[iv p0, iv p1, iv p2, iv p3, iv p4, rv b1, lv (0 : Int64), .second, rv b1, lv (1 : Int64), .second, rv b1, lv (2 : Int64), .second, iv 1, iv kk, iv xh, iv (kk - (1 : Int32)), iv pi, iv qi, iv 48, rv rb_38, u_, u_] [(.ref rb_38), (.ref b40), (.ref b40)])) rfl (by rw [hml]; rfl) (Steps.refl _) (a := b40) (argsL := [(.ref rb_38)]) (rest := [(.ref b40)]) (lenOf pd__28_5bC_29V rfl) rfl (Nat.le_of_eq rfl) (hb hby at_190) (fun _ _ => ⟨rfl, e40, (by decide : 4 + 1 ≤ _), (by decide : 169 + 81 ≤ _)⟩)
    dsimp only [Pt.U, Pt.locs, Pt.cells, Pt.slots] at X42 l42 y42 z42 st42 hQ42
    subst l42 y42 z42
    obtain ⟨rfl, Nq42, K42, PE, PC, tb_, kb_, gtb, stb, ntb, PV, PA⟩ := hQ42
    have N42 := Fr.app N39 Nq42
    have O := O.keep K42 (allS g_b40 all0)
    have hk := Nat.le_trans hk K42.1
    have K := K.trans K42 (allS (Or.inr sz_b40) all0)
    have E_b1 := E_b1.keep K42
    have E_po_2 := E_po_2.keep K42
    have E_cb_2 := E_cb_2.keep K42
    have E_po_4 := E_po_4.keep K42
    have E_cb_4 := E_cb_4.keep K42
    have E_po_6 := E_po_6.keep K42
    have F_c_6 := F_c_6.keep K42 (ninS ne_b1_b40 nin0)
    have F_l_6 := F_l_6.keep K42 (ninS ne_b1_b40 nin0)
    have F_u_6 := F_u_6.keep K42 (ninS ne_b1_b40 nin0)
    have V_cb_6 := V_cb_6.keep K42 (ninS ne_cb_2_b40 nin0)
    have E_cb_6 := E_cb_6.keep K42
    have V_38 := V_38.keep K42 (ninS ne_rb_38_b40 nin0)
    have E_b40 := E_b40.keep K42
    have E_so := PE
    have F_value_so := PV
    have F_coder_so := PC
    have V_tb := PA
    refine Go.step (fun t k => st42.trans k) ?_
    obtain ⟨_, _, ⟨T43, L43, k43, n43⟩, -, X43, hS43, hgr43, ⟨Lc43, hQ43, l43, y43, z43⟩, st43⟩ := callSS X42 hx (y := y_19) hown (mvT hZ (own_w hw 63 rfl)) (mvT hZ (own_w hw 64 rfl)) (mvT hZ (own_w hw 65 rfl)) (mvT hZ (own_w hw 66 rfl)) (by decide) (backOfS (W := 0) (rmPa l Z a0 hw [] b40 tb_ kb_ (((own_tx (48 : Int32) xh pi.toNatClampNeg).map (fun c => c.toInt8.toInt32)).map Value.int) cs sf (fun z => ((own_xf (48 : Int32) xh pi.toNatClampNeg) z).toInt8.toInt32) (own_xf (48 : Int32) xh pi.toNatClampNeg) pi.toNatClampNeg T42.heap n0 O S_CS E_so F_value_so F_coder_so V_tb S_FM hcs hsf (own_hxs (by decide) hC.1) (own_hpp (by decide))) hZ (own_w hw 66 rfl) (own_w hw 65 rfl) (by decide) (by decide)) (g := (mkF m 193 #[iv p0, iv p1, iv p2, iv p3, iv p4, rv b1, lv (0 : Int64), .second, rv b1, lv (1 : Int64), .second, rv b1, lv (2 : Int64), .second, iv 1, iv kk, iv xh, iv (kk - (1 : Int32)), iv pi, iv qi, iv 48, rv rb_38, u_, u_] [(.ref b40)])) rfl (by rw [hml]; rfl) (argsL := [(.ref b40)]) (rest := []) (lenOf pd__28Ljava_2flang_2fCharSequence_3b_29Lorg_2fninefold_2fmodel_2fGrid_3b rfl) rfl (Nat.le_of_eq rfl) (hb hby at_193) (fun _ _ => ⟨rfl, (Eq.refl T42.heap), (by decide : 5 + 9 ≤ _), (by decide : 250 + 281 ≤ _)⟩)
    dsimp only [Pt.U, Pt.locs, Pt.cells, Pt.slots] at X43 l43 y43 z43 st43 hQ43 hS43 hgr43
    subst l43 y43 z43
    have hS := foldS hS (by exact hk) hS43 hgr43
    have hown : (s.setVm T43.vm).vm.findClass "org/ninefold/model/PuzzleTextAppendPinLaw" = some m.cls := by show T43.vm.findClass _ = _; rw [hS43.1.alike.findClass]; exact hown
    have hZ : Z.Warmed39 (s.setVm T43.vm).vm := State.Warmed39.trans hZ hS43.1
    have X43 : Stand p l e room_1 (s.setVm T43.vm) m #[(.int p0), (.int p1), (.int p2), (.int p3), (.int p4)] below meth c T43 _ _ _ := X43
    obtain ⟨gb_43, db_43, kd_43, rfl, Nq43, K43, P43_E, P43_F, P43_V⟩ := hQ43
    have N43 := Fr.app N42 Nq43
    have O := O.keep K43 all0
    have K := K.trans K43 all0
    have E_b1 := E_b1.keep K43
    have E_po_2 := E_po_2.keep K43
    have E_cb_2 := E_cb_2.keep K43
    have E_po_4 := E_po_4.keep K43
    have E_cb_4 := E_cb_4.keep K43
    have E_po_6 := E_po_6.keep K43
    have F_c_6 := F_c_6.keep K43 nin0
    have F_l_6 := F_l_6.keep K43 nin0
    have F_u_6 := F_u_6.keep K43 nin0
    have V_cb_6 := V_cb_6.keep K43 nin0
    have E_cb_6 := E_cb_6.keep K43
    have V_38 := V_38.keep K43 nin0
    have E_so := E_so.keep K43
    have F_value_so := F_value_so.keep K43 nin0
    have F_coder_so := F_coder_so.keep K43 nin0
    have V_tb := V_tb.keep K43 nin0
    have E_43 := P43_E
    have F_43 := P43_F
    have V_43 := P43_V
    have hk : T43.heap.size ≤ (T43.heap).size := Nat.le_refl _
    refine Go.step (fun t k => st43.trans k) ?_
    refine Go.step (S' := T43.setTop (mkF m 202 #[iv p0, iv p1, iv p2, iv p3, iv p4, rv b1, lv (0 : Int64), .second, rv b1, lv (1 : Int64), .second, rv b1, lv (2 : Int64), .second, iv 1, iv kk, iv xh, iv (kk - (1 : Int32)), iv pi, iv qi, iv 48, rv rb_38, rv gb_43, u_] [(.int pi), (.int qi)])) (fun t k => ?_) ?_
    · refine XS.astore X43.here hx rfl (hb hby at_196) rfl rfl (l' := #[iv p0, iv p1, iv p2, iv p3, iv p4, rv b1, lv (0 : Int64), .second, rv b1, lv (1 : Int64), .second, rv b1, lv (2 : Int64), .second, iv 1, iv kk, iv xh, iv (kk - (1 : Int32)), iv pi, iv qi, iv 48, rv rb_38, rv gb_43, u_]) rfl ?_
      refine XS.iload X43.here hx rfl (hb hby at_198) rfl ?_
      refine XS.iload X43.here hx rfl (hb hby at_200) rfl ?_
      exact k
    by_cases hc202 : qi = pi
    ·skip
     refine Go.step (S' := T43.setTop (mkF m 222 #[iv p0, iv p1, iv p2, iv p3, iv p4, rv b1, lv (0 : Int64), .second, rv b1, lv (1 : Int64), .second, rv b1, lv (2 : Int64), .second, iv 1, iv kk, iv xh, iv (kk - (1 : Int32)), iv pi, iv qi, iv 48, rv rb_38, rv gb_43, iv (kk - (1 : Int32))] [(.int pi), (.ref gb_43)])) (fun t k => ?_) ?_
     · refine XS.icmpNo X43.here hx rfl (hb hby at_202) rfl (teq (hc202 : qi = pi)).2 ?_
       refine XS.iload X43.here hx rfl (hb hby at_205) rfl ?_
       refine XS.goto X43.here hx rfl (pc0 := 207) (pc' := 211) rfl (hb hby at_207) (by decide) (by decide) ?_
       refine XS.istore X43.here hx rfl (hb hby at_211) rfl (l' := #[iv p0, iv p1, iv p2, iv p3, iv p4, rv b1, lv (0 : Int64), .second, rv b1, lv (1 : Int64), .second, rv b1, lv (2 : Int64), .second, iv 1, iv kk, iv xh, iv (kk - (1 : Int32)), iv pi, iv qi, iv 48, rv rb_38, rv gb_43, iv (kk - (1 : Int32))]) rfl ?_
       refine XS.iload X43.here hx rfl (hb hby at_213) rfl ?_
       refine XS.ifNo X43.here hx rfl (hb hby at_215) rfl ((if0 _ _).trans (feq ((by decide) : ¬ ((1 : Int32) = (0 : Int32)))).1) ?_
       show Steps p.tables e below (T43.setTop (mkF m 218 #[iv p0, iv p1, iv p2, iv p3, iv p4, rv b1, lv (0 : Int64), .second, rv b1, lv (1 : Int64), .second, rv b1, lv (2 : Int64), .second, iv 1, iv kk, iv xh, iv (kk - (1 : Int32)), iv pi, iv qi, iv 48, rv rb_38, rv gb_43, iv (kk - (1 : Int32))] [])) _
       refine XS.aload X43.here hx rfl (hb hby at_218) rfl rfl ?_
       refine XS.iload X43.here hx rfl (hb hby at_220) rfl ?_
       exact k
     refine Go.cV X43 hx hml hown hZ (own_w hw 151 rfl) (own_w hw 152 rfl) (own_w hw 154 rfl) (own_w hw 153 rfl) (own_w hw 65 rfl) (own_w hw 155 rfl) E_43 (rmGD l Z a0 hw [] gb_43 pi db_43 kd_43 (own_cl (fun zj => own_dg ((own_xf (48 : Int32) xh pi.toNatClampNeg) zj)) 81) (kk - (1 : Int32)) T43.heap n0 O F_43 V_43 (own_dvp hp0 hp1 hC.2) (own_nlt hp0) (own_lt81 hp1)) 0 [] pd__28I_29I (hb hby at_222) (Eq.refl T43.heap) (fun _ T44 L44 X44 hQ44 => ?_)
     obtain ⟨rfl, Nq44, e44⟩ := hQ44
     have N44 := Fr.app N43 Nq44
     refine Go.step (S' := T44.setTop (mkF m 234 #[iv p0, iv p1, iv p2, iv p3, iv p4, rv b1, lv (0 : Int64), .second, rv b1, lv (1 : Int64), .second, rv b1, lv (2 : Int64), .second, iv 1, iv kk, iv xh, iv (kk - (1 : Int32)), iv pi, iv qi, iv 48, rv rb_38, rv gb_43, iv (kk - (1 : Int32))] [(.int qi), (.ref gb_43)])) (fun t k => ?_) ?_
     · refine XS.iload X44.here hx rfl (hb hby at_225) rfl ?_
       refine XS.icmpNo X44.here hx rfl (hb hby at_227) rfl (teq (rfl : (kk - (1 : Int32)) = (kk - (1 : Int32)))).2 ?_
       refine XS.aload X44.here hx rfl (hb hby at_230) rfl rfl ?_
       refine XS.iload X44.here hx rfl (hb hby at_232) rfl ?_
       exact k
     refine Go.cV X44 hx hml hown hZ (own_w hw 151 rfl) (own_w hw 152 rfl) (own_w hw 154 rfl) (own_w hw 153 rfl) (own_w hw 65 rfl) (own_w hw 155 rfl) E_43 (rmGD l Z a0 hw [] gb_43 qi db_43 kd_43 (own_cl (fun zj => own_dg ((own_xf (48 : Int32) xh pi.toNatClampNeg) zj)) 81) (kk - (1 : Int32)) T43.heap n0 O F_43 V_43 (by rw [hc202]; exact own_dvp hp0 hp1 hC.2) (own_nlt hq0) (own_lt81 hq1)) 0 [] pd__28I_29I (hb hby at_234) e44 (fun _ T45 L45 X45 hQ45 => ?_)
     obtain ⟨rfl, Nq45, e45⟩ := hQ45
     have N45 := Fr.app N44 Nq45
     refine Go.step (S' := T45.setTop (mkF m 247 #[iv p0, iv p1, iv p2, iv p3, iv p4, rv b1, lv (0 : Int64), .second, rv b1, lv (1 : Int64), .second, rv b1, lv (2 : Int64), .second, iv 1, iv kk, iv xh, iv (kk - (1 : Int32)), iv pi, iv qi, iv 48, rv rb_38, rv gb_43, iv (kk - (1 : Int32))] [(.int 1)])) (fun t k => ?_) ?_
     · refine XS.iload X45.here hx rfl (hb hby at_237) rfl ?_
       refine XS.icmpNo X45.here hx rfl (hb hby at_239) rfl (teq (rfl : (kk - (1 : Int32)) = (kk - (1 : Int32)))).2 ?_
       refine XS.iconst X45.here hx rfl (hb hby at_242) ?_
       refine XS.goto X45.here hx rfl (pc0 := 243) (pc' := 247) rfl (hb hby at_243) (by decide) (by decide) ?_
       exact k
     obtain ⟨fs, hr, hrun, hended, hR⟩ := X45.leaveW hS (by rw [e45]; exact hk) (v := some (.int 1)) (fun h => by rw [Bd.returns] at h; cases h)
     refine Go.fin (S' := T45.setFrames fs) ?_ hrun hended ⟨_, _, rfl, ?_, hR.1, hR.2.1, hR.2.2.1, hR.2.2.2.mono (by decide) (by decide)⟩
     · exact retOut X45 hx Bd.returns (by decide) (Or.inl ⟨rfl, Or.inr (Or.inl rfl), _, rfl⟩) (hb hby at_247) hr
     · show Q_rm0 Z p0 p1 p2 p3 p4 cs sf h0 n0 (some (.int 1)) T45.heap _
       rw [e45]
       exact ⟨rfl, N45, K⟩
    ·skip
     refine Go.step (S' := T43.setTop (mkF m 222 #[iv p0, iv p1, iv p2, iv p3, iv p4, rv b1, lv (0 : Int64), .second, rv b1, lv (1 : Int64), .second, rv b1, lv (2 : Int64), .second, iv 1, iv kk, iv xh, iv (kk - (1 : Int32)), iv pi, iv qi, iv 48, rv rb_38, rv gb_43, iv 0] [(.int pi), (.ref gb_43)])) (fun t k => ?_) ?_
     · refine XS.icmpYes X43.here hx rfl (pc0 := 202) (pc' := 210) rfl (hb hby at_202) rfl (feq (hc202 : ¬ (qi = pi))).2 (by decide) (by decide) ?_
       refine XS.iconst X43.here hx rfl (hb hby at_210) ?_
       refine XS.istore X43.here hx rfl (hb hby at_211) rfl (l' := #[iv p0, iv p1, iv p2, iv p3, iv p4, rv b1, lv (0 : Int64), .second, rv b1, lv (1 : Int64), .second, rv b1, lv (2 : Int64), .second, iv 1, iv kk, iv xh, iv (kk - (1 : Int32)), iv pi, iv qi, iv 48, rv rb_38, rv gb_43, iv 0]) rfl ?_
       refine XS.iload X43.here hx rfl (hb hby at_213) rfl ?_
       refine XS.ifNo X43.here hx rfl (hb hby at_215) rfl ((if0 _ _).trans (feq ((by decide) : ¬ ((1 : Int32) = (0 : Int32)))).1) ?_
       refine XS.aload X43.here hx rfl (hb hby at_218) rfl rfl ?_
       show Steps p.tables e below (T43.setTop (mkF m 220 #[iv p0, iv p1, iv p2, iv p3, iv p4, rv b1, lv (0 : Int64), .second, rv b1, lv (1 : Int64), .second, rv b1, lv (2 : Int64), .second, iv 1, iv kk, iv xh, iv (kk - (1 : Int32)), iv pi, iv qi, iv 48, rv rb_38, rv gb_43, iv 0] [(.ref gb_43)])) _
       refine XS.iload X43.here hx rfl (hb hby at_220) rfl ?_
       exact k
     refine Go.cV X43 hx hml hown hZ (own_w hw 151 rfl) (own_w hw 152 rfl) (own_w hw 154 rfl) (own_w hw 153 rfl) (own_w hw 65 rfl) (own_w hw 155 rfl) E_43 (rmGD l Z a0 hw [] gb_43 pi db_43 kd_43 (own_cl (fun zj => own_dg ((own_xf (48 : Int32) xh pi.toNatClampNeg) zj)) 81) (kk - (1 : Int32)) T43.heap n0 O F_43 V_43 (own_dvp hp0 hp1 hC.2) (own_nlt hp0) (own_lt81 hp1)) 0 [] pd__28I_29I (hb hby at_222) (Eq.refl T43.heap) (fun _ T46 L46 X46 hQ46 => ?_)
     obtain ⟨rfl, Nq46, e46⟩ := hQ46
     have N46 := Fr.app N43 Nq46
     refine Go.step (S' := T46.setTop (mkF m 234 #[iv p0, iv p1, iv p2, iv p3, iv p4, rv b1, lv (0 : Int64), .second, rv b1, lv (1 : Int64), .second, rv b1, lv (2 : Int64), .second, iv 1, iv kk, iv xh, iv (kk - (1 : Int32)), iv pi, iv qi, iv 48, rv rb_38, rv gb_43, iv 0] [(.int qi), (.ref gb_43)])) (fun t k => ?_) ?_
     · refine XS.iload X46.here hx rfl (hb hby at_225) rfl ?_
       refine XS.icmpNo X46.here hx rfl (hb hby at_227) rfl (teq (rfl : (kk - (1 : Int32)) = (kk - (1 : Int32)))).2 ?_
       refine XS.aload X46.here hx rfl (hb hby at_230) rfl rfl ?_
       refine XS.iload X46.here hx rfl (hb hby at_232) rfl ?_
       exact k
     refine Go.cV X46 hx hml hown hZ (own_w hw 151 rfl) (own_w hw 152 rfl) (own_w hw 154 rfl) (own_w hw 153 rfl) (own_w hw 65 rfl) (own_w hw 155 rfl) E_43 (rmGD l Z a0 hw [] gb_43 qi db_43 kd_43 (own_cl (fun zj => own_dg ((own_xf (48 : Int32) xh pi.toNatClampNeg) zj)) 81) (0 : Int32) T43.heap n0 O F_43 V_43 (own_dvq hp0 hq0 hq1 hc202 (by decide)) (own_nlt hq0) (own_lt81 hq1)) 0 [] pd__28I_29I (hb hby at_234) e46 (fun _ T47 L47 X47 hQ47 => ?_)
     obtain ⟨rfl, Nq47, e47⟩ := hQ47
     have N47 := Fr.app N46 Nq47
     refine Go.step (S' := T47.setTop (mkF m 247 #[iv p0, iv p1, iv p2, iv p3, iv p4, rv b1, lv (0 : Int64), .second, rv b1, lv (1 : Int64), .second, rv b1, lv (2 : Int64), .second, iv 1, iv kk, iv xh, iv (kk - (1 : Int32)), iv pi, iv qi, iv 48, rv rb_38, rv gb_43, iv 0] [(.int 1)])) (fun t k => ?_) ?_
     · refine XS.iload X47.here hx rfl (hb hby at_237) rfl ?_
       refine XS.icmpNo X47.here hx rfl (hb hby at_239) rfl (teq ((by decide) : (0 : Int32) = (0 : Int32))).2 ?_
       refine XS.iconst X47.here hx rfl (hb hby at_242) ?_
       refine XS.goto X47.here hx rfl (pc0 := 243) (pc' := 247) rfl (hb hby at_243) (by decide) (by decide) ?_
       exact k
     obtain ⟨fs, hr, hrun, hended, hR⟩ := X47.leaveW hS (by rw [e47]; exact hk) (v := some (.int 1)) (fun h => by rw [Bd.returns] at h; cases h)
     refine Go.fin (S' := T47.setFrames fs) ?_ hrun hended ⟨_, _, rfl, ?_, hR.1, hR.2.1, hR.2.2.1, hR.2.2.2.mono (by decide) (by decide)⟩
     · exact retOut X47 hx Bd.returns (by decide) (Or.inl ⟨rfl, Or.inr (Or.inl rfl), _, rfl⟩) (hb hby at_247) hr
     · show Q_rm0 Z p0 p1 p2 p3 p4 cs sf h0 n0 (some (.int 1)) T47.heap _
       rw [e47]
       exact ⟨rfl, N47, K⟩
  ·skip
   refine Go.step (S' := T7.setTop (mkF m 138 #[iv p0, iv p1, iv p2, iv p3, iv p4, rv b1, lv (0 : Int64), .second, rv b1, lv (1 : Int64), .second, rv b1, lv (2 : Int64), .second, iv 1, iv kk, iv ((((48 : Int32) + kk) - (1 : Int32)).toUInt32.toUInt16.toUInt32.toInt32), iv 0, u_, u_, u_, u_, u_, u_] [])) (fun t k => ?_) ?_
   · refine XS.icmpNo X7.here hx rfl (hb hby at_125) rfl (flt (hc125 : ¬ ((1 : Int32) < kk))).2.2.1 ?_
     refine XS.iconst X7.here hx rfl (hb hby at_128) ?_
     refine XS.goto X7.here hx rfl (pc0 := 129) (pc' := 136) rfl (hb hby at_129) (by decide) (by decide) ?_
     refine XS.istore X7.here hx rfl (hb hby at_136) rfl (l' := #[iv p0, iv p1, iv p2, iv p3, iv p4, rv b1, lv (0 : Int64), .second, rv b1, lv (1 : Int64), .second, rv b1, lv (2 : Int64), .second, iv 1, iv kk, iv ((((48 : Int32) + kk) - (1 : Int32)).toUInt32.toUInt16.toUInt32.toInt32), iv 0, u_, u_, u_, u_, u_, u_]) rfl ?_
     exact k
   obtain ⟨xh, hd_xh⟩ : ∃ z : Int32, ((((48 : Int32) + kk) - (1 : Int32)).toUInt32.toUInt16.toUInt32.toInt32) = z := ⟨_, rfl⟩
   rw [hd_xh]
   show Go p e below _ (T7.setTop (mkF m 138 #[iv p0, iv p1, iv p2, iv p3, iv p4, rv b1, lv (0 : Int64), .second, rv b1, lv (1 : Int64), .second, rv b1, lv (2 : Int64), .second, iv 1, iv kk, iv xh, iv 0, u_, u_, u_, u_, u_, u_] []))
   have hC : own_ok xh ∧ own_dg xh = (0 : Int32) := own_cB (own_m (by decide) 11 rfl hd_kk) hd_xh hc104 hc125
   refine Go.step (S' := T7.setTop (mkF m 147 #[iv p0, iv p1, iv p2, iv p3, iv p4, rv b1, lv (0 : Int64), .second, rv b1, lv (1 : Int64), .second, rv b1, lv (2 : Int64), .second, iv 1, iv kk, iv xh, iv 0, iv ((p2 &&& (2147483647 : Int32)) % (81 : Int32)), u_, u_, u_, u_, u_] [])) (fun t k => ?_) ?_
   · refine XS.iloadN X7.here hx rfl (hb hby at_138) rfl ?_
     refine X7.ldcInt hx hown (mvT hZ (own_w hw 31 rfl)) (g := (mkF m 139 #[iv p0, iv p1, iv p2, iv p3, iv p4, rv b1, lv (0 : Int64), .second, rv b1, lv (1 : Int64), .second, rv b1, lv (2 : Int64), .second, iv 1, iv kk, iv xh, iv 0, u_, u_, u_, u_, u_, u_] [(.int p2)])) rfl (hb hby at_139) _ ?_
     refine XS.iand X7.here hx rfl (hb hby at_141) rfl ?_
     refine XS.bipush X7.here hx rfl (hb hby at_142) ?_
     refine iremM X7 hx rfl (hb hby at_144) rfl (by decide) ?_
     refine XS.istore X7.here hx rfl (hb hby at_145) rfl (l' := #[iv p0, iv p1, iv p2, iv p3, iv p4, rv b1, lv (0 : Int64), .second, rv b1, lv (1 : Int64), .second, rv b1, lv (2 : Int64), .second, iv 1, iv kk, iv xh, iv 0, iv ((p2 &&& (2147483647 : Int32)) % (81 : Int32)), u_, u_, u_, u_, u_]) rfl ?_
     exact k
   obtain ⟨pi, hd_pi⟩ : ∃ z : Int32, ((p2 &&& (2147483647 : Int32)) % (81 : Int32)) = z := ⟨_, rfl⟩
   rw [hd_pi]
   show Go p e below _ (T7.setTop (mkF m 147 #[iv p0, iv p1, iv p2, iv p3, iv p4, rv b1, lv (0 : Int64), .second, rv b1, lv (1 : Int64), .second, rv b1, lv (2 : Int64), .second, iv 1, iv kk, iv xh, iv 0, iv pi, u_, u_, u_, u_, u_] []))
   refine Go.step (S' := T7.setTop (mkF m 155 #[iv p0, iv p1, iv p2, iv p3, iv p4, rv b1, lv (0 : Int64), .second, rv b1, lv (1 : Int64), .second, rv b1, lv (2 : Int64), .second, iv 1, iv kk, iv xh, iv 0, iv pi, iv (((p3.toUInt32 >>> ((1 : Int32) &&& 31).toUInt32).toInt32) % (81 : Int32)), u_, u_, u_, u_] [])) (fun t k => ?_) ?_
   · refine XS.iloadN X7.here hx rfl (hb hby at_147) rfl ?_
     refine XS.iconst X7.here hx rfl (hb hby at_148) ?_
     refine XS.iushr X7.here hx rfl (hb hby at_149) rfl ?_
     refine XS.bipush X7.here hx rfl (hb hby at_150) ?_
     refine iremM X7 hx rfl (hb hby at_152) rfl (by decide) ?_
     refine XS.istore X7.here hx rfl (hb hby at_153) rfl (l' := #[iv p0, iv p1, iv p2, iv p3, iv p4, rv b1, lv (0 : Int64), .second, rv b1, lv (1 : Int64), .second, rv b1, lv (2 : Int64), .second, iv 1, iv kk, iv xh, iv 0, iv pi, iv (((p3.toUInt32 >>> ((1 : Int32) &&& 31).toUInt32).toInt32) % (81 : Int32)), u_, u_, u_, u_]) rfl ?_
     exact k
   obtain ⟨qi, hd_qi⟩ : ∃ z : Int32, (((p3.toUInt32 >>> ((1 : Int32) &&& 31).toUInt32).toInt32) % (81 : Int32)) = z := ⟨_, rfl⟩
   rw [hd_qi]
   show Go p e below _ (T7.setTop (mkF m 155 #[iv p0, iv p1, iv p2, iv p3, iv p4, rv b1, lv (0 : Int64), .second, rv b1, lv (1 : Int64), .second, rv b1, lv (2 : Int64), .second, iv 1, iv kk, iv xh, iv 0, iv pi, iv qi, u_, u_, u_, u_] []))
   refine Go.step (S' := T7.setTop (mkF m 158 #[iv p0, iv p1, iv p2, iv p3, iv p4, rv b1, lv (0 : Int64), .second, rv b1, lv (1 : Int64), .second, rv b1, lv (2 : Int64), .second, iv 1, iv kk, iv xh, iv 0, iv pi, iv qi, u_, u_, u_, u_] [(.int (p3 &&& (1 : Int32)))])) (fun t k => ?_) ?_
   · refine XS.iloadN X7.here hx rfl (hb hby at_155) rfl ?_
     refine XS.iconst X7.here hx rfl (hb hby at_156) ?_
     refine XS.iand X7.here hx rfl (hb hby at_157) rfl ?_
     exact k
   by_cases hc158 : (p3 &&& (1 : Int32)) = (0 : Int32)
   ·skip
    refine Go.step (S' := T7.setTop (mkF m 170 #[iv p0, iv p1, iv p2, iv p3, iv p4, rv b1, lv (0 : Int64), .second, rv b1, lv (1 : Int64), .second, rv b1, lv (2 : Int64), .second, iv 1, iv kk, iv xh, iv 0, iv pi, iv qi, iv 46, u_, u_, u_] [])) (fun t k => ?_) ?_
    · refine XS.ifYes X7.here hx rfl (pc0 := 158) (pc' := 166) rfl (hb hby at_158) rfl ((if0 _ _).trans (teq (hc158 : (p3 &&& (1 : Int32)) = (0 : Int32))).1) (by decide) (by decide) ?_
      refine XS.bipush X7.here hx rfl (hb hby at_166) ?_
      refine XS.istore X7.here hx rfl (hb hby at_168) rfl (l' := #[iv p0, iv p1, iv p2, iv p3, iv p4, rv b1, lv (0 : Int64), .second, rv b1, lv (1 : Int64), .second, rv b1, lv (2 : Int64), .second, iv 1, iv kk, iv xh, iv 0, iv pi, iv qi, iv 46, u_, u_, u_]) rfl ?_
      exact k
    obtain ⟨hp0, hp1⟩ := own_m (by decide) 81 rfl hd_pi
    obtain ⟨hq0, hq1⟩ := own_mq hd_qi
    refine Go.step (S' := T7.setTop (mkF m 172 #[iv p0, iv p1, iv p2, iv p3, iv p4, rv b1, lv (0 : Int64), .second, rv b1, lv (1 : Int64), .second, rv b1, lv (2 : Int64), .second, iv 1, iv kk, iv xh, iv 0, iv pi, iv qi, iv 46, u_, u_, u_] [(.int 46)])) (fun t k => ?_) ?_
    · refine XS.iload X7.here hx rfl (hb hby at_170) rfl ?_
      exact k
    refine Go.cS X7 hx hml hown hZ (own_w hw 32 rfl) (own_w hw 33 rfl) (own_w hw 34 rfl) (own_w hw 35 rfl) (rmR l Z a0 hw [] (46 : Int32) T6.heap n0 O (by decide)) 0 [] pd__28C_29_5bC (hb hby at_172) e7 (fun _ T48 L48 X48 hQ48 => ?_)
    obtain ⟨rb_48, kr_48, rfl, Nq48, K48, P48_V, gr_48, sr_48⟩ := hQ48
    have N48 := Fr.app N7 Nq48
    have sz_rb_48 : h0.size ≤ rb_48 := Nat.le_trans K.1 sr_48
    have ne_b1_rb_48 : b1 ≠ rb_48 := Nat.ne_of_lt (Nat.lt_of_lt_of_le E_b1.lt sr_48)
    have ne_cb_2_rb_48 : cb_2 ≠ rb_48 := Nat.ne_of_lt (Nat.lt_of_lt_of_le E_cb_2.lt sr_48)
    have O := O.keep K48 all0
    have hk := Nat.le_trans hk K48.1
    have K := K.trans K48 all0
    have E_b1 := E_b1.keep K48
    have E_po_2 := E_po_2.keep K48
    have E_cb_2 := E_cb_2.keep K48
    have E_po_4 := E_po_4.keep K48
    have E_cb_4 := E_cb_4.keep K48
    have E_po_6 := E_po_6.keep K48
    have F_c_6 := F_c_6.keep K48 nin0
    have F_l_6 := F_l_6.keep K48 nin0
    have F_u_6 := F_u_6.keep K48 nin0
    have V_cb_6 := V_cb_6.keep K48 nin0
    have E_cb_6 := E_cb_6.keep K48
    have V_48 := P48_V
    have g_rb_48 := gr_48
    refine Go.step (S' := T48.setTop (mkF m 183 #[iv p0, iv p1, iv p2, iv p3, iv p4, rv b1, lv (0 : Int64), .second, rv b1, lv (1 : Int64), .second, rv b1, lv (2 : Int64), .second, iv 1, iv kk, iv xh, iv 0, iv pi, iv qi, iv 46, rv rb_48, u_, u_] [(.int xh), (.int pi), (.ref rb_48)])) (fun t k => ?_) ?_
    · refine XS.astore X48.here hx rfl (hb hby at_175) rfl rfl (l' := #[iv p0, iv p1, iv p2, iv p3, iv p4, rv b1, lv (0 : Int64), .second, rv b1, lv (1 : Int64), .second, rv b1, lv (2 : Int64), .second, iv 1, iv kk, iv xh, iv 0, iv pi, iv qi, iv 46, rv rb_48, u_, u_]) rfl ?_
      refine XS.aload X48.here hx rfl (hb hby at_177) rfl rfl ?_
      refine XS.iload X48.here hx rfl (hb hby at_179) rfl ?_
      refine XS.iload X48.here hx rfl (hb hby at_181) rfl ?_
      exact k
    refine Go.cst X48 hx hZ (Eq.refl T48.heap) V_48 (hb hby at_183) ⟨own_nlt hp0, own_lt81 hp1⟩ (by rw [own_cl_len]; exact own_cl81 hp0 hp1) (fun T49 h49 X49 e49 W49 V49 => ?_)
    have O := O.wr W49 g_rb_48
    have hk := Nat.le_trans hk (Keep.of_wr W49).1
    have K := K.wr W49 (Or.inr sz_rb_48)
    have E_b1 := E_b1.wr W49
    have E_po_2 := E_po_2.wr W49
    have E_cb_2 := E_cb_2.wr W49
    have E_po_4 := E_po_4.wr W49
    have E_cb_4 := E_cb_4.wr W49
    have E_po_6 := E_po_6.wr W49
    have F_c_6 := F_c_6.other W49 (Or.inl ne_b1_rb_48)
    have F_l_6 := F_l_6.other W49 (Or.inl ne_b1_rb_48)
    have F_u_6 := F_u_6.other W49 (Or.inl ne_b1_rb_48)
    have V_cb_6 := V_cb_6.other W49 ne_cb_2_rb_48
    have E_cb_6 := E_cb_6.wr W49
    have V_48 : Arv Z h49 rb_48 kr_48 .char (81 : Int32) ((own_tx (46 : Int32) xh pi.toNatClampNeg).map Value.int) (.int 0) := own_txA (own_narc hC.1) V49
    have N49 := Fr.snoc X49 N48 g_rb_48
    obtain ⟨T50, h50, X50, e50, E50, A50, D50, -, st50⟩ := newO X49 hx hZ hown (own_w hw 37 rfl) (own_w hw 38 rfl) (own_w hw 39 rfl) e49 (g := (mkF m 184 #[iv p0, iv p1, iv p2, iv p3, iv p4, rv b1, lv (0 : Int64), .second, rv b1, lv (1 : Int64), .second, rv b1, lv (2 : Int64), .second, iv 1, iv kk, iv xh, iv 0, iv pi, iv qi, iv 46, rv rb_48, u_, u_] [])) rfl (hb hby at_184) (by decide) (by decide)
    obtain ⟨b50, g50⟩ : ∃ z, z = Array.size h49 := ⟨_, rfl⟩
    have g_b50 : n0 ≤ b50 := Nat.le_trans (old_le O) (Nat.le_of_eq g50.symm)
    have sz_b50 : h0.size ≤ b50 := Nat.le_trans K.1 (Nat.le_of_eq g50.symm)
    have ne_b1_b50 : b1 ≠ b50 := Nat.ne_of_lt (Nat.lt_of_lt_of_le E_b1.lt (Nat.le_of_eq g50.symm))
    have ne_cb_2_b50 : cb_2 ≠ b50 := Nat.ne_of_lt (Nat.lt_of_lt_of_le E_cb_2.lt (Nat.le_of_eq g50.symm))
    have ne_rb_48_b50 : rb_48 ≠ b50 := Nat.ne_of_lt (Nat.lt_of_lt_of_le V_48.lt (Nat.le_of_eq g50.symm))
    rw [← g50] at A50 D50 st50
    have O := O.ext E50
    have hk := Nat.le_trans hk E50.1
    have K := K.ext E50
    have E_b1 := E_b1.ext E50
    have E_po_2 := E_po_2.ext E50
    have E_cb_2 := E_cb_2.ext E50
    have E_po_4 := E_po_4.ext E50
    have E_cb_4 := E_cb_4.ext E50
    have E_po_6 := E_po_6.ext E50
    have F_c_6 := F_c_6.ext E50
    have F_l_6 := F_l_6.ext E50
    have F_u_6 := F_u_6.ext E50
    have V_cb_6 := V_cb_6.ext E50
    have E_cb_6 := E_cb_6.ext E50
    have V_48 := V_48.ext E50
    have E_b50 := A50
    have F_coder_b50 : Fd_2 Z h50 b50 (.int 0) := D50 (Or.inr (own_w hw 60 rfl)) (ty := .byte) (by decide)
    have F_value_b50 : Fd_3 Z h50 b50 .null := D50 (Or.inr (own_w hw 62 rfl)) (ty := (.array .byte)) (by decide)
    refine Go.step st50 ?_
    refine Go.step (S' := T50.setTop (mkF m 190 #[iv p0, iv p1, iv p2, iv p3, iv p4, rv b1, lv (0 : Int64), .second, rv b1, lv (1 : Int64), .second, rv b1, lv (2 : Int64), .second, iv 1, iv kk, iv xh, iv 0, iv pi, iv qi, iv 46, rv rb_48, u_, u_] [(.ref rb_48), (.ref b50), (.ref b50)])) (fun t k => ?_) ?_
    · refine XS.dup X50.here hx rfl (hb hby at_187) rfl rfl ?_
      refine XS.aload X50.here hx rfl (hb hby at_188) rfl rfl ?_
      exact k
    obtain ⟨_, _, ⟨T52, L52, k52, n52⟩, -, X52, ⟨Lc52, hQ52, l52, y52, z52⟩, st52⟩ := X50.specialBack hx (y := y_23) rfl hown (mvT hZ (own_w hw 40 rfl)) (mvT hZ (own_w hw 41 rfl)) (mvT hZ (own_w hw 42 rfl)) (by decide) (StrChars.Road.backV (W := 1) hZ (own_ws hw) (kI := 4) (own_w hw 38 rfl) (cs := (own_tx (46 : Int32) xh pi.toNatClampNeg)) (bs := ((own_tx (46 : Int32) xh pi.toNatClampNeg).map (fun c => c.toInt8.toInt32))) (n := 81) (n0 := n0) g_b50 (old_le O) E_b50 F_value_b50 F_coder_b50 V_48 (S_CS.ext O.2) hcs (own_tx_len _ _ _) rfl (by decide) (by decide) (own_tx_lat (by decide) hC.1) rfl (by decide) (by decide)) (g := (mkF m 190 #[iv p0, iv p1, iv p2, iv p3, iv p4, rv b1, lv (0 : Int64), .second, rv b1, lv (1 : Int64), .second, rv b1, lv (2 : Int64), .second, iv 1, iv kk, iv xh, iv 0, iv pi, iv qi, iv 46, rv rb_48, u_, u_] [(.ref rb_48), (.ref b50), (.ref b50)])) rfl (by rw [hml]; rfl) (Steps.refl _) (a := b50) (argsL := [(.ref rb_48)]) (rest := [(.ref b50)]) (lenOf pd__28_5bC_29V rfl) rfl (Nat.le_of_eq rfl) (hb hby at_190) (fun _ _ => ⟨rfl, e50, (by decide : 4 + 1 ≤ _), (by decide : 169 + 81 ≤ _)⟩)
    dsimp only [Pt.U, Pt.locs, Pt.cells, Pt.slots] at X52 l52 y52 z52 st52 hQ52
    subst l52 y52 z52
    obtain ⟨rfl, Nq52, K52, PE, PC, tb_, kb_, gtb, stb, ntb, PV, PA⟩ := hQ52
    have N52 := Fr.app N49 Nq52
    have O := O.keep K52 (allS g_b50 all0)
    have hk := Nat.le_trans hk K52.1
    have K := K.trans K52 (allS (Or.inr sz_b50) all0)
    have E_b1 := E_b1.keep K52
    have E_po_2 := E_po_2.keep K52
    have E_cb_2 := E_cb_2.keep K52
    have E_po_4 := E_po_4.keep K52
    have E_cb_4 := E_cb_4.keep K52
    have E_po_6 := E_po_6.keep K52
    have F_c_6 := F_c_6.keep K52 (ninS ne_b1_b50 nin0)
    have F_l_6 := F_l_6.keep K52 (ninS ne_b1_b50 nin0)
    have F_u_6 := F_u_6.keep K52 (ninS ne_b1_b50 nin0)
    have V_cb_6 := V_cb_6.keep K52 (ninS ne_cb_2_b50 nin0)
    have E_cb_6 := E_cb_6.keep K52
    have V_48 := V_48.keep K52 (ninS ne_rb_48_b50 nin0)
    have E_b50 := E_b50.keep K52
    have E_so := PE
    have F_value_so := PV
    have F_coder_so := PC
    have V_tb := PA
    refine Go.step (fun t k => st52.trans k) ?_
    obtain ⟨_, _, ⟨T53, L53, k53, n53⟩, -, X53, hS53, hgr53, ⟨Lc53, hQ53, l53, y53, z53⟩, st53⟩ := callSS X52 hx (y := y_19) hown (mvT hZ (own_w hw 63 rfl)) (mvT hZ (own_w hw 64 rfl)) (mvT hZ (own_w hw 65 rfl)) (mvT hZ (own_w hw 66 rfl)) (by decide) (backOfS (W := 0) (rmPa l Z a0 hw [] b50 tb_ kb_ (((own_tx (46 : Int32) xh pi.toNatClampNeg).map (fun c => c.toInt8.toInt32)).map Value.int) cs sf (fun z => ((own_xf (46 : Int32) xh pi.toNatClampNeg) z).toInt8.toInt32) (own_xf (46 : Int32) xh pi.toNatClampNeg) pi.toNatClampNeg T52.heap n0 O S_CS E_so F_value_so F_coder_so V_tb S_FM hcs hsf (own_hxs (by decide) hC.1) (own_hpp (by decide))) hZ (own_w hw 66 rfl) (own_w hw 65 rfl) (by decide) (by decide)) (g := (mkF m 193 #[iv p0, iv p1, iv p2, iv p3, iv p4, rv b1, lv (0 : Int64), .second, rv b1, lv (1 : Int64), .second, rv b1, lv (2 : Int64), .second, iv 1, iv kk, iv xh, iv 0, iv pi, iv qi, iv 46, rv rb_48, u_, u_] [(.ref b50)])) rfl (by rw [hml]; rfl) (argsL := [(.ref b50)]) (rest := []) (lenOf pd__28Ljava_2flang_2fCharSequence_3b_29Lorg_2fninefold_2fmodel_2fGrid_3b rfl) rfl (Nat.le_of_eq rfl) (hb hby at_193) (fun _ _ => ⟨rfl, (Eq.refl T52.heap), (by decide : 5 + 9 ≤ _), (by decide : 250 + 281 ≤ _)⟩)
    dsimp only [Pt.U, Pt.locs, Pt.cells, Pt.slots] at X53 l53 y53 z53 st53 hQ53 hS53 hgr53
    subst l53 y53 z53
    have hS := foldS hS (by exact hk) hS53 hgr53
    have hown : (s.setVm T53.vm).vm.findClass "org/ninefold/model/PuzzleTextAppendPinLaw" = some m.cls := by show T53.vm.findClass _ = _; rw [hS53.1.alike.findClass]; exact hown
    have hZ : Z.Warmed39 (s.setVm T53.vm).vm := State.Warmed39.trans hZ hS53.1
    have X53 : Stand p l e room_1 (s.setVm T53.vm) m #[(.int p0), (.int p1), (.int p2), (.int p3), (.int p4)] below meth c T53 _ _ _ := X53
    obtain ⟨gb_53, db_53, kd_53, rfl, Nq53, K53, P53_E, P53_F, P53_V⟩ := hQ53
    have N53 := Fr.app N52 Nq53
    have O := O.keep K53 all0
    have K := K.trans K53 all0
    have E_b1 := E_b1.keep K53
    have E_po_2 := E_po_2.keep K53
    have E_cb_2 := E_cb_2.keep K53
    have E_po_4 := E_po_4.keep K53
    have E_cb_4 := E_cb_4.keep K53
    have E_po_6 := E_po_6.keep K53
    have F_c_6 := F_c_6.keep K53 nin0
    have F_l_6 := F_l_6.keep K53 nin0
    have F_u_6 := F_u_6.keep K53 nin0
    have V_cb_6 := V_cb_6.keep K53 nin0
    have E_cb_6 := E_cb_6.keep K53
    have V_48 := V_48.keep K53 nin0
    have E_so := E_so.keep K53
    have F_value_so := F_value_so.keep K53 nin0
    have F_coder_so := F_coder_so.keep K53 nin0
    have V_tb := V_tb.keep K53 nin0
    have E_53 := P53_E
    have F_53 := P53_F
    have V_53 := P53_V
    have hk : T53.heap.size ≤ (T53.heap).size := Nat.le_refl _
    refine Go.step (fun t k => st53.trans k) ?_
    refine Go.step (S' := T53.setTop (mkF m 202 #[iv p0, iv p1, iv p2, iv p3, iv p4, rv b1, lv (0 : Int64), .second, rv b1, lv (1 : Int64), .second, rv b1, lv (2 : Int64), .second, iv 1, iv kk, iv xh, iv 0, iv pi, iv qi, iv 46, rv rb_48, rv gb_53, u_] [(.int pi), (.int qi)])) (fun t k => ?_) ?_
    · refine XS.astore X53.here hx rfl (hb hby at_196) rfl rfl (l' := #[iv p0, iv p1, iv p2, iv p3, iv p4, rv b1, lv (0 : Int64), .second, rv b1, lv (1 : Int64), .second, rv b1, lv (2 : Int64), .second, iv 1, iv kk, iv xh, iv 0, iv pi, iv qi, iv 46, rv rb_48, rv gb_53, u_]) rfl ?_
      refine XS.iload X53.here hx rfl (hb hby at_198) rfl ?_
      refine XS.iload X53.here hx rfl (hb hby at_200) rfl ?_
      exact k
    by_cases hc202 : qi = pi
    ·skip
     refine Go.step (S' := T53.setTop (mkF m 222 #[iv p0, iv p1, iv p2, iv p3, iv p4, rv b1, lv (0 : Int64), .second, rv b1, lv (1 : Int64), .second, rv b1, lv (2 : Int64), .second, iv 1, iv kk, iv xh, iv 0, iv pi, iv qi, iv 46, rv rb_48, rv gb_53, iv 0] [(.int pi), (.ref gb_53)])) (fun t k => ?_) ?_
     · refine XS.icmpNo X53.here hx rfl (hb hby at_202) rfl (teq (hc202 : qi = pi)).2 ?_
       refine XS.iload X53.here hx rfl (hb hby at_205) rfl ?_
       refine XS.goto X53.here hx rfl (pc0 := 207) (pc' := 211) rfl (hb hby at_207) (by decide) (by decide) ?_
       refine XS.istore X53.here hx rfl (hb hby at_211) rfl (l' := #[iv p0, iv p1, iv p2, iv p3, iv p4, rv b1, lv (0 : Int64), .second, rv b1, lv (1 : Int64), .second, rv b1, lv (2 : Int64), .second, iv 1, iv kk, iv xh, iv 0, iv pi, iv qi, iv 46, rv rb_48, rv gb_53, iv 0]) rfl ?_
       refine XS.iload X53.here hx rfl (hb hby at_213) rfl ?_
       refine XS.ifNo X53.here hx rfl (hb hby at_215) rfl ((if0 _ _).trans (feq ((by decide) : ¬ ((1 : Int32) = (0 : Int32)))).1) ?_
       show Steps p.tables e below (T53.setTop (mkF m 218 #[iv p0, iv p1, iv p2, iv p3, iv p4, rv b1, lv (0 : Int64), .second, rv b1, lv (1 : Int64), .second, rv b1, lv (2 : Int64), .second, iv 1, iv kk, iv xh, iv 0, iv pi, iv qi, iv 46, rv rb_48, rv gb_53, iv 0] [])) _
       refine XS.aload X53.here hx rfl (hb hby at_218) rfl rfl ?_
       refine XS.iload X53.here hx rfl (hb hby at_220) rfl ?_
       exact k
     refine Go.cV X53 hx hml hown hZ (own_w hw 151 rfl) (own_w hw 152 rfl) (own_w hw 154 rfl) (own_w hw 153 rfl) (own_w hw 65 rfl) (own_w hw 155 rfl) E_53 (rmGD l Z a0 hw [] gb_53 pi db_53 kd_53 (own_cl (fun zj => own_dg ((own_xf (46 : Int32) xh pi.toNatClampNeg) zj)) 81) (0 : Int32) T53.heap n0 O F_53 V_53 (own_dvp hp0 hp1 hC.2) (own_nlt hp0) (own_lt81 hp1)) 0 [] pd__28I_29I (hb hby at_222) (Eq.refl T53.heap) (fun _ T54 L54 X54 hQ54 => ?_)
     obtain ⟨rfl, Nq54, e54⟩ := hQ54
     have N54 := Fr.app N53 Nq54
     refine Go.step (S' := T54.setTop (mkF m 234 #[iv p0, iv p1, iv p2, iv p3, iv p4, rv b1, lv (0 : Int64), .second, rv b1, lv (1 : Int64), .second, rv b1, lv (2 : Int64), .second, iv 1, iv kk, iv xh, iv 0, iv pi, iv qi, iv 46, rv rb_48, rv gb_53, iv 0] [(.int qi), (.ref gb_53)])) (fun t k => ?_) ?_
     · refine XS.iload X54.here hx rfl (hb hby at_225) rfl ?_
       refine XS.icmpNo X54.here hx rfl (hb hby at_227) rfl (teq ((by decide) : (0 : Int32) = (0 : Int32))).2 ?_
       refine XS.aload X54.here hx rfl (hb hby at_230) rfl rfl ?_
       refine XS.iload X54.here hx rfl (hb hby at_232) rfl ?_
       exact k
     refine Go.cV X54 hx hml hown hZ (own_w hw 151 rfl) (own_w hw 152 rfl) (own_w hw 154 rfl) (own_w hw 153 rfl) (own_w hw 65 rfl) (own_w hw 155 rfl) E_53 (rmGD l Z a0 hw [] gb_53 qi db_53 kd_53 (own_cl (fun zj => own_dg ((own_xf (46 : Int32) xh pi.toNatClampNeg) zj)) 81) (0 : Int32) T53.heap n0 O F_53 V_53 (by rw [hc202]; exact own_dvp hp0 hp1 hC.2) (own_nlt hq0) (own_lt81 hq1)) 0 [] pd__28I_29I (hb hby at_234) e54 (fun _ T55 L55 X55 hQ55 => ?_)
     obtain ⟨rfl, Nq55, e55⟩ := hQ55
     have N55 := Fr.app N54 Nq55
     refine Go.step (S' := T55.setTop (mkF m 247 #[iv p0, iv p1, iv p2, iv p3, iv p4, rv b1, lv (0 : Int64), .second, rv b1, lv (1 : Int64), .second, rv b1, lv (2 : Int64), .second, iv 1, iv kk, iv xh, iv 0, iv pi, iv qi, iv 46, rv rb_48, rv gb_53, iv 0] [(.int 1)])) (fun t k => ?_) ?_
     · refine XS.iload X55.here hx rfl (hb hby at_237) rfl ?_
       refine XS.icmpNo X55.here hx rfl (hb hby at_239) rfl (teq ((by decide) : (0 : Int32) = (0 : Int32))).2 ?_
       refine XS.iconst X55.here hx rfl (hb hby at_242) ?_
       refine XS.goto X55.here hx rfl (pc0 := 243) (pc' := 247) rfl (hb hby at_243) (by decide) (by decide) ?_
       exact k
     obtain ⟨fs, hr, hrun, hended, hR⟩ := X55.leaveW hS (by rw [e55]; exact hk) (v := some (.int 1)) (fun h => by rw [Bd.returns] at h; cases h)
     refine Go.fin (S' := T55.setFrames fs) ?_ hrun hended ⟨_, _, rfl, ?_, hR.1, hR.2.1, hR.2.2.1, hR.2.2.2.mono (by decide) (by decide)⟩
     · exact retOut X55 hx Bd.returns (by decide) (Or.inl ⟨rfl, Or.inr (Or.inl rfl), _, rfl⟩) (hb hby at_247) hr
     · show Q_rm0 Z p0 p1 p2 p3 p4 cs sf h0 n0 (some (.int 1)) T55.heap _
       rw [e55]
       exact ⟨rfl, N55, K⟩
    ·skip
     refine Go.step (S' := T53.setTop (mkF m 222 #[iv p0, iv p1, iv p2, iv p3, iv p4, rv b1, lv (0 : Int64), .second, rv b1, lv (1 : Int64), .second, rv b1, lv (2 : Int64), .second, iv 1, iv kk, iv xh, iv 0, iv pi, iv qi, iv 46, rv rb_48, rv gb_53, iv 0] [(.int pi), (.ref gb_53)])) (fun t k => ?_) ?_
     · refine XS.icmpYes X53.here hx rfl (pc0 := 202) (pc' := 210) rfl (hb hby at_202) rfl (feq (hc202 : ¬ (qi = pi))).2 (by decide) (by decide) ?_
       refine XS.iconst X53.here hx rfl (hb hby at_210) ?_
       refine XS.istore X53.here hx rfl (hb hby at_211) rfl (l' := #[iv p0, iv p1, iv p2, iv p3, iv p4, rv b1, lv (0 : Int64), .second, rv b1, lv (1 : Int64), .second, rv b1, lv (2 : Int64), .second, iv 1, iv kk, iv xh, iv 0, iv pi, iv qi, iv 46, rv rb_48, rv gb_53, iv 0]) rfl ?_
       refine XS.iload X53.here hx rfl (hb hby at_213) rfl ?_
       refine XS.ifNo X53.here hx rfl (hb hby at_215) rfl ((if0 _ _).trans (feq ((by decide) : ¬ ((1 : Int32) = (0 : Int32)))).1) ?_
       refine XS.aload X53.here hx rfl (hb hby at_218) rfl rfl ?_
       show Steps p.tables e below (T53.setTop (mkF m 220 #[iv p0, iv p1, iv p2, iv p3, iv p4, rv b1, lv (0 : Int64), .second, rv b1, lv (1 : Int64), .second, rv b1, lv (2 : Int64), .second, iv 1, iv kk, iv xh, iv 0, iv pi, iv qi, iv 46, rv rb_48, rv gb_53, iv 0] [(.ref gb_53)])) _
       refine XS.iload X53.here hx rfl (hb hby at_220) rfl ?_
       exact k
     refine Go.cV X53 hx hml hown hZ (own_w hw 151 rfl) (own_w hw 152 rfl) (own_w hw 154 rfl) (own_w hw 153 rfl) (own_w hw 65 rfl) (own_w hw 155 rfl) E_53 (rmGD l Z a0 hw [] gb_53 pi db_53 kd_53 (own_cl (fun zj => own_dg ((own_xf (46 : Int32) xh pi.toNatClampNeg) zj)) 81) (0 : Int32) T53.heap n0 O F_53 V_53 (own_dvp hp0 hp1 hC.2) (own_nlt hp0) (own_lt81 hp1)) 0 [] pd__28I_29I (hb hby at_222) (Eq.refl T53.heap) (fun _ T56 L56 X56 hQ56 => ?_)
     obtain ⟨rfl, Nq56, e56⟩ := hQ56
     have N56 := Fr.app N53 Nq56
     refine Go.step (S' := T56.setTop (mkF m 234 #[iv p0, iv p1, iv p2, iv p3, iv p4, rv b1, lv (0 : Int64), .second, rv b1, lv (1 : Int64), .second, rv b1, lv (2 : Int64), .second, iv 1, iv kk, iv xh, iv 0, iv pi, iv qi, iv 46, rv rb_48, rv gb_53, iv 0] [(.int qi), (.ref gb_53)])) (fun t k => ?_) ?_
     · refine XS.iload X56.here hx rfl (hb hby at_225) rfl ?_
       refine XS.icmpNo X56.here hx rfl (hb hby at_227) rfl (teq ((by decide) : (0 : Int32) = (0 : Int32))).2 ?_
       refine XS.aload X56.here hx rfl (hb hby at_230) rfl rfl ?_
       refine XS.iload X56.here hx rfl (hb hby at_232) rfl ?_
       exact k
     refine Go.cV X56 hx hml hown hZ (own_w hw 151 rfl) (own_w hw 152 rfl) (own_w hw 154 rfl) (own_w hw 153 rfl) (own_w hw 65 rfl) (own_w hw 155 rfl) E_53 (rmGD l Z a0 hw [] gb_53 qi db_53 kd_53 (own_cl (fun zj => own_dg ((own_xf (46 : Int32) xh pi.toNatClampNeg) zj)) 81) (0 : Int32) T53.heap n0 O F_53 V_53 (own_dvq hp0 hq0 hq1 hc202 (by decide)) (own_nlt hq0) (own_lt81 hq1)) 0 [] pd__28I_29I (hb hby at_234) e56 (fun _ T57 L57 X57 hQ57 => ?_)
     obtain ⟨rfl, Nq57, e57⟩ := hQ57
     have N57 := Fr.app N56 Nq57
     refine Go.step (S' := T57.setTop (mkF m 247 #[iv p0, iv p1, iv p2, iv p3, iv p4, rv b1, lv (0 : Int64), .second, rv b1, lv (1 : Int64), .second, rv b1, lv (2 : Int64), .second, iv 1, iv kk, iv xh, iv 0, iv pi, iv qi, iv 46, rv rb_48, rv gb_53, iv 0] [(.int 1)])) (fun t k => ?_) ?_
     · refine XS.iload X57.here hx rfl (hb hby at_237) rfl ?_
       refine XS.icmpNo X57.here hx rfl (hb hby at_239) rfl (teq ((by decide) : (0 : Int32) = (0 : Int32))).2 ?_
       refine XS.iconst X57.here hx rfl (hb hby at_242) ?_
       refine XS.goto X57.here hx rfl (pc0 := 243) (pc' := 247) rfl (hb hby at_243) (by decide) (by decide) ?_
       exact k
     obtain ⟨fs, hr, hrun, hended, hR⟩ := X57.leaveW hS (by rw [e57]; exact hk) (v := some (.int 1)) (fun h => by rw [Bd.returns] at h; cases h)
     refine Go.fin (S' := T57.setFrames fs) ?_ hrun hended ⟨_, _, rfl, ?_, hR.1, hR.2.1, hR.2.2.1, hR.2.2.2.mono (by decide) (by decide)⟩
     · exact retOut X57 hx Bd.returns (by decide) (Or.inl ⟨rfl, Or.inr (Or.inl rfl), _, rfl⟩) (hb hby at_247) hr
     · show Q_rm0 Z p0 p1 p2 p3 p4 cs sf h0 n0 (some (.int 1)) T57.heap _
       rw [e57]
       exact ⟨rfl, N57, K⟩
   ·skip
    refine Go.step (S' := T7.setTop (mkF m 170 #[iv p0, iv p1, iv p2, iv p3, iv p4, rv b1, lv (0 : Int64), .second, rv b1, lv (1 : Int64), .second, rv b1, lv (2 : Int64), .second, iv 1, iv kk, iv xh, iv 0, iv pi, iv qi, iv 48, u_, u_, u_] [])) (fun t k => ?_) ?_
    · refine XS.ifNo X7.here hx rfl (hb hby at_158) rfl ((if0 _ _).trans (feq (hc158 : ¬ ((p3 &&& (1 : Int32)) = (0 : Int32)))).1) ?_
      refine XS.bipush X7.here hx rfl (hb hby at_161) ?_
      refine XS.goto X7.here hx rfl (pc0 := 163) (pc' := 168) rfl (hb hby at_163) (by decide) (by decide) ?_
      refine XS.istore X7.here hx rfl (hb hby at_168) rfl (l' := #[iv p0, iv p1, iv p2, iv p3, iv p4, rv b1, lv (0 : Int64), .second, rv b1, lv (1 : Int64), .second, rv b1, lv (2 : Int64), .second, iv 1, iv kk, iv xh, iv 0, iv pi, iv qi, iv 48, u_, u_, u_]) rfl ?_
      exact k
    obtain ⟨hp0, hp1⟩ := own_m (by decide) 81 rfl hd_pi
    obtain ⟨hq0, hq1⟩ := own_mq hd_qi
    refine Go.step (S' := T7.setTop (mkF m 172 #[iv p0, iv p1, iv p2, iv p3, iv p4, rv b1, lv (0 : Int64), .second, rv b1, lv (1 : Int64), .second, rv b1, lv (2 : Int64), .second, iv 1, iv kk, iv xh, iv 0, iv pi, iv qi, iv 48, u_, u_, u_] [(.int 48)])) (fun t k => ?_) ?_
    · refine XS.iload X7.here hx rfl (hb hby at_170) rfl ?_
      exact k
    refine Go.cS X7 hx hml hown hZ (own_w hw 32 rfl) (own_w hw 33 rfl) (own_w hw 34 rfl) (own_w hw 35 rfl) (rmR l Z a0 hw [] (48 : Int32) T6.heap n0 O (by decide)) 0 [] pd__28C_29_5bC (hb hby at_172) e7 (fun _ T58 L58 X58 hQ58 => ?_)
    obtain ⟨rb_58, kr_58, rfl, Nq58, K58, P58_V, gr_58, sr_58⟩ := hQ58
    have N58 := Fr.app N7 Nq58
    have sz_rb_58 : h0.size ≤ rb_58 := Nat.le_trans K.1 sr_58
    have ne_b1_rb_58 : b1 ≠ rb_58 := Nat.ne_of_lt (Nat.lt_of_lt_of_le E_b1.lt sr_58)
    have ne_cb_2_rb_58 : cb_2 ≠ rb_58 := Nat.ne_of_lt (Nat.lt_of_lt_of_le E_cb_2.lt sr_58)
    have O := O.keep K58 all0
    have hk := Nat.le_trans hk K58.1
    have K := K.trans K58 all0
    have E_b1 := E_b1.keep K58
    have E_po_2 := E_po_2.keep K58
    have E_cb_2 := E_cb_2.keep K58
    have E_po_4 := E_po_4.keep K58
    have E_cb_4 := E_cb_4.keep K58
    have E_po_6 := E_po_6.keep K58
    have F_c_6 := F_c_6.keep K58 nin0
    have F_l_6 := F_l_6.keep K58 nin0
    have F_u_6 := F_u_6.keep K58 nin0
    have V_cb_6 := V_cb_6.keep K58 nin0
    have E_cb_6 := E_cb_6.keep K58
    have V_58 := P58_V
    have g_rb_58 := gr_58
    refine Go.step (S' := T58.setTop (mkF m 183 #[iv p0, iv p1, iv p2, iv p3, iv p4, rv b1, lv (0 : Int64), .second, rv b1, lv (1 : Int64), .second, rv b1, lv (2 : Int64), .second, iv 1, iv kk, iv xh, iv 0, iv pi, iv qi, iv 48, rv rb_58, u_, u_] [(.int xh), (.int pi), (.ref rb_58)])) (fun t k => ?_) ?_
    · refine XS.astore X58.here hx rfl (hb hby at_175) rfl rfl (l' := #[iv p0, iv p1, iv p2, iv p3, iv p4, rv b1, lv (0 : Int64), .second, rv b1, lv (1 : Int64), .second, rv b1, lv (2 : Int64), .second, iv 1, iv kk, iv xh, iv 0, iv pi, iv qi, iv 48, rv rb_58, u_, u_]) rfl ?_
      refine XS.aload X58.here hx rfl (hb hby at_177) rfl rfl ?_
      refine XS.iload X58.here hx rfl (hb hby at_179) rfl ?_
      refine XS.iload X58.here hx rfl (hb hby at_181) rfl ?_
      exact k
    refine Go.cst X58 hx hZ (Eq.refl T58.heap) V_58 (hb hby at_183) ⟨own_nlt hp0, own_lt81 hp1⟩ (by rw [own_cl_len]; exact own_cl81 hp0 hp1) (fun T59 h59 X59 e59 W59 V59 => ?_)
    have O := O.wr W59 g_rb_58
    have hk := Nat.le_trans hk (Keep.of_wr W59).1
    have K := K.wr W59 (Or.inr sz_rb_58)
    have E_b1 := E_b1.wr W59
    have E_po_2 := E_po_2.wr W59
    have E_cb_2 := E_cb_2.wr W59
    have E_po_4 := E_po_4.wr W59
    have E_cb_4 := E_cb_4.wr W59
    have E_po_6 := E_po_6.wr W59
    have F_c_6 := F_c_6.other W59 (Or.inl ne_b1_rb_58)
    have F_l_6 := F_l_6.other W59 (Or.inl ne_b1_rb_58)
    have F_u_6 := F_u_6.other W59 (Or.inl ne_b1_rb_58)
    have V_cb_6 := V_cb_6.other W59 ne_cb_2_rb_58
    have E_cb_6 := E_cb_6.wr W59
    have V_58 : Arv Z h59 rb_58 kr_58 .char (81 : Int32) ((own_tx (48 : Int32) xh pi.toNatClampNeg).map Value.int) (.int 0) := own_txA (own_narc hC.1) V59
    have N59 := Fr.snoc X59 N58 g_rb_58
    obtain ⟨T60, h60, X60, e60, E60, A60, D60, -, st60⟩ := newO X59 hx hZ hown (own_w hw 37 rfl) (own_w hw 38 rfl) (own_w hw 39 rfl) e59 (g := (mkF m 184 #[iv p0, iv p1, iv p2, iv p3, iv p4, rv b1, lv (0 : Int64), .second, rv b1, lv (1 : Int64), .second, rv b1, lv (2 : Int64), .second, iv 1, iv kk, iv xh, iv 0, iv pi, iv qi, iv 48, rv rb_58, u_, u_] [])) rfl (hb hby at_184) (by decide) (by decide)
    obtain ⟨b60, g60⟩ : ∃ z, z = Array.size h59 := ⟨_, rfl⟩
    have g_b60 : n0 ≤ b60 := Nat.le_trans (old_le O) (Nat.le_of_eq g60.symm)
    have sz_b60 : h0.size ≤ b60 := Nat.le_trans K.1 (Nat.le_of_eq g60.symm)
    have ne_b1_b60 : b1 ≠ b60 := Nat.ne_of_lt (Nat.lt_of_lt_of_le E_b1.lt (Nat.le_of_eq g60.symm))
    have ne_cb_2_b60 : cb_2 ≠ b60 := Nat.ne_of_lt (Nat.lt_of_lt_of_le E_cb_2.lt (Nat.le_of_eq g60.symm))
    have ne_rb_58_b60 : rb_58 ≠ b60 := Nat.ne_of_lt (Nat.lt_of_lt_of_le V_58.lt (Nat.le_of_eq g60.symm))
    rw [← g60] at A60 D60 st60
    have O := O.ext E60
    have hk := Nat.le_trans hk E60.1
    have K := K.ext E60
    have E_b1 := E_b1.ext E60
    have E_po_2 := E_po_2.ext E60
    have E_cb_2 := E_cb_2.ext E60
    have E_po_4 := E_po_4.ext E60
    have E_cb_4 := E_cb_4.ext E60
    have E_po_6 := E_po_6.ext E60
    have F_c_6 := F_c_6.ext E60
    have F_l_6 := F_l_6.ext E60
    have F_u_6 := F_u_6.ext E60
    have V_cb_6 := V_cb_6.ext E60
    have E_cb_6 := E_cb_6.ext E60
    have V_58 := V_58.ext E60
    have E_b60 := A60
    have F_coder_b60 : Fd_2 Z h60 b60 (.int 0) := D60 (Or.inr (own_w hw 60 rfl)) (ty := .byte) (by decide)
    have F_value_b60 : Fd_3 Z h60 b60 .null := D60 (Or.inr (own_w hw 62 rfl)) (ty := (.array .byte)) (by decide)
    refine Go.step st60 ?_
    refine Go.step (S' := T60.setTop (mkF m 190 #[iv p0, iv p1, iv p2, iv p3, iv p4, rv b1, lv (0 : Int64), .second, rv b1, lv (1 : Int64), .second, rv b1, lv (2 : Int64), .second, iv 1, iv kk, iv xh, iv 0, iv pi, iv qi, iv 48, rv rb_58, u_, u_] [(.ref rb_58), (.ref b60), (.ref b60)])) (fun t k => ?_) ?_
    · refine XS.dup X60.here hx rfl (hb hby at_187) rfl rfl ?_
      refine XS.aload X60.here hx rfl (hb hby at_188) rfl rfl ?_
      exact k
    obtain ⟨_, _, ⟨T62, L62, k62, n62⟩, -, X62, ⟨Lc62, hQ62, l62, y62, z62⟩, st62⟩ := X60.specialBack hx (y := y_23) rfl hown (mvT hZ (own_w hw 40 rfl)) (mvT hZ (own_w hw 41 rfl)) (mvT hZ (own_w hw 42 rfl)) (by decide) (StrChars.Road.backV (W := 1) hZ (own_ws hw) (kI := 4) (own_w hw 38 rfl) (cs := (own_tx (48 : Int32) xh pi.toNatClampNeg)) (bs := ((own_tx (48 : Int32) xh pi.toNatClampNeg).map (fun c => c.toInt8.toInt32))) (n := 81) (n0 := n0) g_b60 (old_le O) E_b60 F_value_b60 F_coder_b60 V_58 (S_CS.ext O.2) hcs (own_tx_len _ _ _) rfl (by decide) (by decide) (own_tx_lat (by decide) hC.1) rfl (by decide) (by decide)) (g := (mkF m 190 #[iv p0, iv p1, iv p2, iv p3, iv p4, rv b1, lv (0 : Int64), .second, rv b1, lv (1 : Int64), .second, rv b1, lv (2 : Int64), .second, iv 1, iv kk, iv xh, iv 0, iv pi, iv qi, iv 48, rv rb_58, u_, u_] [(.ref rb_58), (.ref b60), (.ref b60)])) rfl (by rw [hml]; rfl) (Steps.refl _) (a := b60) (argsL := [(.ref rb_58)]) (rest := [(.ref b60)]) (lenOf pd__28_5bC_29V rfl) rfl (Nat.le_of_eq rfl) (hb hby at_190) (fun _ _ => ⟨rfl, e60, (by decide : 4 + 1 ≤ _), (by decide : 169 + 81 ≤ _)⟩)
    dsimp only [Pt.U, Pt.locs, Pt.cells, Pt.slots] at X62 l62 y62 z62 st62 hQ62
    subst l62 y62 z62
    obtain ⟨rfl, Nq62, K62, PE, PC, tb_, kb_, gtb, stb, ntb, PV, PA⟩ := hQ62
    have N62 := Fr.app N59 Nq62
    have O := O.keep K62 (allS g_b60 all0)
    have hk := Nat.le_trans hk K62.1
    have K := K.trans K62 (allS (Or.inr sz_b60) all0)
    have E_b1 := E_b1.keep K62
    have E_po_2 := E_po_2.keep K62
    have E_cb_2 := E_cb_2.keep K62
    have E_po_4 := E_po_4.keep K62
    have E_cb_4 := E_cb_4.keep K62
    have E_po_6 := E_po_6.keep K62
    have F_c_6 := F_c_6.keep K62 (ninS ne_b1_b60 nin0)
    have F_l_6 := F_l_6.keep K62 (ninS ne_b1_b60 nin0)
    have F_u_6 := F_u_6.keep K62 (ninS ne_b1_b60 nin0)
    have V_cb_6 := V_cb_6.keep K62 (ninS ne_cb_2_b60 nin0)
    have E_cb_6 := E_cb_6.keep K62
    have V_58 := V_58.keep K62 (ninS ne_rb_58_b60 nin0)
    have E_b60 := E_b60.keep K62
    have E_so := PE
    have F_value_so := PV
    have F_coder_so := PC
    have V_tb := PA
    refine Go.step (fun t k => st62.trans k) ?_
    obtain ⟨_, _, ⟨T63, L63, k63, n63⟩, -, X63, hS63, hgr63, ⟨Lc63, hQ63, l63, y63, z63⟩, st63⟩ := callSS X62 hx (y := y_19) hown (mvT hZ (own_w hw 63 rfl)) (mvT hZ (own_w hw 64 rfl)) (mvT hZ (own_w hw 65 rfl)) (mvT hZ (own_w hw 66 rfl)) (by decide) (backOfS (W := 0) (rmPa l Z a0 hw [] b60 tb_ kb_ (((own_tx (48 : Int32) xh pi.toNatClampNeg).map (fun c => c.toInt8.toInt32)).map Value.int) cs sf (fun z => ((own_xf (48 : Int32) xh pi.toNatClampNeg) z).toInt8.toInt32) (own_xf (48 : Int32) xh pi.toNatClampNeg) pi.toNatClampNeg T62.heap n0 O S_CS E_so F_value_so F_coder_so V_tb S_FM hcs hsf (own_hxs (by decide) hC.1) (own_hpp (by decide))) hZ (own_w hw 66 rfl) (own_w hw 65 rfl) (by decide) (by decide)) (g := (mkF m 193 #[iv p0, iv p1, iv p2, iv p3, iv p4, rv b1, lv (0 : Int64), .second, rv b1, lv (1 : Int64), .second, rv b1, lv (2 : Int64), .second, iv 1, iv kk, iv xh, iv 0, iv pi, iv qi, iv 48, rv rb_58, u_, u_] [(.ref b60)])) rfl (by rw [hml]; rfl) (argsL := [(.ref b60)]) (rest := []) (lenOf pd__28Ljava_2flang_2fCharSequence_3b_29Lorg_2fninefold_2fmodel_2fGrid_3b rfl) rfl (Nat.le_of_eq rfl) (hb hby at_193) (fun _ _ => ⟨rfl, (Eq.refl T62.heap), (by decide : 5 + 9 ≤ _), (by decide : 250 + 281 ≤ _)⟩)
    dsimp only [Pt.U, Pt.locs, Pt.cells, Pt.slots] at X63 l63 y63 z63 st63 hQ63 hS63 hgr63
    subst l63 y63 z63
    have hS := foldS hS (by exact hk) hS63 hgr63
    have hown : (s.setVm T63.vm).vm.findClass "org/ninefold/model/PuzzleTextAppendPinLaw" = some m.cls := by show T63.vm.findClass _ = _; rw [hS63.1.alike.findClass]; exact hown
    have hZ : Z.Warmed39 (s.setVm T63.vm).vm := State.Warmed39.trans hZ hS63.1
    have X63 : Stand p l e room_1 (s.setVm T63.vm) m #[(.int p0), (.int p1), (.int p2), (.int p3), (.int p4)] below meth c T63 _ _ _ := X63
    obtain ⟨gb_63, db_63, kd_63, rfl, Nq63, K63, P63_E, P63_F, P63_V⟩ := hQ63
    have N63 := Fr.app N62 Nq63
    have O := O.keep K63 all0
    have K := K.trans K63 all0
    have E_b1 := E_b1.keep K63
    have E_po_2 := E_po_2.keep K63
    have E_cb_2 := E_cb_2.keep K63
    have E_po_4 := E_po_4.keep K63
    have E_cb_4 := E_cb_4.keep K63
    have E_po_6 := E_po_6.keep K63
    have F_c_6 := F_c_6.keep K63 nin0
    have F_l_6 := F_l_6.keep K63 nin0
    have F_u_6 := F_u_6.keep K63 nin0
    have V_cb_6 := V_cb_6.keep K63 nin0
    have E_cb_6 := E_cb_6.keep K63
    have V_58 := V_58.keep K63 nin0
    have E_so := E_so.keep K63
    have F_value_so := F_value_so.keep K63 nin0
    have F_coder_so := F_coder_so.keep K63 nin0
    have V_tb := V_tb.keep K63 nin0
    have E_63 := P63_E
    have F_63 := P63_F
    have V_63 := P63_V
    have hk : T63.heap.size ≤ (T63.heap).size := Nat.le_refl _
    refine Go.step (fun t k => st63.trans k) ?_
    refine Go.step (S' := T63.setTop (mkF m 202 #[iv p0, iv p1, iv p2, iv p3, iv p4, rv b1, lv (0 : Int64), .second, rv b1, lv (1 : Int64), .second, rv b1, lv (2 : Int64), .second, iv 1, iv kk, iv xh, iv 0, iv pi, iv qi, iv 48, rv rb_58, rv gb_63, u_] [(.int pi), (.int qi)])) (fun t k => ?_) ?_
    · refine XS.astore X63.here hx rfl (hb hby at_196) rfl rfl (l' := #[iv p0, iv p1, iv p2, iv p3, iv p4, rv b1, lv (0 : Int64), .second, rv b1, lv (1 : Int64), .second, rv b1, lv (2 : Int64), .second, iv 1, iv kk, iv xh, iv 0, iv pi, iv qi, iv 48, rv rb_58, rv gb_63, u_]) rfl ?_
      refine XS.iload X63.here hx rfl (hb hby at_198) rfl ?_
      refine XS.iload X63.here hx rfl (hb hby at_200) rfl ?_
      exact k
    by_cases hc202 : qi = pi
    ·skip
     refine Go.step (S' := T63.setTop (mkF m 222 #[iv p0, iv p1, iv p2, iv p3, iv p4, rv b1, lv (0 : Int64), .second, rv b1, lv (1 : Int64), .second, rv b1, lv (2 : Int64), .second, iv 1, iv kk, iv xh, iv 0, iv pi, iv qi, iv 48, rv rb_58, rv gb_63, iv 0] [(.int pi), (.ref gb_63)])) (fun t k => ?_) ?_
     · refine XS.icmpNo X63.here hx rfl (hb hby at_202) rfl (teq (hc202 : qi = pi)).2 ?_
       refine XS.iload X63.here hx rfl (hb hby at_205) rfl ?_
       refine XS.goto X63.here hx rfl (pc0 := 207) (pc' := 211) rfl (hb hby at_207) (by decide) (by decide) ?_
       refine XS.istore X63.here hx rfl (hb hby at_211) rfl (l' := #[iv p0, iv p1, iv p2, iv p3, iv p4, rv b1, lv (0 : Int64), .second, rv b1, lv (1 : Int64), .second, rv b1, lv (2 : Int64), .second, iv 1, iv kk, iv xh, iv 0, iv pi, iv qi, iv 48, rv rb_58, rv gb_63, iv 0]) rfl ?_
       refine XS.iload X63.here hx rfl (hb hby at_213) rfl ?_
       refine XS.ifNo X63.here hx rfl (hb hby at_215) rfl ((if0 _ _).trans (feq ((by decide) : ¬ ((1 : Int32) = (0 : Int32)))).1) ?_
       show Steps p.tables e below (T63.setTop (mkF m 218 #[iv p0, iv p1, iv p2, iv p3, iv p4, rv b1, lv (0 : Int64), .second, rv b1, lv (1 : Int64), .second, rv b1, lv (2 : Int64), .second, iv 1, iv kk, iv xh, iv 0, iv pi, iv qi, iv 48, rv rb_58, rv gb_63, iv 0] [])) _
       refine XS.aload X63.here hx rfl (hb hby at_218) rfl rfl ?_
       refine XS.iload X63.here hx rfl (hb hby at_220) rfl ?_
       exact k
     refine Go.cV X63 hx hml hown hZ (own_w hw 151 rfl) (own_w hw 152 rfl) (own_w hw 154 rfl) (own_w hw 153 rfl) (own_w hw 65 rfl) (own_w hw 155 rfl) E_63 (rmGD l Z a0 hw [] gb_63 pi db_63 kd_63 (own_cl (fun zj => own_dg ((own_xf (48 : Int32) xh pi.toNatClampNeg) zj)) 81) (0 : Int32) T63.heap n0 O F_63 V_63 (own_dvp hp0 hp1 hC.2) (own_nlt hp0) (own_lt81 hp1)) 0 [] pd__28I_29I (hb hby at_222) (Eq.refl T63.heap) (fun _ T64 L64 X64 hQ64 => ?_)
     obtain ⟨rfl, Nq64, e64⟩ := hQ64
     have N64 := Fr.app N63 Nq64
     refine Go.step (S' := T64.setTop (mkF m 234 #[iv p0, iv p1, iv p2, iv p3, iv p4, rv b1, lv (0 : Int64), .second, rv b1, lv (1 : Int64), .second, rv b1, lv (2 : Int64), .second, iv 1, iv kk, iv xh, iv 0, iv pi, iv qi, iv 48, rv rb_58, rv gb_63, iv 0] [(.int qi), (.ref gb_63)])) (fun t k => ?_) ?_
     · refine XS.iload X64.here hx rfl (hb hby at_225) rfl ?_
       refine XS.icmpNo X64.here hx rfl (hb hby at_227) rfl (teq ((by decide) : (0 : Int32) = (0 : Int32))).2 ?_
       refine XS.aload X64.here hx rfl (hb hby at_230) rfl rfl ?_
       refine XS.iload X64.here hx rfl (hb hby at_232) rfl ?_
       exact k
     refine Go.cV X64 hx hml hown hZ (own_w hw 151 rfl) (own_w hw 152 rfl) (own_w hw 154 rfl) (own_w hw 153 rfl) (own_w hw 65 rfl) (own_w hw 155 rfl) E_63 (rmGD l Z a0 hw [] gb_63 qi db_63 kd_63 (own_cl (fun zj => own_dg ((own_xf (48 : Int32) xh pi.toNatClampNeg) zj)) 81) (0 : Int32) T63.heap n0 O F_63 V_63 (by rw [hc202]; exact own_dvp hp0 hp1 hC.2) (own_nlt hq0) (own_lt81 hq1)) 0 [] pd__28I_29I (hb hby at_234) e64 (fun _ T65 L65 X65 hQ65 => ?_)
     obtain ⟨rfl, Nq65, e65⟩ := hQ65
     have N65 := Fr.app N64 Nq65
     refine Go.step (S' := T65.setTop (mkF m 247 #[iv p0, iv p1, iv p2, iv p3, iv p4, rv b1, lv (0 : Int64), .second, rv b1, lv (1 : Int64), .second, rv b1, lv (2 : Int64), .second, iv 1, iv kk, iv xh, iv 0, iv pi, iv qi, iv 48, rv rb_58, rv gb_63, iv 0] [(.int 1)])) (fun t k => ?_) ?_
     · refine XS.iload X65.here hx rfl (hb hby at_237) rfl ?_
       refine XS.icmpNo X65.here hx rfl (hb hby at_239) rfl (teq ((by decide) : (0 : Int32) = (0 : Int32))).2 ?_
       refine XS.iconst X65.here hx rfl (hb hby at_242) ?_
       refine XS.goto X65.here hx rfl (pc0 := 243) (pc' := 247) rfl (hb hby at_243) (by decide) (by decide) ?_
       exact k
     obtain ⟨fs, hr, hrun, hended, hR⟩ := X65.leaveW hS (by rw [e65]; exact hk) (v := some (.int 1)) (fun h => by rw [Bd.returns] at h; cases h)
     refine Go.fin (S' := T65.setFrames fs) ?_ hrun hended ⟨_, _, rfl, ?_, hR.1, hR.2.1, hR.2.2.1, hR.2.2.2.mono (by decide) (by decide)⟩
     · exact retOut X65 hx Bd.returns (by decide) (Or.inl ⟨rfl, Or.inr (Or.inl rfl), _, rfl⟩) (hb hby at_247) hr
     · show Q_rm0 Z p0 p1 p2 p3 p4 cs sf h0 n0 (some (.int 1)) T65.heap _
       rw [e65]
       exact ⟨rfl, N65, K⟩
    ·skip
     refine Go.step (S' := T63.setTop (mkF m 222 #[iv p0, iv p1, iv p2, iv p3, iv p4, rv b1, lv (0 : Int64), .second, rv b1, lv (1 : Int64), .second, rv b1, lv (2 : Int64), .second, iv 1, iv kk, iv xh, iv 0, iv pi, iv qi, iv 48, rv rb_58, rv gb_63, iv 0] [(.int pi), (.ref gb_63)])) (fun t k => ?_) ?_
     · refine XS.icmpYes X63.here hx rfl (pc0 := 202) (pc' := 210) rfl (hb hby at_202) rfl (feq (hc202 : ¬ (qi = pi))).2 (by decide) (by decide) ?_
       refine XS.iconst X63.here hx rfl (hb hby at_210) ?_
       refine XS.istore X63.here hx rfl (hb hby at_211) rfl (l' := #[iv p0, iv p1, iv p2, iv p3, iv p4, rv b1, lv (0 : Int64), .second, rv b1, lv (1 : Int64), .second, rv b1, lv (2 : Int64), .second, iv 1, iv kk, iv xh, iv 0, iv pi, iv qi, iv 48, rv rb_58, rv gb_63, iv 0]) rfl ?_
       refine XS.iload X63.here hx rfl (hb hby at_213) rfl ?_
       refine XS.ifNo X63.here hx rfl (hb hby at_215) rfl ((if0 _ _).trans (feq ((by decide) : ¬ ((1 : Int32) = (0 : Int32)))).1) ?_
       refine XS.aload X63.here hx rfl (hb hby at_218) rfl rfl ?_
       show Steps p.tables e below (T63.setTop (mkF m 220 #[iv p0, iv p1, iv p2, iv p3, iv p4, rv b1, lv (0 : Int64), .second, rv b1, lv (1 : Int64), .second, rv b1, lv (2 : Int64), .second, iv 1, iv kk, iv xh, iv 0, iv pi, iv qi, iv 48, rv rb_58, rv gb_63, iv 0] [(.ref gb_63)])) _
       refine XS.iload X63.here hx rfl (hb hby at_220) rfl ?_
       exact k
     refine Go.cV X63 hx hml hown hZ (own_w hw 151 rfl) (own_w hw 152 rfl) (own_w hw 154 rfl) (own_w hw 153 rfl) (own_w hw 65 rfl) (own_w hw 155 rfl) E_63 (rmGD l Z a0 hw [] gb_63 pi db_63 kd_63 (own_cl (fun zj => own_dg ((own_xf (48 : Int32) xh pi.toNatClampNeg) zj)) 81) (0 : Int32) T63.heap n0 O F_63 V_63 (own_dvp hp0 hp1 hC.2) (own_nlt hp0) (own_lt81 hp1)) 0 [] pd__28I_29I (hb hby at_222) (Eq.refl T63.heap) (fun _ T66 L66 X66 hQ66 => ?_)
     obtain ⟨rfl, Nq66, e66⟩ := hQ66
     have N66 := Fr.app N63 Nq66
     refine Go.step (S' := T66.setTop (mkF m 234 #[iv p0, iv p1, iv p2, iv p3, iv p4, rv b1, lv (0 : Int64), .second, rv b1, lv (1 : Int64), .second, rv b1, lv (2 : Int64), .second, iv 1, iv kk, iv xh, iv 0, iv pi, iv qi, iv 48, rv rb_58, rv gb_63, iv 0] [(.int qi), (.ref gb_63)])) (fun t k => ?_) ?_
     · refine XS.iload X66.here hx rfl (hb hby at_225) rfl ?_
       refine XS.icmpNo X66.here hx rfl (hb hby at_227) rfl (teq ((by decide) : (0 : Int32) = (0 : Int32))).2 ?_
       refine XS.aload X66.here hx rfl (hb hby at_230) rfl rfl ?_
       refine XS.iload X66.here hx rfl (hb hby at_232) rfl ?_
       exact k
     refine Go.cV X66 hx hml hown hZ (own_w hw 151 rfl) (own_w hw 152 rfl) (own_w hw 154 rfl) (own_w hw 153 rfl) (own_w hw 65 rfl) (own_w hw 155 rfl) E_63 (rmGD l Z a0 hw [] gb_63 qi db_63 kd_63 (own_cl (fun zj => own_dg ((own_xf (48 : Int32) xh pi.toNatClampNeg) zj)) 81) (0 : Int32) T63.heap n0 O F_63 V_63 (own_dvq hp0 hq0 hq1 hc202 (by decide)) (own_nlt hq0) (own_lt81 hq1)) 0 [] pd__28I_29I (hb hby at_234) e66 (fun _ T67 L67 X67 hQ67 => ?_)
     obtain ⟨rfl, Nq67, e67⟩ := hQ67
     have N67 := Fr.app N66 Nq67
     refine Go.step (S' := T67.setTop (mkF m 247 #[iv p0, iv p1, iv p2, iv p3, iv p4, rv b1, lv (0 : Int64), .second, rv b1, lv (1 : Int64), .second, rv b1, lv (2 : Int64), .second, iv 1, iv kk, iv xh, iv 0, iv pi, iv qi, iv 48, rv rb_58, rv gb_63, iv 0] [(.int 1)])) (fun t k => ?_) ?_
     · refine XS.iload X67.here hx rfl (hb hby at_237) rfl ?_
       refine XS.icmpNo X67.here hx rfl (hb hby at_239) rfl (teq ((by decide) : (0 : Int32) = (0 : Int32))).2 ?_
       refine XS.iconst X67.here hx rfl (hb hby at_242) ?_
       refine XS.goto X67.here hx rfl (pc0 := 243) (pc' := 247) rfl (hb hby at_243) (by decide) (by decide) ?_
       exact k
     obtain ⟨fs, hr, hrun, hended, hR⟩ := X67.leaveW hS (by rw [e67]; exact hk) (v := some (.int 1)) (fun h => by rw [Bd.returns] at h; cases h)
     refine Go.fin (S' := T67.setFrames fs) ?_ hrun hended ⟨_, _, rfl, ?_, hR.1, hR.2.1, hR.2.2.1, hR.2.2.2.mono (by decide) (by decide)⟩
     · exact retOut X67 hx Bd.returns (by decide) (Or.inl ⟨rfl, Or.inr (Or.inl rfl), _, rfl⟩) (hb hby at_247) hr
     · show Q_rm0 Z p0 p1 p2 p3 p4 cs sf h0 n0 (some (.int 1)) T67.heap _
       rw [e67]
       exact ⟨rfl, N67, K⟩
set_option maxRecDepth 65536 in
set_option maxHeartbeats 4000000 in
theorem comes_1 {Post : Tables → Env → Array Value → State → Outcome → State → Prop} (hpost : ∀ tb e args s v u, (limb_1_1.after args s (.returned v) u = true ∧ limb_1_2.after args s (.returned v) u = true ∧ True) → ReturnedEndW s (.returned v) u (Jvm.fieldLocs frame_1_writes args s ++ Jvm.arrayLocs frame_1_arrays args s ++ Jvm.staticLocs frame_1_statics s) 40 1984 → Post tb e args s (.returned v) u) :
    ArmFor flags0 classFile x code maxLocals ret World_1 tables_1 room_1 Calls_1 rest_1 Pre_1 Post := by
  intro l hfl _ _ p e ha hc hk s m args below hf hA hF happ hP
  obtain ⟨hcalls, hrest, hpre⟩ := hP
  obtain ⟨-, -, -, hnamed, -, -, -, hat⟩ := (Spec.applies_iff hf).mp happ
  obtain ⟨hg, hn⟩ := and_e (Cond.before_iff.mp (show (Jvm.Cond.and given_1 narrow_1).before args s = true from hpre))
  obtain ⟨hgl, hgr⟩ := and_e hg
  obtain ⟨hgrl, hgrr⟩ := and_e hgr
  obtain ⟨hgrrl, hgrrr⟩ := and_e hgrr
  obtain ⟨hgrrrl, hgrrrr⟩ := and_e hgrrr
  obtain ⟨hgrrrrl, hgrrrrr⟩ := and_e hgrrrr
  obtain ⟨w0, w1, w2, w3, w4, rfl⟩ : ∃ w0 w1 w2 w3 w4 : Value, args = #[w0, w1, w2, w3, w4] := by
    have hs : args.size = 5 := by simpa [Cond.value, given_1] using hgl
    obtain ⟨L⟩ := args
    match L, hs with
    | [w0, w1, w2, w3, w4], _ => exact ⟨w0, w1, w2, w3, w4, rfl⟩
  have hw := fun d (hd : d ∈ tables_1) => atoms_spec (ws := Jvm.Cond.code x code maxLocals ret :: tables_1) hat d (List.mem_cons_of_mem _ hd)
  have hfit : Fit s := fun {y c} hc i hi => by
    obtain ⟨ha, rfl⟩ := Array.getElem?_eq_some_iff.mp hc
    have q := List.all_eq_true.mp ((Array.all_eq_true_iff_forall_mem.mp hF) _ (Array.getElem_mem ha)) i (List.mem_range.mpr hi)
    simpa [Array.getElem?_eq_getElem hi] using q
  obtain ⟨hsets, hown0⟩ := atoms_of _ (rest_1_c_eq ▸ (show rest_1_c.before _ s = true from hrest))
  obtain ⟨i0, ei0⟩ := is_v hgrl
  obtain rfl : w0 = (.int i0) := Option.some.inj ei0
  obtain ⟨i1, ei1⟩ := is_v hgrrl
  obtain rfl : w1 = (.int i1) := Option.some.inj ei1
  obtain ⟨i2, ei2⟩ := is_v hgrrrl
  obtain rfl : w2 = (.int i2) := Option.some.inj ei2
  obtain ⟨i3, ei3⟩ := is_v hgrrrrl
  obtain rfl : w3 = (.int i3) := Option.some.inj ei3
  obtain ⟨i4, ei4⟩ := is_v hgrrrrr
  obtain rfl : w4 = (.int i4) := Option.some.inj ei4
  obtain ⟨cs, evCS⟩ := is_v (Cond.before_iff.mp (hsets _ (List.mem_of_getElem? (i := 1) rfl)))
  have S_CS := Sta.start evCS (Or.inl (hsets _ (List.mem_of_getElem? (i := 0) rfl)))
  have hcs : ¬ (cs = (0 : Int32)) := fun q => by have := not_v (Cond.before_iff.mp (hsets _ (List.mem_of_getElem? (i := 2) rfl))); rw [eq_i evCS (Term.int_eval 0) (by rw [q])] at this; cases this
  obtain ⟨sf, evFM, hsf⟩ := isR_v (Cond.before_iff.mp (hsets _ (List.mem_of_getElem? (i := 8) rfl)))
  have S_FM := Sta.start evFM (Or.inl (hsets _ (List.mem_of_getElem? (i := 7) rfl)))
  obtain ⟨n, o, h1, h2, h3, _, L, rfl, ⟨rfl, N, -⟩, hq⟩ := rm0 l s _ hw tables_1 i0 i1 i2 i3 i4 cs sf s.heap s.heap.size (Old.start s) S_CS S_FM hcs hsf p e ha hc hk s m _ below hf ((Spec.applies_iff_loose hf).mp happ).1 ⟨rfl, State.Warmed39.refl s, rfl⟩ trivial
  refine ⟨n, _, h1, h2, h3, hpost _ _ _ _ _ _ ⟨Cond.after_iff.mpr rfl, Cond.after_iff.mpr (eq_i res_at (Term.int_eval (1)) rfl), trivial⟩ ⟨hq.1, hq.2.1, hq.2.2.1, (hq.2.2.2.sift fun y hy => Or.inr (N y hy)).mono (by decide) (by decide)⟩⟩
theorem main_1_1 : Claimed_1_1 := comes_1 fun _ _ _ _ _ _ h hF => ⟨h.1, hF⟩
theorem main_1_2 : Claimed_1_2 := comes_1 fun _ _ _ _ _ _ h hF => ⟨h.2.1, hF⟩
end Jvm.Pilot.@@N@@
namespace Jvm.Pilot.@@N@@
open Jvm Jvm.ClassFile Sem Op Lib Jvm.Free Jvm.Stand Jvm.Pilot.@@N@@.Jvm.D
/-! MADE BY PROGRAM (witnessworld.py) out of the Statement's table words and the real class files: 22 classes; the members and pool entries that the words name. The judged class is class 1, her method 1. -/
namespace start1
open Jvm.ClassFile
def u (s : String) : CpInfo := .utf8 (stringToUtf16 s)
/-- a pool by its gaps: so many unusable entries, then the entry; so many at the end -/
def gap : Nat → List CpInfo → List CpInfo
  | 0, r => r
  | n + 1, r => .unusable :: gap n r
def poolList (es : List (Nat × CpInfo)) (last : Nat) : List CpInfo := es.foldr (fun e r => gap e.1 (e.2 :: r)) (gap last [])
def pool (es : List (Nat × CpInfo)) (last : Nat) : Array CpInfo := ⟨poolList es last⟩
def fileOf (pool : Array CpInfo) (this : Nat) (attrs : Array Attribute := #[]) (ms : Array MethodInfo := #[]) (fl : Nat := 33) (sup : Nat := 0) (ifs : Array Nat := #[]) (fds : Array FieldInfo := #[]) : ClassFile where
  minorVersion := 0
  majorVersion := 65
  constantPool := pool
  accessFlags := fl
  thisClass := this
  superClass := sup
  interfaces := ifs
  fields := fds
  methods := ms
  attributes := attrs
def plain (name : String) (sup : Option ClassId) : Class where
  name := name
  kind := .ordinary
  loader := none
  accessFlags := 33
  super := sup
  interfaces := #[]
  cf := none
  fields := #[]
  methods := #[]
  instanceTypes := #[]
  staticTypes := #[]
  resolved := #[]
  callSites := []
  init := .initialized
  statics := none
  mirror := none

def pool0 : Array CpInfo := pool [(5, u "<init>"), (0, u "()V"), (1, .class_ 10), (1, u "java/lang/Object"), (85, u "clone"), (0, u "()Ljava/lang/Object;")] 26

def k0c0 : Code := { maxStack := 0, maxLocals := 1, code := object_method_1_code, exceptionTable := #[], attributes := #[] }
def k0m0 : Method := { name := "<init>", desc := "()V", sig := { parameters := [], returnType := none }, accessFlags := 1, code := some k0c0 }
def k0m1 : Method := { name := "clone", desc := "()Ljava/lang/Object;", sig := { parameters := [], returnType := some (.object "java/lang/Object") }, accessFlags := 260, code := none }
/-- java/lang/Object -/
def k0 : Class := { plain "java/lang/Object" none with
  accessFlags := 33
  interfaces := #[]
  cf := some (fileOf pool0 8 #[] #[{ accessFlags := 1, nameIndex := 5, descriptorIndex := 6, attributes := #[] }, { accessFlags := 260, nameIndex := 96, descriptorIndex := 97, attributes := #[] }] 33 0 #[] #[])
  fields := #[]
  methods := #[k0m0, k0m1]
  instanceTypes := #[]
  staticTypes := #[]
  resolved := Array.replicate 124 none
  statics := none }

def pool1 : Array CpInfo := pool [(2, .class_ 4), (0, .nameAndType 5 6), (0, u "java/lang/Object"), (0, u "<init>"), (0, u "()V"), (0, .class_ 8), (0, u "org/ninefold/model/PuzzleText"), (0, .methodref 7 3), (0, .methodref 7 11), (0, .nameAndType 12 13), (0, u "length"), (0, u "()J"), (0, .methodref 7 15), (0, .nameAndType 16 17), (0, u "append"), (0, u "(C)Lorg/ninefold/model/PuzzleText;"), (0, .long 2), (1, .integer 2147483647), (0, .methodref 22 23), (0, .class_ 24), (0, .nameAndType 25 26), (0, u "org/ninefold/model/PuzzleTextAppendPinLaw"), (0, u "row81"), (0, u "(C)[C"), (0, .class_ 28), (0, u "java/lang/String"), (0, .methodref 27 30), (0, .nameAndType 5 31), (0, u "([C)V"), (0, .methodref 33 34), (0, .class_ 35), (0, .nameAndType 36 37), (0, u "org/ninefold/model/Grid"), (0, u "parse"), (0, u "(Ljava/lang/CharSequence;)Lorg/ninefold/model/Grid;"), (0, .methodref 33 39), (0, .nameAndType 40 41), (0, u "digit"), (0, u "(I)I"), (2, u "law"), (0, u "(IIIII)Z")] 5

def k1m0 : Method := { name := "<init>", desc := "()V", sig := { parameters := [], returnType := none }, accessFlags := 1, code := none }
def k1c1 : Code := { maxStack := 4, maxLocals := 24, code := code, exceptionTable := #[], attributes := #[] }
def k1m1 : Method := { name := "law", desc := "(IIIII)Z", sig := { parameters := [.int, .int, .int, .int, .int], returnType := some .boolean }, accessFlags := 9, code := some k1c1 }
def k1c2 : Code := { maxStack := 4, maxLocals := 1, code := method_3_code, exceptionTable := #[], attributes := #[] }
def k1m2 : Method := { name := "row81", desc := "(C)[C", sig := { parameters := [.char], returnType := some (.array .char) }, accessFlags := 10, code := some k1c2 }
/-- org/ninefold/model/PuzzleTextAppendPinLaw -/
def k1 : Class := { plain "org/ninefold/model/PuzzleTextAppendPinLaw" (some 0) with
  accessFlags := 49
  interfaces := #[]
  cf := some (fileOf pool1 22 #[] #[{ accessFlags := 1, nameIndex := 5, descriptorIndex := 6, attributes := #[] }, { accessFlags := 9, nameIndex := 44, descriptorIndex := 45, attributes := #[] }, { accessFlags := 10, nameIndex := 25, descriptorIndex := 26, attributes := #[] }] 49 2 #[] #[])
  fields := #[]
  methods := #[k1m0, k1m1, k1m2]
  instanceTypes := #[]
  staticTypes := #[]
  resolved := Array.replicate 51 none
  statics := none }

def pool2 : Array CpInfo := pool [(1, .methodref 2 3), (0, .class_ 4), (0, .nameAndType 5 6), (0, u "java/lang/Object"), (0, u "<init>"), (0, u "()V"), (0, .class_ 8), (0, u "org/ninefold/model/Grid"), (0, .fieldref 10 11), (0, .class_ 12), (0, .nameAndType 13 14), (0, u "org/ninefold/model/PuzzleText"), (0, u "cells"), (0, u "[B"), (0, .methodref 10 16), (0, .nameAndType 17 18), (0, u "digitOf"), (0, u "(C)I"), (0, .fieldref 10 20), (0, .nameAndType 21 22), (0, u "unexpectedColumn"), (0, u "J"), (0, .fieldref 10 24), (0, .nameAndType 25 22), (0, u "length"), (0, .long 81), (38, .methodref 66 67), (0, .class_ 14), (0, .nameAndType 68 69), (0, u "clone"), (0, u "()Ljava/lang/Object;"), (0, .methodref 7 71), (0, .nameAndType 72 73), (0, u "ofGivens"), (0, u "([B)Lorg/ninefold/model/Grid;"), (2, u "append"), (0, u "(C)Lorg/ninefold/model/PuzzleText;"), (1, u "()J"), (2, u "toGrid"), (0, u "()Lorg/ninefold/model/Grid;")] 2

def k2c0 : Code := { maxStack := 2, maxLocals := 1, code := prog_12_method_1_code, exceptionTable := #[], attributes := #[] }
def k2m0 : Method := { name := "<init>", desc := "()V", sig := { parameters := [], returnType := none }, accessFlags := 1, code := some k2c0 }
def k2c1 : Code := { maxStack := 5, maxLocals := 3, code := prog_12_method_2_code, exceptionTable := #[], attributes := #[] }
def k2m1 : Method := { name := "append", desc := "(C)Lorg/ninefold/model/PuzzleText;", sig := { parameters := [.char], returnType := some (.object "org/ninefold/model/PuzzleText") }, accessFlags := 1, code := some k2c1 }
def k2c2 : Code := { maxStack := 2, maxLocals := 1, code := prog_12_method_3_code, exceptionTable := #[], attributes := #[] }
def k2m2 : Method := { name := "length", desc := "()J", sig := { parameters := [], returnType := some .long }, accessFlags := 1, code := some k2c2 }
def k2c3 : Code := { maxStack := 9, maxLocals := 1, code := prog_12_method_5_code, exceptionTable := #[], attributes := #[] }
def k2m3 : Method := { name := "toGrid", desc := "()Lorg/ninefold/model/Grid;", sig := { parameters := [], returnType := some (.object "org/ninefold/model/Grid") }, accessFlags := 1, code := some k2c3 }
def k2c4 : Code := { maxStack := 2, maxLocals := 1, code := prog_12_method_6_code, exceptionTable := #[], attributes := #[] }
def k2m4 : Method := { name := "digitOf", desc := "(C)I", sig := { parameters := [.char], returnType := some .int }, accessFlags := 10, code := some k2c4 }
/-- org/ninefold/model/PuzzleText -/
def k2 : Class := { plain "org/ninefold/model/PuzzleText" (some 0) with
  accessFlags := 49
  interfaces := #[]
  cf := some (fileOf pool2 10 #[] #[{ accessFlags := 1, nameIndex := 5, descriptorIndex := 6, attributes := #[] }, { accessFlags := 1, nameIndex := 76, descriptorIndex := 77, attributes := #[] }, { accessFlags := 1, nameIndex := 25, descriptorIndex := 79, attributes := #[] }, { accessFlags := 1, nameIndex := 82, descriptorIndex := 83, attributes := #[] }, { accessFlags := 10, nameIndex := 17, descriptorIndex := 18, attributes := #[] }] 49 2 #[] #[{ accessFlags := 18, nameIndex := 13, descriptorIndex := 14, attributes := #[] }, { accessFlags := 2, nameIndex := 25, descriptorIndex := 22, attributes := #[] }, { accessFlags := 2, nameIndex := 21, descriptorIndex := 22, attributes := #[] }])
  fields := #[{ name := "cells", type := (.array .byte), accessFlags := 18, slot := 0, constantValue := 0 }, { name := "length", type := .long, accessFlags := 2, slot := 1, constantValue := 0 }, { name := "unexpectedColumn", type := .long, accessFlags := 2, slot := 2, constantValue := 0 }]
  methods := #[k2m0, k2m1, k2m2, k2m3, k2m4]
  instanceTypes := #[(.array .byte), .long, .long]
  staticTypes := #[]
  resolved := Array.replicate 86 none
  statics := none }

def pool3 : Array CpInfo := pool [(1, .class_ 2), (0, u "java/io/Serializable"), (0, .class_ 4), (0, u "java/lang/Object")] 2

/-- java/io/Serializable -/
def k3 : Class := { plain "java/io/Serializable" (some 0) with
  accessFlags := 1537
  interfaces := #[]
  cf := some (fileOf pool3 1 #[] #[] 1537 3 #[] #[])
  fields := #[]
  methods := #[]
  instanceTypes := #[]
  staticTypes := #[]
  resolved := Array.replicate 7 none
  statics := none }

def pool4 : Array CpInfo := pool [(1, .class_ 2), (0, u "java/lang/Comparable"), (0, .class_ 4), (0, u "java/lang/Object")] 7

/-- java/lang/Comparable -/
def k4 : Class := { plain "java/lang/Comparable" (some 0) with
  accessFlags := 1537
  interfaces := #[]
  cf := some (fileOf pool4 1 #[] #[] 1537 3 #[] #[])
  fields := #[]
  methods := #[]
  instanceTypes := #[]
  staticTypes := #[]
  resolved := Array.replicate 12 none
  statics := none }

def pool5 : Array CpInfo := pool [(2, .class_ 4), (1, u "java/lang/CharSequence"), (0, u "length"), (0, u "()I"), (38, u "charAt"), (0, u "(I)C"), (0, .class_ 48), (0, u "java/lang/CharSequence$1CodePointIterator"), (10, .class_ 60), (0, u "java/lang/CharSequence$1CharIterator"), (5, .class_ 67), (0, u "java/lang/Object")] 63

def k5m0 : Method := { name := "length", desc := "()I", sig := { parameters := [], returnType := some .int }, accessFlags := 1025, code := none }
def k5m1 : Method := { name := "charAt", desc := "(I)C", sig := { parameters := [.int], returnType := some .char }, accessFlags := 1025, code := none }
/-- java/lang/CharSequence -/
def k5 : Class := { plain "java/lang/CharSequence" (some 0) with
  accessFlags := 1537
  interfaces := #[]
  cf := some (fileOf pool5 2 #[.nestMembers #[47, 59]] #[{ accessFlags := 1025, nameIndex := 5, descriptorIndex := 6, attributes := #[] }, { accessFlags := 1025, nameIndex := 45, descriptorIndex := 46, attributes := #[] }] 1537 66 #[] #[])
  fields := #[]
  methods := #[k5m0, k5m1]
  instanceTypes := #[]
  staticTypes := #[]
  resolved := Array.replicate 131 none
  statics := none }

def pool6 : Array CpInfo := pool [(1, .class_ 2), (0, u "java/lang/constant/Constable"), (0, .class_ 4), (0, u "java/lang/Object")] 6

/-- java/lang/constant/Constable -/
def k6 : Class := { plain "java/lang/constant/Constable" (some 0) with
  accessFlags := 1537
  interfaces := #[]
  cf := some (fileOf pool6 1 #[] #[] 1537 3 #[] #[])
  fields := #[]
  methods := #[]
  instanceTypes := #[]
  staticTypes := #[]
  resolved := Array.replicate 11 none
  statics := none }

def pool7 : Array CpInfo := pool [(1, .class_ 2), (0, u "java/lang/constant/ConstantDesc"), (0, .class_ 4), (0, u "java/lang/Object")] 32

/-- java/lang/constant/ConstantDesc -/
def k7 : Class := { plain "java/lang/constant/ConstantDesc" (some 0) with
  accessFlags := 1537
  interfaces := #[]
  cf := some (fileOf pool7 1 #[] #[] 1537 3 #[] #[])
  fields := #[]
  methods := #[]
  instanceTypes := #[]
  staticTypes := #[]
  resolved := Array.replicate 37 none
  statics := none }

def pool8 : Array CpInfo := pool [(1, .methodref 2 3), (0, .class_ 4), (0, .nameAndType 5 6), (0, u "java/lang/Object"), (0, u "<init>"), (0, u "()V"), (2, .fieldref 10 11), (0, .class_ 12), (0, .nameAndType 13 14), (0, u "java/lang/String"), (0, u "value"), (0, u "[B"), (0, .fieldref 10 16), (0, .nameAndType 17 18), (0, u "coder"), (0, u "B"), (2, u "hash"), (0, u "I"), (2, u "hashIsZero"), (0, u "Z"), (0, .methodref 10 28), (0, .nameAndType 5 29), (0, u "([CIILjava/lang/Void;)V"), (8, .fieldref 10 39), (0, .nameAndType 40 26), (0, u "COMPACT_STRINGS"), (1, .class_ 44), (1, u "java/lang/StringUTF16"), (0, u "compress"), (1, .methodref 42 48), (0, .nameAndType 49 50), (0, u "coderFromArrayLen"), (0, u "([BI)B"), (56, .class_ 109), (1, u "java/lang/StringLatin1"), (32, u "()Z"), (34, .methodref 42 178), (0, .nameAndType 45 179), (0, u "([CII)[B"), (154, u "()I"), (0, .methodref 10 336), (0, .nameAndType 17 337), (0, u "()B"), (25, u "([BI)C"), (27, u "(II)V"), (35, u "(I)C"), (64, .methodref 10 493), (0, .nameAndType 494 142), (0, u "isLatin1"), (0, .methodref 107 496), (0, .nameAndType 497 363), (0, u "charAt"), (3, u "checkIndex"), (5, u "length"), (67, .class_ 576), (0, u "java/lang/CharSequence"), (22, u "CASE_INSENSITIVE_ORDER"), (0, u "Ljava/util/Comparator;"), (409, u "([C)V"), (42, .fieldref 1054 1055), (0, .class_ 1056), (0, .nameAndType 1057 1058), (0, u "jdk/internal/util/Preconditions"), (0, u "SIOOBE_FORMATTER"), (0, u "Ljava/util/function/BiFunction;"), (0, .methodref 1054 1060), (0, .nameAndType 501 1061), (0, u "(IILjava/util/function/BiFunction;)I"), (39, u "serialPersistentFields"), (0, u "[Ljava/io/ObjectStreamField;"), (0, .class_ 1104), (0, u "java/lang/String$CaseInsensitiveComparator"), (1, .class_ 1107), (0, u "java/io/Serializable"), (0, .class_ 1109), (0, u "java/lang/Comparable"), (0, .class_ 1111), (0, u "java/lang/constant/Constable"), (0, .class_ 1113), (0, u "java/lang/constant/ConstantDesc"), (2, u "serialVersionUID"), (0, u "J"), (3, u "REPL"), (0, u "C"), (2, u "LATIN1"), (1, u "UTF16")] 323

def k8m0 : Method := { name := "<init>", desc := "()V", sig := { parameters := [], returnType := none }, accessFlags := 1, code := none }
def k8c1 : Code := { maxStack := 5, maxLocals := 2, code := jdk_42_method_3_code, exceptionTable := #[], attributes := #[] }
def k8m1 : Method := { name := "<init>", desc := "([C)V", sig := { parameters := [(.array .char)], returnType := none }, accessFlags := 1, code := some k8c1 }
def k8c2 : Code := { maxStack := 2, maxLocals := 1, code := jdk_42_method_54_code, exceptionTable := #[], attributes := #[] }
def k8m2 : Method := { name := "length", desc := "()I", sig := { parameters := [], returnType := some .int }, accessFlags := 1, code := some k8c2 }
def k8c3 : Code := { maxStack := 2, maxLocals := 2, code := jdk_42_method_56_code, exceptionTable := #[], attributes := #[] }
def k8m3 : Method := { name := "charAt", desc := "(I)C", sig := { parameters := [.int], returnType := some .char }, accessFlags := 1, code := some k8c3 }
def k8c4 : Code := { maxStack := 4, maxLocals := 6, code := jdk_42_method_149_code, exceptionTable := #[], attributes := #[] }
def k8m4 : Method := { name := "<init>", desc := "([CIILjava/lang/Void;)V", sig := { parameters := [(.array .char), .int, .int, (.object "java/lang/Void")], returnType := none }, accessFlags := 2, code := some k8c4 }
def k8c5 : Code := { maxStack := 1, maxLocals := 1, code := jdk_42_method_152_code, exceptionTable := #[], attributes := #[] }
def k8m5 : Method := { name := "coder", desc := "()B", sig := { parameters := [], returnType := some .byte }, accessFlags := 0, code := some k8c5 }
def k8c6 : Code := { maxStack := 1, maxLocals := 1, code := jdk_42_method_154_code, exceptionTable := #[], attributes := #[] }
def k8m6 : Method := { name := "isLatin1", desc := "()Z", sig := { parameters := [], returnType := some .boolean }, accessFlags := 0, code := some k8c6 }
def k8c7 : Code := { maxStack := 3, maxLocals := 2, code := jdk_42_method_155_code, exceptionTable := #[], attributes := #[] }
def k8m7 : Method := { name := "checkIndex", desc := "(II)V", sig := { parameters := [.int, .int], returnType := none }, accessFlags := 8, code := some k8c7 }
/-- java/lang/String -/
def k8 : Class := { plain "java/lang/String" (some 0) with
  accessFlags := 49
  interfaces := #[3, 4, 5, 6, 7]
  cf := some (fileOf pool8 10 #[.nestMembers #[1103]] #[{ accessFlags := 1, nameIndex := 5, descriptorIndex := 6, attributes := #[] }, { accessFlags := 1, nameIndex := 5, descriptorIndex := 1010, attributes := #[] }, { accessFlags := 1, nameIndex := 507, descriptorIndex := 334, attributes := #[] }, { accessFlags := 1, nameIndex := 497, descriptorIndex := 427, attributes := #[] }, { accessFlags := 2, nameIndex := 5, descriptorIndex := 29, attributes := #[] }, { accessFlags := 0, nameIndex := 17, descriptorIndex := 337, attributes := #[] }, { accessFlags := 0, nameIndex := 494, descriptorIndex := 142, attributes := #[] }, { accessFlags := 8, nameIndex := 501, descriptorIndex := 391, attributes := #[] }] 49 2 #[1106, 1108, 575, 1110, 1112] #[{ accessFlags := 18, nameIndex := 13, descriptorIndex := 14, attributes := #[] }, { accessFlags := 18, nameIndex := 17, descriptorIndex := 18, attributes := #[] }, { accessFlags := 2, nameIndex := 21, descriptorIndex := 22, attributes := #[] }, { accessFlags := 2, nameIndex := 25, descriptorIndex := 26, attributes := #[] }, { accessFlags := 26, nameIndex := 1116, descriptorIndex := 1117, attributes := #[] }, { accessFlags := 24, nameIndex := 40, descriptorIndex := 26, attributes := #[] }, { accessFlags := 26, nameIndex := 1101, descriptorIndex := 1102, attributes := #[] }, { accessFlags := 26, nameIndex := 1121, descriptorIndex := 1122, attributes := #[] }, { accessFlags := 25, nameIndex := 599, descriptorIndex := 600, attributes := #[] }, { accessFlags := 24, nameIndex := 1125, descriptorIndex := 18, attributes := #[] }, { accessFlags := 24, nameIndex := 1127, descriptorIndex := 18, attributes := #[] }])
  fields := #[{ name := "value", type := (.array .byte), accessFlags := 18, slot := 0, constantValue := 0 }, { name := "coder", type := .byte, accessFlags := 18, slot := 1, constantValue := 0 }, { name := "hash", type := .int, accessFlags := 2, slot := 2, constantValue := 0 }, { name := "hashIsZero", type := .boolean, accessFlags := 2, slot := 3, constantValue := 0 }, { name := "serialVersionUID", type := .long, accessFlags := 26, slot := 0, constantValue := 0 }, { name := "COMPACT_STRINGS", type := .boolean, accessFlags := 24, slot := 1, constantValue := 0 }, { name := "serialPersistentFields", type := (.array (.object "java/io/ObjectStreamField")), accessFlags := 26, slot := 2, constantValue := 0 }, { name := "REPL", type := .char, accessFlags := 26, slot := 3, constantValue := 0 }, { name := "CASE_INSENSITIVE_ORDER", type := (.object "java/util/Comparator"), accessFlags := 25, slot := 4, constantValue := 0 }, { name := "LATIN1", type := .byte, accessFlags := 24, slot := 5, constantValue := 0 }, { name := "UTF16", type := .byte, accessFlags := 24, slot := 6, constantValue := 0 }]
  methods := #[k8m0, k8m1, k8m2, k8m3, k8m4, k8m5, k8m6, k8m7]
  instanceTypes := #[(.array .byte), .byte, .int, .boolean]
  staticTypes := #[.long, .boolean, (.array (.object "java/io/ObjectStreamField")), .char, (.object "java/util/Comparator"), .byte, .byte]
  resolved := Array.replicate 1451 none
  statics := some 0 }

def pool9 : Array CpInfo := pool [(6, .class_ 8), (1, u "java/lang/Object"), (0, u "<init>"), (0, u "()V"), (1, .class_ 14), (1, u "java/lang/StringUTF16"), (31, u "$assertionsDisabled"), (0, u "Z"), (13, u "HI_BYTE_SHIFT"), (0, u "I"), (2, u "LO_BYTE_SHIFT"), (49, .methodref 12 116), (0, .nameAndType 117 118), (0, u "compress"), (0, u "([CI[BII)I"), (3, u "([CII)[B"), (138, u "coderFromArrayLen"), (0, u "([BI)B"), (106, .class_ 371), (1, u "java/lang/StringUTF16$LinesSpliterator"), (58, u "MAX_LENGTH"), (196, .class_ 628), (0, u "java/lang/StringUTF16$CodePointsSpliterator"), (0, .class_ 630), (0, u "java/lang/StringUTF16$CharsSpliterator")] 4

def k9m0 : Method := { name := "<init>", desc := "()V", sig := { parameters := [], returnType := none }, accessFlags := 0, code := none }
def k9c1 : Code := { maxStack := 2, maxLocals := 2, code := jdk_52_method_15_code, exceptionTable := #[], attributes := #[] }
def k9m1 : Method := { name := "coderFromArrayLen", desc := "([BI)B", sig := { parameters := [(.array .byte), .int], returnType := some .byte }, accessFlags := 8, code := some k9c1 }
def k9c2 : Code := { maxStack := 5, maxLocals := 6, code := jdk_52_method_16_code, exceptionTable := #[], attributes := #[] }
def k9m2 : Method := { name := "compress", desc := "([CII)[B", sig := { parameters := [(.array .char), .int, .int], returnType := some (.array .byte) }, accessFlags := 9, code := some k9c2 }
def k9c3 : Code := { maxStack := 3, maxLocals := 7, code := jdk_52_method_21_code, exceptionTable := #[], attributes := #[] }
def k9m3 : Method := { name := "compress", desc := "([CI[BII)I", sig := { parameters := [(.array .char), .int, (.array .byte), .int, .int], returnType := some .int }, accessFlags := 9, code := some k9c3 }
/-- java/lang/StringUTF16 -/
def k9 : Class := { plain "java/lang/StringUTF16" (some 0) with
  accessFlags := 48
  interfaces := #[]
  cf := some (fileOf pool9 12 #[.nestMembers #[627, 629, 369]] #[{ accessFlags := 0, nameIndex := 9, descriptorIndex := 10, attributes := #[] }, { accessFlags := 8, nameIndex := 261, descriptorIndex := 262, attributes := #[] }, { accessFlags := 9, nameIndex := 117, descriptorIndex := 122, attributes := #[] }, { accessFlags := 9, nameIndex := 117, descriptorIndex := 118, attributes := #[] }] 48 6 #[] #[{ accessFlags := 26, nameIndex := 61, descriptorIndex := 62, attributes := #[] }, { accessFlags := 26, nameIndex := 65, descriptorIndex := 62, attributes := #[] }, { accessFlags := 24, nameIndex := 430, descriptorIndex := 62, attributes := #[] }, { accessFlags := 4120, nameIndex := 46, descriptorIndex := 47, attributes := #[] }])
  fields := #[{ name := "HI_BYTE_SHIFT", type := .int, accessFlags := 26, slot := 0, constantValue := 0 }, { name := "LO_BYTE_SHIFT", type := .int, accessFlags := 26, slot := 1, constantValue := 0 }, { name := "MAX_LENGTH", type := .int, accessFlags := 24, slot := 2, constantValue := 0 }, { name := "$assertionsDisabled", type := .boolean, accessFlags := 4120, slot := 3, constantValue := 0 }]
  methods := #[k9m0, k9m1, k9m2, k9m3]
  instanceTypes := #[]
  staticTypes := #[.int, .int, .int, .boolean]
  resolved := Array.replicate 635 none
  statics := none }

def pool10 : Array CpInfo := pool [(1, .methodref 2 3), (0, .class_ 4), (0, .nameAndType 5 6), (0, u "java/lang/Object"), (0, u "<init>"), (0, u "()V"), (0, .fieldref 8 9), (0, .class_ 10), (0, .nameAndType 11 12), (0, u "org/ninefold/model/Grid"), (0, u "digits"), (0, u "[B"), (2, .methodref 16 17), (0, .class_ 18), (0, .nameAndType 19 20), (0, u "java/util/Objects"), (0, u "requireNonNull"), (0, u "(Ljava/lang/Object;Ljava/lang/String;)Ljava/lang/Object;"), (27, .methodref 8 49), (0, .nameAndType 5 50), (0, u "([B)V"), (0, .string 52), (0, u "Text must not be null"), (0, .class_ 54), (0, u "org/ninefold/model/PuzzleText"), (0, .methodref 53 3), (0, .interfaceMethodref 57 58), (0, .class_ 59), (0, .nameAndType 60 61), (0, u "java/lang/CharSequence"), (0, u "length"), (0, u "()I"), (0, .interfaceMethodref 57 63), (0, .nameAndType 64 65), (0, u "charAt"), (0, u "(I)C"), (0, .methodref 53 67), (0, .nameAndType 68 69), (0, u "append"), (0, u "(C)Lorg/ninefold/model/PuzzleText;"), (0, .methodref 53 71), (0, .nameAndType 72 73), (0, u "toGrid"), (0, u "()Lorg/ninefold/model/Grid;"), (0, .methodref 8 75), (0, .nameAndType 76 77), (0, u "row"), (0, u "(I)I"), (5, .methodref 8 84), (0, .nameAndType 85 77), (0, u "column"), (1, .methodref 8 88), (0, .nameAndType 89 77), (0, u "box"), (36, u "CELLS"), (0, u "I"), (2, u "SIDE"), (1, u "BOX_SIDE"), (7, u "parse"), (0, u "(Ljava/lang/CharSequence;)Lorg/ninefold/model/Grid;"), (0, u "ofGivens"), (0, u "([B)Lorg/ninefold/model/Grid;"), (6, u "digit")] 18

def k10c0 : Code := { maxStack := 2, maxLocals := 2, code := prog_10_method_1_code, exceptionTable := #[], attributes := #[] }
def k10m0 : Method := { name := "<init>", desc := "([B)V", sig := { parameters := [(.array .byte)], returnType := none }, accessFlags := 2, code := some k10c0 }
def k10c1 : Code := { maxStack := 3, maxLocals := 3, code := prog_10_method_3_code, exceptionTable := #[], attributes := #[] }
def k10m1 : Method := { name := "parse", desc := "(Ljava/lang/CharSequence;)Lorg/ninefold/model/Grid;", sig := { parameters := [(.object "java/lang/CharSequence")], returnType := some (.object "org/ninefold/model/Grid") }, accessFlags := 9, code := some k10c1 }
def k10c2 : Code := { maxStack := 4, maxLocals := 7, code := prog_10_method_4_code, exceptionTable := #[], attributes := #[] }
def k10m2 : Method := { name := "ofGivens", desc := "([B)Lorg/ninefold/model/Grid;", sig := { parameters := [(.array .byte)], returnType := some (.object "org/ninefold/model/Grid") }, accessFlags := 8, code := some k10c2 }
def k10c3 : Code := { maxStack := 2, maxLocals := 1, code := prog_10_method_5_code, exceptionTable := #[], attributes := #[] }
def k10m3 : Method := { name := "row", desc := "(I)I", sig := { parameters := [.int], returnType := some .int }, accessFlags := 9, code := some k10c3 }
def k10c4 : Code := { maxStack := 2, maxLocals := 1, code := prog_10_method_6_code, exceptionTable := #[], attributes := #[] }
def k10m4 : Method := { name := "column", desc := "(I)I", sig := { parameters := [.int], returnType := some .int }, accessFlags := 9, code := some k10c4 }
def k10c5 : Code := { maxStack := 3, maxLocals := 1, code := prog_10_method_7_code, exceptionTable := #[], attributes := #[] }
def k10m5 : Method := { name := "box", desc := "(I)I", sig := { parameters := [.int], returnType := some .int }, accessFlags := 9, code := some k10c5 }
def k10c6 : Code := { maxStack := 2, maxLocals := 2, code := prog_10_method_10_code, exceptionTable := #[], attributes := #[] }
def k10m6 : Method := { name := "digit", desc := "(I)I", sig := { parameters := [.int], returnType := some .int }, accessFlags := 1, code := some k10c6 }
/-- org/ninefold/model/Grid -/
def k10 : Class := { plain "org/ninefold/model/Grid" (some 0) with
  accessFlags := 49
  interfaces := #[]
  cf := some (fileOf pool10 8 #[] #[{ accessFlags := 2, nameIndex := 5, descriptorIndex := 50, attributes := #[] }, { accessFlags := 9, nameIndex := 140, descriptorIndex := 141, attributes := #[] }, { accessFlags := 8, nameIndex := 142, descriptorIndex := 143, attributes := #[] }, { accessFlags := 9, nameIndex := 76, descriptorIndex := 77, attributes := #[] }, { accessFlags := 9, nameIndex := 85, descriptorIndex := 77, attributes := #[] }, { accessFlags := 9, nameIndex := 89, descriptorIndex := 77, attributes := #[] }, { accessFlags := 1, nameIndex := 150, descriptorIndex := 77, attributes := #[] }] 49 2 #[] #[{ accessFlags := 25, nameIndex := 126, descriptorIndex := 127, attributes := #[] }, { accessFlags := 26, nameIndex := 130, descriptorIndex := 127, attributes := #[] }, { accessFlags := 26, nameIndex := 132, descriptorIndex := 127, attributes := #[] }, { accessFlags := 18, nameIndex := 11, descriptorIndex := 12, attributes := #[] }])
  fields := #[{ name := "CELLS", type := .int, accessFlags := 25, slot := 0, constantValue := 0 }, { name := "SIDE", type := .int, accessFlags := 26, slot := 1, constantValue := 0 }, { name := "BOX_SIDE", type := .int, accessFlags := 26, slot := 2, constantValue := 0 }, { name := "digits", type := (.array .byte), accessFlags := 18, slot := 0, constantValue := 0 }]
  methods := #[k10m0, k10m1, k10m2, k10m3, k10m4, k10m5, k10m6]
  instanceTypes := #[(.array .byte)]
  staticTypes := #[.int, .int, .int]
  resolved := Array.replicate 169 none
  statics := none }

def pool11 : Array CpInfo := pool [(2, .class_ 4), (1, u "java/lang/Object"), (0, u "<init>"), (0, u "()V"), (35, .class_ 44), (1, u "java/util/Objects"), (0, u "requireNonNull"), (48, u "(Ljava/lang/Object;Ljava/lang/String;)Ljava/lang/Object;")] 89

def k11m0 : Method := { name := "<init>", desc := "()V", sig := { parameters := [], returnType := none }, accessFlags := 2, code := none }
def k11c1 : Code := { maxStack := 3, maxLocals := 2, code := jdk_31_method_11_code, exceptionTable := #[], attributes := #[] }
def k11m1 : Method := { name := "requireNonNull", desc := "(Ljava/lang/Object;Ljava/lang/String;)Ljava/lang/Object;", sig := { parameters := [(.object "java/lang/Object"), (.object "java/lang/String")], returnType := some (.object "java/lang/Object") }, accessFlags := 9, code := some k11c1 }
/-- java/util/Objects -/
def k11 : Class := { plain "java/util/Objects" (some 0) with
  accessFlags := 49
  interfaces := #[]
  cf := some (fileOf pool11 42 #[] #[{ accessFlags := 2, nameIndex := 5, descriptorIndex := 6, attributes := #[] }, { accessFlags := 9, nameIndex := 45, descriptorIndex := 94, attributes := #[] }] 49 2 #[] #[])
  fields := #[]
  methods := #[k11m0, k11m1]
  instanceTypes := #[]
  staticTypes := #[]
  resolved := Array.replicate 184 none
  statics := none }

def pool12 : Array CpInfo := pool [(1, .class_ 2), (0, u "java/lang/String"), (1, .class_ 6), (1, u "java/lang/Object"), (0, u "<init>"), (0, u "()V"), (0, .methodref 1 10), (0, .nameAndType 11 12), (0, u "checkIndex"), (0, u "(II)V"), (1, .class_ 16), (1, u "java/lang/StringLatin1"), (36, u "([BI)C"), (67, u "$assertionsDisabled"), (0, u "Z"), (98, .class_ 223), (1, u "java/lang/StringLatin1$LinesSpliterator"), (28, u "charAt"), (137, .class_ 391), (0, u "java/lang/StringLatin1$CharsSpliterator")] 3

def k12m0 : Method := { name := "<init>", desc := "()V", sig := { parameters := [], returnType := none }, accessFlags := 0, code := none }
def k12c1 : Code := { maxStack := 2, maxLocals := 2, code := jdk_43_method_2_code, exceptionTable := #[], attributes := #[] }
def k12m1 : Method := { name := "charAt", desc := "([BI)C", sig := { parameters := [(.array .byte), .int], returnType := some .char }, accessFlags := 9, code := some k12c1 }
/-- java/lang/StringLatin1 -/
def k12 : Class := { plain "java/lang/StringLatin1" (some 0) with
  accessFlags := 48
  interfaces := #[]
  cf := some (fileOf pool12 14 #[.nestMembers #[390, 221]] #[{ accessFlags := 0, nameIndex := 7, descriptorIndex := 8, attributes := #[] }, { accessFlags := 9, nameIndex := 252, descriptorIndex := 53, attributes := #[] }] 48 4 #[] #[{ accessFlags := 4120, nameIndex := 121, descriptorIndex := 122, attributes := #[] }])
  fields := #[{ name := "$assertionsDisabled", type := .boolean, accessFlags := 4120, slot := 0, constantValue := 0 }]
  methods := #[k12m0, k12m1]
  instanceTypes := #[]
  staticTypes := #[.boolean]
  resolved := Array.replicate 395 none
  statics := none }

def pool13 : Array CpInfo := pool [(2, .class_ 4), (1, u "java/lang/Object"), (0, u "<init>"), (0, u "()V"), (17, .class_ 26), (1, u "jdk/internal/util/Preconditions"), (6, u "checkIndex"), (21, .class_ 56), (0, u "jdk/internal/util/Preconditions$4"), (57, .class_ 115), (0, u "jdk/internal/util/Preconditions$1"), (7, u "SIOOBE_FORMATTER"), (0, u "Ljava/util/function/BiFunction;"), (0, .class_ 126), (0, u "jdk/internal/util/Preconditions$2"), (3, u "AIOOBE_FORMATTER"), (0, .class_ 132), (0, u "jdk/internal/util/Preconditions$3"), (3, u "IOOBE_FORMATTER"), (41, u "(IILjava/util/function/BiFunction;)I")] 15

def k13m0 : Method := { name := "<init>", desc := "()V", sig := { parameters := [], returnType := none }, accessFlags := 1, code := none }
def k13c1 : Code := { maxStack := 3, maxLocals := 3, code := jdk_41_method_11_code, exceptionTable := #[], attributes := #[] }
def k13m1 : Method := { name := "checkIndex", desc := "(IILjava/util/function/BiFunction;)I", sig := { parameters := [.int, .int, (.object "java/util/function/BiFunction")], returnType := some .int }, accessFlags := 9, code := some k13c1 }
/-- jdk/internal/util/Preconditions -/
def k13 : Class := { plain "jdk/internal/util/Preconditions" (some 0) with
  accessFlags := 33
  interfaces := #[]
  cf := some (fileOf pool13 24 #[.nestMembers #[55, 131, 125, 114]] #[{ accessFlags := 1, nameIndex := 5, descriptorIndex := 6, attributes := #[] }, { accessFlags := 9, nameIndex := 33, descriptorIndex := 178, attributes := #[] }] 33 2 #[] #[{ accessFlags := 25, nameIndex := 123, descriptorIndex := 124, attributes := #[] }, { accessFlags := 25, nameIndex := 130, descriptorIndex := 124, attributes := #[] }, { accessFlags := 25, nameIndex := 136, descriptorIndex := 124, attributes := #[] }])
  fields := #[{ name := "SIOOBE_FORMATTER", type := (.object "java/util/function/BiFunction"), accessFlags := 25, slot := 0, constantValue := 0 }, { name := "AIOOBE_FORMATTER", type := (.object "java/util/function/BiFunction"), accessFlags := 25, slot := 1, constantValue := 0 }, { name := "IOOBE_FORMATTER", type := (.object "java/util/function/BiFunction"), accessFlags := 25, slot := 2, constantValue := 0 }]
  methods := #[k13m0, k13m1]
  instanceTypes := #[]
  staticTypes := #[(.object "java/util/function/BiFunction"), (.object "java/util/function/BiFunction"), (.object "java/util/function/BiFunction")]
  resolved := Array.replicate 194 none
  statics := some 1 }

def pool14 : Array CpInfo := pool [(1, .class_ 2), (0, u "java/lang/Cloneable"), (0, .class_ 4), (0, u "java/lang/Object")] 2

/-- java/lang/Cloneable -/
def k14 : Class := { plain "java/lang/Cloneable" (some 0) with
  accessFlags := 1537
  interfaces := #[]
  cf := some (fileOf pool14 1 #[] #[] 1537 3 #[] #[])
  fields := #[]
  methods := #[]
  instanceTypes := #[]
  staticTypes := #[]
  resolved := Array.replicate 7 none
  statics := none }

def pool15 : Array CpInfo := pool [(9, u "<init>"), (6, .class_ 18), (1, u "java/lang/Object"), (0, u "()V"), (1, .class_ 23), (1, u "jdk/internal/util/ArraysSupport"), (0, u "LOG2_ARRAY_LONG_INDEX_SCALE"), (0, u "I"), (2, u "U"), (0, u "Ljdk/internal/misc/Unsafe;"), (8, u "BIG_ENDIAN"), (0, u "Z"), (8, u "LOG2_BYTE_BIT_SIZE"), (4, u "LOG2_ARRAY_INT_INDEX_SCALE"), (54, u "JLA"), (0, u "Ljdk/internal/access/JavaLangAccess;"), (11, u "LOG2_ARRAY_BOOLEAN_INDEX_SCALE"), (9, u "LOG2_ARRAY_BYTE_INDEX_SCALE"), (5, u "LOG2_ARRAY_CHAR_INDEX_SCALE"), (5, u "LOG2_ARRAY_SHORT_INDEX_SCALE"), (18, u "LOG2_ARRAY_FLOAT_INDEX_SCALE"), (24, u "LOG2_ARRAY_DOUBLE_INDEX_SCALE"), (89, u "T_BOOLEAN"), (2, u "T_CHAR"), (1, u "T_FLOAT"), (1, u "T_DOUBLE"), (1, u "T_BYTE"), (1, u "T_SHORT"), (1, u "T_INT"), (1, u "T_LONG"), (1, u "SOFT_MAX_ARRAY_LENGTH")] 83

def k15m0 : Method := { name := "<init>", desc := "()V", sig := { parameters := [], returnType := none }, accessFlags := 2, code := none }
/-- jdk/internal/util/ArraysSupport -/
def k15 : Class := { plain "jdk/internal/util/ArraysSupport" (some 0) with
  accessFlags := 33
  interfaces := #[]
  cf := some (fileOf pool15 21 #[] #[{ accessFlags := 2, nameIndex := 9, descriptorIndex := 19, attributes := #[] }] 33 16 #[] #[{ accessFlags := 24, nameIndex := 28, descriptorIndex := 29, attributes := #[] }, { accessFlags := 26, nameIndex := 38, descriptorIndex := 39, attributes := #[] }, { accessFlags := 25, nameIndex := 121, descriptorIndex := 25, attributes := #[] }, { accessFlags := 25, nameIndex := 131, descriptorIndex := 25, attributes := #[] }, { accessFlags := 25, nameIndex := 137, descriptorIndex := 25, attributes := #[] }, { accessFlags := 25, nameIndex := 143, descriptorIndex := 25, attributes := #[] }, { accessFlags := 25, nameIndex := 53, descriptorIndex := 25, attributes := #[] }, { accessFlags := 25, nameIndex := 24, descriptorIndex := 25, attributes := #[] }, { accessFlags := 25, nameIndex := 162, descriptorIndex := 25, attributes := #[] }, { accessFlags := 25, nameIndex := 187, descriptorIndex := 25, attributes := #[] }, { accessFlags := 26, nameIndex := 48, descriptorIndex := 25, attributes := #[] }, { accessFlags := 25, nameIndex := 277, descriptorIndex := 25, attributes := #[] }, { accessFlags := 25, nameIndex := 280, descriptorIndex := 25, attributes := #[] }, { accessFlags := 25, nameIndex := 282, descriptorIndex := 25, attributes := #[] }, { accessFlags := 25, nameIndex := 284, descriptorIndex := 25, attributes := #[] }, { accessFlags := 25, nameIndex := 286, descriptorIndex := 25, attributes := #[] }, { accessFlags := 25, nameIndex := 288, descriptorIndex := 25, attributes := #[] }, { accessFlags := 25, nameIndex := 290, descriptorIndex := 25, attributes := #[] }, { accessFlags := 25, nameIndex := 292, descriptorIndex := 25, attributes := #[] }, { accessFlags := 26, nameIndex := 108, descriptorIndex := 109, attributes := #[] }, { accessFlags := 25, nameIndex := 294, descriptorIndex := 25, attributes := #[] }])
  fields := #[{ name := "U", type := (.object "jdk/internal/misc/Unsafe"), accessFlags := 24, slot := 0, constantValue := 0 }, { name := "BIG_ENDIAN", type := .boolean, accessFlags := 26, slot := 1, constantValue := 0 }, { name := "LOG2_ARRAY_BOOLEAN_INDEX_SCALE", type := .int, accessFlags := 25, slot := 2, constantValue := 0 }, { name := "LOG2_ARRAY_BYTE_INDEX_SCALE", type := .int, accessFlags := 25, slot := 3, constantValue := 0 }, { name := "LOG2_ARRAY_CHAR_INDEX_SCALE", type := .int, accessFlags := 25, slot := 4, constantValue := 0 }, { name := "LOG2_ARRAY_SHORT_INDEX_SCALE", type := .int, accessFlags := 25, slot := 5, constantValue := 0 }, { name := "LOG2_ARRAY_INT_INDEX_SCALE", type := .int, accessFlags := 25, slot := 6, constantValue := 0 }, { name := "LOG2_ARRAY_LONG_INDEX_SCALE", type := .int, accessFlags := 25, slot := 7, constantValue := 0 }, { name := "LOG2_ARRAY_FLOAT_INDEX_SCALE", type := .int, accessFlags := 25, slot := 8, constantValue := 0 }, { name := "LOG2_ARRAY_DOUBLE_INDEX_SCALE", type := .int, accessFlags := 25, slot := 9, constantValue := 0 }, { name := "LOG2_BYTE_BIT_SIZE", type := .int, accessFlags := 26, slot := 10, constantValue := 0 }, { name := "T_BOOLEAN", type := .int, accessFlags := 25, slot := 11, constantValue := 0 }, { name := "T_CHAR", type := .int, accessFlags := 25, slot := 12, constantValue := 0 }, { name := "T_FLOAT", type := .int, accessFlags := 25, slot := 13, constantValue := 0 }, { name := "T_DOUBLE", type := .int, accessFlags := 25, slot := 14, constantValue := 0 }, { name := "T_BYTE", type := .int, accessFlags := 25, slot := 15, constantValue := 0 }, { name := "T_SHORT", type := .int, accessFlags := 25, slot := 16, constantValue := 0 }, { name := "T_INT", type := .int, accessFlags := 25, slot := 17, constantValue := 0 }, { name := "T_LONG", type := .int, accessFlags := 25, slot := 18, constantValue := 0 }, { name := "JLA", type := (.object "jdk/internal/access/JavaLangAccess"), accessFlags := 26, slot := 19, constantValue := 0 }, { name := "SOFT_MAX_ARRAY_LENGTH", type := .int, accessFlags := 25, slot := 20, constantValue := 0 }]
  methods := #[k15m0]
  instanceTypes := #[]
  staticTypes := #[(.object "jdk/internal/misc/Unsafe"), .boolean, .int, .int, .int, .int, .int, .int, .int, .int, .int, .int, .int, .int, .int, .int, .int, .int, .int, (.object "jdk/internal/access/JavaLangAccess"), .int]
  resolved := Array.replicate 378 none
  statics := none }

/-- the primitive byte -/
def k16 : Class := { plain "byte" none with kind := .primitive 'B', accessFlags := 0x411 }
/-- [B -/
def k17 : Class := { plain "[B" (some 0) with kind := .array 16 .byte, interfaces := #[14, 3], accessFlags := 1041 }

/-- the primitive char -/
def k18 : Class := { plain "char" none with kind := .primitive 'C', accessFlags := 0x411 }
/-- [C -/
def k19 : Class := { plain "[C" (some 0) with kind := .array 18 .char, interfaces := #[14, 3], accessFlags := 1041 }

/-- the primitive int -/
def k20 : Class := { plain "int" none with kind := .primitive 'I', accessFlags := 0x411 }
/-- [I -/
def k21 : Class := { plain "[I" (some 0) with kind := .array 20 .int, interfaces := #[14, 3], accessFlags := 1041 }

def heap : Heap := #[{ cls := 8, slots := #[.long 0, .int 1, .null, .int 0, .null, .int 0, .int 0], vm := .statics 8 },
  { cls := 13, slots := #[.null, .null, .null], vm := .statics 13 }]
def classes : Array Class := #[k0, k1, k2, k3, k4, k5, k6, k7, k8, k9, k10, k11, k12, k13, k14, k15, k16, k17, k18, k19, k20, k21]
def interned : List (Array UInt16 × Addr) := []
def slotsUsed : Nat := 10
def theMethod : MethodId := ⟨1, 1⟩
def args0 : Array Value := #[.int 65, .int 3, .int 4, .int 5, .int 6]
def aboutOver (below : List Frame) : State where
  vm := { classes := classes, interned := interned.toArray }
  heap := heap
  slotsUsed := slotsUsed
  threads := #[{ frames := .invoking theMethod args0 :: below }]
def below0 : List Frame := [.native { method := ⟨0, 0⟩, args := #[] }]
def about1 : State := aboutOver below0
def p0 : Program := .bare "" "" ""
def e0 : Env := launch0.env 0 0 0
theorem w_frames : about1.frames = Frame.invoking theMethod args0 :: below0 := rfl
set_option maxRecDepth 65536 in
theorem w_args : argsFit about1.vm theMethod args0 = true := by decide +kernel
set_option maxRecDepth 65536 in
theorem w_heap : heapFits about1 = true := by decide +kernel
set_option maxRecDepth 65536 in
theorem w_runnable : about1.curStatus? = some .runnable := by decide +kernel
set_option maxRecDepth 65536 in
theorem w_alone : about1.alone = true := by decide +kernel
set_option maxRecDepth 65536 in
theorem w_named : about1.methodNamed? x = some theMethod := by decide +kernel
set_option maxRecDepth 65536 in
theorem w_hears : about1.hears theMethod below0 = true := by decide +kernel
set_option maxRecDepth 65536 in
theorem w_ripe : about1.ripe theMethod args0 below0 = true := by decide +kernel
theorem w_running : about1.status = .running := rfl
set_option maxRecDepth 65536 in
theorem w_room : about1.hasRoom e0.platform room_1 = true :=
  launch0.hasRoom_least _ room_1 (by decide +kernel) (by decide +kernel) (by decide +kernel) (by decide +kernel) (by decide +kernel) (by decide +kernel)
theorem allAtoms_all (ts : List Jvm.Cond) (a : Array Jvm.Value) (st : Jvm.State) : (allAtoms ts).before a st = ts.all (fun c => c.before a st) := by
  induction ts with
  | nil => rfl
  | cons c t ih =>
    show (Jvm.Cond.and c (allAtoms t)).before a st = _
    rw [Jvm.Cond.before_and, ih, List.all_cons]
def words1 : List Jvm.Cond := Jvm.Cond.code x code maxLocals ret :: tables_1
/-- a 'code' word, met by the world's own term for the bytes: nothing is compared byte by byte -/
theorem code_word {y : MethodName} {bytes : ByteArray} {mx : Nat} {rt : Option FieldType} {a : Array Value} {s : State} {m : MethodId} {meth : Method} {c : Code} (h1 : s.methodNamed? y = some m) (h2 : s.vm.method? m = some meth) (h3 : meth.code = some c) (h4 : c.code = bytes)
    (h5 : (c.maxLocals == mx && c.exceptionTable.isEmpty && decide (c.maxStack ≤ mostOperands) && decide (meth.sig.returnType = rt) && !meth.locks && decide (parseMethodDescriptor y.desc = some meth.sig)) = true) : (Jvm.Cond.code y bytes mx rt).before a s = true := by
  simp only [Bool.and_eq_true, beq_iff_eq, Bool.not_eq_true', decide_eq_true_eq] at h5
  obtain ⟨⟨⟨⟨⟨g1, g2⟩, g3⟩, g4⟩, g5⟩, g6⟩ := h5
  simp [Cond.before, Cond.holds, Cond.value, h1, h2, h3, h4, g1, g2, g3, g4, g5, g6]
def isCode : Jvm.Cond → Bool
  | .code _ _ _ _ => true
  | _ => false
theorem all_split {L : List Jvm.Cond} {P : Jvm.Cond → Bool} (h1 : L.all (fun c => isCode c || P c) = true) (h2 : ∀ c ∈ L.filter isCode, P c = true) : L.all P = true := by
  refine List.all_eq_true.mpr fun c hc => ?_
  have h := List.all_eq_true.mp h1 c hc
  rcases Bool.eq_false_or_eq_true (isCode c) with hi | hi
  · exact h2 c (List.mem_filter.mpr ⟨hc, hi⟩)
  · simpa [hi] using h
set_option maxRecDepth 65536 in
theorem w_c0 : (Jvm.Cond.code x code maxLocals ret).before args0 about1 = true := code_word (m := ⟨1, 1⟩) (meth := k1m1) (c := k1c1) (by decide +kernel) rfl rfl rfl (by decide +kernel)
set_option maxRecDepth 65536 in
theorem w_c1 : (Jvm.Cond.code ({ cls := "org/ninefold/model/PuzzleText", name := "<init>", desc := "()V" } : Jvm.MethodName) prog_12_method_1_code (1 : Nat) (Option.none : Option Jvm.ClassFile.FieldType)).before args0 about1 = true := code_word (m := ⟨2, 0⟩) (meth := k2m0) (c := k2c0) (by decide +kernel) rfl rfl rfl (by decide +kernel)
set_option maxRecDepth 65536 in
theorem w_c2 : (Jvm.Cond.code ({ cls := "java/lang/Object", name := "<init>", desc := "()V" } : Jvm.MethodName) object_method_1_code (1 : Nat) (Option.none : Option Jvm.ClassFile.FieldType)).before args0 about1 = true := code_word (m := ⟨0, 0⟩) (meth := k0m0) (c := k0c0) (by decide +kernel) rfl rfl rfl (by decide +kernel)
set_option maxRecDepth 65536 in
theorem w_c3 : (Jvm.Cond.code ({ cls := "org/ninefold/model/PuzzleText", name := "length", desc := "()J" } : Jvm.MethodName) prog_12_method_3_code (1 : Nat) (Option.some Jvm.ClassFile.FieldType.long)).before args0 about1 = true := code_word (m := ⟨2, 2⟩) (meth := k2m2) (c := k2c2) (by decide +kernel) rfl rfl rfl (by decide +kernel)
set_option maxRecDepth 65536 in
theorem w_c4 : (Jvm.Cond.code ({ cls := "org/ninefold/model/PuzzleText", name := "append", desc := "(C)Lorg/ninefold/model/PuzzleText;" } : Jvm.MethodName) prog_12_method_2_code (3 : Nat) (Option.some (Jvm.ClassFile.FieldType.object "org/ninefold/model/PuzzleText"))).before args0 about1 = true := code_word (m := ⟨2, 1⟩) (meth := k2m1) (c := k2c1) (by decide +kernel) rfl rfl rfl (by decide +kernel)
set_option maxRecDepth 65536 in
theorem w_c5 : (Jvm.Cond.code ({ cls := "org/ninefold/model/PuzzleText", name := "digitOf", desc := "(C)I" } : Jvm.MethodName) prog_12_method_6_code (1 : Nat) (Option.some Jvm.ClassFile.FieldType.int)).before args0 about1 = true := code_word (m := ⟨2, 4⟩) (meth := k2m4) (c := k2c4) (by decide +kernel) rfl rfl rfl (by decide +kernel)
set_option maxRecDepth 65536 in
theorem w_c6 : (Jvm.Cond.code ({ cls := "org/ninefold/model/PuzzleTextAppendPinLaw", name := "row81", desc := "(C)[C" } : Jvm.MethodName) method_3_code (1 : Nat) (Option.some (Jvm.ClassFile.FieldType.array Jvm.ClassFile.FieldType.char))).before args0 about1 = true := code_word (m := ⟨1, 2⟩) (meth := k1m2) (c := k1c2) (by decide +kernel) rfl rfl rfl (by decide +kernel)
set_option maxRecDepth 65536 in
theorem w_c7 : (Jvm.Cond.code ({ cls := "java/lang/String", name := "<init>", desc := "([C)V" } : Jvm.MethodName) jdk_42_method_3_code (2 : Nat) (Option.none : Option Jvm.ClassFile.FieldType)).before args0 about1 = true := code_word (m := ⟨8, 1⟩) (meth := k8m1) (c := k8c1) (by decide +kernel) rfl rfl rfl (by decide +kernel)
set_option maxRecDepth 65536 in
theorem w_c8 : (Jvm.Cond.code ({ cls := "java/lang/String", name := "<init>", desc := "([CIILjava/lang/Void;)V" } : Jvm.MethodName) jdk_42_method_149_code (6 : Nat) (Option.none : Option Jvm.ClassFile.FieldType)).before args0 about1 = true := code_word (m := ⟨8, 4⟩) (meth := k8m4) (c := k8c4) (by decide +kernel) rfl rfl rfl (by decide +kernel)
set_option maxRecDepth 65536 in
theorem w_c9 : (Jvm.Cond.code ({ cls := "java/lang/StringUTF16", name := "compress", desc := "([CII)[B" } : Jvm.MethodName) jdk_52_method_16_code (6 : Nat) (Option.some (Jvm.ClassFile.FieldType.array Jvm.ClassFile.FieldType.byte))).before args0 about1 = true := code_word (m := ⟨9, 2⟩) (meth := k9m2) (c := k9c2) (by decide +kernel) rfl rfl rfl (by decide +kernel)
set_option maxRecDepth 65536 in
theorem w_c10 : (Jvm.Cond.code ({ cls := "java/lang/StringUTF16", name := "compress", desc := "([CI[BII)I" } : Jvm.MethodName) jdk_52_method_21_code (7 : Nat) (Option.some Jvm.ClassFile.FieldType.int)).before args0 about1 = true := code_word (m := ⟨9, 3⟩) (meth := k9m3) (c := k9c3) (by decide +kernel) rfl rfl rfl (by decide +kernel)
set_option maxRecDepth 65536 in
theorem w_c11 : (Jvm.Cond.code ({ cls := "java/lang/StringUTF16", name := "coderFromArrayLen", desc := "([BI)B" } : Jvm.MethodName) jdk_52_method_15_code (2 : Nat) (Option.some Jvm.ClassFile.FieldType.byte)).before args0 about1 = true := code_word (m := ⟨9, 1⟩) (meth := k9m1) (c := k9c1) (by decide +kernel) rfl rfl rfl (by decide +kernel)
set_option maxRecDepth 65536 in
theorem w_c12 : (Jvm.Cond.code ({ cls := "org/ninefold/model/Grid", name := "parse", desc := "(Ljava/lang/CharSequence;)Lorg/ninefold/model/Grid;" } : Jvm.MethodName) prog_10_method_3_code (3 : Nat) (Option.some (Jvm.ClassFile.FieldType.object "org/ninefold/model/Grid"))).before args0 about1 = true := code_word (m := ⟨10, 1⟩) (meth := k10m1) (c := k10c1) (by decide +kernel) rfl rfl rfl (by decide +kernel)
set_option maxRecDepth 65536 in
theorem w_c13 : (Jvm.Cond.code ({ cls := "java/util/Objects", name := "requireNonNull", desc := "(Ljava/lang/Object;Ljava/lang/String;)Ljava/lang/Object;" } : Jvm.MethodName) jdk_31_method_11_code (2 : Nat) (Option.some (Jvm.ClassFile.FieldType.object "java/lang/Object"))).before args0 about1 = true := code_word (m := ⟨11, 1⟩) (meth := k11m1) (c := k11c1) (by decide +kernel) rfl rfl rfl (by decide +kernel)
set_option maxRecDepth 65536 in
theorem w_c14 : (Jvm.Cond.code ({ cls := "java/lang/String", name := "length", desc := "()I" } : Jvm.MethodName) jdk_42_method_54_code (1 : Nat) (Option.some Jvm.ClassFile.FieldType.int)).before args0 about1 = true := code_word (m := ⟨8, 2⟩) (meth := k8m2) (c := k8c2) (by decide +kernel) rfl rfl rfl (by decide +kernel)
set_option maxRecDepth 65536 in
theorem w_c15 : (Jvm.Cond.code ({ cls := "java/lang/String", name := "coder", desc := "()B" } : Jvm.MethodName) jdk_42_method_152_code (1 : Nat) (Option.some Jvm.ClassFile.FieldType.byte)).before args0 about1 = true := code_word (m := ⟨8, 5⟩) (meth := k8m5) (c := k8c5) (by decide +kernel) rfl rfl rfl (by decide +kernel)
set_option maxRecDepth 65536 in
theorem w_c16 : (Jvm.Cond.code ({ cls := "java/lang/String", name := "charAt", desc := "(I)C" } : Jvm.MethodName) jdk_42_method_56_code (2 : Nat) (Option.some Jvm.ClassFile.FieldType.char)).before args0 about1 = true := code_word (m := ⟨8, 3⟩) (meth := k8m3) (c := k8c3) (by decide +kernel) rfl rfl rfl (by decide +kernel)
set_option maxRecDepth 65536 in
theorem w_c17 : (Jvm.Cond.code ({ cls := "java/lang/String", name := "isLatin1", desc := "()Z" } : Jvm.MethodName) jdk_42_method_154_code (1 : Nat) (Option.some Jvm.ClassFile.FieldType.boolean)).before args0 about1 = true := code_word (m := ⟨8, 6⟩) (meth := k8m6) (c := k8c6) (by decide +kernel) rfl rfl rfl (by decide +kernel)
set_option maxRecDepth 65536 in
theorem w_c18 : (Jvm.Cond.code ({ cls := "java/lang/StringLatin1", name := "charAt", desc := "([BI)C" } : Jvm.MethodName) jdk_43_method_2_code (2 : Nat) (Option.some Jvm.ClassFile.FieldType.char)).before args0 about1 = true := code_word (m := ⟨12, 1⟩) (meth := k12m1) (c := k12c1) (by decide +kernel) rfl rfl rfl (by decide +kernel)
set_option maxRecDepth 65536 in
theorem w_c19 : (Jvm.Cond.code ({ cls := "java/lang/String", name := "checkIndex", desc := "(II)V" } : Jvm.MethodName) jdk_42_method_155_code (2 : Nat) (Option.none : Option Jvm.ClassFile.FieldType)).before args0 about1 = true := code_word (m := ⟨8, 7⟩) (meth := k8m7) (c := k8c7) (by decide +kernel) rfl rfl rfl (by decide +kernel)
set_option maxRecDepth 65536 in
theorem w_c20 : (Jvm.Cond.code ({ cls := "jdk/internal/util/Preconditions", name := "checkIndex", desc := "(IILjava/util/function/BiFunction;)I" } : Jvm.MethodName) jdk_41_method_11_code (3 : Nat) (Option.some Jvm.ClassFile.FieldType.int)).before args0 about1 = true := code_word (m := ⟨13, 1⟩) (meth := k13m1) (c := k13c1) (by decide +kernel) rfl rfl rfl (by decide +kernel)
set_option maxRecDepth 65536 in
theorem w_c21 : (Jvm.Cond.code ({ cls := "org/ninefold/model/PuzzleText", name := "toGrid", desc := "()Lorg/ninefold/model/Grid;" } : Jvm.MethodName) prog_12_method_5_code (1 : Nat) (Option.some (Jvm.ClassFile.FieldType.object "org/ninefold/model/Grid"))).before args0 about1 = true := code_word (m := ⟨2, 3⟩) (meth := k2m3) (c := k2c3) (by decide +kernel) rfl rfl rfl (by decide +kernel)
set_option maxRecDepth 65536 in
theorem w_c22 : (Jvm.Cond.code ({ cls := "org/ninefold/model/Grid", name := "ofGivens", desc := "([B)Lorg/ninefold/model/Grid;" } : Jvm.MethodName) prog_10_method_4_code (7 : Nat) (Option.some (Jvm.ClassFile.FieldType.object "org/ninefold/model/Grid"))).before args0 about1 = true := code_word (m := ⟨10, 2⟩) (meth := k10m2) (c := k10c2) (by decide +kernel) rfl rfl rfl (by decide +kernel)
set_option maxRecDepth 65536 in
theorem w_c23 : (Jvm.Cond.code ({ cls := "org/ninefold/model/Grid", name := "row", desc := "(I)I" } : Jvm.MethodName) prog_10_method_5_code (1 : Nat) (Option.some Jvm.ClassFile.FieldType.int)).before args0 about1 = true := code_word (m := ⟨10, 3⟩) (meth := k10m3) (c := k10c3) (by decide +kernel) rfl rfl rfl (by decide +kernel)
set_option maxRecDepth 65536 in
theorem w_c24 : (Jvm.Cond.code ({ cls := "org/ninefold/model/Grid", name := "column", desc := "(I)I" } : Jvm.MethodName) prog_10_method_6_code (1 : Nat) (Option.some Jvm.ClassFile.FieldType.int)).before args0 about1 = true := code_word (m := ⟨10, 4⟩) (meth := k10m4) (c := k10c4) (by decide +kernel) rfl rfl rfl (by decide +kernel)
set_option maxRecDepth 65536 in
theorem w_c25 : (Jvm.Cond.code ({ cls := "org/ninefold/model/Grid", name := "box", desc := "(I)I" } : Jvm.MethodName) prog_10_method_7_code (1 : Nat) (Option.some Jvm.ClassFile.FieldType.int)).before args0 about1 = true := code_word (m := ⟨10, 5⟩) (meth := k10m5) (c := k10c5) (by decide +kernel) rfl rfl rfl (by decide +kernel)
set_option maxRecDepth 65536 in
theorem w_c26 : (Jvm.Cond.code ({ cls := "org/ninefold/model/Grid", name := "<init>", desc := "([B)V" } : Jvm.MethodName) prog_10_method_1_code (2 : Nat) (Option.none : Option Jvm.ClassFile.FieldType)).before args0 about1 = true := code_word (m := ⟨10, 0⟩) (meth := k10m0) (c := k10c0) (by decide +kernel) rfl rfl rfl (by decide +kernel)
set_option maxRecDepth 65536 in
theorem w_c27 : (Jvm.Cond.code ({ cls := "org/ninefold/model/Grid", name := "digit", desc := "(I)I" } : Jvm.MethodName) prog_10_method_10_code (2 : Nat) (Option.some Jvm.ClassFile.FieldType.int)).before args0 about1 = true := code_word (m := ⟨10, 6⟩) (meth := k10m6) (c := k10c6) (by decide +kernel) rfl rfl rfl (by decide +kernel)
def codes1 : List Jvm.Cond := [Jvm.Cond.code x code maxLocals ret, Jvm.Cond.code ({ cls := "org/ninefold/model/PuzzleText", name := "<init>", desc := "()V" } : Jvm.MethodName) prog_12_method_1_code (1 : Nat) (Option.none : Option Jvm.ClassFile.FieldType), Jvm.Cond.code ({ cls := "java/lang/Object", name := "<init>", desc := "()V" } : Jvm.MethodName) object_method_1_code (1 : Nat) (Option.none : Option Jvm.ClassFile.FieldType), Jvm.Cond.code ({ cls := "org/ninefold/model/PuzzleText", name := "length", desc := "()J" } : Jvm.MethodName) prog_12_method_3_code (1 : Nat) (Option.some Jvm.ClassFile.FieldType.long), Jvm.Cond.code ({ cls := "org/ninefold/model/PuzzleText", name := "append", desc := "(C)Lorg/ninefold/model/PuzzleText;" } : Jvm.MethodName) prog_12_method_2_code (3 : Nat) (Option.some (Jvm.ClassFile.FieldType.object "org/ninefold/model/PuzzleText")), Jvm.Cond.code ({ cls := "org/ninefold/model/PuzzleText", name := "digitOf", desc := "(C)I" } : Jvm.MethodName) prog_12_method_6_code (1 : Nat) (Option.some Jvm.ClassFile.FieldType.int), Jvm.Cond.code ({ cls := "org/ninefold/model/PuzzleTextAppendPinLaw", name := "row81", desc := "(C)[C" } : Jvm.MethodName) method_3_code (1 : Nat) (Option.some (Jvm.ClassFile.FieldType.array Jvm.ClassFile.FieldType.char)), Jvm.Cond.code ({ cls := "java/lang/String", name := "<init>", desc := "([C)V" } : Jvm.MethodName) jdk_42_method_3_code (2 : Nat) (Option.none : Option Jvm.ClassFile.FieldType), Jvm.Cond.code ({ cls := "java/lang/String", name := "<init>", desc := "([CIILjava/lang/Void;)V" } : Jvm.MethodName) jdk_42_method_149_code (6 : Nat) (Option.none : Option Jvm.ClassFile.FieldType), Jvm.Cond.code ({ cls := "java/lang/StringUTF16", name := "compress", desc := "([CII)[B" } : Jvm.MethodName) jdk_52_method_16_code (6 : Nat) (Option.some (Jvm.ClassFile.FieldType.array Jvm.ClassFile.FieldType.byte)), Jvm.Cond.code ({ cls := "java/lang/StringUTF16", name := "compress", desc := "([CI[BII)I" } : Jvm.MethodName) jdk_52_method_21_code (7 : Nat) (Option.some Jvm.ClassFile.FieldType.int), Jvm.Cond.code ({ cls := "java/lang/StringUTF16", name := "coderFromArrayLen", desc := "([BI)B" } : Jvm.MethodName) jdk_52_method_15_code (2 : Nat) (Option.some Jvm.ClassFile.FieldType.byte), Jvm.Cond.code ({ cls := "org/ninefold/model/Grid", name := "parse", desc := "(Ljava/lang/CharSequence;)Lorg/ninefold/model/Grid;" } : Jvm.MethodName) prog_10_method_3_code (3 : Nat) (Option.some (Jvm.ClassFile.FieldType.object "org/ninefold/model/Grid")), Jvm.Cond.code ({ cls := "java/util/Objects", name := "requireNonNull", desc := "(Ljava/lang/Object;Ljava/lang/String;)Ljava/lang/Object;" } : Jvm.MethodName) jdk_31_method_11_code (2 : Nat) (Option.some (Jvm.ClassFile.FieldType.object "java/lang/Object")), Jvm.Cond.code ({ cls := "java/lang/String", name := "length", desc := "()I" } : Jvm.MethodName) jdk_42_method_54_code (1 : Nat) (Option.some Jvm.ClassFile.FieldType.int), Jvm.Cond.code ({ cls := "java/lang/String", name := "coder", desc := "()B" } : Jvm.MethodName) jdk_42_method_152_code (1 : Nat) (Option.some Jvm.ClassFile.FieldType.byte), Jvm.Cond.code ({ cls := "java/lang/String", name := "charAt", desc := "(I)C" } : Jvm.MethodName) jdk_42_method_56_code (2 : Nat) (Option.some Jvm.ClassFile.FieldType.char), Jvm.Cond.code ({ cls := "java/lang/String", name := "isLatin1", desc := "()Z" } : Jvm.MethodName) jdk_42_method_154_code (1 : Nat) (Option.some Jvm.ClassFile.FieldType.boolean), Jvm.Cond.code ({ cls := "java/lang/StringLatin1", name := "charAt", desc := "([BI)C" } : Jvm.MethodName) jdk_43_method_2_code (2 : Nat) (Option.some Jvm.ClassFile.FieldType.char), Jvm.Cond.code ({ cls := "java/lang/String", name := "checkIndex", desc := "(II)V" } : Jvm.MethodName) jdk_42_method_155_code (2 : Nat) (Option.none : Option Jvm.ClassFile.FieldType), Jvm.Cond.code ({ cls := "jdk/internal/util/Preconditions", name := "checkIndex", desc := "(IILjava/util/function/BiFunction;)I" } : Jvm.MethodName) jdk_41_method_11_code (3 : Nat) (Option.some Jvm.ClassFile.FieldType.int), Jvm.Cond.code ({ cls := "org/ninefold/model/PuzzleText", name := "toGrid", desc := "()Lorg/ninefold/model/Grid;" } : Jvm.MethodName) prog_12_method_5_code (1 : Nat) (Option.some (Jvm.ClassFile.FieldType.object "org/ninefold/model/Grid")), Jvm.Cond.code ({ cls := "org/ninefold/model/Grid", name := "ofGivens", desc := "([B)Lorg/ninefold/model/Grid;" } : Jvm.MethodName) prog_10_method_4_code (7 : Nat) (Option.some (Jvm.ClassFile.FieldType.object "org/ninefold/model/Grid")), Jvm.Cond.code ({ cls := "org/ninefold/model/Grid", name := "row", desc := "(I)I" } : Jvm.MethodName) prog_10_method_5_code (1 : Nat) (Option.some Jvm.ClassFile.FieldType.int), Jvm.Cond.code ({ cls := "org/ninefold/model/Grid", name := "column", desc := "(I)I" } : Jvm.MethodName) prog_10_method_6_code (1 : Nat) (Option.some Jvm.ClassFile.FieldType.int), Jvm.Cond.code ({ cls := "org/ninefold/model/Grid", name := "box", desc := "(I)I" } : Jvm.MethodName) prog_10_method_7_code (1 : Nat) (Option.some Jvm.ClassFile.FieldType.int), Jvm.Cond.code ({ cls := "org/ninefold/model/Grid", name := "<init>", desc := "([B)V" } : Jvm.MethodName) prog_10_method_1_code (2 : Nat) (Option.none : Option Jvm.ClassFile.FieldType), Jvm.Cond.code ({ cls := "org/ninefold/model/Grid", name := "digit", desc := "(I)I" } : Jvm.MethodName) prog_10_method_10_code (2 : Nat) (Option.some Jvm.ClassFile.FieldType.int)]
set_option maxRecDepth 65536 in
theorem codes_eq : words1.filter isCode = codes1 := rfl
theorem w_codes : ∀ c ∈ words1.filter isCode, c.before args0 about1 = true := by
  rw [codes_eq]
  intro c hc
  simp only [codes1, List.mem_cons, List.not_mem_nil, or_false] at hc
  rcases hc with rfl | rfl | rfl | rfl | rfl | rfl | rfl | rfl | rfl | rfl | rfl | rfl | rfl | rfl | rfl | rfl | rfl | rfl | rfl | rfl | rfl | rfl | rfl | rfl | rfl | rfl | rfl | rfl
  · exact w_c0
  · exact w_c1
  · exact w_c2
  · exact w_c3
  · exact w_c4
  · exact w_c5
  · exact w_c6
  · exact w_c7
  · exact w_c8
  · exact w_c9
  · exact w_c10
  · exact w_c11
  · exact w_c12
  · exact w_c13
  · exact w_c14
  · exact w_c15
  · exact w_c16
  · exact w_c17
  · exact w_c18
  · exact w_c19
  · exact w_c20
  · exact w_c21
  · exact w_c22
  · exact w_c23
  · exact w_c24
  · exact w_c25
  · exact w_c26
  · exact w_c27
set_option maxRecDepth 65536 in
theorem w_t1 : (words1.take 24).all (fun c => isCode c || c.before args0 about1) = true := by decide +kernel
set_option maxRecDepth 65536 in
theorem w_t2 : ((words1.drop 24).take 24).all (fun c => isCode c || c.before args0 about1) = true := by decide +kernel
set_option maxRecDepth 65536 in
theorem w_t3 : (((words1.drop 24).drop 24).take 24).all (fun c => isCode c || c.before args0 about1) = true := by decide +kernel
set_option maxRecDepth 65536 in
theorem w_t4 : ((((words1.drop 24).drop 24).drop 24).take 24).all (fun c => isCode c || c.before args0 about1) = true := by decide +kernel
set_option maxRecDepth 65536 in
theorem w_t5 : (((((words1.drop 24).drop 24).drop 24).drop 24).take 24).all (fun c => isCode c || c.before args0 about1) = true := by decide +kernel
set_option maxRecDepth 65536 in
theorem w_t6 : ((((((words1.drop 24).drop 24).drop 24).drop 24).drop 24).take 24).all (fun c => isCode c || c.before args0 about1) = true := by decide +kernel
set_option maxRecDepth 65536 in
theorem w_t7 : ((((((words1.drop 24).drop 24).drop 24).drop 24).drop 24).drop 24).all (fun c => isCode c || c.before args0 about1) = true := by decide +kernel
theorem w_tables : (allAtoms (Jvm.Cond.code x code maxLocals ret :: tables_1)).before args0 about1 = true := by
  rw [allAtoms_all]
  show words1.all (fun c => c.before args0 about1) = true
  refine all_split ?_ w_codes
  rw [← List.take_append_drop 24 words1, List.all_append, w_t1, ← List.take_append_drop 24 (words1.drop 24), List.all_append, w_t2, ← List.take_append_drop 24 ((words1.drop 24).drop 24), List.all_append, w_t3, ← List.take_append_drop 24 (((words1.drop 24).drop 24).drop 24), List.all_append, w_t4, ← List.take_append_drop 24 ((((words1.drop 24).drop 24).drop 24).drop 24), List.all_append, w_t5, ← List.take_append_drop 24 (((((words1.drop 24).drop 24).drop 24).drop 24).drop 24), List.all_append, w_t6, w_t7]
  rfl
set_option maxRecDepth 65536 in
theorem w_rest : rest_1_c.before args0 about1 = true := by decide +kernel
set_option maxRecDepth 65536 in
theorem w_case : (Jvm.Cond.and given_1 narrow_1).before args0 about1 = true := by decide +kernel
theorem w_applies : (headSpec (Jvm.Cond.code x code maxLocals ret :: tables_1) room_1).applies x e0.platform about1 = true :=
  (Spec.applies_iff w_frames).mpr ⟨w_running, w_runnable, w_alone, w_named, w_hears, w_ripe, w_room, w_tables⟩
theorem atStart : AtStart classFile x code maxLocals ret World_1 tables_1 room_1 Calls_1 rest_1 Pre_1 launch0 p0 e0 about1 theMethod args0 below0 :=
  ⟨lists_1, trivial, launch0.admits_env _ _ _, launch0.least_env, fairChoices_fair.cas, fairChoices_fair.clock, w_frames, w_args, w_heap, w_applies, trivial, w_rest, w_case⟩
end start1
theorem witness_1 : WitnessClaimed_1 := ⟨start1.p0, start1.e0, start1.about1, start1.theMethod, start1.args0, start1.below0, start1.atStart⟩
end Jvm.Pilot.@@N@@
